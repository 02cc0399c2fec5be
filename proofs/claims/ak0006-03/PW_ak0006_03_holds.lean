import PyProof.Rows.All
import Wide.All
import KE.KNestM
import KE.KDflt
import KE.KBits
import KE.KDictList
import KE.KRevIter
import OpenK.KMore
import KE.KUnpack
import Wide.FinOn
import PySem.Challenge.RW_ak0006_03
open PySem PySem.W PySem.Calls PyProof.Rows PySem.Spec
set_option maxRecDepth 1000000
set_option maxHeartbeats 0
set_option Elab.async false
set_option linter.all false
set_option tactic.hygienic false
set_option backward.match.sparseCases false
set_option genSizeOf false
set_option genCtorIdx false
set_option genInjectivity false
noncomputable section
namespace Mine
theorem oJ {α:Type} {a b:α} (h:some a=some b):a=b:=Option.some.inj h
theorem eN {n m:Nat} (h:Nat.beq n m=true):n=m:=Nat.eq_of_beq_eq_true h
theorem lB {n m:Nat} (h:Nat.ble n m=true):n≤m:=Nat.le_of_ble_eq_true h
theorem fT:false≠true:=Bool.false_ne_true
section
theorem xE {α0:Type} {p1:α0→Prop} {G:Prop} (h:∃ a0,p1 a0) (k:∀ a0,p1 a0→G):G:=h.elim fun a0 h0=>k a0 h0
theorem xA {p0:Prop} {p1:Prop} {G:Prop} (h:p0∧p1) (k:p0→p1→G):G:=k h.1 h.2
theorem Tu {α1 α4:Type} {p0:Prop} {p2:α1→Prop} {p3:α1→Prop} {p5:α1→α4→Prop} {p6:α1→α4→Prop} {G:Prop} (h:p0∧∃ a1,p2 a1∧p3 a1∧∃ a4,p5 a1 a4∧p6 a1 a4) (k:p0→∀ a1,p2 a1→p3 a1→∀ a4,p5 a1 a4→p6 a1 a4→G):G:=h.2.elim fun a1 h1=>h1.2.2.elim fun a4 h4=>k h.1 a1 h1.1 h1.2.1 a4 h4.1 h4.2
theorem Rz {α1 α2 α5:Type} {p0:Prop} {p3:α1→α2→Prop} {p4:α1→α2→Prop} {p6:α1→α2→α5→Prop} {p7:α1→α2→α5→Prop} {G:Prop} (h:p0∧∃ a1,∃ a2,p3 a1 a2∧p4 a1 a2∧∃ a5,p6 a1 a2 a5∧p7 a1 a2 a5) (k:p0→∀ a1,∀ a2,p3 a1 a2→p4 a1 a2→∀ a5,p6 a1 a2 a5→p7 a1 a2 a5→G):G:=h.2.elim fun a1 h1=>h1.elim fun a2 h2=>h2.2.2.elim fun a5 h5=>k h.1 a1 a2 h2.1 h2.2.1 a5 h5.1 h5.2
theorem Qc {α1:Type} {p0:Prop} {p2:α1→Prop} {p3:α1→Prop} {p4:α1→Prop} {G:Prop} (h:p0∧∃ a1,p2 a1∧p3 a1∧p4 a1) (k:p0→∀ a1,p2 a1→p3 a1→p4 a1→G):G:=h.2.elim fun a1 h1=>k h.1 a1 h1.1 h1.2.1 h1.2.2
theorem Ms {α1 α2:Type} {p0:Prop} {p3:α1→α2→Prop} {p4:α1→α2→Prop} {p5:α1→α2→Prop} {G:Prop} (h:p0∧∃ a1,∃ a2,p3 a1 a2∧p4 a1 a2∧p5 a1 a2) (k:p0→∀ a1,∀ a2,p3 a1 a2→p4 a1 a2→p5 a1 a2→G):G:=h.2.elim fun a1 h1=>h1.elim fun a2 h2=>k h.1 a1 a2 h2.1 h2.2.1 h2.2.2
theorem LA {α0 α1 α2 α6:Type} {p3:α0→α1→α2→Prop} {p4:α0→α1→α2→Prop} {p5:α0→α1→α2→Prop} {p7:α0→α1→α2→α6→Prop} {p8:α0→α1→α2→α6→Prop} {p9:α0→α1→α2→α6→Prop} {G:Prop} (h:∃ a0,∃ a1,∃ a2,p3 a0 a1 a2∧p4 a0 a1 a2∧p5 a0 a1 a2∧∃ a6,p7 a0 a1 a2 a6∧p8 a0 a1 a2 a6∧p9 a0 a1 a2 a6) (k:∀ a0,∀ a1,∀ a2,p3 a0 a1 a2→p4 a0 a1 a2→p5 a0 a1 a2→∀ a6,p7 a0 a1 a2 a6→p8 a0 a1 a2 a6→p9 a0 a1 a2 a6→G):G:=h.elim fun a0 h0=>h0.elim fun a1 h1=>h1.elim fun a2 h2=>h2.2.2.2.elim fun a6 h6=>k a0 a1 a2 h2.1 h2.2.1 h2.2.2.1 a6 h6.1 h6.2.1 h6.2.2
theorem Tg {α0 α1 α4:Type} {p2:α0→α1→Prop} {p3:α0→α1→Prop} {p5:α0→α1→α4→Prop} {p6:α0→α1→α4→Prop} {G:Prop} (h:∃ a0,∃ a1,p2 a0 a1∧p3 a0 a1∧∃ a4,p5 a0 a1 a4∧p6 a0 a1 a4) (k:∀ a0,∀ a1,p2 a0 a1→p3 a0 a1→∀ a4,p5 a0 a1 a4→p6 a0 a1 a4→G):G:=h.elim fun a0 h0=>h0.elim fun a1 h1=>h1.2.2.elim fun a4 h4=>k a0 a1 h1.1 h1.2.1 a4 h4.1 h4.2
theorem NB {α0 α3:Type} {p1 p2:α0→Prop} {p4:α0→α3→Prop} {G:Prop} (h:∃ a0,p1 a0∧p2 a0∧∃ a3,p4 a0 a3) (k:∀ a0,p1 a0→p2 a0→∀ a3,p4 a0 a3→G):G:=h.elim fun a0 h0=>h0.2.2.elim fun a3 h3=>k a0 h0.1 h0.2.1 a3 h3
theorem Au {α0 α1:Type} {p2:α0→α1→Prop} {p3:α0→α1→Prop} {p4:α0→α1→Prop} {G:Prop} (h:∃ a0,∃ a1,p2 a0 a1∧p3 a0 a1∧p4 a0 a1) (k:∀ a0,∀ a1,p2 a0 a1→p3 a0 a1→p4 a0 a1→G):G:=h.elim fun a0 h0=>h0.elim fun a1 h1=>k a0 a1 h1.1 h1.2.1 h1.2.2
theorem xEA {α0:Type} {p1:α0→Prop} {p2:α0→Prop} {G:Prop} (h:∃ a0,p1 a0∧p2 a0) (k:∀ a0,p1 a0→p2 a0→G):G:=h.elim fun a0 h0=>k a0 h0.1 h0.2
theorem BC {α0:Type} {p1:α0→Prop} {p2:α0→Prop} {p3:α0→Prop} {G:Prop} (h:∃ a0,p1 a0∧p2 a0∧p3 a0) (k:∀ a0,p1 a0→p2 a0→p3 a0→G):G:=h.elim fun a0 h0=>k a0 h0.1 h0.2.1 h0.2.2
theorem xAA {p0:Prop} {p1:Prop} {p2:Prop} {G:Prop} (h:p0∧p1∧p2) (k:p0→p1→p2→G):G:=k h.1 h.2.1 h.2.2
theorem Be {α0 α1 α2:Type} {p3:α0→α1→α2→Prop} {p4:α0→α1→α2→Prop} {p5:α0→α1→α2→Prop} {G:Prop} (h:∃ a0,∃ a1,∃ a2,p3 a0 a1 a2∧p4 a0 a1 a2∧p5 a0 a1 a2) (k:∀ a0,∀ a1,∀ a2,p3 a0 a1 a2→p4 a0 a1 a2→p5 a0 a1 a2→G):G:=h.elim fun a0 h0=>h0.elim fun a1 h1=>h1.elim fun a2 h2=>k a0 a1 a2 h2.1 h2.2.1 h2.2.2
theorem AW {α0 α1 α2:Type} {p3:α0→α1→α2→Prop} {p4:α0→α1→α2→Prop} {p5:α0→α1→α2→Prop} {p6:α0→α1→α2→Prop} {G:Prop} (h:∃ a0,∃ a1,∃ a2,p3 a0 a1 a2∧p4 a0 a1 a2∧p5 a0 a1 a2∧p6 a0 a1 a2) (k:∀ a0,∀ a1,∀ a2,p3 a0 a1 a2→p4 a0 a1 a2→p5 a0 a1 a2→p6 a0 a1 a2→G):G:=h.elim fun a0 h0=>h0.elim fun a1 h1=>h1.elim fun a2 h2=>k a0 a1 a2 h2.1 h2.2.1 h2.2.2.1 h2.2.2.2
theorem BX {α0 α1 α2 α3:Type} {p4:α0→α1→α2→α3→Prop} {p5:α0→α1→α2→α3→Prop} {p6:α0→α1→α2→α3→Prop} {p7:α0→α1→α2→α3→Prop} {p8:α0→α1→α2→α3→Prop} {G:Prop} (h:∃ a0,∃ a1,∃ a2,∃ a3,p4 a0 a1 a2 a3∧p5 a0 a1 a2 a3∧p6 a0 a1 a2 a3∧p7 a0 a1 a2 a3∧p8 a0 a1 a2 a3) (k:∀ a0,∀ a1,∀ a2,∀ a3,p4 a0 a1 a2 a3→p5 a0 a1 a2 a3→p6 a0 a1 a2 a3→p7 a0 a1 a2 a3→p8 a0 a1 a2 a3→G):G:=h.elim fun a0 h0=>h0.elim fun a1 h1=>h1.elim fun a2 h2=>h2.elim fun a3 h3=>k a0 a1 a2 a3 h3.1 h3.2.1 h3.2.2.1 h3.2.2.2.1 h3.2.2.2.2
theorem D1 {α0 α1 α2:Type} {p3:α0→α1→α2→Prop} {p4:α0→α1→α2→Prop} {G:Prop} (h:∃ a0,∃ a1,∃ a2,p3 a0 a1 a2∧p4 a0 a1 a2) (k:∀ a0,∀ a1,∀ a2,p3 a0 a1 a2→p4 a0 a1 a2→G):G:=h.elim fun a0 h0=>h0.elim fun a1 h1=>h1.elim fun a2 h2=>k a0 a1 a2 h2.1 h2.2
theorem O2 {α0 α1:Type} {p2:α0→α1→Prop} {p3:α0→α1→Prop} {p4:α0→α1→Prop} {p5:α0→α1→Prop} {G:Prop} (h:∃ a0,∃ a1,p2 a0 a1∧p3 a0 a1∧p4 a0 a1∧p5 a0 a1) (k:∀ a0,∀ a1,p2 a0 a1→p3 a0 a1→p4 a0 a1→p5 a0 a1→G):G:=h.elim fun a0 h0=>h0.elim fun a1 h1=>k a0 a1 h1.1 h1.2.1 h1.2.2.1 h1.2.2.2
theorem CO {α0 α1 α2 α3:Type} {p4:α0→α1→α2→α3→Prop} {p5:α0→α1→α2→α3→Prop} {p6:α0→α1→α2→α3→Prop} {p7:α0→α1→α2→α3→Prop} {G:Prop} (h:∃ a0,∃ a1,∃ a2,∃ a3,p4 a0 a1 a2 a3∧p5 a0 a1 a2 a3∧p6 a0 a1 a2 a3∧p7 a0 a1 a2 a3) (k:∀ a0,∀ a1,∀ a2,∀ a3,p4 a0 a1 a2 a3→p5 a0 a1 a2 a3→p6 a0 a1 a2 a3→p7 a0 a1 a2 a3→G):G:=h.elim fun a0 h0=>h0.elim fun a1 h1=>h1.elim fun a2 h2=>h2.elim fun a3 h3=>k a0 a1 a2 a3 h3.1 h3.2.1 h3.2.2.1 h3.2.2.2
theorem xEE {α0 α1:Type} {p2:α0→α1→Prop} {G:Prop} (h:∃ a0,∃ a1,p2 a0 a1) (k:∀ a0,∀ a1,p2 a0 a1→G):G:=h.elim fun a0 h0=>h0.elim fun a1 h1=>k a0 a1 h1
theorem GV {α1:Type} {p0:Prop} {p2:α1→Prop} {p3:α1→Prop} {G:Prop} (h:p0∧∃ a1,p2 a1∧p3 a1) (k:p0→∀ a1,p2 a1→p3 a1→G):G:=h.2.elim fun a1 h1=>k h.1 a1 h1.1 h1.2
theorem Fs {α0 α1 α2 α3:Type} {p4:α0→α1→α2→α3→Prop} {p5:α0→α1→α2→α3→Prop} {G:Prop} (h:∃ a0,∃ a1,∃ a2,∃ a3,p4 a0 a1 a2 a3∧p5 a0 a1 a2 a3) (k:∀ a0,∀ a1,∀ a2,∀ a3,p4 a0 a1 a2 a3→p5 a0 a1 a2 a3→G):G:=h.elim fun a0 h0=>h0.elim fun a1 h1=>h1.elim fun a2 h2=>h2.elim fun a3 h3=>k a0 a1 a2 a3 h3.1 h3.2
theorem Ib {α0 α1:Type} {p2:α0→α1→Prop} {p3:α0→α1→Prop} {G:Prop} (h:∃ a0,∃ a1,p2 a0 a1∧p3 a0 a1) (k:∀ a0,∀ a1,p2 a0 a1→p3 a0 a1→G):G:=h.elim fun a0 h0=>h0.elim fun a1 h1=>k a0 a1 h1.1 h1.2
theorem FP {α0 α1 α2:Type} {p3:α0→α1→α2→Prop} {p4:α0→α1→α2→Prop} {p5:α0→α1→α2→Prop} {p6:α0→α1→α2→Prop} {p7:α0→α1→α2→Prop} {G:Prop} (h:∃ a0,∃ a1,∃ a2,p3 a0 a1 a2∧p4 a0 a1 a2∧p5 a0 a1 a2∧p6 a0 a1 a2∧p7 a0 a1 a2) (k:∀ a0,∀ a1,∀ a2,p3 a0 a1 a2→p4 a0 a1 a2→p5 a0 a1 a2→p6 a0 a1 a2→p7 a0 a1 a2→G):G:=h.elim fun a0 h0=>h0.elim fun a1 h1=>h1.elim fun a2 h2=>k a0 a1 a2 h2.1 h2.2.1 h2.2.2.1 h2.2.2.2.1 h2.2.2.2.2
theorem BH {α0 α1 α2 α3:Type} {p4:α0→α1→α2→α3→Prop} {p5:α0→α1→α2→α3→Prop} {p6:α0→α1→α2→α3→Prop} {p7:α0→α1→α2→α3→Prop} {p8:α0→α1→α2→α3→Prop} {p9:α0→α1→α2→α3→Prop} {p10:α0→α1→α2→α3→Prop} {p11:α0→α1→α2→α3→Prop} {G:Prop} (h:∃ a0,∃ a1,∃ a2,∃ a3,p4 a0 a1 a2 a3∧p5 a0 a1 a2 a3∧p6 a0 a1 a2 a3∧p7 a0 a1 a2 a3∧p8 a0 a1 a2 a3∧p9 a0 a1 a2 a3∧p10 a0 a1 a2 a3∧p11 a0 a1 a2 a3) (k:∀ a0,∀ a1,∀ a2,∀ a3,p4 a0 a1 a2 a3→p5 a0 a1 a2 a3→p6 a0 a1 a2 a3→p7 a0 a1 a2 a3→p8 a0 a1 a2 a3→p9 a0 a1 a2 a3→p10 a0 a1 a2 a3→p11 a0 a1 a2 a3→G):G:=h.elim fun a0 h0=>h0.elim fun a1 h1=>h1.elim fun a2 h2=>h2.elim fun a3 h3=>k a0 a1 a2 a3 h3.1 h3.2.1 h3.2.2.1 h3.2.2.2.1 h3.2.2.2.2.1 h3.2.2.2.2.2.1 h3.2.2.2.2.2.2.1 h3.2.2.2.2.2.2.2
theorem Hf {α0 α1 α2 α3:Type} {p4:α0→α1→α2→α3→Prop} {p5:α0→α1→α2→α3→Prop} {p6:α0→α1→α2→α3→Prop} {G:Prop} (h:∃ a0,∃ a1,∃ a2,∃ a3,p4 a0 a1 a2 a3∧p5 a0 a1 a2 a3∧p6 a0 a1 a2 a3) (k:∀ a0,∀ a1,∀ a2,∀ a3,p4 a0 a1 a2 a3→p5 a0 a1 a2 a3→p6 a0 a1 a2 a3→G):G:=h.elim fun a0 h0=>h0.elim fun a1 h1=>h1.elim fun a2 h2=>h2.elim fun a3 h3=>k a0 a1 a2 a3 h3.1 h3.2.1 h3.2.2
theorem ER {α0 α1 α2 α3 α4 α5:Type} {p6:α0→α1→α2→α3→α4→α5→Prop} {p7:α0→α1→α2→α3→α4→α5→Prop} {p8:α0→α1→α2→α3→α4→α5→Prop} {p9:α0→α1→α2→α3→α4→α5→Prop} {p10:α0→α1→α2→α3→α4→α5→Prop} {p11:α0→α1→α2→α3→α4→α5→Prop} {p12:α0→α1→α2→α3→α4→α5→Prop} {G:Prop} (h:∃ a0,∃ a1,∃ a2,∃ a3,∃ a4,∃ a5,p6 a0 a1 a2 a3 a4 a5∧p7 a0 a1 a2 a3 a4 a5∧p8 a0 a1 a2 a3 a4 a5∧p9 a0 a1 a2 a3 a4 a5∧p10 a0 a1 a2 a3 a4 a5∧p11 a0 a1 a2 a3 a4 a5∧p12 a0 a1 a2 a3 a4 a5) (k:∀ a0,∀ a1,∀ a2,∀ a3,∀ a4,∀ a5,p6 a0 a1 a2 a3 a4 a5→p7 a0 a1 a2 a3 a4 a5→p8 a0 a1 a2 a3 a4 a5→p9 a0 a1 a2 a3 a4 a5→p10 a0 a1 a2 a3 a4 a5→p11 a0 a1 a2 a3 a4 a5→p12 a0 a1 a2 a3 a4 a5→G):G:=h.elim fun a0 h0=>h0.elim fun a1 h1=>h1.elim fun a2 h2=>h2.elim fun a3 h3=>h3.elim fun a4 h4=>h4.elim fun a5 h5=>k a0 a1 a2 a3 a4 a5 h5.1 h5.2.1 h5.2.2.1 h5.2.2.2.1 h5.2.2.2.2.1 h5.2.2.2.2.2.1 h5.2.2.2.2.2.2
theorem G6 {α0 α1:Type} {p2:α0→α1→Prop} {p3:α0→α1→Prop} {p4:α0→α1→Prop} {p5:α0→α1→Prop} {p6:α0→α1→Prop} {G:Prop} (h:∃ a0,∃ a1,p2 a0 a1∧p3 a0 a1∧p4 a0 a1∧p5 a0 a1∧p6 a0 a1) (k:∀ a0,∀ a1,p2 a0 a1→p3 a0 a1→p4 a0 a1→p5 a0 a1→p6 a0 a1→G):G:=h.elim fun a0 h0=>h0.elim fun a1 h1=>k a0 a1 h1.1 h1.2.1 h1.2.2.1 h1.2.2.2.1 h1.2.2.2.2
theorem GL {α0 α1 α2 α3 α4 α5:Type} {p6:α0→α1→α2→α3→α4→α5→Prop} {p7:α0→α1→α2→α3→α4→α5→Prop} {p8:α0→α1→α2→α3→α4→α5→Prop} {p9:α0→α1→α2→α3→α4→α5→Prop} {p10:α0→α1→α2→α3→α4→α5→Prop} {G:Prop} (h:∃ a0,∃ a1,∃ a2,∃ a3,∃ a4,∃ a5,p6 a0 a1 a2 a3 a4 a5∧p7 a0 a1 a2 a3 a4 a5∧p8 a0 a1 a2 a3 a4 a5∧p9 a0 a1 a2 a3 a4 a5∧p10 a0 a1 a2 a3 a4 a5) (k:∀ a0,∀ a1,∀ a2,∀ a3,∀ a4,∀ a5,p6 a0 a1 a2 a3 a4 a5→p7 a0 a1 a2 a3 a4 a5→p8 a0 a1 a2 a3 a4 a5→p9 a0 a1 a2 a3 a4 a5→p10 a0 a1 a2 a3 a4 a5→G):G:=h.elim fun a0 h0=>h0.elim fun a1 h1=>h1.elim fun a2 h2=>h2.elim fun a3 h3=>h3.elim fun a4 h4=>h4.elim fun a5 h5=>k a0 a1 a2 a3 a4 a5 h5.1 h5.2.1 h5.2.2.1 h5.2.2.2.1 h5.2.2.2.2
theorem Hn {α0 α1 α2 α3:Type} {p4:α0→α1→α2→α3→Prop} {p5:α0→α1→α2→α3→Prop} {p6:α0→α1→α2→α3→Prop} {p7:α0→α1→α2→α3→Prop} {p8:α0→α1→α2→α3→Prop} {p9:α0→α1→α2→α3→Prop} {G:Prop} (h:∃ a0,∃ a1,∃ a2,∃ a3,p4 a0 a1 a2 a3∧p5 a0 a1 a2 a3∧p6 a0 a1 a2 a3∧p7 a0 a1 a2 a3∧p8 a0 a1 a2 a3∧p9 a0 a1 a2 a3) (k:∀ a0,∀ a1,∀ a2,∀ a3,p4 a0 a1 a2 a3→p5 a0 a1 a2 a3→p6 a0 a1 a2 a3→p7 a0 a1 a2 a3→p8 a0 a1 a2 a3→p9 a0 a1 a2 a3→G):G:=h.elim fun a0 h0=>h0.elim fun a1 h1=>h1.elim fun a2 h2=>h2.elim fun a3 h3=>k a0 a1 a2 a3 h3.1 h3.2.1 h3.2.2.1 h3.2.2.2.1 h3.2.2.2.2.1 h3.2.2.2.2.2
theorem Jw {α0 α1 α2 α3 α4:Type} {p5:α0→α1→α2→α3→α4→Prop} {p6:α0→α1→α2→α3→α4→Prop} {G:Prop} (h:∃ a0,∃ a1,∃ a2,∃ a3,∃ a4,p5 a0 a1 a2 a3 a4∧p6 a0 a1 a2 a3 a4) (k:∀ a0,∀ a1,∀ a2,∀ a3,∀ a4,p5 a0 a1 a2 a3 a4→p6 a0 a1 a2 a3 a4→G):G:=h.elim fun a0 h0=>h0.elim fun a1 h1=>h1.elim fun a2 h2=>h2.elim fun a3 h3=>h3.elim fun a4 h4=>k a0 a1 a2 a3 a4 h4.1 h4.2
theorem Fu {α0 α1 α5:Type} {p2:α0→α1→Prop} {p3:α0→α1→Prop} {p4:α0→α1→Prop} {p6:α0→α1→α5→Prop} {p7:α0→α1→α5→Prop} {p8:α0→α1→α5→Prop} {p9:α0→α1→α5→Prop} {G:Prop} (h:∃ a0,∃ a1,p2 a0 a1∧p3 a0 a1∧p4 a0 a1∧∃ a5,p6 a0 a1 a5∧p7 a0 a1 a5∧p8 a0 a1 a5∧p9 a0 a1 a5) (k:∀ a0,∀ a1,p2 a0 a1→p3 a0 a1→p4 a0 a1→∀ a5,p6 a0 a1 a5→p7 a0 a1 a5→p8 a0 a1 a5→p9 a0 a1 a5→G):G:=h.elim fun a0 h0=>h0.elim fun a1 h1=>h1.2.2.2.elim fun a5 h5=>k a0 a1 h1.1 h1.2.1 h1.2.2.1 a5 h5.1 h5.2.1 h5.2.2.1 h5.2.2.2
theorem GP {α0 α1 α2:Type} {p3:α0→α1→α2→Prop} {p4:α0→α1→α2→Prop} {p5:α0→α1→α2→Prop} {p6:α0→α1→α2→Prop} {p7:α0→α1→α2→Prop} {p8:α0→α1→α2→Prop} {p9:α0→α1→α2→Prop} {p10:α0→α1→α2→Prop} {G:Prop} (h:∃ a0,∃ a1,∃ a2,p3 a0 a1 a2∧p4 a0 a1 a2∧p5 a0 a1 a2∧p6 a0 a1 a2∧p7 a0 a1 a2∧p8 a0 a1 a2∧p9 a0 a1 a2∧p10 a0 a1 a2) (k:∀ a0,∀ a1,∀ a2,p3 a0 a1 a2→p4 a0 a1 a2→p5 a0 a1 a2→p6 a0 a1 a2→p7 a0 a1 a2→p8 a0 a1 a2→p9 a0 a1 a2→p10 a0 a1 a2→G):G:=h.elim fun a0 h0=>h0.elim fun a1 h1=>h1.elim fun a2 h2=>k a0 a1 a2 h2.1 h2.2.1 h2.2.2.1 h2.2.2.2.1 h2.2.2.2.2.1 h2.2.2.2.2.2.1 h2.2.2.2.2.2.2.1 h2.2.2.2.2.2.2.2
theorem JP {p0:Prop} {p1:Prop} {p2:Prop} {p3:Prop} {G:Prop} (h:p0∧p1∧p2∧p3) (k:p0→p1→p2→p3→G):G:=k h.1 h.2.1 h.2.2.1 h.2.2.2
theorem Dh {α0:Type} {p1:α0→Prop} {p2:α0→Prop} {p3:α0→Prop} {p4:α0→Prop} {G:Prop} (h:∃ a0,p1 a0∧p2 a0∧p3 a0∧p4 a0) (k:∀ a0,p1 a0→p2 a0→p3 a0→p4 a0→G):G:=h.elim fun a0 h0=>k a0 h0.1 h0.2.1 h0.2.2.1 h0.2.2.2
theorem Mu {p0:Prop} {p1:Prop} {p2:Prop} {p3:Prop} {p4:Prop} {p5:Prop} {G:Prop} (h:p0∧p1∧p2∧p3∧p4∧p5) (k:p0→p1→p2→p3→p4→p5→G):G:=k h.1 h.2.1 h.2.2.1 h.2.2.2.1 h.2.2.2.2.1 h.2.2.2.2.2
theorem iEA {α0:Type} {p1:α0→Prop} {p2:α0→Prop} (a0:α0) (h1:p1 a0) (h2:p2 a0):∃ a0,p1 a0∧p2 a0:=⟨a0,h1,h2⟩
theorem Ff {α0 α1:Type} {p2:α0→α1→Prop} {p3:α0→α1→Prop} (a0:α0) (a1:α1) (h2:p2 a0 a1) (h3:p3 a0 a1):∃ a0,∃ a1,p2 a0 a1∧p3 a0 a1:=⟨a0,a1,h2,h3⟩
theorem iAA {p0:Prop} {p1:Prop} {p2:Prop} (h0:p0) (h1:p1) (h2:p2):p0∧p1∧p2:=⟨h0,h1,h2⟩
theorem Bj {α0:Type} {p1:α0→Prop} {p2:α0→Prop} {p3:α0→Prop} (a0:α0) (h1:p1 a0) (h2:p2 a0) (h3:p3 a0):∃ a0,p1 a0∧p2 a0∧p3 a0:=⟨a0,h1,h2,h3⟩
theorem Jg {α1:Type} {p0:Prop} {p2:α1→Prop} {p3:α1→Prop} {p4:α1→Prop} (h0:p0) (a1:α1) (h2:p2 a1) (h3:p3 a1) (h4:p4 a1):p0∧∃ a1,p2 a1∧p3 a1∧p4 a1:=⟨h0,a1,h2,h3,h4⟩
theorem An {α0 α1 α2 α3:Type} {p4:α0→α1→α2→α3→Prop} {p5:α0→α1→α2→α3→Prop} {p6:α0→α1→α2→α3→Prop} {p7:α0→α1→α2→α3→Prop} {p8:α0→α1→α2→α3→Prop} (a0:α0) (a1:α1) (a2:α2) (a3:α3) (h4:p4 a0 a1 a2 a3) (h5:p5 a0 a1 a2 a3) (h6:p6 a0 a1 a2 a3) (h7:p7 a0 a1 a2 a3) (h8:p8 a0 a1 a2 a3):∃ a0,∃ a1,∃ a2,∃ a3,p4 a0 a1 a2 a3∧p5 a0 a1 a2 a3∧p6 a0 a1 a2 a3∧p7 a0 a1 a2 a3∧p8 a0 a1 a2 a3:=⟨a0,a1,a2,a3,h4,h5,h6,h7,h8⟩
theorem N4 {α1:Type} {p0:Prop} {p2:α1→Prop} {p3:α1→Prop} (h0:p0) (a1:α1) (h2:p2 a1) (h3:p3 a1):p0∧∃ a1,p2 a1∧p3 a1:=⟨h0,a1,h2,h3⟩
theorem Al {α0 α1:Type} {p2:α0→α1→Prop} {p3:α0→α1→Prop} {p4:α0→α1→Prop} (a0:α0) (a1:α1) (h2:p2 a0 a1) (h3:p3 a0 a1) (h4:p4 a0 a1):∃ a0,∃ a1,p2 a0 a1∧p3 a0 a1∧p4 a0 a1:=⟨a0,a1,h2,h3,h4⟩
theorem Ab {α0 α1 α2:Type} {p3:α0→α1→α2→Prop} {p4:α0→α1→α2→Prop} {p5:α0→α1→α2→Prop} {p6:α0→α1→α2→Prop} (a0:α0) (a1:α1) (a2:α2) (h3:p3 a0 a1 a2) (h4:p4 a0 a1 a2) (h5:p5 a0 a1 a2) (h6:p6 a0 a1 a2):∃ a0,∃ a1,∃ a2,p3 a0 a1 a2∧p4 a0 a1 a2∧p5 a0 a1 a2∧p6 a0 a1 a2:=⟨a0,a1,a2,h3,h4,h5,h6⟩
theorem DM {α0 α1 α2:Type} {p3:α0→α1→α2→Prop} {p4:α0→α1→α2→Prop} {p5:α0→α1→α2→Prop} (a0:α0) (a1:α1) (a2:α2) (h3:p3 a0 a1 a2) (h4:p4 a0 a1 a2) (h5:p5 a0 a1 a2):∃ a0,∃ a1,∃ a2,p3 a0 a1 a2∧p4 a0 a1 a2∧p5 a0 a1 a2:=⟨a0,a1,a2,h3,h4,h5⟩
theorem Fn {α0 α1:Type} {p2:α0→α1→Prop} {p3:α0→α1→Prop} {p4:α0→α1→Prop} {p5:α0→α1→Prop} (a0:α0) (a1:α1) (h2:p2 a0 a1) (h3:p3 a0 a1) (h4:p4 a0 a1) (h5:p5 a0 a1):∃ a0,∃ a1,p2 a0 a1∧p3 a0 a1∧p4 a0 a1∧p5 a0 a1:=⟨a0,a1,h2,h3,h4,h5⟩
theorem SJ {α0 α1 α2:Type} {p3:α0→α1→α2→Prop} (a0:α0) (a1:α1) (a2:α2) (h3:p3 a0 a1 a2):∃ a0,∃ a1,∃ a2,p3 a0 a1 a2:=⟨a0,a1,a2,h3⟩
theorem Ez {α0 α1 α2 α3:Type} {p4:α0→α1→α2→α3→Prop} {p5:α0→α1→α2→α3→Prop} {p6:α0→α1→α2→α3→Prop} {p7:α0→α1→α2→α3→Prop} (a0:α0) (a1:α1) (a2:α2) (a3:α3) (h4:p4 a0 a1 a2 a3) (h5:p5 a0 a1 a2 a3) (h6:p6 a0 a1 a2 a3) (h7:p7 a0 a1 a2 a3):∃ a0,∃ a1,∃ a2,∃ a3,p4 a0 a1 a2 a3∧p5 a0 a1 a2 a3∧p6 a0 a1 a2 a3∧p7 a0 a1 a2 a3:=⟨a0,a1,a2,a3,h4,h5,h6,h7⟩
theorem El {α0 α1 α2:Type} {p3:α0→α1→α2→Prop} {p4:α0→α1→α2→Prop} (a0:α0) (a1:α1) (a2:α2) (h3:p3 a0 a1 a2) (h4:p4 a0 a1 a2):∃ a0,∃ a1,∃ a2,p3 a0 a1 a2∧p4 a0 a1 a2:=⟨a0,a1,a2,h3,h4⟩
theorem Hm {α0 α1 α2 α3 α4:Type} {p5:α0→α1→α2→α3→α4→Prop} {p6:α0→α1→α2→α3→α4→Prop} {p7:α0→α1→α2→α3→α4→Prop} {p8:α0→α1→α2→α3→α4→Prop} {p9:α0→α1→α2→α3→α4→Prop} (a0:α0) (a1:α1) (a2:α2) (a3:α3) (a4:α4) (h5:p5 a0 a1 a2 a3 a4) (h6:p6 a0 a1 a2 a3 a4) (h7:p7 a0 a1 a2 a3 a4) (h8:p8 a0 a1 a2 a3 a4) (h9:p9 a0 a1 a2 a3 a4):∃ a0,∃ a1,∃ a2,∃ a3,∃ a4,p5 a0 a1 a2 a3 a4∧p6 a0 a1 a2 a3 a4∧p7 a0 a1 a2 a3 a4∧p8 a0 a1 a2 a3 a4∧p9 a0 a1 a2 a3 a4:=⟨a0,a1,a2,a3,a4,h5,h6,h7,h8,h9⟩
theorem FS {α0 α1 α2 α3:Type} {p4:α0→α1→α2→α3→Prop} {p5:α0→α1→α2→α3→Prop} {p6:α0→α1→α2→α3→Prop} (a0:α0) (a1:α1) (a2:α2) (a3:α3) (h4:p4 a0 a1 a2 a3) (h5:p5 a0 a1 a2 a3) (h6:p6 a0 a1 a2 a3):∃ a0,∃ a1,∃ a2,∃ a3,p4 a0 a1 a2 a3∧p5 a0 a1 a2 a3∧p6 a0 a1 a2 a3:=⟨a0,a1,a2,a3,h4,h5,h6⟩
theorem HH {α1 α2 α3 α4:Type} {p0:Prop} {p5:α1→α2→α3→α4→Prop} {p6:α1→α2→α3→α4→Prop} {p7:α1→α2→α3→α4→Prop} {p8:α1→α2→α3→α4→Prop} {p9:α1→α2→α3→α4→Prop} (h0:p0) (a1:α1) (a2:α2) (a3:α3) (a4:α4) (h5:p5 a1 a2 a3 a4) (h6:p6 a1 a2 a3 a4) (h7:p7 a1 a2 a3 a4) (h8:p8 a1 a2 a3 a4) (h9:p9 a1 a2 a3 a4):p0∧∃ a1,∃ a2,∃ a3,∃ a4,p5 a1 a2 a3 a4∧p6 a1 a2 a3 a4∧p7 a1 a2 a3 a4∧p8 a1 a2 a3 a4∧p9 a1 a2 a3 a4:=⟨h0,a1,a2,a3,a4,h5,h6,h7,h8,h9⟩
theorem EB {α0 α1:Type} {p2:α0→α1→Prop} {p3:α0→α1→Prop} {p4:α0→α1→Prop} {p5:α0→α1→Prop} {p6:α0→α1→Prop} (a0:α0) (a1:α1) (h2:p2 a0 a1) (h3:p3 a0 a1) (h4:p4 a0 a1) (h5:p5 a0 a1) (h6:p6 a0 a1):∃ a0,∃ a1,p2 a0 a1∧p3 a0 a1∧p4 a0 a1∧p5 a0 a1∧p6 a0 a1:=⟨a0,a1,h2,h3,h4,h5,h6⟩
theorem DU {p0:Prop} {p1:Prop} {p2:Prop} {p3:Prop} {p4:Prop} (h0:p0) (h1:p1) (h2:p2) (h3:p3) (h4:p4):p0∧p1∧p2∧p3∧p4:=⟨h0,h1,h2,h3,h4⟩
theorem Ft {α0 α1 α2 α3:Type} {p4:α0→α1→α2→α3→Prop} {p5:α0→α1→α2→α3→Prop} (a0:α0) (a1:α1) (a2:α2) (a3:α3) (h4:p4 a0 a1 a2 a3) (h5:p5 a0 a1 a2 a3):∃ a0,∃ a1,∃ a2,∃ a3,p4 a0 a1 a2 a3∧p5 a0 a1 a2 a3:=⟨a0,a1,a2,a3,h4,h5⟩
theorem Ii {p0:Prop} {p1:Prop} {p2:Prop} {p3:Prop} {p4:Prop} {p5:Prop} {p6:Prop} {p7:Prop} (h0:p0) (h1:p1) (h2:p2) (h3:p3) (h4:p4) (h5:p5) (h6:p6) (h7:p7):p0∧p1∧p2∧p3∧p4∧p5∧p6∧p7:=⟨h0,h1,h2,h3,h4,h5,h6,h7⟩
theorem Dj {α0 α3:Type} {p1:α0→Prop} {p2:α0→Prop} {p4:α0→α3→Prop} (a0:α0) (h1:p1 a0) (h2:p2 a0) (a3:α3) (h4:p4 a0 a3):∃ a0,p1 a0∧p2 a0∧∃ a3,p4 a0 a3:=⟨a0,h1,h2,a3,h4⟩
theorem Ek {α0 α1 α2:Type} {p3:α0→α1→α2→Prop} {p4:α0→α1→α2→Prop} {p5:α0→α1→α2→Prop} {p6:α0→α1→α2→Prop} {p7:α0→α1→α2→Prop} (a0:α0) (a1:α1) (a2:α2) (h3:p3 a0 a1 a2) (h4:p4 a0 a1 a2) (h5:p5 a0 a1 a2) (h6:p6 a0 a1 a2) (h7:p7 a0 a1 a2):∃ a0,∃ a1,∃ a2,p3 a0 a1 a2∧p4 a0 a1 a2∧p5 a0 a1 a2∧p6 a0 a1 a2∧p7 a0 a1 a2:=⟨a0,a1,a2,h3,h4,h5,h6,h7⟩
theorem L6 {p0:Prop} {p1:Prop} {p2:Prop} {p3:Prop} (h0:p0) (h1:p1) (h2:p2) (h3:p3):p0∧p1∧p2∧p3:=⟨h0,h1,h2,h3⟩
theorem Ol {α0 α1 α2 α3 α4:Type} {p5:α0→α1→α2→α3→α4→Prop} {p6:α0→α1→α2→α3→α4→Prop} {p7:α0→α1→α2→α3→α4→Prop} {p8:α0→α1→α2→α3→α4→Prop} (a0:α0) (a1:α1) (a2:α2) (a3:α3) (a4:α4) (h5:p5 a0 a1 a2 a3 a4) (h6:p6 a0 a1 a2 a3 a4) (h7:p7 a0 a1 a2 a3 a4) (h8:p8 a0 a1 a2 a3 a4):∃ a0,∃ a1,∃ a2,∃ a3,∃ a4,p5 a0 a1 a2 a3 a4∧p6 a0 a1 a2 a3 a4∧p7 a0 a1 a2 a3 a4∧p8 a0 a1 a2 a3 a4:=⟨a0,a1,a2,a3,a4,h5,h6,h7,h8⟩
theorem iEE {α0 α1:Type} {p2:α0→α1→Prop} (a0:α0) (a1:α1) (h2:p2 a0 a1):∃ a0,∃ a1,p2 a0 a1:=⟨a0,a1,h2⟩
theorem iAE {α1:Type} {p0:Prop} {p2:α1→Prop} (h0:p0) (a1:α1) (h2:p2 a1):p0∧∃ a1,p2 a1:=⟨h0,a1,h2⟩
theorem Rp {α0 α2:Type} {p1:α0→Prop} {p3:α0→α2→Prop} {p4:α0→α2→Prop} {p5:α0→α2→Prop} (a0:α0) (h1:p1 a0) (a2:α2) (h3:p3 a0 a2) (h4:p4 a0 a2) (h5:p5 a0 a2):∃ a0,p1 a0∧∃ a2,p3 a0 a2∧p4 a0 a2∧p5 a0 a2:=⟨a0,h1,a2,h3,h4,h5⟩
theorem D2 {α0 α3 α4 α5 α10:Type} {p1:α0→Prop} {p2:α0→Prop} {p6:α0→α3→α4→α5→Prop} {p7:α0→α3→α4→α5→Prop} {p8:α0→α3→α4→α5→Prop} {p9:α0→α3→α4→α5→Prop} {p11:α0→α3→α4→α5→α10→Prop} {p12:α0→α3→α4→α5→α10→Prop} {p13:α0→α3→α4→α5→α10→Prop} {p14:α0→α3→α4→α5→α10→Prop} (a0:α0) (h1:p1 a0) (h2:p2 a0) (a3:α3) (a4:α4) (a5:α5) (h6:p6 a0 a3 a4 a5) (h7:p7 a0 a3 a4 a5) (h8:p8 a0 a3 a4 a5) (h9:p9 a0 a3 a4 a5) (a10:α10) (h11:p11 a0 a3 a4 a5 a10) (h12:p12 a0 a3 a4 a5 a10) (h13:p13 a0 a3 a4 a5 a10) (h14:p14 a0 a3 a4 a5 a10):∃ a0,p1 a0∧p2 a0∧∃ a3,∃ a4,∃ a5,p6 a0 a3 a4 a5∧p7 a0 a3 a4 a5∧p8 a0 a3 a4 a5∧p9 a0 a3 a4 a5∧∃ a10,p11 a0 a3 a4 a5 a10∧p12 a0 a3 a4 a5 a10∧p13 a0 a3 a4 a5 a10∧p14 a0 a3 a4 a5 a10:=⟨a0,h1,h2,a3,a4,a5,h6,h7,h8,h9,a10,h11,h12,h13,h14⟩
theorem Fv {α0 α1 α2 α7:Type} {p3:α0→α1→α2→Prop} {p4:α0→α1→α2→Prop} {p5:α0→α1→α2→Prop} {p6:α0→α1→α2→Prop} {p8:α0→α1→α2→α7→Prop} {p9:α0→α1→α2→α7→Prop} {p10:α0→α1→α2→α7→Prop} {p11:α0→α1→α2→α7→Prop} (a0:α0) (a1:α1) (a2:α2) (h3:p3 a0 a1 a2) (h4:p4 a0 a1 a2) (h5:p5 a0 a1 a2) (h6:p6 a0 a1 a2) (a7:α7) (h8:p8 a0 a1 a2 a7) (h9:p9 a0 a1 a2 a7) (h10:p10 a0 a1 a2 a7) (h11:p11 a0 a1 a2 a7):∃ a0,∃ a1,∃ a2,p3 a0 a1 a2∧p4 a0 a1 a2∧p5 a0 a1 a2∧p6 a0 a1 a2∧∃ a7,p8 a0 a1 a2 a7∧p9 a0 a1 a2 a7∧p10 a0 a1 a2 a7∧p11 a0 a1 a2 a7:=⟨a0,a1,a2,h3,h4,h5,h6,a7,h8,h9,h10,h11⟩
theorem K7 {α1 α2 α3:Type} {p0:Prop} {p4:α1→α2→α3→Prop} {p5:α1→α2→α3→Prop} {p6:α1→α2→α3→Prop} {p7:α1→α2→α3→Prop} (h0:p0) (a1:α1) (a2:α2) (a3:α3) (h4:p4 a1 a2 a3) (h5:p5 a1 a2 a3) (h6:p6 a1 a2 a3) (h7:p7 a1 a2 a3):p0∧∃ a1,∃ a2,∃ a3,p4 a1 a2 a3∧p5 a1 a2 a3∧p6 a1 a2 a3∧p7 a1 a2 a3:=⟨h0,a1,a2,a3,h4,h5,h6,h7⟩
theorem QD {α0:Type} {p1:α0→Prop} {p2:α0→Prop} {p3:α0→Prop} {p4:α0→Prop} (a0:α0) (h1:p1 a0) (h2:p2 a0) (h3:p3 a0) (h4:p4 a0):∃ a0,p1 a0∧p2 a0∧p3 a0∧p4 a0:=⟨a0,h1,h2,h3,h4⟩
theorem HX {α1 α2:Type} {p0:Prop} {p3:α1→α2→Prop} {p4:α1→α2→Prop} {p5:α1→α2→Prop} (h0:p0) (a1:α1) (a2:α2) (h3:p3 a1 a2) (h4:p4 a1 a2) (h5:p5 a1 a2):p0∧∃ a1,∃ a2,p3 a1 a2∧p4 a1 a2∧p5 a1 a2:=⟨h0,a1,a2,h3,h4,h5⟩
theorem EU {α0 α1 α2 α3 α4 α5:Type} {p6:α0→α1→α2→α3→α4→α5→Prop} {p7:α0→α1→α2→α3→α4→α5→Prop} {p8:α0→α1→α2→α3→α4→α5→Prop} {p9:α0→α1→α2→α3→α4→α5→Prop} {p10:α0→α1→α2→α3→α4→α5→Prop} {p11:α0→α1→α2→α3→α4→α5→Prop} {p12:α0→α1→α2→α3→α4→α5→Prop} (a0:α0) (a1:α1) (a2:α2) (a3:α3) (a4:α4) (a5:α5) (h6:p6 a0 a1 a2 a3 a4 a5) (h7:p7 a0 a1 a2 a3 a4 a5) (h8:p8 a0 a1 a2 a3 a4 a5) (h9:p9 a0 a1 a2 a3 a4 a5) (h10:p10 a0 a1 a2 a3 a4 a5) (h11:p11 a0 a1 a2 a3 a4 a5) (h12:p12 a0 a1 a2 a3 a4 a5):∃ a0,∃ a1,∃ a2,∃ a3,∃ a4,∃ a5,p6 a0 a1 a2 a3 a4 a5∧p7 a0 a1 a2 a3 a4 a5∧p8 a0 a1 a2 a3 a4 a5∧p9 a0 a1 a2 a3 a4 a5∧p10 a0 a1 a2 a3 a4 a5∧p11 a0 a1 a2 a3 a4 a5∧p12 a0 a1 a2 a3 a4 a5:=⟨a0,a1,a2,a3,a4,a5,h6,h7,h8,h9,h10,h11,h12⟩
theorem Jb {α0 α2 α3 α4:Type} {p1:α0→Prop} {p5:α0→α2→α3→α4→Prop} {p6:α0→α2→α3→α4→Prop} {p7:α0→α2→α3→α4→Prop} {p8:α0→α2→α3→α4→Prop} (a0:α0) (h1:p1 a0) (a2:α2) (a3:α3) (a4:α4) (h5:p5 a0 a2 a3 a4) (h6:p6 a0 a2 a3 a4) (h7:p7 a0 a2 a3 a4) (h8:p8 a0 a2 a3 a4):∃ a0,p1 a0∧∃ a2,∃ a3,∃ a4,p5 a0 a2 a3 a4∧p6 a0 a2 a3 a4∧p7 a0 a2 a3 a4∧p8 a0 a2 a3 a4:=⟨a0,h1,a2,a3,a4,h5,h6,h7,h8⟩
theorem Pg {α0:Type} {p1:α0→Prop} {p2:α0→Prop} {p3:α0→Prop} {p4:α0→Prop} {p5:α0→Prop} (a0:α0) (h1:p1 a0) (h2:p2 a0) (h3:p3 a0) (h4:p4 a0) (h5:p5 a0):∃ a0,p1 a0∧p2 a0∧p3 a0∧p4 a0∧p5 a0:=⟨a0,h1,h2,h3,h4,h5⟩
theorem GF {α0 α1 α2:Type} {p3:α0→α1→α2→Prop} {p4:α0→α1→α2→Prop} {p5:α0→α1→α2→Prop} {p6:α0→α1→α2→Prop} {p7:α0→α1→α2→Prop} {p8:α0→α1→α2→Prop} {p9:α0→α1→α2→Prop} {p10:α0→α1→α2→Prop} (a0:α0) (a1:α1) (a2:α2) (h3:p3 a0 a1 a2) (h4:p4 a0 a1 a2) (h5:p5 a0 a1 a2) (h6:p6 a0 a1 a2) (h7:p7 a0 a1 a2) (h8:p8 a0 a1 a2) (h9:p9 a0 a1 a2) (h10:p10 a0 a1 a2):∃ a0,∃ a1,∃ a2,p3 a0 a1 a2∧p4 a0 a1 a2∧p5 a0 a1 a2∧p6 a0 a1 a2∧p7 a0 a1 a2∧p8 a0 a1 a2∧p9 a0 a1 a2∧p10 a0 a1 a2:=⟨a0,a1,a2,h3,h4,h5,h6,h7,h8,h9,h10⟩
theorem Cu {α0 α1 α2 α3:Type} {p4:α0→α1→α2→α3→Prop} {p5:α0→α1→α2→α3→Prop} {p6:α0→α1→α2→α3→Prop} {p7:α0→α1→α2→α3→Prop} {p8:α0→α1→α2→α3→Prop} {p9:α0→α1→α2→α3→Prop} {p10:α0→α1→α2→α3→Prop} {p11:α0→α1→α2→α3→Prop} (a0:α0) (a1:α1) (a2:α2) (a3:α3) (h4:p4 a0 a1 a2 a3) (h5:p5 a0 a1 a2 a3) (h6:p6 a0 a1 a2 a3) (h7:p7 a0 a1 a2 a3) (h8:p8 a0 a1 a2 a3) (h9:p9 a0 a1 a2 a3) (h10:p10 a0 a1 a2 a3) (h11:p11 a0 a1 a2 a3):∃ a0,∃ a1,∃ a2,∃ a3,p4 a0 a1 a2 a3∧p5 a0 a1 a2 a3∧p6 a0 a1 a2 a3∧p7 a0 a1 a2 a3∧p8 a0 a1 a2 a3∧p9 a0 a1 a2 a3∧p10 a0 a1 a2 a3∧p11 a0 a1 a2 a3:=⟨a0,a1,a2,a3,h4,h5,h6,h7,h8,h9,h10,h11⟩
theorem Ad {a b:Bool} {G:Prop} (h:(a&&b)=true) (k:a=true→b=true→G):G:=k (Bool.and_eq_true_iff.mp h).1 (Bool.and_eq_true_iff.mp h).2
theorem Am {α β:Type} {f:α→Option β} {b:β} {G:Prop}:∀ {x:Option α},x.bind f=some b→(∀ a,x=some a→f a=some b→G)→G
  | some a,h,k=>k a rfl h
theorem C0 {α β:Type} {f:α→β} {b:β} {G:Prop}:∀ {x:Option α},x.map f=some b→(∀ a,x=some a→f a=b→G)→G
  | some a,h,k=>k a rfl (oJ h)
theorem nS {n:Nat} {motive:∀ k,k<n+1→Prop} (a:∀ k h,motive k (Nat.lt_succ_of_lt h)) (b:motive n (Nat.lt_succ_self n)) (k:Nat) (h:k<n+1):motive k h :=
  (Nat.lt_succ_iff_lt_or_eq.mp h).elim (fun q=>a k q) fun q=>by subst q;exact b
theorem n2 {motive:∀ k,k<2→Prop} (a:motive 0 (by decide)) (b:motive 1 (by decide)):∀ k h,motive k h:=nS (nS (fun _ h=>(Nat.not_lt_zero _ h).elim) a) b
theorem n3 {motive:∀ k,k<3→Prop} (a:motive 0 (by decide)) (b:motive 1 (by decide)) (d:motive 2 (by decide)):∀ k h,motive k h:=nS (n2 a b) d
theorem n4 {motive:∀ k,k<4→Prop} (a:motive 0 (by decide)) (b:motive 1 (by decide)) (d:motive 2 (by decide)) (e:motive 3 (by decide)):∀ k h,motive k h:=nS (n3 a b d) e
theorem n8 {motive:∀ k,k<8→Prop} (a:motive 0 (by decide)) (b:motive 1 (by decide)) (d:motive 2 (by decide)) (e:motive 3 (by decide)) (p:motive 4 (by decide)) (q:motive 5 (by decide)) (r:motive 6 (by decide)) (s:motive 7 (by decide)):∀ k h,motive k h:=nS (nS (nS (nS (n4 a b d e) p) q) r) s
theorem bs {α β:Type} {x:Option α} {f:α→Option β} {a:α} {r:Option β} (e:x=some a) (k:f a=r):x.bind f=r:=by rw[e];exact k
theorem bl {a b:Nat} (h:Nat.ble a b=true):a≤b:=lB h
theorem au {a c m k:Nat} (h:c≤k):a+c+m≤a+(m+k):=by rw[Nat.add_assoc,Nat.add_comm c];exact Nat.add_le_add_left (Nat.add_le_add_left h m) a
theorem tn:∀ {i:Int} {n:Nat},0<n→i<n→i.toNat<n
  | .ofNat _,_,_,h=>Int.ofNat_lt.mp h
  | .negSucc _,_,p,_=>p
theorem nb:∀ {b:Nat},1 - b≠b
  | 0=>by decide
  | 1=>by decide
  | n+2=>fun e=>Nat.not_succ_le_zero n (Nat.le_of_succ_le_succ (Nat.le_trans (Nat.le_of_eq e.symm) (Nat.sub_le 1 (n+2))))
theorem n3b {b k:Nat} (h:k<3):3+b≠k:=Nat.ne_of_gt (Nat.lt_of_lt_of_le h (Nat.le_add_right 3 b))
theorem q1 {a:Nat} {b:Nat} {d:Nat} (h0:a+3*(b+1)+3<d):a+1+3*b+3<d:=Nat.lt_of_le_of_lt (Nat.add_le_add_right (au (m:=3*b) (k:=3) (bl rfl)) 3) h0
theorem q2 {a:Nat} {b:Nat} {d:Nat} (h0:a+40*(b+1)+40<d):a+1+40*b+40<d:=Nat.lt_of_le_of_lt (Nat.add_le_add_right (au (m:=40*b) (k:=40) (bl rfl)) 40) h0
theorem q3 {a:Nat} {b:Nat} (h0:a<900) (h1:b≤a+1):b≤16777216+1:=Nat.le_trans h1 (Nat.add_le_add_right (Nat.le_trans (Nat.le_of_lt h0) (bl rfl)) 1)
theorem q4 {a:Nat} {b:Nat} (h0:a+b<28):a+b+0<30:=Nat.lt_of_lt_of_le h0 (lB rfl)
theorem q6 {a:Nat} (h0:a≤2^20):a≤16777216:=Nat.le_trans h0 (bl rfl)
theorem q7 {i:Int} (h0:i<2^40):i<2^63:=Int.lt_of_lt_of_le h0 (by decide)
theorem q8 {i:Int} (h0:-2^40<i):-2^63≤i:=Int.le_trans (by decide) (Int.le_of_lt h0)
theorem q9 {i:Int} (h0:0≤i):-2^63≤i:=Int.le_trans (by decide) h0
theorem q10 {a:Nat} (h0:a<60):a+1≤64:=Nat.lt_of_lt_of_le h0 (lB rfl)
theorem q11 {a:Nat} (h0:a<60):¬a / 30+1 > 300:=Nat.not_lt.mpr (Nat.le_trans (Nat.succ_le_succ (Nat.div_le_self a 30)) (Nat.le_trans h0 (bl rfl)))
theorem q12 {i:Int} (h0:i≤2^20):64*i≤2^27:=Int.le_trans (Int.mul_le_mul_of_nonneg_left h0 (by decide)) (by decide)
theorem q13 {a:Nat} {b:Nat} (h0:a+b≤2^20):a+b≤16777216:=by lia
theorem q15 {a:Nat} {b:Nat} (h0:a<b):0<(↑b:Int) - (↑a:Int):=Int.sub_pos_of_lt (Int.ofNat_lt.mpr h0)
theorem q17 {a:Nat} {b:Nat}:(↑a:Int) - (↑b:Int) - 1=(↑a:Int) - (↑(b+1):Int):=Int.sub_sub _ _ _
theorem q18 {a:Nat} {b:Nat} (h0:a≤b) (h1:b - a=0):a=b:=Nat.le_antisymm h0 (Nat.le_of_sub_eq_zero h1)
theorem q19 {a:Nat} {b:Nat} {d:Nat} (h0:a=b - d) (h1:d<b):b - (d+1)<a:=h0▸Nat.sub_lt_sub_left h1 (Nat.lt_succ_self d)
theorem q20 {a:Nat} (h0:a≤2^21):a≤16777216:=Nat.le_trans h0 (bl rfl)
theorem q21 {a:Nat} {b:Nat} {d:Nat} (h0:a≤2^20) (h1:b+(d+1)≤a):b≤2^21:=Nat.le_trans (Nat.le_trans (Nat.le_trans (Nat.le_add_right _ _) h1) h0) (bl rfl)
theorem q22 {a:Nat} {b:Nat} {d:Nat} (h0:a+(b+1)≤d):a+1+b≤d:=Nat.le_trans (Nat.le_of_eq (Nat.succ_add a b)) h0
theorem q23 {a:Nat} {b:Nat} {d:Nat} {e:Nat} (h0:a≤b) (h1:d+3*b+3<e):d+3*a+3<e:=Nat.lt_of_le_of_lt (Nat.add_le_add_right (Nat.add_le_add_left (Nat.mul_le_mul_left 3 h0) d) 3) h1
theorem q24 {a:Nat} {b:Nat} {d:Nat} {e:Nat} (h0:a≤b) (h1:d+40*b+40<e):d+40*a+40<e:=Nat.lt_of_le_of_lt (Nat.add_le_add_right (Nat.add_le_add_left (Nat.mul_le_mul_left 40 h0) d) 40) h1
theorem q25 {i:Int} (h0:0≤i):-2^62≤i:=Int.le_trans (by decide) h0
theorem q32 {a:Nat} (h0:a<60):a<1920:=Nat.lt_of_lt_of_le h0 (lB rfl)
theorem q33 {a:Nat} (h0:a≤2^20):(↑a:Int)<2^63:=Int.lt_of_le_of_lt (Int.ofNat_le.mpr h0) (by decide)
theorem q34 {a:Nat} (h0:a≤2^20):a≤2^21:=Nat.le_trans h0 (bl rfl)
theorem q35 {a:Nat} (h0:a≤2^20):a≤16777215:=Nat.le_trans h0 (bl rfl)
theorem q36 {a:Nat} (h0:a≤2^20):a+1≤16777216:=Nat.le_trans (Nat.succ_le_succ h0) (bl rfl)
theorem q37 {a:Nat} {b:Nat} (h0:a+b≤2^20):a≤16777216:=Nat.le_trans (Nat.le_trans (Nat.le_add_right _ _) h0) (bl rfl)
theorem q38 {a:Nat} {b:Nat} (h0:a+b≤2^20):a+b≤16777216+1:=Nat.le_trans h0 (bl rfl)
theorem q39 {a:Nat} {b:Nat} {d:Nat} (h0:a<b) (h1:b=d):d - 1 - a<d:=Nat.lt_of_le_of_lt (Nat.sub_le _ _) (Nat.sub_lt (h1▸Nat.zero_lt_of_lt h0) Nat.one_pos)
theorem q42 {a:Nat} {b:Nat} (h0:a - b=0) (h1:b≤a):b=a:=Nat.le_antisymm h1 (Nat.le_of_sub_eq_zero h0)
theorem q43 {a:Nat} {b:Nat} {d:Nat} {e:Nat} {f:Nat} {g:Nat} {m:Nat} {n:Nat} (h0:a=b) (h1:d+b+1<e) (h2:a - f=g+1) (h3:m≤d+n) (h4:n≤f):m+1<e:=by subst h0;exact Nat.lt_of_le_of_lt (Nat.lt_of_le_of_lt h3 (Nat.add_lt_add_left (Nat.lt_of_le_of_lt h4 (Nat.lt_of_sub_eq_succ h2)) d)) (Nat.lt_of_succ_lt h1)
theorem q44 {a:Nat} {b:Nat} {d:Nat} (h0:a - b=d+1):a - (b+1)=d:=(Nat.sub_add_eq a b 1).trans (congrArg (· - 1) h0)
theorem q46 {a:Nat} (h0:a<4000):a+1<4096:=Nat.lt_of_le_of_lt h0 (lB rfl)
theorem q48 {a:Nat} {b:Nat} {d:Nat} {e:Nat} (h0:a=b) (h1:d=e) (h2:¬a > d):b≤e:=by subst h0 h1;exact Nat.not_lt.mp h2
theorem q49 {a:Nat} {b:Nat} {d:Nat} (h0:a+40*b+40<d):a<d:=Nat.lt_of_le_of_lt (Nat.le_trans (Nat.le_add_right a (40*b)) (Nat.le_add_right _ 40)) h0
theorem q50 {a:Nat} {b:Nat} {d:Nat} (h0:a≤2^20) (h1:b+(d+1)≤a):b≤2^20:=Nat.le_trans (Nat.le_trans (Nat.le_add_right _ _) h1) h0
theorem q51 {a:Nat} {b:Nat} {d:Nat} {e:Nat} (h0:a+(b+1)≤d) (h1:e≤a+1):e+b≤d:=Nat.le_trans (Nat.le_trans (Nat.add_le_add_right h1 b) (Nat.le_of_eq (Nat.succ_add a b))) h0
theorem q52 {a:Nat} (h0:a<2^40):¬(↑a:Int)≥2^63:=Int.not_le.mpr (Int.lt_trans (Int.ofNat_lt.mpr h0) (by decide))
theorem q53 {a:Nat} (h0:a<2^40):(↑a:Int)<2^63:=Int.lt_trans (Int.ofNat_lt.mpr h0) (by decide)
theorem q55 {a:Nat} {b:Nat} {d:Nat} (h0:a+40*(b+1)+40<d):a+3+40*b+40<d:=Nat.lt_of_le_of_lt (Nat.add_le_add_right (au (m:=40*b) (k:=40) (bl rfl)) 40) h0
theorem q56 {a:Nat} {b:Nat} {d:Nat} (h0:a+3*(b+1)+3<d):a<d:=Nat.lt_of_le_of_lt (Nat.le_trans (Nat.le_add_right a (3*(b+1))) (Nat.le_add_right _ 3)) h0
theorem q57 {a:Nat} {b:Nat} (h0:a=b) (h1:a<b):False:=Nat.ne_of_lt h1 h0
theorem q58 {a:Nat} {b:Nat} (h0:48+a≤48+b) (h1:48+b≤48+a):a=b:=Nat.add_left_cancel (Nat.le_antisymm h0 h1)
theorem q59 {a:Nat} (h0:a<12):a - 9<3:=Nat.lt_of_le_of_lt (Nat.sub_le_sub_right (Nat.le_of_lt_succ h0) 9) (bl rfl)
theorem q60 {a:Nat} (h0:¬a<9):a=9+(a - 9):=(Nat.add_sub_cancel' (Nat.not_lt.mp h0)).symm
theorem q61 {a:Nat} (h0:¬a<9):a - 6=3+(a - 9):=by obtain ⟨x,rfl⟩:=Nat.exists_eq_add_of_le' (Nat.not_lt.mp h0);exact Nat.add_comm x 3
theorem q62 {a:Nat} {b:Nat} (h0:20≤a) (h1:a=b):17≤b:=Nat.le_trans (bl rfl) (h1▸h0)
theorem q64 {a:Nat} {b:Nat} {d:Nat} {e:Nat} (h0:a=17+b) (h1:d=17+e) (h2:b=e):a=d:=by subst h2;exact h0.trans h1.symm
theorem q65 {a:Nat} (h0:10≤a) (h1:¬17≤a):a=10∨a=11∨a=12∨a=13∨a=14∨a=15∨a=16:=(show ∀ a,a<17→10≤a→a=10∨a=11∨a=12∨a=13∨a=14∨a=15∨a=16 by decide) a (Nat.not_le.mp h1) h0
theorem q66 {a:Nat} {b:Nat} {d:Nat} {e:Nat} {f:Nat} (h0:a=b+(d - e)) (h1:a<b):f=d:=absurd h1 (Nat.not_lt.mpr (h0.symm▸Nat.le_add_right b (d - e)))
theorem q67 {a:Nat} {b:Nat} {d:Nat} {e:Nat} {f:Nat} (h0:a+(b - d)=e) (h1:e<a):b=f:=absurd h1 (Nat.not_lt.mpr (h0▸Nat.le_add_right a (b - d)))
theorem q68 {a:Nat} {b:Nat} {d:Nat} {e:Nat} (h0:a+(b - d)=a+(e - d)) (h1:¬b<d) (h2:¬e<d):b=e:=(Nat.sub_add_cancel (Nat.not_lt.mp h1)).symm.trans ((congrArg (·+d) (Nat.add_left_cancel h0)).trans (Nat.sub_add_cancel (Nat.not_lt.mp h2)))
theorem q69 {a:Nat} {b:Nat} {d:Nat} (h0:a+(b - d)<a):False:=Nat.not_lt.mpr (Nat.le_add_right _ _) h0
theorem q71 {a:Nat} {b:Nat} {d:Nat} {e:Nat} (h0:a+(b - d)≤e):a+(d+(e - a) - d)=e:=(congrArg (a+ ·) (Nat.add_sub_cancel_left ..)).trans (Nat.add_sub_cancel' (Nat.le_trans (Nat.le_add_right _ _) h0))
theorem q72 {a:Nat} {b:Nat} {d:Nat} {e:Nat} (h0:a<b):a<b+(d - e):=Nat.lt_add_right (d - e) h0
theorem q74 {a:Nat} (h0:a<2):4+a=4∨4+a=5:=(show ∀ a,a<2→4+a=4∨4+a=5 by decide) a h0
theorem q75 {a:Nat} {b:Nat} (h0:10+(↑a:Int)=10+(↑b:Int)):a=b:=Int.ofNat.inj (Int.add_left_cancel h0)
theorem q76 {a:Nat} (h0:10+a<8):False:=Nat.not_lt.mpr (Nat.le_trans (bl rfl) (Nat.le_add_right 10 a)) h0
theorem q77 {a:Nat} {b:Nat} (h0:1000+8*a+b<8):False:=Nat.not_lt.mpr (Nat.le_trans (bl rfl) (Nat.le_trans (Nat.le_add_right 1000 (8*a)) (Nat.le_add_right _ b))) h0
theorem q78 {a:Nat} {b:Nat} (h0:1000+8*a+b<1000):False:=Nat.not_lt.mpr (Nat.le_trans (Nat.le_add_right 1000 (8*a)) (Nat.le_add_right _ b)) h0
theorem q79 {a:Nat} {b:Nat} (h0:a<3):(1000+8*b+a - 1000) % 8=a:=by rw[Nat.add_assoc,Nat.add_sub_cancel_left,Nat.mul_add_mod,Nat.mod_eq_of_lt (Nat.lt_of_lt_of_le h0 (bl rfl))]
theorem q80 {a:Nat} {b:Nat} (h0:a<3):(1000+8*b+a - 1000) / 8=b:=by rw[Nat.add_assoc,Nat.add_sub_cancel_left,Nat.mul_add_div (by decide),Nat.div_eq_of_lt (Nat.lt_of_lt_of_le h0 (bl rfl))];rfl
theorem q81 {a:Nat} (h0:20≤a) (h1:a<20):False:=Nat.not_lt.mpr h0 h1
theorem q82 {a:Nat} {b:Nat} (h0:a<b) (h1:b≤a):False:=Nat.not_lt.mpr h1 h0
theorem q83 {a:Nat} {b:Nat} {d:Nat} {e:Nat} (h0:a=2) (h1:a=0):b % 2≠(d+1) % 2∧10≤e:=absurd (h0.symm.trans h1) (by decide)
theorem q84 {a:Nat} {b:Nat} (h0:a=3+(1 - b)):a≠0:=fun e=>n3b (by decide) (h0.symm.trans e)
theorem q85 {a:Nat} {b:Nat} (h0:a=3+(1 - b)):a≠2:=fun e=>n3b (by decide) (h0.symm.trans e)
theorem q86 {a:Nat} {b:Nat} (h0:a=3+(1 - b)):a≠3+b:=fun e=>nb (Nat.add_left_cancel (h0.symm.trans e))
theorem q87 {a:Nat} (h0:a=1):a≠0:=fun e=>absurd (e▸h0) (by decide)
theorem q88 {a:Nat} (h0:a=1):a≠2:=fun e=>absurd (e▸h0) (by decide)
theorem q89 {a:Nat} {b:Nat} (h0:a=1):a≠3+b:=fun e=>n3b (by decide) (e.symm.trans h0)
theorem q92 {a:Nat} {b:Nat} (h0:a<b) (h1:a=b):False:=by lia
theorem q93 {a:Nat} (h0:a<1000):(↑a:Int)<2^40:=Int.lt_trans (Int.ofNat_lt.mpr h0) (by decide)
theorem q94 {a:Nat} {b:Nat} (h0:a≤b) (h1:0=b - a):a=b:=Nat.le_antisymm h0 (Nat.le_of_sub_eq_zero h1.symm)
theorem q95 {a:Nat} {b:Nat} (h0:¬a=b):(↑a:Int)≠(↑b:Int):=Nat.ToInt.of_diseq rfl rfl h0
theorem q96 {a:Nat} {b:Nat} (h0:¬a=b):10+(↑a:Int)≠10+(↑b:Int):=fun e=>h0 (Int.ofNat.inj (Int.add_left_cancel e))
theorem q97 {a:Nat} {b:Nat} (h0:¬a=b) (h1:48+a=48+b):False:=h0 (Nat.add_left_cancel h1)
theorem q98 {a:Nat} (h0:a<1000):(↑a:Int)≤2^40:=Int.le_of_lt (Int.lt_trans (Int.ofNat_lt.mpr h0) (by decide))
theorem q99 {a:Nat} (h0:a<2):a<1000:=Nat.lt_of_lt_of_le h0 (lB rfl)
theorem ZI {a:Nat} (h0:a<3):a<1000:=Nat.lt_of_lt_of_le h0 (lB rfl)
theorem OA {a:Nat} (h0:a<4):a<1000:=Nat.lt_of_lt_of_le h0 (lB rfl)
theorem XB {a:Nat} (h0:a<3):a≤900:=Nat.le_of_lt (Nat.lt_of_lt_of_le h0 (lB rfl))
theorem Zm {a:Nat} {b:Nat} (h0:a<b+1) (h1:¬a=b):a<b:=Nat.lt_of_le_of_ne (Nat.le_of_lt_succ h0) h1
theorem Aan {a:Nat} {b:Nat} {d:Nat} (h0:a=b) (h1:a≤d) (h2:d<b):False:=Nat.not_lt.mpr h1 (h0.symm▸h2)
theorem ZW {a:Nat} {b:Nat} (h0:a=b) (h1:10≤b):10≤a:=le_of_le_of_eq h1 (id (Eq.symm h0))
theorem ZT {a:Nat} {b:Nat} {d:Nat} (h0:a=b) (h1:a=5∨a=2∨a=3+d) (h2:b=3+(1 - d)):False:=h1.elim (fun x=>absurd (Nat.add_left_cancel (m:=2) (n:=3) (x.symm.trans (h0.trans h2))▸Nat.sub_le 1 d) (by decide)) fun x=>x.elim (fun x=>n3b (by decide) ((h0.trans h2).symm.trans x)) fun x=>nb (Nat.add_left_cancel ((h0.trans h2).symm.trans x))
theorem Aaj {a:Nat} {b:Nat} {d:Nat} (h0:a=b) (h1:a=5∨a=2∨a=3+d) (h2:b=1):False:=h1.elim (fun h=>absurd (h.symm.trans (h0.trans h2)) (by decide)) fun h=>h.elim (fun h=>absurd (h.symm.trans (h0.trans h2)) (by decide)) fun h=>n3b (by decide) (h.symm.trans (h0.trans h2))
theorem Aaf {a:Nat} {b:Nat} {d:Nat} (h0:a=b) (h1:a=5∨a=2∨a=3+d) (h2:b=0):False:=h1.elim (fun h=>absurd (h.symm.trans (h0.trans h2)) (by decide)) fun h=>h.elim (fun h=>absurd (h.symm.trans (h0.trans h2)) (by decide)) fun h=>n3b (by decide) (h.symm.trans (h0.trans h2))
theorem AaK {a:Nat} {b:Nat} (h0:48+a=48+b):a=b:=Nat.add_left_cancel h0
theorem AaA {a:Nat} {b:Nat} (h0:a≤700) (h1:b≤a):b≤900:=Nat.le_trans h1 (Nat.le_trans h0 (bl rfl))
theorem Ze {a:Nat} {b:Nat} {d:Nat} (h0:a<b) (h1:b≤d):d≠a:=Nat.ne_of_gt (Nat.lt_of_lt_of_le h0 h1)
theorem Vi {a:Nat} {b:Nat} (h0:a<b):a<b+1:=Nat.lt_add_right 1 h0
theorem Aav {a:Nat} {b:Nat} (h0:a<2) (h1:b % 2=(1 - a+1) % 2):b % 2≠(a+1) % 2:=n2 (motive:=fun a _=>b % 2=(1 - a+1) % 2→b % 2≠(a+1) % 2) (fun h e=>absurd (h.symm.trans e) (by decide)) (fun h e=>absurd (h.symm.trans e) (by decide)) a h0 h1
theorem AaX {a:Nat}:20≤21+a:=Nat.le_trans (lB rfl) (Nat.le_add_right _ _)
theorem AaY {a:Nat} {b:Nat} {d:Nat} {e:Nat} (h0:a≠b∨d≠2∨e<13∨17≤e) (h1:a=b) (h2:d=2):e<13∨14+3≤e:=(h0.resolve_left (fun n=>n h1)).resolve_left (fun n=>n h2)
theorem AaE {a:Nat} {b:Nat} {d:Nat} {e:Nat} {f:Nat} (h0:a<b∨d=2∧(20≤e∨e=5∧b≠a)∨d=3+(1 - f)∨d=1∨d=0∧b % 2≠(f+1) % 2∧10≤e):b≠a∨d≠2∨e<13∨17≤e:=h0.elim (fun h=>.inl (Nat.ne_of_gt h)) fun h=>h.elim (fun h=>h.2.elim (fun h=>.inr (.inr (.inr (Nat.le_trans (bl rfl) h)))) fun h=>.inr (.inr (.inl (h.1▸bl rfl)))) fun h=>.inr (.inl fun x=>h.elim (fun h=>n3b (by decide) (h.symm.trans x)) fun h=>h.elim (fun h=>absurd (h.symm.trans x) (by decide)) fun h=>absurd (h.1.symm.trans x) (by decide))
theorem ZL {a:Nat} {b:Nat} {d:Nat} (h0:a<b) (h1:d=0):d≠b:=fun e=>Nat.not_lt_zero a ((e.symm.trans h1)▸h0)
theorem AaW {a:Nat} {b:Nat} {d:Nat} {e:Nat} {f:Nat} (h0:a=0∨a=3+b∨d=5):e≠f∨a≠2∨d<13∨17≤d:=h0.elim (fun h=>.inr (.inl fun x=>absurd (h.symm.trans x) (by decide))) fun h=>h.elim (fun h=>.inr (.inl fun x=>n3b (by decide) (h.symm.trans x))) fun h=>.inr (.inr (.inl (h▸bl rfl)))
theorem ZH {i:Int} (h0:i<0):¬0≤i:=Int.not_le.mpr h0
theorem AaB {i:Int} (h0:i<4):i.toNat<4:=tn (bl rfl) h0
theorem Aa3 {a:Nat} (h0:0<a):(↑a:Int)≠0:=Int.natCast_ne_zero_iff_pos.mpr h0
theorem ZS {a:Nat} (h0:a<4):a≤12:=Nat.le_of_lt (Nat.lt_of_lt_of_le h0 (lB rfl))
theorem AaJ {a:Nat} (h0:a<4):(↑a:Int)≤2^20:=Int.le_of_lt (Int.lt_trans (Int.ofNat_lt.mpr h0) (by decide))
theorem ZR {a:Nat} (h0:a<4):a<10:=Nat.lt_of_lt_of_le h0 (lB rfl)
theorem Aal {a:Nat} (h0:a<3):a<10:=Nat.lt_of_lt_of_le h0 (lB rfl)
theorem Aah {i:Int} (h0:i<6):(i - 3).toNat<3:=tn (bl rfl) (Int.sub_lt_sub_right h0 3)
theorem Z8 {i:Int} (h0:¬i<0):i=(↑i.toNat:Int):=(Int.toNat_of_nonneg (Int.not_lt.mp h0)).symm
theorem Z2 {a:Nat} {b:Nat} {d:Nat} (h0:a≤b) (h1:d≤a):d≤b:=Nat.le_trans h1 h0
theorem Yn {a:Nat} (h0:0<a):a≠0:=by lia
theorem AaO {a:Nat} {b:Nat} {d:Nat} (h0:a≤680) (h1:b<2) (h2:b=d):a+7*d≤700:=Nat.le_trans (Nat.add_le_add h0 (Nat.mul_le_mul_left 7 (h2▸Nat.le_of_lt_succ h1))) (bl rfl)
theorem Aas {a:Nat} {b:Nat} {d:Nat} (h0:a % 2=0) (h1:b=d):(a+1+d) % 2=(b+1) % 2:=by subst h1;obtain ⟨x,rfl⟩:=Nat.dvd_of_mod_eq_zero h0;rw[Nat.add_assoc,Nat.add_comm 1 b,Nat.add_comm (2*x)];exact Nat.add_mul_mod_self_left _ _ _
theorem Aae {a:Nat} {b:Nat}:a+7*b≤a+7*(b+1):=Nat.add_le_add_left (Nat.le_add_right (7*b) 7) a
theorem ZJ {i:Int} (h0:i<3):i.toNat<3:=tn (bl rfl) h0
theorem ZO {a:Nat} {b:Nat}:0≤4*(↑a:Int)+(↑b:Int):=Int.zero_le_ofNat (4*a+b)
theorem AaU {a:Nat} {b:Nat} (h0:a<3) (h1:b<4):4*(↑a:Int)+(↑b:Int)≤2^20:=Int.le_trans (show ((4*a+b:Nat):Int)≤_ from Int.ofNat_le.mpr (Nat.add_le_add (Nat.mul_le_mul_left 4 (Nat.le_of_lt_succ h0)) (Nat.le_of_lt_succ h1))) (by decide)
theorem ZP {a:Nat} {b:Nat} (h0:a<3) (h1:b<4):4*a+b≤12:=Nat.le_trans (Nat.add_le_add (Nat.mul_le_mul_left 4 (Nat.le_of_lt_succ h0)) (Nat.le_of_lt_succ h1)) (bl rfl)
theorem Zd {a:Nat}:2+a≠1:=Nat.ne_of_gt (Nat.lt_of_lt_of_le (lB rfl) (Nat.le_add_right _ _))
theorem Aao {a:Nat} (h0:¬a<20):20≤a:=Nat.le_of_not_lt h0
theorem AaL {a:Nat} (h0:20≤a):a≠6:=Nat.ne_of_gt (Nat.lt_of_lt_of_le (lB rfl) h0)
theorem ZX {a:Nat} (h0:20≤a):a≠8:=Nat.ne_of_gt (Nat.lt_of_lt_of_le (lB rfl) h0)
theorem Aac {a:Nat} (h0:20≤a):4≤a:=Nat.le_of_add_left_le h0
theorem Z5 {a:Nat} {b:Nat} {d:Nat} (h0:a≠0∨b=1∨b=2∧d<4) (h1:0=a) (h2:b≠1) (h3:4≤d):False:=h0.elim (fun x=>x h1.symm) (fun x=>x.elim h2 fun y=>Nat.lt_irrefl _ (Nat.lt_of_lt_of_le y.2 h3))
theorem Aam {a:Nat} (h0:0=2):2+3≤a:=absurd h0 (by decide)
theorem ZY {a:Nat} (h0:3≤a):a≠0:=by lia
theorem Z4 {a:Nat} (h0:3≤a):a≠1:=Nat.ne_of_gt (Nat.lt_of_lt_of_le (lB rfl) h0)
theorem Aaw {a:Nat} {b:Nat} (h0:3≤a) (h1:a=0):1+3≤b:=absurd (h1▸h0) (by decide)
theorem ZZ {a:Nat} {b:Nat} (h0:3≤a) (h1:a=2):2+3≤b:=absurd (h1▸h0) (by decide)
theorem Zj {a:Nat} (h0:a≤5):a+3≤2^20:=Nat.le_trans (Nat.add_le_add_right h0 3) (bl rfl)
theorem Zf {a:Nat} (h0:a≤2):a+2≤2^20:=Nat.le_trans (Nat.add_le_add_right h0 2) (bl rfl)
theorem Aa5 {a:Nat} {b:Nat} (h0:a≠3∨3≤b) (h1:a=3):3≤b:=h0.resolve_left fun n=>n h1
theorem Aa0 {a:Nat} {b:Nat} {d:Nat} (h0:a=0∨a=3+b∨d=5) (h1:a=2):3≤d:=h0.elim (fun h=>absurd (h.symm.trans h1) (by decide)) fun h=>h.elim (fun h=>absurd (h.symm.trans h1) (n3b (by decide))) fun h=>h▸bl rfl
theorem Z0 {a:Nat} {b:Nat} {d:Nat} (h0:a=0) (h1:a=3):b=2→3≤d:=absurd (h0.symm.trans h1) (by decide)
theorem Aat {a:Nat}:3≤21+a:=Nat.le_trans (lB rfl) (Nat.le_add_right _ _)
theorem AaS {a:Nat} (h0:4+4*0≤a):a≠3:=Ne.symm (Nat.ne_of_lt h0)
theorem Aaq {a:Nat} {b:Nat} (h0:a=1) (h1:a=2):3≤b:=absurd (h0.symm.trans h1) (by decide)
theorem AaV {a:Nat}:(4+4*a) % 2=0:=(congrArg (fun x=>(4+x) % 2) (Nat.mul_assoc 2 2 a)).trans (Nat.add_mul_mod_self_left 4 2 (2*a))
theorem Z9 {a:Nat}:0<4+4*a:=Nat.pos_of_neZero (4+4*a)
theorem Aag {a:Nat} (h0:a<3):14*a≤680:=Nat.le_trans (Nat.mul_le_mul_left 14 (Nat.le_of_lt_succ h0)) (bl rfl)
theorem Qa {a:Nat} (h0:a<4):20+a<100:=Nat.lt_of_lt_of_le (Nat.add_lt_add_left h0 _) (lB rfl)
theorem Z1 {a:Nat} {b:Nat} (h0:a<3) (h1:b<4):60+4*a+b≠80:=Nat.ne_of_lt (Nat.lt_of_le_of_lt (Nat.add_le_add (Nat.add_le_add_left (Nat.mul_le_mul_left 4 (Nat.le_of_lt_succ h0)) 60) (Nat.le_of_lt_succ h1)) (bl rfl))
theorem Aak {a:Nat} (h0:a<60∨100≤a):a≠80:=h0.elim (fun h=>Nat.ne_of_lt (Nat.lt_of_lt_of_le h (bl rfl))) (fun h=>Nat.ne_of_gt (Nat.lt_of_lt_of_le (bl rfl) h))
theorem ZM {a:Nat} {b:Nat} (h0:12≤a) (h1:b<12):b≠a:=by lia
theorem AaQ {a:Nat} {b:Nat} (h0:a<3) (h1:b<4):60+4*a+b<100:=Nat.lt_of_le_of_lt (Nat.add_le_add (Nat.add_le_add_left (Nat.mul_le_mul_left 4 (Nat.le_of_lt_succ h0)) 60) (Nat.le_of_lt_succ h1)) (bl rfl)
theorem US {a:Nat} (h0:a<4):40+a<100:=Nat.lt_of_lt_of_le (Nat.add_lt_add_left h0 _) (lB rfl)
theorem Z6 {i:Int} {a:Nat}:i+1+(↑a:Int)*1=i+(↑(a+1):Int)*1:=by rw[Int.mul_one,Int.mul_one,Int.add_assoc,Int.add_comm 1];rfl
theorem isK {α:Type} {o:Option α} {G:Prop} (h:o.isSome=true) (k:∀ a,o=some a→G):G:=(Option.isSome_iff_exists.mp h).elim k
theorem Dt {α β:Type} {f:α→β} {b:β} {l:List α} {G:Prop} (h:b∈l.map f) (k:∀ a,a∈l→f a=b→G):G:=xEA (List.mem_map.mp h) k
end
section
theorem nn {α:Type} {a:α} {p:Prop} (h:none=some a):p:=nomatch h
theorem ff {p:Prop} (h:false=true):p:=Bool.noConfusion h
noncomputable abbrev Id:=Nat × Nat × Nat
set_option genCtorIdx true in
inductive V where
  | none
  | bool (b:Bool)
  | int (i:Int)
  | str (s:List Nat)
  | tup (xs:List V)
  | ref (i:Id)
  | raw (v:Value)
  | rng (a c:Int) (n:Nat)
  | vw (k:String) (i:Id)
deriving Inhabited
inductive O where
  | inst (c:Nat) (fs:List (Nat × V))
  | list (xs:List V)
  | dict (ep:Nat) (es:List (List Nat × V))
  | set (xs:List (List Nat))
  | tab (P:Addr)
deriving Inhabited
noncomputable abbrev H:=Id→Option O
noncomputable def upd (h:H) (i:Id) (o:O):H:=fun j=>if j=i then some o else h j
inductive X where
  | none | tt | ff
  | int (i:Int)
  | str (s:List Nat)
  | loc (n:Nat)
  | gint (n:Nat) (i:Int)
  | gref (n:Nat)
  | attr (e:X) (n:Nat)
  | bin (op:Operator) (a b:X)
  | cmp (op:CmpOp) (a b:X)
  | bop (and:Bool) (xs:List X)
  | not (e:X)
  | ite (t a b:X)
  | sub (e i:X)
  | slc (e lo hi st:X)
  | list (xs:List X)
  | tup (xs:List X)
  | dict (ks vs:List X)
  | lcomp (elt:X) (tg:List Nat) (one:Bool) (src:X) (ifs:List X) (own ro:List Nat)
  | dcomp (k v:X) (tg:List Nat) (one:Bool) (src:X) (own ro:List Nat)
  | call (f:Nat) (args:List X) (kws:List (Nat × X))
  | meth (e:X) (n:Nat) (args:List X) (kws:List (Nat × X))
  | lcall (f:Nat) (args:List X)
  | bad
deriving Inhabited
inductive S where
  | expr (e:X)
  | asg (n:Nat) (e:X)
  | asgA (o:X) (n:Nat) (e:X)
  | asgI (o i:X) (e:X)
  | asgT (ns:List Nat) (e:X)
  | asgC (n:Nat) (e:X)
  | del (o i:X)
  | ret (e:X)
  | iff (t:X) (a b:List S)
  | whl (t:X) (b:List S)
  | for1 (n:Nat) (e:X) (b:List S)
  | forT (ns:List Nat) (e:X) (b:List S)
  | assert (t:X)
  | pass | brk | cont
  | try_ (a b c:List S)
  | def_ (n:Nat)
  | bad
deriving Inhabited
structure Ak where
  req:List Nat
  opt:List (Nat × V)
  locs:List Nat
  body:List S
structure CxN where
  nm:Nat→Str
  code:Scope→Option (Addr × Addr × Id)
  gi:Nat→Option Int
structure Cx extends N:CxN where
  prog:Program
  w:World
  K:Frag
  B:Heap
  os:OsState
  gok:Array GenState→Prop
  gv:Nat→Option Value
  cls:Nat→Addr
  meth:Nat→Nat→Option Addr
  fld:Nat→Nat→Bool
  catt:Nat→Nat→Option V
  stat:Nat→Nat→Option Addr
structure G where
  ρ:Id→Addr
  slot:Addr→Option (Id × Bool)
  fz:Addr→Option Obj
mutual
noncomputable def Ai (g:G) (h:H):V→Value→Prop
  | .none,v=>v=.none
  | .bool b,v=>v=.bool b
  | .int i,v=>∃ t,v=.int i t
  | .str s,v=>∃ t,v=.str ⟨s.toArray⟩ t
  | .ref i,v=>(h i).isSome=true∧v=.ref (g.ρ i)
  | .raw x,v=>v=x∧handedIn x=true
  | .vw k i,v=>(h i).isSome=true∧∃ r,v=.ref r∧g.fz r=some { cls:=.type k,dict:=none,data:=.fields #[.ref (g.ρ i)],slots:=#[] }
  | .rng a c n,v=>∃ r b t u w,v=.ref r∧g.fz r=some { cls:=.type "range",dict:=none,data:=.fields #[.int a t,.int b u,.int c w],slots:=#[] }∧Builtin.Range.small a b c=true∧Builtin.Range.rangeSize a b c=n
  | .tup xs,v=>∃ a n vs,v=.ref a∧g.fz a=some { cls:=.type "tuple",dict:=none,data:=.seq vs n,slots:=#[] }∧Ac g h xs vs.toList
noncomputable def Ac (g:G) (h:H):List V→List Value→Prop
  | [],vs=>vs=[]
  | x::xs,vs=>∃ v r,vs=v::r∧Ai g h x v∧Ac g h xs r
end
noncomputable abbrev ofL (l:List Nat):Str:=⟨l.toArray⟩
noncomputable def Az (g:G) (h:H):List (List Nat × V)→List (Str × Value)→Prop
  | [],vs=>vs=[]
  | x::xs,vs=>∃ v r,vs=(ofL x.1,v)::r∧Ai g h x.2 v∧Az g h xs r
noncomputable def C1 (c:Cx) (g:G) (h:H):List (Nat × V)→List DictEntry→Prop
  | [],es=>es=[]
  | x::xs,es=>∃ hsh t rv r,es=⟨hsh,.str (c.nm x.1) t,rv⟩::r∧Ai g h x.2 rv∧C1 c g h xs r
noncomputable def EO (c:Cx) (g:G) (h:H) (i:Id) (hp:Heap):O→Prop
  | .inst k fs=>∃ dx es n,hp.get? (g.ρ i)=some (instObj (c.cls k) dx)∧g.slot dx=some (i,true)∧hp.get? dx=some (dictOf es n)∧C1 c g h fs es
  | .list xs=>∃ n vs,hp.get? (g.ρ i)=some { cls:=.type "list",dict:=none,data:=.seq vs n,slots:=#[] }∧Ac g h xs vs.toList
  | .dict ep es=>∃ kvs,hp.DictAt (PySem.strKind c.prog c.w) (g.ρ i) kvs ep∧Az g h es kvs
  | .set xs=>hp.SetOf (PySem.strKind c.prog c.w) (g.ρ i) (fun k=>xs.any fun x=>ofL x==k) xs.length∧xs.Nodup
  | .tab P=>g.ρ i=P∧∃ ps,hp.get? (g.ρ i)=some (tabObj ps)∧TriplesOk ps.toList
structure Rep (c:Cx) (g:G) (h:H) (s:Shared):Prop where
  base:∀ a o,c.B.get? a=some o→g.fz a=some o
  fz:∀ a o,g.fz a=some o→s.heap.get? a=some o
  apart:∀ a o,g.fz a=some o→g.slot a=none
  lt:∀ a x,g.slot a=some x→(s.heap.get? a).isSome=true∧c.B.get? a=none
  at_:∀ i,(h i).isSome=true→g.slot (g.ρ i)=some (i,false)
  obj:∀ i o,h i=some o→EO c g h i s.heap o
  gens:c.gok s.gens
  os:s.os=c.os
structure Ext (E:Addr→Prop) (g:G) (h:H) (s:Shared) (g':G) (h':H) (s':Shared):Prop where
  live:∀ i,(h i).isSome=true→(h' i).isSome=true∧g'.ρ i=g.ρ i
  fz:∀ a o,g.fz a=some o→g'.fz a=some o
  fzold:∀ a,(s.heap.get? a).isSome=true→g'.fz a=g.fz a
  slot:∀ a,(s.heap.get? a).isSome=true→g'.slot a=g.slot a
  alive:∀ a,(s.heap.get? a).isSome=true→(s'.heap.get? a).isSome=true
  keep:∀ a o,s.heap.get? a=some o→g.slot a=none→¬ E a→s'.heap.get? a=some o
noncomputable abbrev No:Addr→Prop:=fun _=>False
theorem Ext.refl {E} {g:G} {h:H} {s:Shared}:Ext E g h s g h s:=⟨fun _ e=>⟨e,rfl⟩,fun _ _ e=>e,fun _ _=>rfl,fun _ _=>rfl,fun _ e=>e,fun _ _ e _ _=>e⟩
theorem Ext.trans {E} {g g' g'':G} {h h' h'':H} {s s' s'':Shared} (a:Ext E g h s g' h' s') (b:Ext E g' h' s' g'' h'' s''):Ext E g h s g'' h'' s'' where
  live i e:=⟨(b.live i (a.live i e).1).1,(b.live i (a.live i e).1).2.trans (a.live i e).2⟩
  fz x o e:=b.fz x o (a.fz x o e)
  fzold x l:=(b.fzold x (a.alive x l)).trans (a.fzold x l)
  slot x l:=(b.slot x (a.alive x l)).trans (a.slot x l)
  alive x l:=b.alive x (a.alive x l)
  keep x o e n q:=b.keep x o (a.keep x o e n q) ((a.slot x (by rw[e];rfl)).trans n) q
theorem Ext.weak {E E':Addr→Prop} {g g':G} {h h':H} {s s':Shared} (a:Ext E g h s g' h' s') (k:∀ x,E x→E' x):Ext E' g h s g' h' s' :=
  ⟨a.live,a.fz,a.fzold,a.slot,a.alive,fun x o e n q=>a.keep x o e n fun z=>q (k x z)⟩
theorem Ext.up {E:Addr→Prop} {g g':G} {h h':H} {s s':Shared} (a:Ext No g h s g' h' s'):Ext E g h s g' h' s':=a.weak fun _ z=>z.elim
theorem Ext.toks {E} {g:G} {h:H} {s:Shared} {tk:Nat}:Ext E g h s g h { s with toks:=tk }:=⟨fun _ e=>⟨e,rfl⟩,fun _ _ e=>e,fun _ _=>rfl,fun _ _=>rfl,fun _ e=>e,fun _ _ e _ _=>e⟩
mutual
theorem Ai.mono {E} {g g':G} {h h':H} {s s':Shared} (x:Ext E g h s g' h' s'):∀ {v:V} {rv:Value},Ai g h v rv→Ai g' h' v rv
  | .none,_,e=>e
  | .bool _,_,e=>e
  | .int _,_,e=>e
  | .str _,_,e=>e
  | .raw _,_,e=>e
  | .vw _ i,_,e=>by
    refine GV e fun e0 r e1 e2=>?_
    exact ⟨(x.live i e0).1,r,e1,by rw[(x.live i e0).2];exact x.fz _ _ e2⟩
  | .rng _ _ _,_,e=>by
    obtain ⟨r,b,t,u,w,e1,e2,e3⟩:=e
    exact ⟨r,b,t,u,w,e1,x.fz _ _ e2,e3⟩
  | .ref i,_,e=>by
    exact ⟨(x.live i e.1).1,by rw[(x.live i e.1).2];exact e.2⟩
  | .tup xs,_,e=>by
    refine Be e fun a n vs e1 e2 e5=>?_
    exact (DM a n vs e1 (x.fz _ _ e2) (Ac.mono x e5))
theorem Ac.mono {E} {g g':G} {h h':H} {s s':Shared} (x:Ext E g h s g' h' s'):∀ {v:List V} {rv:List Value},Ac g h v rv→Ac g' h' v rv
  | [],_,e=>e
  | _::_,_,e=>by
    refine Au e fun v r e1 e2 e3=>?_
    exact (Al v r e1 (Ai.mono x e2) (Ac.mono x e3))
end
theorem Az.mono {E} {g g':G} {h h':H} {s s':Shared} (x:Ext E g h s g' h' s'):∀ {v:List (List Nat × V)} {rv:List (Str × Value)},Az g h v rv→Az g' h' v rv:=by
  intro zl;induction zl with
  | nil =>
    intro _ e
    exact e
  | cons _ _ ih =>
    intro _ e
    refine Au e fun v r e1 e2 e3=>?_
    exact (Al v r e1 (Ai.mono x e2) (ih e3))
theorem C1.mono {c:Cx} {E} {g g':G} {h h':H} {s s':Shared} (x:Ext E g h s g' h' s'):∀ {fs:List (Nat × V)} {es:List DictEntry},C1 c g h fs es→C1 c g' h' fs es:=by
  intro zl;induction zl with
  | nil =>
    intro _ e
    exact e
  | cons _ _ ih =>
    rintro _ ⟨hsh,t,rv,r,e1,e2,e3⟩
    exact (FS hsh t rv r e1 (Ai.mono x e2) (ih e3))
theorem EO.keeps {c:Cx} {E} {g g':G} {h h':H} {s s':Shared} {i:Id} {o:O} (x:Ext E g h s g' h' s') (hi:(h i).isSome=true) (R:Rep c g h s)
    (k:∀ a b,g.slot a=some (i,b)→s'.heap.get? a=s.heap.get? a) (e:EO c g h i s.heap o):EO c g' h' i s'.heap o:=by
  have hρ:=(x.live i hi).2
  have ha:=k _ _ (R.at_ i hi)
  cases o with
  | inst cl fs =>
    refine AW e fun dx es n e1 e2 e3 e5=>?_
    have hd:=k _ _ e2
    exact ⟨dx,es,n,by rw[hρ,ha];exact e1,(x.slot _ (R.lt _ _ e2).1).trans e2,by rw[hd];exact e3,e5.mono x⟩
  | list xs=>refine Ib e fun n vs e1 r3=>?_;exact ⟨n,vs,by rw[hρ,ha];exact e1,Ac.mono x r3⟩
  | dict ep xs=>refine xEA e fun kvs zz8b r3=>?_;obtain ⟨o,es,e1,r⟩:=zz8b;exact ⟨kvs,(Ff o es (by rw[hρ,ha];exact e1) r),Az.mono x r3⟩
  | set xs=>refine xA e fun zz9a nd=>?_;obtain ⟨o,es,ep,t,e1,r⟩:=zz9a;exact ⟨(Ft o es ep t (by rw[hρ,ha];exact e1) r),nd⟩
  | tab P=>refine GV e fun e0 ps e1 r=>?_;exact (N4 (by rw[hρ];exact e0) ps (by rw[hρ,ha];exact e1) r)
theorem Rep.other {c:Cx} {g:G} {h:H} {s s':Shared} (R:Rep c g h s) (k:∀ a o,s.heap.get? a=some o→((g.slot a).isSome=true∨(g.fz a).isSome=true)→s'.heap.get? a=some o)
    (hg:s'.gens=s.gens) (ho:s'.os=s.os):Rep c g h s':=by
  refine ⟨R.base,fun a o e=>k a o (R.fz a o e) (.inr (by rw[e];rfl)),R.apart,fun a x e=>⟨?_,(R.lt a x e).2⟩,R.at_,fun i o e=>?_,by rw[hg];exact R.gens,ho.trans R.os⟩
  · refine isK (R.lt a x e).1 fun o ho=>?_
    rw[k a o ho (.inl (by rw[e];rfl))];rfl
  have hi:(h i).isSome=true:=by rw[e];rfl
  have Q:=R.obj i o e
  have ka:∀ {o},s.heap.get? (g.ρ i)=some o→s'.heap.get? (g.ρ i)=some o:=fun q=>k _ _ q (.inl (by rw[R.at_ i hi];rfl))
  cases o with
  | inst cl fs =>
    refine AW Q fun dx es n e1 e2 e3 e5=>?_
    exact ⟨dx,es,n,ka e1,e2,k _ _ e3 (.inl (by rw[e2];rfl)),e5⟩
  | list xs=>refine Ib Q fun n vs e1 r=>?_;exact ⟨n,vs,ka e1,r⟩
  | dict ep xs=>refine xEA Q fun kvs zz14b r3=>?_;obtain ⟨o,es,e1,r⟩:=zz14b;exact ⟨kvs,(Ff o es (ka e1) r),r3⟩
  | set xs=>refine xA Q fun zz15a nd=>?_;obtain ⟨o,es,ep,t,e1,r⟩:=zz15a;exact ⟨(Ft o es ep t (ka e1) r),nd⟩
  | tab P=>refine GV Q fun e0 ps e1 r=>?_;exact (N4 e0 ps (ka e1) r)
theorem Rep.toks {c:Cx} {g:G} {h:H} {s:Shared} {tk:Nat} (R:Rep c g h s):Rep c g h { s with toks:=tk }:=R.other (fun _ _ e _=>e) rfl rfl
theorem Rep.none_ {c:Cx} {g:G} {h:H} {s:Shared} (R:Rep c g h s) {a:Addr} (e:s.heap.get? a=none):g.slot a=none∧g.fz a=none:=by
  constructor
  · cases q:g.slot a with
    | none=>rfl
    | some x=>have:=(R.lt _ _ q).1;rw[e] at this;exact ff this
  · cases q:g.fz a with
    | none=>rfl
    | some o=>have:=R.fz _ _ q;rw[e] at this;exact nn this
theorem AL (h:Heap):h.get? h.objs.size=none:=by
  cases q:h.get? h.objs.size with
  | none=>rfl
  | some o=>exact absurd (Heap.lt_size q) (Nat.lt_irrefl _)
theorem Rep.fresh {c:Cx} {g:G} {h:H} {s:Shared} (R:Rep c g h s):g.slot s.heap.objs.size=none∧g.fz s.heap.objs.size=none:=R.none_ (AL _)
theorem C6 {h:Heap} {a:Addr} (e:(h.get? a).isSome=true):a≠h.objs.size:=fun q=>by rw[q,AL] at e;exact ff e
theorem By {h:Heap} {a:Addr} (ob:Obj) (e:(h.get? a).isSome=true):((h.push ob).get? a).isSome=true:=by
  refine isK e fun o ho=>?_
  rw[Heap.get?_push_of_some _ ho];rfl
theorem Rep.keepsB {c:Cx} {g:G} {h:H} {s:Shared} (R:Rep c g h s):∀ a o,c.B.get? a=some o→s.heap.get? a=some o:=fun a o e=>R.fz a o (R.base a o e)
theorem Aj {h:H} {i:Id} {o:O}:upd h i o i=some o:=by exact if_pos rfl
theorem Ae {h:H} {i j:Id} {o:O} (n:j≠i):upd h i o j=h j:=by simp[upd,n]
noncomputable def G.add (g:G) (i:Id) (a:Addr):G:=⟨fun j=>if j=i then a else g.ρ j,fun b=>if b=a then some (i,false) else g.slot b,g.fz⟩
noncomputable def G.addI (g:G) (i:Id) (a d:Addr):G:=⟨fun j=>if j=i then a else g.ρ j,fun b=>if b=a then some (i,false) else if b=d then some (i,true) else g.slot b,g.fz⟩
noncomputable def G.freeze (g:G) (a:Addr) (o:Obj):G:=⟨g.ρ,g.slot,fun b=>if b=a then some o else g.fz b⟩
section
variable {c:Cx} {g:G} {h:H} {s:Shared}
theorem Rep.alloc (R:Rep c g h s) {i:Id} (hi:h i=none) (ob:Obj) (hf:ob.isFreed=false) (o:O)
    (ho:∀ g' h' hp,hp.get? (g'.ρ i)=some ob→(∀ v rv,Ai g h v rv→Ai g' h' v rv)→(∀ v rv,Ac g h v rv→Ac g' h' v rv)→EO c g' h' i hp o) :
    Rep c (g.add i s.heap.objs.size) (upd h i o) { s with heap:=s.heap.push ob }∧Ext No g h s (g.add i s.heap.objs.size) (upd h i o) { s with heap:=s.heap.push ob }:=by
  have ne:∀ {j},(h j).isSome=true→j≠i:=fun e q=>by rw[q,hi] at e;exact ff e
  have X:Ext No g h s (g.add i s.heap.objs.size) (upd h i o) { s with heap:=s.heap.push ob }:=by
    exact ⟨fun j e=>⟨by rw[Ae (ne e)];exact e,if_neg (ne e)⟩,fun _ _ e=>e,fun _ _=>rfl,fun a l=>if_neg (C6 l),fun a l=>By _ l,fun a o e _ _=>Heap.get?_push_of_some _ e⟩
  refine ⟨⟨R.base,fun a o e=>Heap.get?_push_of_some _ (R.fz a o e),fun a o e=>?_,fun a x e=>?_,fun j e=>?_,fun j o' e=>?_,R.gens,R.os⟩,X⟩
  · exact (X.slot a (by rw[R.fz a o e];rfl)).trans (R.apart a o e)
  · by_cases q:a=s.heap.objs.size
    · subst q
      refine ⟨by rw[Heap.get?_push_size _ hf];rfl,?_⟩
      cases z:c.B.get? s.heap.objs.size with
      | none=>rfl
      | some o=>have:=R.fz _ _ (R.base _ _ z);rw[AL] at this;exact nn this
    · have e':g.slot a=some x:=by simpa [G.add,q] using e
      exact ⟨By _ (R.lt a x e').1,(R.lt a x e').2⟩
  · by_cases q:j=i
    · subst q;simp[G.add]
    · rw[Ae q] at e
      have z:=R.at_ j e
      have l:=(R.lt _ _ z).1
      have e1:(g.add i s.heap.objs.size).ρ j=g.ρ j:=if_neg q
      rw[e1]
      exact (if_neg (C6 l)).trans z
  · by_cases q:j=i
    · subst q
      rw[Aj] at e;cases e
      refine ho _ _ _ ?_ (fun v rv z=>Ai.mono X z) (fun v rv z=>Ac.mono X z)
      show (s.heap.push ob).get? (if j=j then s.heap.objs.size else g.ρ j)=_
      rw[if_pos rfl];exact Heap.get?_push_size _ hf
    · rw[Ae q] at e
      have hj:(h j).isSome=true:=by rw[e];rfl
      refine EO.keeps X hj R (fun a b z=>?_) (R.obj j o' e)
      have l:=(R.lt a _ z).1
      refine isK l fun o q=>?_
      rw[q];exact Heap.get?_push_of_some _ q
theorem Rep.freeze (R:Rep c g h s) (ob:Obj) (hf:ob.isFreed=false) :
    Rep c (g.freeze s.heap.objs.size ob) h { s with heap:=s.heap.push ob }∧Ext No g h s (g.freeze s.heap.objs.size ob) h { s with heap:=s.heap.push ob }:=by
  have F:=R.fresh
  have X:Ext No g h s (g.freeze s.heap.objs.size ob) h { s with heap:=s.heap.push ob }:=by
    refine ⟨fun j e=>⟨e,rfl⟩,fun a o e=>?_,fun a l=>if_neg (C6 l),fun a l=>rfl,fun a l=>By _ l,fun a o e _ _=>Heap.get?_push_of_some _ e⟩
    · show (if a=_ then _ else _)=_
      rw[if_neg (fun q=>by rw[q,F.2] at e;exact nn e)];exact e
  refine ⟨⟨fun a o e=>X.fz _ _ (R.base a o e),fun a o e=>?_,fun a o e=>?_,fun a x e=>⟨By _ (R.lt a x e).1,(R.lt a x e).2⟩,R.at_,fun j o' e=>?_,R.gens,R.os⟩,X⟩
  · by_cases q:a=s.heap.objs.size
    · subst q
      have e':ob=o:=by simpa [G.freeze] using e
      subst e'
      exact Heap.get?_push_size _ hf
    · have e':g.fz a=some o:=by simpa [G.freeze,q] using e
      exact Heap.get?_push_of_some _ (R.fz a o e')
  · by_cases q:a=s.heap.objs.size
    · subst q;exact F.1
    · have e':g.fz a=some o:=by simpa [G.freeze,q] using e
      exact R.apart a o e'
  · have hj:(h j).isSome=true:=by rw[e];rfl
    refine EO.keeps X hj R (fun a b z=>?_) (R.obj j o' e)
    have l:=(R.lt a _ z).1
    refine isK l fun o q=>?_
    show (s.heap.push ob).get? a=s.heap.get? a
    rw[q];exact Heap.get?_push_of_some _ q
theorem Rep.update (R:Rep c g h s) {i:Id} (hi:(h i).isSome=true) {s':Shared} (o:O)
    (hk:∀ a,(∀ b,g.slot a≠some (i,b))→s'.heap.get? a=s.heap.get? a) (hal:∀ a b,g.slot a=some (i,b)→(s'.heap.get? a).isSome=true) (hg:s'.gens=s.gens) (hos:s'.os=s.os)
    (ho:∀ h',(∀ v rv,Ai g h v rv→Ai g h' v rv)→(∀ v rv,Ac g h v rv→Ac g h' v rv)→(∀ v rv,Az g h v rv→Az g h' v rv)→(∀ fs es,C1 c g h fs es→C1 c g h' fs es)→EO c g h' i s'.heap o) :
    Rep c g (upd h i o) s'∧Ext No g h s g (upd h i o) s':=by
  have al:∀ a,(s.heap.get? a).isSome=true→(s'.heap.get? a).isSome=true:=fun a l=>by
    by_cases q:∃ b,g.slot a=some (i,b)
    · refine xE q fun b q=>?_;exact hal a b q
    · rw[hk a (fun b z=>q ⟨b,z⟩)];exact l
  have X:Ext No g h s g (upd h i o) s':=by
    refine ⟨fun j e=>⟨?_,rfl⟩,fun _ _ e=>e,fun _ _=>rfl,fun a l=>rfl,fun a l=>?_,fun a o e n _=>?_⟩
    · by_cases q:j=i
      · subst q;rw[Aj];rfl
      · rw[Ae q];exact e
    · exact al a l
    · rw[hk a (fun b z=>by rw[n] at z;exact nn z)];exact e
  refine ⟨⟨R.base,fun a o e=>?_,R.apart,fun a x e=>⟨al a (R.lt a x e).1,(R.lt a x e).2⟩,fun j e=>?_,fun j o' e=>?_,by rw[hg];exact R.gens,hos.trans R.os⟩,X⟩
  · rw[hk a (fun b z=>by rw[R.apart a o e] at z;exact nn z)];exact R.fz a o e
  · by_cases q:j=i
    · subst q;exact R.at_ _ hi
    · rw[Ae q] at e;exact R.at_ j e
  · by_cases q:j=i
    · subst q
      rw[Aj] at e;cases e
      exact ho _ (fun v rv z=>Ai.mono X z) (fun v rv z=>Ac.mono X z) (fun v rv z=>Az.mono X z) (fun fs es z=>C1.mono X z)
    · rw[Ae q] at e
      have hj:(h j).isSome=true:=by rw[e];rfl
      exact EO.keeps X hj R (fun a b z=>hk a fun b' z'=>q (by rw[z] at z';cases z';rfl)) (R.obj j o' e)
end
end
section
structure Loc where
  ro:List (Nat × V)
  rw:List (Nat × Option V)
deriving Inhabited
noncomputable def Loc.get (m:Loc) (n:Nat):Option V:=match m.rw.lookup n with
  | some o=>o
  | none=>m.ro.lookup n
noncomputable def DZ (n:Nat) (v:V):List (Nat × Option V)→List (Nat × Option V)
  | []=>[]
  | (k,o)::r=>if k==n then (k,some v)::r else (k,o)::DZ n v r
noncomputable def Loc.set (m:Loc) (n:Nat) (v:V):Loc:=⟨m.ro,DZ n v m.rw⟩
theorem E0 {n:Nat} {v:V}:∀ {l:List (Nat × Option V)} (k:Nat),(DZ n v l).lookup k=if k=n then (l.lookup n).map (fun _=>some v) else l.lookup k
  | [],k=>by by_cases q:k=n<;>simp[DZ,q]
  | (a,o)::r,k=>by
    have ih:=E0 (n:=n) (v:=v) (l:=r) k
    unfold DZ
    by_cases ha:a=n
    · subst ha
      simp only[beq_self_eq_true,if_true]
      by_cases q:k=a
      · subst q;simp[List.lookup]
      · have q':(k==a)=false:=by simp[q]
        simp[List.lookup,q,q']
    · have ha':(a==n)=false:=by simp[ha]
      have ha'':(n==a)=false:=by simp[Ne.symm ha]
      simp only[ha',Bool.false_eq_true,if_false]
      by_cases q:k=n
      · subst q
        simp only[List.lookup,ha'',if_true] at ih ⊢
        exact ih
      · simp only[if_neg q] at ih ⊢
        cases z:k==a with
        | true=>simp[List.lookup,z]
        | false=>simp only[List.lookup,z];exact ih
noncomputable def Bx (K:Frag) (C:Addr):Bool :=
  findIn K (.ref C) "__getattribute__" == some (some (.builtin "object.__getattribute__"))&&findIn K (.ref C) "__getattr__" == some none &&
  findIn K (.ref C) "__setattr__" == some (some (.builtin "object.__setattr__"))&&plainOver K C&&(clsIn K C).any (·.hasDict)&&makesIn K C &&
  findIn K (.ref C) "__bool__" == some none&&findIn K (.ref C) "__len__" == some none
noncomputable def toV:Value→Option V
  | .str x _=>some (.str x.cps.toList)
  | _=>none
theorem ce {α:Type} {b:Bool} {x y:α} (e:cond b (some x) none=some y):b=true∧x=y:=by
  cases b with
  | true=>exact ⟨rfl,oJ e⟩
  | false=>exact nn e
noncomputable def BG:List String:=["append", "extend", "pop", "index", "get", "items", "values", "update", "remove", "join", "len", "range", "sorted", "enumerate", "zip", "abs", "list", "dict", "set", "str", "int", "isinstance", "sum", "reversed", "tuple", "__init__"]
noncomputable def AR:List (Option Value):=[none,none,none,none,none,none,none,none,none,none,some (.builtin "len"),some (.type "range"),some (.builtin "sorted"),some (.type "enumerate"),some (.type "zip"),some (.builtin "abs"),some (.type "list"),some (.type "dict"),
  some (.type "set"),some (.type "str"),some (.type "int"),some (.builtin "isinstance"),some (.builtin "sum"),some (.type "reversed"),some (.type "tuple"),none]
structure Cx.Ok (c:Cx):Prop where
  std:∀ k s,BG[k]?=some s→c.nm k=Str.ofString s
  stdv:∀ k v,AR[k]?=some (some v)→c.gv k=some v
  low:(c.B.get? sysModules).isSome=true
  X:c.K.In c.B
  lim:c.B.NoLimit
  gl:∃ mg mb,c.B.Ns mainGlobals mg∧c.B.Ns builtinsNs mb∧∀ n v,c.gv n=some v→mg (c.nm n)=some v∨(mg (c.nm n)=none∧mb (c.nm n)=some v)
  inj:∀ n n',c.nm n=c.nm n'→n=n'
  code:∀ sc x,c.code sc=some x→CodeHd c.B x.1 x.2.1
  bm:∃ mg bm ob,c.B.Ns mainGlobals mg∧mg "__builtins__" = some (.ref bm)∧bm≠builtinsNs∧c.B.get? bm=some ob∧ob.cls=.type "module" ∧ ob.dict=some builtinsNs∧ob.data=.plain
  fld:∀ k n,c.fld k n=true→Bx c.K (c.cls k)=true∧findIn c.K (.ref (c.cls k)) (c.nm n)=some none
  meth:∀ k n f,c.meth k n=some f→Bx c.K (c.cls k)=true∧findIn c.K (.ref (c.cls k)) (c.nm n)=some (some (.ref f))∧typeIn c.K (.ref f)=some (.type "function")∧keepIn c.K (.ref f)=true
  catt:∀ k n v,c.catt k n=some v→Bx c.K (c.cls k)=true∧∃ rv,findIn c.K (.ref (c.cls k)) (c.nm n)=some (some rv)∧toV rv=some v∧specialIn c.K rv "__get__" = some none∧copiedNames.contains (c.nm n)=false∧handedIn rv=true
  stat:∀ k n f,c.stat k n=some f→Bx c.K (c.cls k)=true∧keepIn c.K (.ref f)=true∧specialIn c.K (.ref (c.cls k)) "__getattribute__" = some (some (.builtin "type.__getattribute__"))∧copiedNames.contains (c.nm n)=false∧∃ mc p rest,readsIn c.K (c.cls k) mc=true ∧
    findCls c.K (.ref (c.cls k)) mc (c.nm n)=some (.get (.builtin "staticmethod.__get__") (.ref p) .none (.ref (c.cls k)))∧recIn c.K p "staticmethod" = some (.ref f::rest) ∧
    findIn c.K (.ref (c.cls k)) (c.nm n)=some (some (.ref p))∧typeIn c.K (.ref p)=some (.type "staticmethod")∧specialIn c.K (.ref p) "__get__" = some (some (.builtin "staticmethod.__get__"))∧takesIn c.K (.ref p)=some false
  gi:∀ n i,c.gi n=some i→∃ t,c.gv n=some (.int i t)
noncomputable def D0 (c:Cx) (env:Env) (g:G) (h:H) (hp:Heap) (mm:Str→Option Value) (n:Nat) (v:V):Prop :=
  ∃ rv,Ai g h v rv∧((env.kindOf (c.nm n)=some .local∧mm (c.nm n)=some rv) ∨
    ((env.kindOf (c.nm n)=some .cell∨env.kindOf (c.nm n)=some .free)∧∃ a,env.cells.lookup (c.nm n)=some a∧g.slot a=none∧hp.IsCell a (some rv)))
noncomputable def ZD (c:Cx) (E:Addr→Prop) (env:Env) (hp:Heap) (n:Nat):Prop :=
  env.kindOf (c.nm n)=some .local∨(env.kindOf (c.nm n)=some .cell∧∃ a v₀,env.cells.lookup (c.nm n)=some a∧E a∧hp.IsCell a v₀)
structure Aw (c:Cx) (sc:Scope) (E:Addr→Prop) (env:Env) (g:G) (m:Loc) (h:H) (s:Shared):Prop where
  kind:env.scope.kind=.function
  glob:env.globals=mainGlobals
  bi:env.builtins=builtinsNs
  cd:∀ x,c.code sc=some x→env.code=.ref x.1
  kinds:∀ x k,sc.names.lookup x=some k→env.kindOf x=some k∨(k=.free∧env.kindOf x=some .cell)
  cinj:∀ x y a,env.cells.lookup x=some a→env.cells.lookup y=some a→x=y
  ex:∀ a,E a→g.slot a=none∧g.fz a=none∧(s.heap.get? a).isSome=true
  own:E env.locals
  vars:∃ mm,s.heap.Ns env.locals mm∧(∀ n v,m.rw.lookup n=some (some v)→D0 c env g h s.heap mm n v)∧(∀ n v,m.rw.lookup n=none→m.ro.lookup n=some v→D0 c env g h s.heap mm n v)
  has:∀ x,env.kindOf x=some .cell∨env.kindOf x=some .free→(env.cells.lookup x).isSome=true
  clt:∀ x a,env.cells.lookup x=some a→(s.heap.get? a).isSome=true
  sto:∀ n,(m.rw.lookup n).isSome=true→ZD c E env s.heap n
theorem Aw.ext {c:Cx} {sc:Scope} {E:Addr→Prop} {env:Env} {g g':G} {m:Loc} {h h':H} {s s':Shared} (V:Aw c sc E env g m h s) (x:Ext No g h s g' h' s'):Aw c sc E env g' m h' s':=by
  have kc:∀ {a v},g.slot a=none→s.heap.IsCell a v→s'.heap.IsCell a v:=fun n e=>xEA e fun o ho hd=>(iEA o (x.keep _ _ ho n (fun z=>z)) hd)
  have kv:∀ {mm n v},D0 c env g h s.heap mm n v→D0 c env g' h' s'.heap mm n v:=fun e=>by
    refine xEA e fun rv r q=>?_
    refine (iEA rv (Ai.mono x r) (q.imp id fun zz=>Qc zz fun k a e1 e2 e3=>(Jg k a e1 ?_ (kc e2 e3))))
    refine xEA e3 fun o ho _=>?_
    exact (x.slot a (by rw[ho];rfl)).trans e2
  refine BC V.vars fun mm zz4b v1 v2=>?_;refine D1 zz4b fun o es ep hL r=>?_
  refine ⟨V.kind,V.glob,V.bi,V.cd,V.kinds,V.cinj,fun a e=>?_,V.own,(Bj mm (El o es ep (x.keep _ _ hL (V.ex _ V.own).1 (fun z=>z)) r) (fun n v e=>kv (v1 n v e)) (fun n v z e=>kv (v2 n v z e))),V.has,fun x' a e=>x.alive _ (V.clt x' a e),fun n e=>(V.sto n e).imp id fun zz=>Ms zz fun k a v₀ e1 e2 e3=>(HX k a v₀ e1 e2 (kc (V.ex a e2).1 e3))⟩
  refine xAA (V.ex a e) fun e1 e2 e3=>?_
  exact (iAA ((x.slot a e3).trans e1) ((x.fzold a e3).trans e2) (x.alive a e3))
noncomputable def OkA (d:Nat) (A:Around):Prop:=A.handled=none∧A.depth+3*d+3<recursionLimit∧A.units+40*d+40<cLine
noncomputable abbrev NoE:Value→Shared→Prop:=fun _ _=>False
noncomputable abbrev EvP (c:Cx) (g:G) (h:H) (s:Shared) (Q:V→H→Prop):Value→Shared→Prop:=fun rv s'=>∃ g' h' v,Ext No g h s g' h' s'∧Rep c g' h' s'∧Ai g' h' v rv∧Q v h'
noncomputable abbrev AaH (c:Cx) (g:G) (h:H) (s:Shared) (Q:List V→H→Prop):List Value→Shared→Prop:=fun rv s'=>∃ g' h' v,Ext No g h s g' h' s'∧Rep c g' h' s'∧Ac g' h' v rv∧Q v h'
noncomputable abbrev BvP (c:Cx) (g:G) (h:H) (s:Shared) (Q:Bool→H→Prop):Bool→Shared→Prop:=fun b s'=>∃ g' h',Ext No g h s g' h' s'∧Rep c g' h' s'∧Q b h'
noncomputable def EvW (c:Cx) (A:Around) (t:Sem Value) (g:G) (h:H) (s:Shared) (Q:V→H→Prop):Prop :=
  wpAny (model c.prog c.w) A t (EvP c g h s Q) NoE s
noncomputable def T2 (c:Cx) (A:Around) (t:Sem (List Value)) (g:G) (h:H) (s:Shared) (Q:List V→H→Prop):Prop :=
  wpAny (model c.prog c.w) A t (AaH c g h s Q) NoE s
noncomputable def BvW (c:Cx) (A:Around) (t:Sem Bool) (g:G) (h:H) (s:Shared) (Q:Bool→H→Prop):Prop :=
  wpAny (model c.prog c.w) A t (BvP c g h s Q) NoE s
noncomputable def CE:Expr→Bool
  | .Call (.Name x _) _ _ _=>x != ("super" : Str)
  | _=>true
noncomputable def Jq:Expr→Bool
  | .Starred ..=>true
  | _=>false
noncomputable def LB:Expr→Option Str
  | .Name x _=>some x
  | _=>none
theorem Pp {e:Expr} {x:Str} (h:LB e=some x):∃ p,e=.Name x p:=by
  cases e<;>first | exact nn h | exact ⟨_,by rw[← oJ h]⟩
noncomputable def Bg (c:CxN) (ns:List Nat):List Expr→Bool
  | []=>ns.isEmpty
  | e::r=>match ns with
    | n::ns=>LB e==some (c.nm n)&&Bg c ns r
    | []=>false
noncomputable def AK (c:CxN) (one:Bool) (ns:List Nat):Expr→Bool
  | .Name x _=>one&&(match ns with | [n]=>c.nm n==x | _=>false)
  | .Tuple es _ _=>!one&&Bg c ns es
  | _=>false
noncomputable def B2 (sc:Scope) (x:Str):Bool:=sc.names.lookup x==some .globalImplicit
noncomputable def DL:Expr→Bool
  | .Slice ..=>true
  | _=>false
noncomputable def EX:Expr→Bool
  | .Set ..=>true
  | _=>false
noncomputable def HE (c:CxN) (sc scope:Scope) (tg own ro:List Nat):Bool :=
  scope.kind==.function&&(c.code scope).isNone&&!scope.isGenerator&&!scope.isCoroutine&&tg==own&&scope.names.all (fun p=>scope.names.lookup p.1==some p.2) &&
  own.all (fun n=>scope.names.lookup (c.nm n)==some .local || scope.names.lookup (c.nm n)==some .cell) &&
  ro.all (fun n=>scope.names.lookup (c.nm n)==some .free) &&
  scope.names.all (fun (x,k)=>match k with
    | .local=>x==(".0" : Str) || own.any (fun n=>c.nm n==x)
    | .cell=>own.any (fun n=>c.nm n==x)
    | .free=>ro.any (fun n=>c.nm n==x)&&(sc.names.lookup x==some .cell || sc.names.lookup x==some .free)
    | .globalImplicit=>true
    | _=>false)
noncomputable def EL:X→Bool
  | .none=>true
  | _=>false
noncomputable def IC (f:Expr→Bool) (b:Bool):Option Expr→Bool
  | some e=>f e
  | none=>b
structure PT where
  t:Nat
  a:Expr
  b:Expr
  d:Expr
  g:Expr
  l:List Expr
  m:List (Option Expr)
  u:Option Expr
  v:Option Expr
  w:Option Expr
  s:Str
  k:Const
  o:Operator
  c:CmpOp
  z:BoolOp
  f:Scope
  ks:List Keyword
  n:Nat
  p:Pos
  q:Pos
  y:Bool
noncomputable def p₀:Pos:=default
noncomputable def e₀:Expr:=.Name ⟨#[]⟩ p₀
noncomputable def f₀:Scope:=default
noncomputable def t₀:PT:=⟨0,e₀,e₀,e₀,e₀,[],[],none,none,none,⟨#[]⟩,.none,.Add,.Eq,.And,f₀,[],0,p₀,p₀,false⟩
noncomputable def AaF:UnaryOp→Expr→Pos→PT
  | .Not,x,p=>⟨8,x,e₀,e₀,e₀,[],[],none,none,none,⟨#[]⟩,.none,.Add,.Eq,.And,f₀,[],0,p,p₀,false⟩
  | .USub,.Constant k n q,p=>⟨2,e₀,e₀,e₀,e₀,[],[],none,none,none,⟨#[]⟩,k,.Add,.Eq,.And,f₀,[],n,p,q,false⟩
  | _,_,_=>t₀
noncomputable def X7:Expr→List CmpOp→List Expr→Pos→PT
  | l,[o],[r],p=>⟨6,l,r,e₀,e₀,[],[],none,none,none,⟨#[]⟩,.none,.Add,o,.And,f₀,[],0,p,p₀,false⟩
  | _,_,_,_=>t₀
noncomputable def YJ:Expr→Expr→Pos→PT
  | v,.Slice l u t q,p=>⟨11,v,e₀,e₀,e₀,[],[],l,u,t,⟨#[]⟩,.none,.Add,.Eq,.And,f₀,[],0,p,q,false⟩
  | v,j,p=>⟨10,v,j,e₀,e₀,[],[],none,none,none,⟨#[]⟩,.none,.Add,.Eq,.And,f₀,[],0,p,p₀,false⟩
noncomputable def Z3:Expr→List Comprehension→Scope→Pos→PT
  | a,[g],f,p=>cond (Int.beq' g.is_async 0) ⟨15,a,g.target,g.iter,e₀,g.ifs,[],none,none,none,⟨#[]⟩,.none,.Add,.Eq,.And,f,[],0,p,p₀,false⟩ t₀
  | _,_,_,_=>t₀
noncomputable def Aad:Expr→Expr→List Comprehension→Scope→Pos→PT
  | a,b,[g],f,p=>cond (Int.beq' g.is_async 0) ⟨16,a,b,g.target,g.iter,g.ifs,[],none,none,none,⟨#[]⟩,.none,.Add,.Eq,.And,f,[],0,p,p₀,false⟩ t₀
  | _,_,_,_,_=>t₀
noncomputable def UL:Expr→List Expr→List Keyword→Pos→PT
  | .Name x p,as,ks,q=>⟨17,e₀,e₀,e₀,e₀,as,[],none,none,none,x,.none,.Add,.Eq,.And,f₀,ks,0,p,q,false⟩
  | .Attribute o a p,as,ks,q=>⟨18,o,e₀,e₀,e₀,as,[],none,none,none,a,.none,.Add,.Eq,.And,f₀,ks,0,p,q,(p.endLine==q.line&&decide (as.length+ks.length<28))⟩
  | _,_,_,_=>t₀
noncomputable def pt:Expr→PT
  | .Constant k n p=>⟨1,e₀,e₀,e₀,e₀,[],[],none,none,none,⟨#[]⟩,k,.Add,.Eq,.And,f₀,[],n,p,p₀,false⟩
  | .UnaryOp o x p=>AaF o x p
  | .Name x p=>⟨3,e₀,e₀,e₀,e₀,[],[],none,none,none,x,.none,.Add,.Eq,.And,f₀,[],0,p,p₀,false⟩
  | .Attribute v a p=>⟨4,v,e₀,e₀,e₀,[],[],none,none,none,a,.none,.Add,.Eq,.And,f₀,[],0,p,p₀,false⟩
  | .BinOp l o r p=>⟨5,l,r,e₀,e₀,[],[],none,none,none,⟨#[]⟩,.none,o,.Eq,.And,f₀,[],0,p,p₀,false⟩
  | .Compare l os rs p=>X7 l os rs p
  | .BoolOp o es p=>⟨7,e₀,e₀,e₀,e₀,es,[],none,none,none,⟨#[]⟩,.none,.Add,.Eq,o,f₀,[],0,p,p₀,false⟩
  | .IfExp t a b p=>⟨9,t,a,b,e₀,[],[],none,none,none,⟨#[]⟩,.none,.Add,.Eq,.And,f₀,[],0,p,p₀,false⟩
  | .Subscript v j p=>YJ v j p
  | .List es p=>⟨12,e₀,e₀,e₀,e₀,es,[],none,none,none,⟨#[]⟩,.none,.Add,.Eq,.And,f₀,[],0,p,p₀,false⟩
  | .Tuple es n p=>⟨13,e₀,e₀,e₀,e₀,es,[],none,none,none,⟨#[]⟩,.none,.Add,.Eq,.And,f₀,[],n,p,p₀,false⟩
  | .Dict ks vs p=>⟨14,e₀,e₀,e₀,e₀,vs,ks,none,none,none,⟨#[]⟩,.none,.Add,.Eq,.And,f₀,[],0,p,p₀,false⟩
  | .ListComp a gs f p=>Z3 a gs f p
  | .DictComp a b gs f p=>Aad a b gs f p
  | .Call f as ks q=>UL f as ks q
  | _=>t₀
noncomputable def rbE (t:Nat) (x:PT) (e:Expr):Expr :=
  cond (Nat.beq t 0) e (cond (Nat.beq t 1) (.Constant x.k x.n x.p) (cond (Nat.beq t 2) (.UnaryOp .USub (.Constant x.k x.n x.q) x.p) (cond (Nat.beq t 3) (.Name x.s x.p)
  (cond (Nat.beq t 4) (.Attribute x.a x.s x.p) (cond (Nat.beq t 5) (.BinOp x.a x.o x.b x.p) (cond (Nat.beq t 6) (.Compare x.a [x.c] [x.b] x.p) (cond (Nat.beq t 7) (.BoolOp x.z x.l x.p)
  (cond (Nat.beq t 8) (.UnaryOp .Not x.a x.p) (cond (Nat.beq t 9) (.IfExp x.a x.b x.d x.p) (cond (Nat.beq t 10) (.Subscript x.a x.b x.p) (cond (Nat.beq t 11) (.Subscript x.a (.Slice x.u x.v x.w x.q) x.p)
  (cond (Nat.beq t 12) (.List x.l x.p) (cond (Nat.beq t 13) (.Tuple x.l x.n x.p) (cond (Nat.beq t 14) (.Dict x.m x.l x.p) (cond (Nat.beq t 15) (.ListComp x.a [⟨x.b,x.d,x.l,0⟩] x.f x.p)
  (cond (Nat.beq t 16) (.DictComp x.a x.b [⟨x.d,x.g,x.l,0⟩] x.f x.p) (cond (Nat.beq t 17) (.Call (.Name x.s x.p) x.l x.ks x.q) (.Call (.Attribute x.a x.s x.p) x.l x.ks x.q))))))))))))))))))
theorem WL (e:Expr):e=rbE (pt e).t (pt e) e:=by
  cases e with
  | UnaryOp o x p=>cases o with
    | USub=>cases x<;>rfl
    | _=>rfl
  | Compare l os rs p =>
    match os,rs with
    | [o],[r]=>rfl
    | [],_=>rfl
    | _::_::_,_=>rfl
    | [_],[]=>rfl
    | [_],_::_::_=>rfl
  | Subscript v j p=>cases j<;>rfl
  | ListComp a gs scope p =>
    match gs with
    | [⟨_,_,_,.ofNat 0⟩]=>rfl
    | [⟨_,_,_,.ofNat (_+1)⟩]=>rfl
    | [⟨_,_,_,.negSucc _⟩]=>rfl
    | []=>rfl
    | _::_::_=>rfl
  | DictComp a b gs scope p =>
    match gs with
    | [⟨_,_,_,.ofNat 0⟩]=>rfl
    | [⟨_,_,_,.ofNat (_+1)⟩]=>rfl
    | [⟨_,_,_,.negSucc _⟩]=>rfl
    | []=>rfl
    | _::_::_=>rfl
  | Call f as ks q=>cases f<;>rfl
  | _=>rfl
theorem AS {e:Expr} {n:Nat} (h:Nat.beq (pt e).t n=true):e=rbE n (pt e) e:=(WL e).trans (congrArg (rbE · (pt e) e) (eN h))
theorem Rv {x:X} (h:EL x=true):x=.none:=by cases x<;>first | rfl | exact absurd h fT
theorem Aa:∀ {a b:Bool},(a&&b)=true→a=true∧b=true
  | true,_,h=>⟨rfl,h⟩
theorem A9:∀ {a:Bool},(!a)=true→a=false
  | false,_=>rfl
theorem GI {α:Type}:∀ {l:List α},l.isEmpty=true→l=[]
  | [],_=>rfl
theorem K1 {x y:Str} (h:(x != y)=true):x≠y:=bne_iff_ne.mp h
mutual
noncomputable def ckE (c:CxN) (sc:Scope):X→Expr→Bool
  | .none,e=>Nat.beq (pt e).t 1&&(pt e).k==.none
  | .tt,e=>Nat.beq (pt e).t 1&&(pt e).k==.bool true
  | .ff,e=>Nat.beq (pt e).t 1&&(pt e).k==.bool false
  | .int i,e=>cond (Nat.beq (pt e).t 1) ((pt e).k==.int i) (Nat.beq (pt e).t 2&&(pt e).k==.int (-i))
  | .str s,e=>Nat.beq (pt e).t 1&&(pt e).k==.str ⟨s.toArray⟩
  | .loc n,e=>Nat.beq (pt e).t 3&&(c.nm n==(pt e).s&&((pt e).s != ("__debug__" : Str)&&(pt e).s != ("__classdict__" : Str)))
  | .gint n i,e=>Nat.beq (pt e).t 3&&(c.nm n==(pt e).s&&(B2 sc (pt e).s&&((pt e).s != ("__debug__" : Str)&&c.gi n==some i)))
  | .gref n,e=>Nat.beq (pt e).t 3&&(c.nm n==(pt e).s&&(B2 sc (pt e).s&&(pt e).s != ("__debug__" : Str)))
  | .attr x n,e=>Nat.beq (pt e).t 4&&(c.nm n==(pt e).s&&(CE (pt e).a&&ckE c sc x (pt e).a))
  | .bin op a b,e=>Nat.beq (pt e).t 5&&(op==(pt e).o&&(ckE c sc a (pt e).a&&ckE c sc b (pt e).b))
  | .cmp op a b,e=>Nat.beq (pt e).t 6&&(op==(pt e).c&&(ckE c sc a (pt e).a&&(ckE c sc b (pt e).b&&!behindInMarks op (pt e).b)))
  | .bop and xs,e=>Nat.beq (pt e).t 7&&((if and then .And else .Or)==(pt e).z&&(Bw c sc xs (pt e).l&&!xs.isEmpty))
  | .not x,e=>Nat.beq (pt e).t 8&&ckE c sc x (pt e).a
  | .ite t a b,e=>Nat.beq (pt e).t 9&&(ckE c sc t (pt e).a&&(ckE c sc a (pt e).b&&ckE c sc b (pt e).d))
  | .sub x i,e=>Nat.beq (pt e).t 10&&(ckE c sc x (pt e).a&&(ckE c sc i (pt e).b&&!DL (pt e).b))
  | .slc x lo hi st,e=>Nat.beq (pt e).t 11&&(ckE c sc x (pt e).a&&(IC (ckE c sc lo) (EL lo) (pt e).u&&(IC (ckE c sc hi) (EL hi) (pt e).v&&IC (ckE c sc st) (EL st) (pt e).w)))
  | .list xs,e=>Nat.beq (pt e).t 12&&Bw c sc xs (pt e).l
  | .tup xs,e=>Nat.beq (pt e).t 13&&Bw c sc xs (pt e).l
  | .dict ks vs,e=>Nat.beq (pt e).t 14&&(T4 c sc ks (pt e).m&&(Bw c sc vs (pt e).l&&(Nat.beq (pt e).m.length (pt e).l.length&&Nat.ble (pt e).m.length 15)))
  | .lcomp elt tg one src ifs own ro,e=>Nat.beq (pt e).t 15&&(AK c one tg (pt e).b&&(ckE c sc src (pt e).d&&(ckE c (pt e).f elt (pt e).a&&(Bw c (pt e).f ifs (pt e).l&&(HE c sc (pt e).f tg own ro&&!EX (pt e).d)))))
  | .dcomp k v tg one src own ro,e=>Nat.beq (pt e).t 16&&((pt e).l.isEmpty&&(AK c one tg (pt e).d&&(ckE c sc src (pt e).g&&(ckE c (pt e).f k (pt e).a&&(ckE c (pt e).f v (pt e).b&&(HE c sc (pt e).f tg own ro&&!EX (pt e).g))))))
  | .call f args kws,e=>Nat.beq (pt e).t 17&&(c.nm f==(pt e).s&&(B2 sc (pt e).s&&((pt e).s != ("__debug__" : Str)&&(Bw c sc args (pt e).l&&Gy c sc kws (pt e).ks))))
  | .meth x n args kws,e=>Nat.beq (pt e).t 18&&(c.nm n==(pt e).s&&(Nat.beq (pt e).p.endLine (pt e).q.line&&(Nat.blt ((pt e).l.length+(pt e).ks.length) 28&&(CE (pt e).a&&(ckE c sc x (pt e).a&&(Bw c sc args (pt e).l&&Gy c sc kws (pt e).ks))))))
  | .lcall f args,e=>Nat.beq (pt e).t 17&&(c.nm f==(pt e).s&&((pt e).ks.isEmpty&&((pt e).s != ("__debug__" : Str)&&((pt e).s != ("__classdict__" : Str)&&Bw c sc args (pt e).l))))
  | .bad,_=>true
termination_by structural x=>x
noncomputable def Bw (c:CxN) (sc:Scope):List X→List Expr→Bool
  | [],es=>es.isEmpty
  | x::xs,es=>match es with | e::es=>ckE c sc x e&&(!Jq e&&Bw c sc xs es) | []=>false
termination_by structural x=>x
noncomputable def T4 (c:CxN) (sc:Scope):List X→List (Option Expr)→Bool
  | [],es=>es.isEmpty
  | x::xs,es=>match es with | o::es=>IC (ckE c sc x) false o&&T4 c sc xs es | []=>false
termination_by structural x=>x
noncomputable def Gy (c:CxN) (sc:Scope):List (Nat × X)→List Keyword→Bool
  | [],es=>es.isEmpty
  | (n,x)::xs,es=>match es with | e::es=>e.arg==some (c.nm n)&&(ckE c sc x e.value&&Gy c sc xs es) | []=>false
termination_by structural x=>x
end
section
variable {c:CxN} {sc:Scope} {e:Expr}
theorem NF (h:ckE c sc (.none) e=true):∃ a b,e=.Constant .none a b:=by
  have z:=AS (Aa h).1
  exact (iEE _ _ (z.trans (congrArg (Expr.Constant · _ _) (eq_of_beq (Aa h).2))))
theorem Ug (h:ckE c sc (.tt) e=true):∃ a b,e=.Constant (.bool true) a b:=by
  exact (iEE _ _ ((AS (Aa h).1).trans (congrArg (Expr.Constant · _ _) (eq_of_beq (Aa h).2))))
theorem Y8 (h:ckE c sc (.ff) e=true):∃ a b,e=.Constant (.bool false) a b:=by
  exact (iEE _ _ ((AS (Aa h).1).trans (congrArg (Expr.Constant · _ _) (eq_of_beq (Aa h).2))))
theorem Xa {i:Int} (h:ckE c sc (.int i) e=true):(∃ a b,e=.Constant (.int i) a b)∨∃ j a b p,e=.UnaryOp .USub (.Constant (.int j) a b) p∧i=-j:=by
  have h:cond (Nat.beq (pt e).t 1) ((pt e).k==.int i) (Nat.beq (pt e).t 2&&(pt e).k==.int (-i))=true:=h
  cases q:Nat.beq (pt e).t 1 with
  | true=>rw[q] at h;exact .inl ⟨_,_,(AS q).trans (congrArg (Expr.Constant · _ _) (eq_of_beq h))⟩
  | false=>rw[q] at h;exact .inr (Ft (-i) _ _ _ ((AS (Aa h).1).trans (congrArg (fun k=>Expr.UnaryOp .USub (.Constant k _ _) _) (eq_of_beq (Aa h).2))) ((Int.neg_neg i).symm))
theorem VF {x:List Nat} (h:ckE c sc (.str x) e=true):∃ a b,e=.Constant (.str ⟨x.toArray⟩) a b:=by
  exact (iEE _ _ ((AS (Aa h).1).trans (congrArg (Expr.Constant · _ _) (eq_of_beq (Aa h).2))))
theorem P8 {n:Nat} (h:ckE c sc (.loc n) e=true):∃ p,e=.Name (c.nm n) p∧c.nm n≠("__debug__" : Str)∧c.nm n≠("__classdict__" : Str):=by
  refine Ad h fun h0 h=>?_
  refine Ad h fun h1 h=>?_
  rw[← eq_of_beq h1] at h
  exact (Bj _ ((AS h0).trans (congrArg (Expr.Name · _) (eq_of_beq h1).symm)) (K1 (Aa h).1) (K1 (Aa h).2))
theorem Sr {n:Nat} {i:Int} (h:ckE c sc (.gint n i) e=true):∃ p,e=.Name (c.nm n) p∧B2 sc (c.nm n)=true∧c.nm n≠("__debug__" : Str)∧c.gi n=some i:=by
  refine Ad h fun h0 h=>?_
  refine Ad h fun h1 h=>?_
  rw[← eq_of_beq h1] at h
  refine Ad h fun h2 h=>?_
  exact ⟨_,(AS h0).trans (congrArg (Expr.Name · _) (eq_of_beq h1).symm),h2,K1 (Aa h).1,eq_of_beq (Aa h).2⟩
theorem RT {n:Nat} (h:ckE c sc (.gref n) e=true):∃ p,e=.Name (c.nm n) p∧B2 sc (c.nm n)=true∧c.nm n≠("__debug__" : Str):=by
  refine Ad h fun h0 h=>?_
  refine Ad h fun h1 h=>?_
  rw[← eq_of_beq h1] at h
  exact (Bj _ ((AS h0).trans (congrArg (Expr.Name · _) (eq_of_beq h1).symm)) ((Aa h).1) (K1 (Aa h).2))
theorem JO {x:X} {n:Nat} (h:ckE c sc (.attr x n) e=true):∃ v p,e=.Attribute v (c.nm n) p∧CE v=true∧ckE c sc x v=true:=by
  refine Ad h fun h0 h=>?_
  exact (Ff _ _ ((AS h0).trans (congrArg (Expr.Attribute _ · _) (eq_of_beq (Aa h).1).symm)) (Aa (Aa h).2))
theorem W5 {op:Operator} {a b:X} (h:ckE c sc (.bin op a b) e=true):∃ l r p,e=.BinOp l op r p∧ckE c sc a l=true∧ckE c sc b r=true:=by
  refine Ad h fun h0 h=>?_
  exact (El _ _ _ ((AS h0).trans (congrArg (Expr.BinOp _ · _ _) (eq_of_beq (Aa h).1).symm)) (Aa (Aa h).2))
theorem PP {op:CmpOp} {a b:X} (h:ckE c sc (.cmp op a b) e=true):∃ l r p,e=.Compare l [op] [r] p∧ckE c sc a l=true∧ckE c sc b r=true∧behindInMarks op r=false:=by
  refine Ad h fun h0 h=>?_
  refine Ad h fun h1 h=>?_
  refine Ad h fun h2 h=>?_
  exact (Ab _ _ _ ((AS h0).trans (congrArg (fun o=>Expr.Compare _ [o] _ _) (eq_of_beq h1).symm)) h2 ((Aa h).1) (A9 (Aa h).2))
theorem Qj {and:Bool} {xs:List X} (h:ckE c sc (.bop and xs) e=true):∃ es p,e=.BoolOp (if and then .And else .Or) es p∧Bw c sc xs es=true∧xs≠[]:=by
  refine Ad h fun h0 h=>?_
  refine Ad h fun h1 h=>?_
  exact (Al _ _ ((AS h0).trans (congrArg (Expr.BoolOp · _ _) (eq_of_beq h1).symm)) ((Aa h).1) (fun q=>absurd (A9 (Aa h).2) (by rw[q];exact Bool.noConfusion)))
theorem QY {x:X} (h:ckE c sc (.not x) e=true):∃ v p,e=.UnaryOp .Not v p∧ckE c sc x v=true:=(Ff _ _ (AS (Aa h).1) ((Aa h).2))
theorem Wo {t a b:X} (h:ckE c sc (.ite t a b) e=true):∃ u l r p,e=.IfExp u l r p∧ckE c sc t u=true∧ckE c sc a l=true∧ckE c sc b r=true:=by
  refine Ad h fun h0 h=>?_
  exact (FS _ _ _ _ (AS h0) ((Aa h).1) (Aa (Aa h).2))
theorem Pd {x i:X} (h:ckE c sc (.sub x i) e=true):∃ v j p,e=.Subscript v j p∧ckE c sc x v=true∧ckE c sc i j=true∧DL j=false:=by
  refine Ad h fun h0 h=>?_
  refine Ad h fun h1 h=>?_
  exact (Ab _ _ _ (AS h0) h1 ((Aa h).1) (A9 (Aa h).2))
theorem Vb {x lo hi st:X} (h:ckE c sc (.slc x lo hi st) e=true):∃ v l u t p p',e=.Subscript v (.Slice l u t p') p∧ckE c sc x v=true∧IC (ckE c sc lo) (EL lo) l=true∧IC (ckE c sc hi) (EL hi) u=true∧IC (ckE c sc st) (EL st) t=true:=by
  refine Ad h fun h0 h=>?_
  refine Ad h fun h1 h=>?_
  exact ⟨_,_,_,_,_,_,AS h0,h1,(Aa h).1,Aa (Aa h).2⟩
theorem Sc {xs:List X} (h:ckE c sc (.list xs) e=true):∃ es p,e=.List es p∧Bw c sc xs es=true:=(Ff _ _ (AS (Aa h).1) ((Aa h).2))
theorem Xm {xs:List X} (h:ckE c sc (.tup xs) e=true):∃ es k p,e=.Tuple es k p∧Bw c sc xs es=true:=(El _ _ _ (AS (Aa h).1) ((Aa h).2))
theorem TF {ks vs:List X} (h:ckE c sc (.dict ks vs) e=true):∃ es fs p,e=.Dict es fs p∧T4 c sc ks es=true∧Bw c sc vs fs=true∧es.length=fs.length∧es.length≤15:=by
  refine Ad h fun h0 h=>?_
  refine Ad h fun h1 h=>?_
  refine Ad h fun h2 h=>?_
  exact (Ek _ _ _ (AS h0) h1 h2 (eN (Aa h).1) (lB (Aa h).2))
theorem K8 {elt:X} {tg one src ifs own ro} (h:ckE c sc (.lcomp elt tg one src ifs own ro) e=true):∃ a t it fs scope p,e=.ListComp a [⟨t,it,fs,0⟩] scope p ∧
    AK c one tg t=true∧ckE c sc src it=true∧ckE c scope elt a=true∧Bw c scope ifs fs=true∧HE c sc scope tg own ro=true∧EX it=false:=by
  refine Ad h fun h0 h=>?_
  refine Ad h fun h1 h=>?_
  refine Ad h fun h2 h=>?_
  refine Ad h fun h3 h=>?_
  refine Ad h fun h4 h=>?_
  exact (EU _ _ _ _ _ _ (AS h0) h1 h2 h3 h4 ((Aa h).1) (A9 (Aa h).2))
theorem Lb {k v:X} {tg one src own ro} (h:ckE c sc (.dcomp k v tg one src own ro) e=true):∃ a b t it scope p,e=.DictComp a b [⟨t,it,[],0⟩] scope p ∧
    AK c one tg t=true∧ckE c sc src it=true∧ckE c scope k a=true∧ckE c scope v b=true∧HE c sc scope tg own ro=true∧EX it=false:=by
  refine Ad h fun h0 h=>?_
  refine Ad h fun h9 h=>?_
  refine Ad h fun h1 h=>?_
  refine Ad h fun h2 h=>?_
  refine Ad h fun h3 h=>?_
  refine Ad h fun h4 h=>?_
  exact (EU _ _ _ _ _ _ ((AS h0).trans (congrArg (fun l=>Expr.DictComp _ _ [⟨_,_,l,0⟩] _ _) (GI h9))) h1 h2 h3 h4 ((Aa h).1) (A9 (Aa h).2))
theorem MO {f:Nat} {args kws} (h:ckE c sc (.call f args kws) e=true):∃ as ks p q,e=.Call (.Name (c.nm f) p) as ks q∧B2 sc (c.nm f)=true∧c.nm f≠("__debug__" : Str)∧Bw c sc args as=true∧Gy c sc kws ks=true:=by
  refine Ad h fun h0 h=>?_
  refine Ad h fun h1 h=>?_
  rw[← eq_of_beq h1] at h
  refine Ad h fun h2 h=>?_
  exact (Ez _ _ _ _ ((AS h0).trans (congrArg (fun x=>Expr.Call (.Name x _) _ _ _) (eq_of_beq h1).symm)) h2 (K1 (Aa h).1) (Aa (Aa h).2))
theorem Kl {f:Nat} {args kws} {p:Prop} (h:ckE c sc (.call f args kws) e=true) (k:∀ as ks p1 q,e=.Call (.Name (c.nm f) p1) as ks q→B2 sc (c.nm f)=true→c.nm f≠("__debug__" : Str)→Bw c sc args as=true→Gy c sc kws ks=true→p):p:=BX (MO h) k
theorem MN {x:X} {n:Nat} {args kws} (h:ckE c sc (.meth x n args kws) e=true):∃ o as ks p q,e=.Call (.Attribute o (c.nm n) p) as ks q∧(p.endLine=q.line∧as.length+ks.length<28)∧CE o=true∧ckE c sc x o=true∧Bw c sc args as=true∧Gy c sc kws ks=true:=by
  refine Ad h fun h0 h=>?_
  refine Ad h fun h1 h=>?_
  refine Ad h fun h2 h=>?_
  refine Ad h fun h3 h=>?_
  refine Ad h fun h4 h=>?_
  refine Ad h fun h5 h=>?_
  exact (Hm _ _ _ _ _ ((AS h0).trans (congrArg (fun x=>Expr.Call (.Attribute _ x _) _ _ _) (eq_of_beq h1).symm)) ⟨eN h2,lB h3⟩ h4 h5 (Aa h))
theorem Ed {es:List Expr} (h:Bw c sc [] es=true):es=[]:=GI h
theorem S7 {x:X} {xs:List X}:∀ {es:List Expr},Bw c sc (x::xs) es=true→∃ e r,es=e::r∧ckE c sc x e=true∧Jq e=false∧Bw c sc xs r=true
  | e::r,h=>(Fn e r rfl ((Aa h).1) (A9 (Aa (Aa h).2).1) ((Aa (Aa h).2).2))
theorem DO {x:X} {xs:List X} {es:List Expr} {p:Prop} (h:Bw c sc (x::xs) es=true) (k:∀ e r,es=e::r→ckE c sc x e=true→Jq e=false→Bw c sc xs r=true→p):p:=O2 (S7 h) k
theorem YZ {x:X}:∀ {o:Option Expr},IC (ckE c sc x) (EL x) o=true→(x=.none∧o=none)∨∃ e,o=some e∧ckE c sc x e=true
  | some e,h=>.inr ⟨_,rfl,h⟩
  | none,h=>.inl ⟨Rv h,rfl⟩
theorem Sx {es:List (Option Expr)} (h:T4 c sc [] es=true):es=[]:=GI h
theorem FD {es:List Keyword} (h:Gy c sc [] es=true):es=[]:=GI h
theorem Ll {n:Nat} {x:X} {xs:List (Nat × X)}:∀ {es:List Keyword},Gy c sc ((n,x)::xs) es=true→∃ e p r,es=⟨some (c.nm n),e,p⟩::r∧ckE c sc x e=true∧Gy c sc xs r=true
  | ⟨y,e,p⟩::r,h=>(El e p r (congrArg (fun y=>(⟨y,e,p⟩:Keyword)::r) (eq_of_beq (Aa h).1)) (Aa (Aa h).2))
end
section
variable (c:Cx)
noncomputable def E (d:Nat) (x:X) (m:Loc) (h:H) (Q:V→H→Prop):Prop :=
  ∀ sc e,ckE c.N sc x e=true→∀ A env F g s,OkA d A→Aw c sc F env g m h s→Rep c g h s→EvW c A (eval e env) g h s Q
noncomputable def Bt (d:Nat) (x:X) (m:Loc) (h:H) (Q:Bool→H→Prop):Prop :=
  ∀ sc e,ckE c.N sc x e=true→∀ A env F g s,OkA d A→Aw c sc F env g m h s→Rep c g h s→BvW c A (isTrue e env (eval e env)) g h s Q
noncomputable def Es (d:Nat) (xs:List X) (m:Loc) (h:H) (Q:List V→H→Prop):Prop :=
  ∀ sc es,Bw c.N sc xs es=true→∀ A env F g s pos,OkA d A→Aw c sc F env g m h s→Rep c g h s→T2 c A (spliced (backTo pos (starEach es env))) g h s Q
noncomputable def OpW (f:Value→Value→Sem Value) (a b:V) (h:H) (Q:V→H→Prop):Prop :=
  ∀ d A g s ra rb,OkA d A→Rep c g h s→Ai g h a ra→Ai g h b rb→EvW c A (f ra rb) g h s Q
noncomputable def TrW (a:V) (h:H) (Q:Bool→H→Prop):Prop :=
  ∀ d A g s ra,OkA d A→Rep c g h s→Ai g h a ra→BvW c A (truthy ra) g h s Q
end
theorem OkA.down {d d':Nat} {A:Around} (x:OkA d A) (h:d'≤d):OkA d' A:=(iAA x.1 (by have:=x.2.1;exact q23 h this) (by have:=x.2.2;exact q24 h this))
section
variable {c:Cx} {d:Nat} {m:Loc} {h:H} {A:Around} {g:G} {s:Shared}
theorem EvW.mono {t:Sem Value} {Q Q':V→H→Prop} (x:EvW c A t g h s Q) (k:∀ v h',Q v h'→Q' v h'):EvW c A t g h s Q' :=
  wpAny_mono x (fun _ _ zy54a=>AW zy54a fun g' h' v e1 e2 e3 e4=>(Ab g' h' v e1 e2 e3 (k _ _ e4))) fun _ _ e=>e
theorem EvW.use {t:Sem Value} {Q:V→H→Prop} {P:Value→Shared→Prop} (x:EvW c A t g h s Q) (k:∀ rv s' g' h' v,Ext No g h s g' h' s'→Rep c g' h' s'→Ai g' h' v rv→Q v h'→P rv s') :
    wpAny (model c.prog c.w) A t P NoE s:=wpAny_mono x (fun rv s' zy55a=>AW zy55a fun g' h' v e1 e2 e3 e4=>k rv s' g' h' v e1 e2 e3 e4) fun _ _ e=>e
theorem T2.use {t:Sem (List Value)} {Q:List V→H→Prop} {P:List Value→Shared→Prop} (x:T2 c A t g h s Q) (k:∀ rv s' g' h' v,Ext No g h s g' h' s'→Rep c g' h' s'→Ac g' h' v rv→Q v h'→P rv s') :
    wpAny (model c.prog c.w) A t P NoE s:=wpAny_mono x (fun rv s' zy56a=>AW zy56a fun g' h' v e1 e2 e3 e4=>k rv s' g' h' v e1 e2 e3 e4) fun _ _ e=>e
theorem BvW.use {t:Sem Bool} {Q:Bool→H→Prop} {P:Bool→Shared→Prop} (x:BvW c A t g h s Q) (k:∀ b s' g' h',Ext No g h s g' h' s'→Rep c g' h' s'→Q b h'→P b s') :
    wpAny (model c.prog c.w) A t P NoE s:=wpAny_mono x (fun rv s' zy57a=>Au zy57a fun g' h' e1 e2 e4=>k rv s' g' h' e1 e2 e4) fun _ _ e=>e
theorem EvW.from {g₀:G} {h₀:H} {s₀:Shared} {t:Sem Value} {Q:V→H→Prop} (e:Ext No g₀ h₀ s₀ g h s) (x:EvW c A t g h s Q) :
    wpAny (model c.prog c.w) A t (EvP c g₀ h₀ s₀ Q) NoE s :=
  x.use fun _ _ g' h' v e1 e2 e3 e4=>(Ab g' h' v (e.trans e1) e2 e3 e4)
theorem BvW.from {g₀:G} {h₀:H} {s₀:Shared} {t:Sem Bool} {Q:Bool→H→Prop} (e:Ext No g₀ h₀ s₀ g h s) (x:BvW c A t g h s Q) :
    wpAny (model c.prog c.w) A t (BvP c g₀ h₀ s₀ Q) NoE s :=
  x.use fun _ _ g' h' e1 e2 e4=>(Al g' h' (e.trans e1) e2 e4)
theorem EvW.fin {rv:Value} {v:V} {Q:V→H→Prop} {tk:Nat} (R:Rep c g h s) (r:Ai g h v rv) (q:Q v h) :
    EvP c g h s Q rv { s with toks:=tk }:=(Ab g h v Ext.toks R.toks r q)
theorem PN {s:List Nat} {t:Tok}:Ai g h (.str s) (.str ⟨s.toArray⟩ t):=by exact ⟨t,rfl⟩
theorem DE {i:Int} {t:Tok}:Ai g h (.int i) (.int i t):=by exact ⟨t,rfl⟩
theorem A7 {b:Bool}:Ai g h (.bool b) (.bool b):=by rfl
theorem DJ:Ai g h .none .none:=by rfl
theorem BU {Q:V→H→Prop} (q:Q .none h):E c d .none m h Q:=by
  intro sc e ck A env F g s hA V R
  refine xEE (NF ck) fun _ _ zz58c=>?_;obtain rfl:=zz58c
  exact wpAny_pure (Ab g h _ Ext.refl R DJ q)
theorem UU {Q:V→H→Prop} (q:Q (.bool true) h):E c d .tt m h Q:=by
  intro sc e ck A env F g s hA V R
  refine xEE (Ug ck) fun _ _ zz59c=>?_;obtain rfl:=zz59c
  exact wpAny_pure (Ab g h _ Ext.refl R A7 q)
theorem AaM {Q:V→H→Prop} (q:Q (.bool false) h):E c d .ff m h Q:=by
  intro sc e ck A env F g s hA V R
  refine xEE (Y8 ck) fun _ _ zz60c=>?_;obtain rfl:=zz60c
  exact wpAny_pure (Ab g h _ Ext.refl R A7 q)
theorem Uf {x:List Nat} {Q:V→H→Prop} (q:Q (.str x) h):E c d (.str x) m h Q:=by
  intro sc e ck A env F g s hA V R
  refine xEE (VF ck) fun _ _ zz61c=>?_;obtain rfl:=zz61c
  exact wpAny_mkText (EvW.fin R PN q)
theorem En {i:Int} {Q:V→H→Prop} (q:Q (.int i) h):E c d (.int i) m h Q:=by
  intro sc e ck A env F g s hA V R
  rcases Xa ck with ⟨_,_,rfl⟩ | ⟨j,_,_,_,rfl,rfl⟩
  · exact wpAny_mkInt (EvW.fin R DE q)
  · exact wpAny_UnaryOp (wpAny_mkInt (neg_int (Ab g h _ Ext.toks R.toks DE q)))
theorem GM {n:Nat} {v:V} {Q:V→H→Prop} (hv:m.get n=some v) (q:Q v h):E c d (.loc n) m h Q:=by
  intro sc e ck A env F g s hA V R
  refine BC (P8 ck) fun pos zz62b hd hcd=>?_;obtain rfl:=zz62b
  refine BC V.vars fun mm hns v1 v2=>?_
  have key:D0 c env g h s.heap mm n v:=by
    unfold Loc.get at hv
    cases z:m.rw.lookup n with
    | some o=>rw[z] at hv;dsimp only at hv;subst hv;exact v1 n v z
    | none=>rw[z] at hv;exact v2 n v z hv
  refine xEA key fun rv r k=>?_
  have fin:EvP c g h s Q rv s:=(Ab g h v Ext.refl R r q)
  refine wpAny_Name ?_ (beq_eq_false_iff_ne.mpr hd)
  rcases k with ⟨k1,k2⟩ | ⟨k1 | k1,a,k2,_,k3⟩
  · exact wpAny_loadName_local V.kind k1 hns k2 fin
  · exact wpAny_loadName_cell V.kind k1 k2 k3 fin
  · exact wpAny_loadName_free V.kind k1 k2 k3 fin (beq_eq_false_iff_ne.mpr hcd)
theorem CF (O:c.Ok) {sc:Scope} {F:Addr→Prop} {env:Env} {n:Nat} {v:Value} {pos:Pos} {P:Value→Shared→Prop} (V:Aw c sc F env g m h s) (R:Rep c g h s)
    (hg:B2 sc (c.nm n)=true) (hd:c.nm n≠("__debug__" : Str)) (hv:c.gv n=some v) (q:P v s):wpAny (model c.prog c.w) A (eval (.Name (c.nm n) pos) env) P NoE s:=by
  refine Au O.gl fun mg mb h1 h2 h3=>?_
  have hk:env.kindOf (c.nm n)=some .globalImplicit:=by
    rcases V.kinds _ _ (beq_iff_eq.mp hg) with e | ⟨e,_⟩
    · exact e
    · injection e
  have a1:s.heap.Ns env.globals mg:=by rw[V.glob];exact h1.keeps R.keepsB
  have a2:s.heap.Ns env.builtins mb:=by rw[V.bi];exact h2.keeps R.keepsB
  rcases h3 n v hv with e | ⟨e1,e2⟩
  · exact Name_function_global V.kind hk (loadGlobal_global a1 e q) (beq_eq_false_iff_ne.mpr hd)
  · exact Name_function_global V.kind hk (loadGlobal_builtin a1 e1 a2 e2 q) (beq_eq_false_iff_ne.mpr hd)
theorem Vm (O:c.Ok) {n:Nat} {i:Int} {Q:V→H→Prop} (q:Q (.int i) h):E c d (.gint n i) m h Q:=by
  intro sc e ck A env F g s hA V R
  refine Dh (Sr ck) fun p zz66c hg hd hj=>?_;obtain rfl:=zz66c
  refine xE (O.gi _ _ hj) fun t hj=>?_
  exact CF O V R hg hd hj (Ab g h _ Ext.refl R DE q)
theorem UZ (O:c.Ok) {n:Nat} {v:Value} {Q:V→H→Prop} (hv:c.gv n=some v) (hh:handedIn v=true) (q:Q (.raw v) h):E c d (.gref n) m h Q:=by
  intro sc e ck A env F g s hA V R
  refine BC (RT ck) fun p zz67b hg hd=>?_;obtain rfl:=zz67b
  exact CF O V R hg hd hv (Ab g h _ Ext.refl R (by exact ⟨rfl,hh⟩) q)
theorem NL {op:Operator} {a b:X} {Q:V→H→Prop} (p:E c d a m h fun va h₁=>E c d b m h₁ fun vb h₂=>OpW c (binaryOp op) va vb h₂ Q):E c d (.bin op a b) m h Q:=by
  intro sc e ck A env F g s hA V R
  refine Be (W5 ck) fun l r pos zz68d c1 c2=>?_;obtain rfl:=zz68d
  refine wpAny_BinOp ((p _ _ c1 _ _ _ _ _ hA V R).use fun ra s₁ g₁ h₁ va e1 R1 r1 p1=>?_)
  refine (p1 _ _ c2 _ _ _ _ _ hA (V.ext e1) R1).use fun rb s₂ g₂ h₂ vb e2 R2 r2 p2=>?_
  exact (p2 _ _ _ _ _ _ hA R2 (Ai.mono e2 r1) r2).from (e1.trans e2)
theorem Zs {op:CmpOp} {a b:X} {Q:V→H→Prop} (p:E c d a m h fun va h₁=>E c d b m h₁ fun vb h₂=>OpW c (compareOp op) va vb h₂ Q):E c d (.cmp op a b) m h Q:=by
  intro sc e ck A env F g s hA V R
  refine AW (PP ck) fun l r pos zz69d c1 c2 c3=>?_;obtain rfl:=zz69d
  refine wpAny_Compare1 ((p _ _ c1 _ _ _ _ _ hA V R).use fun ra s₁ g₁ h₁ va e1 R1 r1 p1=>?_) c3
  refine (p1 _ _ c2 _ _ _ _ _ hA (V.ext e1) R1).use fun rb s₂ g₂ h₂ vb e2 R2 r2 p2=>?_
  exact (p2 _ _ _ _ _ _ hA R2 (Ai.mono e2 r1) r2).from (e1.trans e2)
end
end
section
noncomputable abbrev CdP (c:Cx) (g:G) (h:H) (s:Shared) (Q:V→H→Prop):Result→Shared→Prop:=fun r s'=>∃ rv g' h' v,r=.ok (.ret rv)∧Ext No g h s g' h' s'∧Rep c g' h' s'∧Ai g' h' v rv∧Q v h'
noncomputable def CdW (c:Cx) (A:Around) (t:Code) (g:G) (h:H) (s:Shared) (Q:V→H→Prop):Prop :=
  codeAny (model c.prog c.w) A t (CdP c g h s Q) s
theorem CdW.mono {c:Cx} {A:Around} {t:Code} {g:G} {h:H} {s:Shared} {Q Q':V→H→Prop} (x:CdW c A t g h s Q) (k:∀ v h',Q v h'→Q' v h'):CdW c A t g h s Q' :=
  codeAny_mono x fun r s' zy1a=>BX zy1a fun rv g' h' v e0 e1 e2 e3 e4=>(An rv g' h' v e0 e1 e2 e3 (k _ _ e4))
theorem CdW.ev {c:Cx} {A:Around} {g:G} {h:H} {s:Shared} {Q:V→H→Prop} {f:Value} {vs:List Value} {kw:List (Str × Value)} (x:CdW c A (.call f ⟨vs,kw⟩) g h s Q):EvW c A (call f vs kw) g h s Q :=
  wpAny_call (codeAny_mono x fun r s' zy2a=>BX zy2a fun rv g' h' v e0 e1 e2 e3 e4=>by subst e0;exact (Ab g' h' v e1 e2 e3 e4))
noncomputable def A0 (c:Cx) (d:Nat) (fa:Addr) (vs:List V) (ns:List Nat) (ks:List V) (h:H) (Q:V→H→Prop):Prop :=
  ∀ A g s rvs rks,OkA d A→Rep c g h s→Ac g h vs rvs→Ac g h ks rks→CdW c A (.call (.ref fa) ⟨rvs,(ns.map c.nm).zip rks⟩) g h s Q
noncomputable def Ks (c:Cx) (d:Nat) (xs:List (Nat × X)) (m:Loc) (h:H) (Q:List V→H→Prop):Prop :=
  ∀ sc es,Gy c.N sc xs es=true→∀ A env F g s pos,OkA d A→Aw c sc F env g m h s→Rep c g h s→T2 c A (evalAll ((backToKw pos (keywordEach es env)).map (·.2))) g h s Q
section
variable {c:Cx} {d:Nat} {m:Loc} {h:H} {A:Around} {g:G} {s:Shared}
theorem E.mono {x:X} {Q Q':V→H→Prop} (p:E c d x m h Q) (k:∀ v h',Q v h'→Q' v h'):E c d x m h Q':=fun sc e ck A env F g s hA V R=>(p sc e ck A env F g s hA V R).mono k
theorem Bt.mono {x:X} {Q Q':Bool→H→Prop} (p:Bt c d x m h Q) (k:∀ v h',Q v h'→Q' v h'):Bt c d x m h Q':=fun sc e ck A env F g s hA V R =>
  (p sc e ck A env F g s hA V R).use fun _ _ g' h' e1 e2 e4=>(Al g' h' e1 e2 (k _ _ e4))
theorem Es.mono {x:List X} {Q Q':List V→H→Prop} (p:Es c d x m h Q) (k:∀ v h',Q v h'→Q' v h'):Es c d x m h Q':=fun sc e ck A env F g s pos hA V R =>
  (p sc e ck A env F g s pos hA V R).use fun _ _ g' h' v e1 e2 e3 e4=>(Ab g' h' v e1 e2 e3 (k _ _ e4))
theorem Ks.mono {x:List (Nat × X)} {Q Q':List V→H→Prop} (p:Ks c d x m h Q) (k:∀ v h',Q v h'→Q' v h'):Ks c d x m h Q':=fun sc e ck A env F g s pos hA V R =>
  (p sc e ck A env F g s pos hA V R).use fun _ _ g' h' v e1 e2 e3 e4=>(Ab g' h' v e1 e2 e3 (k _ _ e4))
theorem A0.mono {fa:Addr} {vs:List V} {ns:List Nat} {ks:List V} {Q Q':V→H→Prop} (p:A0 c d fa vs ns ks h Q) (k:∀ v h',Q v h'→Q' v h'):A0 c d fa vs ns ks h Q' :=
  fun A g s rvs rks hA R r1 r2=>(p A g s rvs rks hA R r1 r2).mono k
theorem AT {e:Expr} {r:List Expr} {env:Env} (he:Jq e=false):starEach (e::r) env=(false,eval e env)::starEach r env:=by
  cases e<;>first | rfl | exact ff he.symm
theorem Ge:∀ {sc:Scope} {xs:List X} {es:List Expr} {env:Env} {pos:Pos},Bw c.N sc xs es=true→(backTo pos (starEach es env)).any (·.1)=false:=by
  intro sc zl;induction zl generalizing sc with
  | nil =>
    intro es env pos ck
    rw[Ed ck];rfl
  | cons x xs ih =>
    intro es env pos ck
    refine DO ck fun e r zz3c c1 c2 c3=>?_;obtain rfl:=zz3c
    rw[AT c2]
    show (false || (backTo pos (starEach r env)).any (·.1))=false
    rw[ih c3];rfl
theorem Ih:∀ {sc:Scope} {xs:List (Nat × X)} {es:List Keyword} {env:Env} {pos:Pos},Gy c.N sc xs es=true →
    (backToKw pos (keywordEach es env)).filterMap (·.1)=xs.map (fun x=>c.nm x.1)∧(backToKw pos (keywordEach es env)).all (·.1.isSome)=true∧(backToKw pos (keywordEach es env)).any (·.1.isNone)=false:=by
  intro sc zl;induction zl generalizing sc with
  | nil =>
    intro es env pos ck
    rw[FD ck];exact ⟨rfl,rfl,rfl⟩
  | cons zq xs ih =>
    obtain ⟨n,x⟩:=zq
    intro es env pos ck
    refine Be (Ll ck) fun e p r zz4d c1 c2=>?_;obtain rfl:=zz4d
    refine xAA (ih (env:=env) (pos:=pos) c2) fun i1 i2 i3=>?_
    refine (iAA ?_ ?_ ?_)
    · show c.nm n::(backToKw pos (keywordEach r env)).filterMap (·.1)=_
      rw[i1];rfl
    · show (true&&(backToKw pos (keywordEach r env)).all (·.1.isSome))=true
      rw[i2];rfl
    · show (false || (backToKw pos (keywordEach r env)).any (·.1.isNone))=false
      rw[i3];rfl
theorem BT {Q:List V→H→Prop} (q:Q [] h):Es c d [] m h Q:=by
  intro sc es ck A env F g s pos hA V R
  rw[Ed ck]
  exact Calls.spliced_nil (Ab g h ([]) Ext.refl R (by rfl) q)
theorem A2 {x:X} {xs:List X} {Q:List V→H→Prop} (p:E c d x m h fun v h₁=>Es c d xs m h₁ fun vs h₂=>Q (v::vs) h₂):Es c d (x::xs) m h Q:=by
  intro sc es ck A env F g s pos hA V R
  refine DO ck fun e r zz6c c1 c2 c3=>?_;obtain rfl:=zz6c
  rw[AT c2]
  refine spliced_cons ((p _ _ c1 _ _ _ _ _ hA V R).use fun rv s₁ g₁ h₁ v e1 R1 r1 p1=>?_)
  refine (p1 _ _ c3 _ _ _ _ _ _ hA (V.ext e1) R1).use fun rvs s₂ g₂ h₂ vs e2 R2 r2 p2=>?_
  exact (Ab g₂ h₂ (v::vs) (e1.trans e2) R2 (by exact (Al rv rvs rfl (Ai.mono e2 r1) r2)) p2)
theorem Ke {Q:List V→H→Prop} (q:Q [] h):Ks c d [] m h Q:=by
  intro sc es ck A env F g s pos hA V R
  rw[FD ck]
  exact wpAny_evalAll_nil (Ab g h ([]) Ext.refl R (by rfl) q)
theorem TY {n:Nat} {x:X} {xs:List (Nat × X)} {Q:List V→H→Prop} (p:E c d x m h fun v h₁=>Ks c d xs m h₁ fun vs h₂=>Q (v::vs) h₂):Ks c d ((n,x)::xs) m h Q:=by
  intro sc es ck A env F g s pos hA V R
  refine Be (Ll ck) fun e p' r zz7d c1 c3=>?_;obtain rfl:=zz7d
  refine kwAll_cons ((p _ _ c1 _ _ _ _ _ hA V R).use fun rv s₁ g₁ h₁ v e1 R1 r1 p1=>?_)
  refine (p1 _ _ c3 _ _ _ _ _ _ hA (V.ext e1) R1).use fun rvs s₂ g₂ h₂ vs e2 R2 r2 p2=>?_
  exact (Ab g₂ h₂ (v::vs) (e1.trans e2) R2 (by exact (Al rv rvs rfl (Ai.mono e2 r1) r2)) p2)
theorem Ew {f:Value} {args:List (Bool × Sem Value)} {kws:List (Option Str × Sem Value)} {Q:Args→Shared→Prop} (h1:args.any (·.1)=false) (hall:kws.all (·.1.isSome)=true)
    (p:wpAny (model c.prog c.w) A (spliced args) (fun vs s₁=>wpAny (model c.prog c.w) A (evalAll (kws.map (·.2))) (fun ks s₂=>Q ⟨vs,(kws.filterMap (·.1)).zip ks⟩ s₂) (fun _ _=>False) s₁) (fun _ _=>False) s) :
    wpAny (model c.prog c.w) A (evalArgs f true args kws) Q (fun _ _=>False) s:=by
  cases args with
  | nil =>
    refine evalArgs_kw_nil hall ?_
    exact fun Γ q hΓ=>(p Γ q hΓ) Γ q hΓ
  | cons x r =>
    obtain ⟨b,t⟩:=x
    have hb:b=false:=by
      simp only[List.any_cons,Bool.or_eq_false_iff] at h1
      exact h1.1
    subst hb
    exact evalArgs_kw hall p
theorem Bz {P:Heap→Prop} {sc:Scope} {F:Addr→Prop} {env:Env} {pos:Pos} {f:Value} {first:List Value} {xs:List X} {es:List Expr} {ks:List (Nat × X)} {kes:List Keyword} {Q:V→H→Prop} {K:List V→List V→H→Prop}
    (hk:∀ h,P h→∃ k,(k=Keeper.frame∨k=Keeper.machine∨k=Keeper.boundFrame)∧Looks (model c.prog c.w) h (keeperOf f) k)
    (c1:Bw c.N sc xs es=true) (c2:Gy c.N sc ks kes=true) (hA:OkA d A) (V:Aw c sc F env g m h s) (R:Rep c g h s)
    (p:Es c d xs m h fun vs h₁=>Ks c d ks m h₁ fun kvs h₂=>K vs kvs h₂)
    (q:∀ vs kvs h₂ g₂ s₂ rvs rks,K vs kvs h₂→Ext No g h s g₂ h₂ s₂→Rep c g₂ h₂ s₂→Ac g₂ h₂ vs rvs→Ac g₂ h₂ kvs rks →
      P s₂.heap∧EvW c A (call f (first++rvs) (((ks.map (·.1)).map c.nm).zip rks)) g₂ h₂ s₂ Q) :
    EvW c A (callWith pos f first (backTo pos (starEach es env)) (backToKw pos (keywordEach kes env))) g h s Q:=by
  refine xAA (Ih (env:=env) (pos:=pos) c2) fun k1 k2 k3=>?_
  refine callWith_of (P:=P) (by rw[Ge c1,k3];rfl) hk (Ew (Ge c1) k2 ?_)
  refine (p _ _ c1 _ _ _ _ _ _ hA V R).use fun rvs s₁ g₁ h₁ vs e1 R1 r1 p1=>?_
  refine (p1 _ _ c2 _ _ _ _ _ _ hA (V.ext e1) R1).use fun rks s₂ g₂ h₂ kvs e2 R2 r2 p2=>?_
  rw[k1,show (ks.map fun x=>c.nm x.1)=(ks.map (·.1)).map c.nm from (List.map_map ..).symm]
  obtain ⟨q1,q2⟩:=q vs kvs h₂ g₂ s₂ rvs rks p2 (e1.trans e2) R2 (Ac.mono e2 r1) r2
  exact ⟨q1,q2.from (e1.trans e2)⟩
theorem RL {id:String} (h:Heap) (_:True):∃ k,(k=Keeper.frame∨k=Keeper.machine∨k=Keeper.boundFrame)∧Looks (model c.prog c.w) h (keeperOf (.builtin id)) k:=(iEA .machine (.inr (.inl rfl)) .now)
theorem Lp (x:Str) (p:Pos) (as:List Expr) (ks:List Keyword) (q:Pos) (env:Env):eval (.Call (.Name x p) as ks q) env=(do
    callWith q (← eval (.Name x p) env) [] (backTo q (starEach as env)) (backToKw q (keywordEach ks env))):=rfl
theorem Rep.K (O:c.Ok) (R:Rep c g h s):c.K.In s.heap:=O.X.keeps R.keepsB
theorem QW (O:c.Ok) {f:Nat} {fa:Addr} {args:List X} {kws:List (Nat × X)} {Q:V→H→Prop} (hf:c.gv f=some (.ref fa)) (hk:keepIn c.K (.ref fa)=true)
    (p:Es c d args m h fun vs h₁=>Ks c d kws m h₁ fun ks h₂=>A0 c d fa vs (kws.map (·.1)) ks h₂ Q):E c d (.call f args kws) m h Q:=by
  intro sc e ck A env F g s hA V R
  refine Kl ck fun as ks p1 p2 zz11e hg hd c1 c2=>?_;obtain rfl:=zz11e
  refine wpAny_bind (CF O V R hg hd hf ?_)
  exact Bz (P:=c.K.In) (keeps_K hk) c1 c2 hA V R p fun vs kvs h₂ g₂ s₂ rvs rks k e R₂ r1 r2=>⟨R₂.K O,(k A g₂ s₂ rvs rks hA R₂ r1 r2).ev⟩
noncomputable def Av (c:Cx) (d:Nat) (f:Value) (vs:List V) (ns:List Nat) (ks:List V) (h:H) (Q:V→H→Prop):Prop :=
  ∀ A g s rvs rks,OkA d A→Rep c g h s→Ac g h vs rvs→Ac g h ks rks→EvW c A (call f rvs ((ns.map c.nm).zip rks)) g h s Q
noncomputable def Hg:Value→Bool
  | .builtin _=>true
  | .type _=>true
  | _=>false
theorem Kd (O:c.Ok) {f:Nat} {fv:Value} {args:List X} {kws:List (Nat × X)} {Q:V→H→Prop} (hf:c.gv f=some fv) (hk:Hg fv=true)
    (p:Es c d args m h fun vs h₁=>Ks c d kws m h₁ fun ks h₂=>Av c d fv vs (kws.map (·.1)) ks h₂ Q):E c d (.call f args kws) m h Q:=by
  intro sc e ck A env F g s hA V R
  refine Kl ck fun as ks p1 p2 zz12e hg hd c1 c2=>?_;obtain rfl:=zz12e
  refine wpAny_bind (CF O V R hg hd hf ?_)
  refine Bz (P:=fun _=>True) (fun h _=>?_) c1 c2 hA V R p fun vs kvs h₂ g₂ s₂ rvs rks k e R₂ r1 r2=>⟨trivial,k A g₂ s₂ rvs rks hA R₂ r1 r2⟩
  cases fv<;>first | exact ⟨.machine,.inr (.inl rfl),.now⟩ | exact ff hk
theorem C1.get (hi:∀ n n',c.nm n=c.nm n'→n=n'):∀ {fs:List (Nat × V)} {es:List DictEntry} {n:Nat},C1 c g h fs es →
    (fs.lookup n=none→es.find? (·.key.isStr (c.nm n))=none)∧∀ v,fs.lookup n=some v→∃ e,es.find? (·.key.isStr (c.nm n))=some e∧Ai g h v e.val:=by
  intro zl;induction zl with
  | nil =>
    intro es n e
    subst e;exact ⟨fun _=>rfl,fun v e=>by exact nn e⟩
  | cons zq fs ih =>
    obtain ⟨k,w⟩:=zq
    intro es n e
    refine Hf e fun hsh t rv r zz13e e1 e2=>?_;obtain rfl:=zz13e
    obtain ⟨i1,i2⟩:=ih (n:=n) e2
    have hs:(Value.str (c.nm k) t).isStr (c.nm n)=(c.nm k==c.nm n):=rfl
    simp only[List.lookup_cons,List.find?_cons,hs]
    cases z:n==k
    · have:(c.nm k==c.nm n)=false:=by
        cases y:c.nm k==c.nm n with
        | false=>rfl
        | true=>rw[hi _ _ (beq_iff_eq.mp y)] at z;simp at z
      rw[this];exact ⟨i1,i2⟩
    · have:(c.nm k==c.nm n)=true:=by rw[beq_iff_eq.mp z];exact if_pos rfl
      rw[this]
      exact ⟨fun e=>(nomatch e),fun v e=>by cases e;exact (iEA _ rfl e1)⟩
theorem C1.noRef:∀ {fs:List (Nat × V)} {es:List DictEntry},C1 c g h fs es→es.any (·.refKey)=false:=by
  intro zl;induction zl with
  | nil =>
    intro es e
    subst e;rfl
  | cons _ _ ih =>
    intro es e
    refine Hf e fun hsh t rv r zz15e e1 e2=>?_;obtain rfl:=zz15e
    rw[List.any_cons,ih e2];rfl
theorem C1.len:∀ {fs:List (Nat × V)} {es:List DictEntry},C1 c g h fs es→es.length=fs.length:=by
  intro zl;induction zl with
  | nil =>
    intro es e
    subst e;rfl
  | cons _ _ ih =>
    intro es e
    refine Hf e fun hsh t rv r zz16e e1 e2=>?_;obtain rfl:=zz16e
    rw[List.length_cons,List.length_cons,ih e2]
theorem C1.none_ (hi:∀ n n',c.nm n=c.nm n'→n=n') {fs:List (Nat × V)} {es:List DictEntry} {n:Nat} (r:C1 c g h fs es) (q:fs.lookup n=none):getL (c.nm n) es=some none:=by
  unfold getL
  rw[(r.get hi).1 q,r.noRef];rfl
theorem C1.some_ (hi:∀ n n',c.nm n=c.nm n'→n=n') {fs:List (Nat × V)} {es:List DictEntry} {n:Nat} {v:V} (r:C1 c g h fs es) (q:fs.lookup n=some v):∃ rv,getL (c.nm n) es=some (some rv)∧Ai g h v rv:=by
  refine xEA ((r.get hi).2 v q) fun e h1 h2=>?_
  exact (iEA e.val (by unfold getL;rw[h1]) h2)
structure Ro (c:Cx) (g:G) (h:H) (s:Shared) (i:Id) (k:Nat) (fs:List (Nat × V)) where
  dx:Addr
  es:List DictEntry
  n:Nat
  I:W.InstAt s.heap (g.ρ i) (instObj (c.cls k) dx) (c.cls k) (some (dictOf es n))
  sl:g.slot dx=some (i,true)
  F:C1 c g h fs es
theorem CD {i:Id} {k:Nat} {fs:List (Nat × V)} (R:Rep c g h s) (hi:h i=some (.inst k fs)):Nonempty (Ro c g h s i k fs):=by
  refine AW (R.obj i _ hi) fun dx es n e1 e2 e3 e5=>?_
  exact ⟨⟨dx,es,n,⟨e1,rfl,rfl,e3⟩,e2,e5⟩⟩
structure XU (K:Frag) (C:Addr):Prop where
  ga:findIn K (.ref C) "__getattribute__" = some (some (.builtin "object.__getattribute__"))
  gt:findIn K (.ref C) "__getattr__" = some none
  sa:findIn K (.ref C) "__setattr__" = some (some (.builtin "object.__setattr__"))
  pl:plainOver K C=true
  hd:(clsIn K C).any (·.hasDict)=true
  mks:makesIn K C=true
  bo:findIn K (.ref C) "__bool__" = some none
  ln:findIn K (.ref C) "__len__" = some none
theorem GN {K:Frag} {C:Addr} (h:Bx K C=true):XU K C:=by
  unfold Bx at h
  simp only[Bool.and_eq_true,beq_iff_eq] at h
  obtain ⟨⟨⟨⟨⟨⟨⟨a,b⟩,c⟩,d⟩,e⟩,f⟩,g⟩,i⟩:=h
  exact ⟨a,b,c,d,e,f,g,i⟩
theorem IE:∀ {v:V} {rv:Value},Ai g h v rv→handedIn rv=true
  | .none,_,e=>by subst e;rfl
  | .bool _,_,e=>by subst e;rfl
  | .int _,_,e=>by obtain ⟨t,rfl⟩:=e;rfl
  | .str _,_,e=>by obtain ⟨t,rfl⟩:=e;rfl
  | .ref _,_,e=>by rw[e.2];rfl
  | .raw _,_,e=>by rw[e.1];exact e.2
  | .vw _ _,_,e=>by refine GV e fun _ r zz22c _=>?_;obtain rfl:=zz22c;rfl
  | .rng _ _ _,_,e=>by refine Jw e fun r b t u w zz23f _=>?_;obtain rfl:=zz23f;rfl
  | .tup _,_,e=>by refine D1 e fun a n vs zz24d _=>?_;obtain rfl:=zz24d;rfl
theorem Ic {o:Expr} {a:Str} {env:Env} {t:Sem Value} (hp:CE o=true):attributeBase o a env t=t:=by
  cases o with
  | Call f as ks p =>
    cases f with
    | Name id q =>
      cases as with
      | nil =>
        cases ks with
        | nil=>exact if_pos (congrArg (fun b=>((b || a== "__class__") || env.kindOf "super" != some .globalImplicit) || env.kindOf "__class__" != some .free) (show (id != ("super" : Str))=true from hp))
        | cons=>rfl
      | cons=>rfl
    | _=>rfl
  | _=>rfl
theorem K6 {o:Expr} {a:Str} {p:Pos} {env:Env} (hp:CE o=true):eval (.Attribute o a p) env=(do
    let v ← eval o env
    standAt p.atName
    let r ← holding [v] (getAttr v a true)
    letTemporaryGo o v r
    pure r):=by
  show (do let v ← attributeBase o a env (eval o env);_)=_
  rw[Ic hp]
theorem UQ (O:c.Ok) {e:X} {n:Nat} {Q:V→H→Prop}
    (p:E c d e m h fun v h₁=>∃ i k fs w,v=.ref i∧h₁ i=some (.inst k fs)∧c.fld k n=true∧fs.lookup n=some w∧Q w h₁):E c d (.attr e n) m h Q:=by
  intro sc ex ck A env F g s hA V R
  refine Au (JO ck) fun o pos zz25c hp c1=>?_;obtain rfl:=zz25c
  rw[K6 hp]
  refine wpAny_bind ((p _ _ c1 _ _ _ _ _ hA V R).use fun rv s₁ g₁ h₁ v e1 R1 r1 p1=>?_)
  refine BX p1 fun i k fs w zz26e hi hfl hw q=>?_;obtain rfl:=zz26e
  obtain ⟨_,rfl⟩:=r1
  obtain ⟨⟨dx,es,nn,I,_,Fr⟩⟩:=CD R1 hi
  refine xEA (Fr.some_ O.inj hw) fun rw_ hm rr=>?_
  obtain ⟨hc,hfn⟩:=O.fld k n hfl
  have C:=GN hc
  refine wpAny_bind (wpAny_standAt (wpAny_bind (wpAny_holding (get_value (R1.K O) I C.ga ?_ (IE rr) ?_))))
  · refine xEA (any_some C.hd) fun cd hcd hd=>?_
    refine bs hcd (bs hfn (bs rfl (bs rfl (bs (a:=some rw_) ?_ rfl))))
    exact (if_pos hd).trans hm
  · exact wpAny_bind (wpAny_letTemporaryGo (wpAny_pure (Ab g₁ h₁ w (e1.trans Ext.toks) R1.toks rr q)))
end
end
section
section
variable {c:Cx} {d:Nat} {m:Loc} {h:H} {A:Around} {g:G} {s:Shared}
theorem RD {Q:Bool→H→Prop} (q:Q false h):TrW c .none h Q:=by
  intro d A g s ra hA R r
  subst r
  exact truthy_none (Al g h Ext.refl R q)
theorem Dl {b:Bool} {Q:Bool→H→Prop} (q:Q b h):TrW c (.bool b) h Q:=by
  intro d A g s ra hA R r
  subst r
  exact wpAny_truthy_bool (Al g h Ext.refl R q)
theorem Tf {x:List Nat} {Q:Bool→H→Prop} (hl:x.length<2^40) (q:Q (!x.isEmpty) h):TrW c (.str x) h Q:=by
  intro d A g s ra hA R r
  obtain ⟨t,rfl⟩:=r
  refine PySem.P.truthy_str (x:=⟨x.toArray⟩) ?_ ?_
  · show ¬ ((x.toArray.size:Nat):Int)≥2^63
    exact q52 hl
  · have e:((((⟨x.toArray⟩:Str).length:Nat):Int) != 0)=!x.isEmpty:=by
      show (((x.toArray.size:Nat):Int) != 0)=_
      cases x with
      | nil=>rfl
      | cons a r =>
        rfl
    rw[e]
    exact (Al g h Ext.toks R.toks q)
theorem Ac.len:∀ {xs:List V} {vs:List Value},Ac g h xs vs→vs.length=xs.length:=by
  intro zl;induction zl with
  | nil =>
    intro _ e
    subst e;rfl
  | cons _ _ ih =>
    intro _ e
    obtain ⟨v,r,rfl,_,e⟩:=e;simp only[List.length_cons,ih e,List.length_cons]
theorem Ac.arr {xs:List V} {vs:Array Value} (e:Ac g h xs vs.toList):vs.size=xs.length:=by exact e.len
theorem GG {xs:List V} {vs:Array Value} (e:Ac g h xs vs.toList):vs.isEmpty=xs.isEmpty:=by
  have:=e.arr
  cases xs<;>simp_all [Array.isEmpty]
theorem Oo {i:Id} {xs:List V} (R:Rep c g h s) (hi:h i=some (.list xs)):∃ n vs,s.heap.get? (g.ρ i)=some { cls:=.type "list",dict:=none,data:=.seq vs n,slots:=#[] }∧Ac g h xs vs.toList∧s.heap.IsList (g.ρ i) vs:=by
  refine Ib (R.obj i _ hi) fun n vs e1 e2=>?_
  exact (Al n vs e1 e2 (Dj _ e1 rfl n rfl))
theorem AJ {i:Id} {xs:List V} {p:Prop} (R:Rep c g h s) (hi:h i=some (.list xs)) (k:∀ n vs,s.heap.get? (g.ρ i)=some { cls:=.type "list",dict:=none,data:=.seq vs n,slots:=#[] }→Ac g h xs vs.toList→s.heap.IsList (g.ρ i) vs→p):p:=Au (Oo R hi) k
theorem Py {xs:List V} {rv:Value} (R:Rep c g h s) (r:Ai g h (.tup xs) rv):∃ a n vs,rv=.ref a∧s.heap.get? a=some { cls:=.type "tuple",dict:=none,data:=.seq vs n,slots:=#[] }∧Ac g h xs vs.toList∧IsTup s.heap a vs:=by
  refine Be r fun a n vs e1 e2 e3=>?_
  exact (Ab a n vs e1 (R.fz _ _ e2) e3 (Dj _ (R.fz _ _ e2) rfl n rfl))
theorem FG {xs:List V} {rv:Value} {p:Prop} (R:Rep c g h s) (r:Ai g h (.tup xs) rv) (k:∀ a n vs,rv=.ref a→s.heap.get? a=some { cls:=.type "tuple",dict:=none,data:=.seq vs n,slots:=#[] }→Ac g h xs vs.toList→IsTup s.heap a vs→p):p:=AW (Py R r) k
theorem Ld {i:Id} {xs:List V} {Q:Bool→H→Prop} (hi:h i=some (.list xs)) (hl:xs.length<2^40) (q:Q (!xs.isEmpty) h):TrW c (.ref i) h Q:=by
  intro d A g s ra hA R r
  obtain ⟨_,rfl⟩:=r
  refine AJ R hi fun n vs e1 e2 e3=>?_
  refine wpAny_truthy_list e3 (by rw[e2.arr];exact q53 hl) ?_
  rw[GG e2]
  exact (Al g h Ext.toks R.toks q)
theorem SF {xs:List V} {Q:Bool→H→Prop} (hl:xs.length<2^40) (q:Q (!xs.isEmpty) h):TrW c (.tup xs) h Q:=by
  intro d A g s ra hA R r
  refine FG R r fun a n vs zz8d e1 e2 e3=>?_;obtain rfl:=zz8d
  refine truthy_tuple e3 (by rw[e2.arr];lia) ?_
  rw[GG e2]
  exact (Al g h Ext.toks R.toks q)
theorem DK (O:c.Ok) (R:Rep c g h s) {i:Id} (hi:(h i).isSome=true):(g.ρ i==sysModules)=false:=by
  have:=(R.lt _ _ (R.at_ i hi)).2
  exact beq_eq_false_iff_ne.mpr fun q=>by rw[q] at this;have z:=O.low;rw[this] at z;exact ff z
theorem Az.len:∀ {xs:List (List Nat × V)} {vs:List (Str × Value)},Az g h xs vs→vs.length=xs.length:=by
  intro zl;induction zl with
  | nil =>
    intro _ e
    subst e;rfl
  | cons _ _ ih =>
    intro _ e
    obtain ⟨v,r,rfl,_,e⟩:=e;simp only[List.length_cons,ih e,List.length_cons]
theorem PJ (O:c.Ok) {i:Id} {ep:Nat} {es:List (List Nat × V)} {Q:Bool→H→Prop} (hi:h i=some (.dict ep es)) (hl:es.length<2^40) (q:Q (!es.isEmpty) h):TrW c (.ref i) h Q:=by
  intro d A g s ra hA R r
  obtain ⟨hs,rfl⟩:=r
  refine xEA (R.obj i _ hi) fun kvs zz11b e2=>?_;obtain ⟨o,es',e0⟩:=zz11b
  have e1:s.heap.DictOf (PySem.strKind c.prog c.w) (g.ρ i) kvs:=(SJ o es' ep e0)
  refine wpAny_truthy_dict (DK O R hs) e1 (by rw[e2.len];exact q53 hl) ?_
  have:kvs.isEmpty=es.isEmpty:=by have:=e2.len;cases es<;>cases kvs<;>simp_all
  rw[this]
  exact (Al g h Ext.toks R.toks q)
theorem Rf (O:c.Ok) {i:Id} {k:Nat} {fs:List (Nat × V)} {Q:Bool→H→Prop} (hi:h i=some (.inst k fs)) (hk:Bx c.K (c.cls k)=true) (q:Q true h):TrW c (.ref i) h Q:=by
  intro d A g s ra hA R r
  obtain ⟨hs,rfl⟩:=r
  obtain ⟨⟨dx,es,nn,I,_,Fr⟩⟩:=CD R hi
  have C:=GN hk
  have X:=R.K O
  refine wpAny_bind (m:=callSpecial? (.ref (g.ρ i)) (Str.ofString "__bool__")) (wpAny_bind (wpAny_bind (I.type.here ((looks_findIn X C.bo).here (wpAny_pure ?_)))))
  refine wpAny_bind (wpAny_bind (I.type.here ((looks_findIn X C.ln).here ?_)))
  exact wpAny_pure (Al g h Ext.refl R q)
theorem SA {i:Id} {xs:List (List Nat)} {Q:Bool→H→Prop} (hi:h i=some (.set xs)) (hl:xs.length<2^40) (q:Q (!xs.isEmpty) h):TrW c (.ref i) h Q:=by
  intro d A g s ra hA R r
  obtain ⟨hs,rfl⟩:=r
  obtain ⟨⟨o,es,ep,t,ho,hex,hd,_,_,_,hf,hn⟩,_⟩:=R.obj i _ hi
  have hT:s.TypeIs (.ref (g.ρ i)) "set" := (iEA o ho hex.1)
  have nb:typeLookup (.type "set") (Str.ofString "__bool__")=pure none:=by kernel_rfl
  refine wpAny_bind (m:=callSpecial? (.ref (g.ρ i)) (Str.ofString "__bool__")) (wpAny_callSpecial?_none (name:=Str.ofString "__bool__") hT nb ?_)
  refine wpAny_bind (wpAny_specialOf (name:=Str.ofString "__len__") hT F.slot_set_len.lookup ?_)
  have hz:((es.size:Nat):Int)<2^63:=by rw[hn];exact q53 hl
  have key:wpAny (model c.prog c.w) A (runValue (.builtin "len" ⟨[.ref (g.ρ i)],[]⟩)) (fun r s'=>r=.int es.size (s.toks+1)∧s'={ s with toks:=s.toks+1+1 }) (fun _ _=>False) s:=by
    refine wpAny_runValue (codeAny_builtin entry_len ?_)
    exact wpAny_mono (wpAny_len_body_set (Q:=fun r s'=>r=.int es.size (s.toks+1)∧s'={ s with toks:=s.toks+1+1 }) ho hex hd hf hz ⟨rfl,rfl⟩)
      (fun fin s' h'=>by refine xEA h' fun r zz16b hq=>?_;obtain rfl:=zz16b;exact hq) fun _ _ e=>e
  refine wpAny_bind (wpAny_mono key (fun r s' hr=>?_) fun _ _ e=>e)
  obtain ⟨rfl,rfl⟩:=hr
  have e:(((es.size:Nat):Int) != 0)=!xs.isEmpty:=by
    rw[hn]
    cases xs with
    | nil=>rfl
    | cons a r=>rfl
  refine wpAny_pure ?_
  rw[e]
  exact (Al g h Ext.toks R.toks q)
noncomputable def QN:Expr→Bool
  | .UnaryOp .Not _ _=>false
  | .BoolOp ..=>false
  | .IfExp ..=>false
  | .Compare ..=>false
  | _=>true
set_option tactic.hygienic true in
theorem GX {e:Expr} {env:Env} {whole:Sem Value} (hp:QN e=true):PySem.isTrue e env whole=(do let v ← whole;standAt e.pos;holding [v] (truthy v)):=by
  cases e<;>first | rfl | (exact ff hp;done) | skip
  rename_i op x p
  cases op<;>first | rfl | exact ff hp
theorem I5 {x:X} {Q:Bool→H→Prop} (hx:∀ sc e,ckE c.N sc x e=true→QN e=true) (p:E c d x m h fun v h₁=>TrW c v h₁ Q):Bt c d x m h Q:=by
  intro sc e ck A env F g s hA V R
  refine isTrue_plain ((p _ _ ck _ _ _ _ _ hA V R).use fun rv s₁ g₁ h₁ v e1 R1 r1 p1=>?_) (GX (hx _ _ ck))
  exact (p1 _ _ _ _ _ hA R1 r1).from e1
theorem Xk {n:Nat} {Q:Bool→H→Prop} (p:E c d (.loc n) m h fun v h₁=>TrW c v h₁ Q):Bt c d (.loc n) m h Q:=I5 (fun _ _ ck=>by refine xEA (P8 ck) fun _ zz18b _=>?_;obtain rfl:=zz18b;rfl) p
theorem TM {x:X} {n:Nat} {Q:Bool→H→Prop} (p:E c d (.attr x n) m h fun v h₁=>TrW c v h₁ Q):Bt c d (.attr x n) m h Q:=I5 (fun _ _ ck=>by refine Ib (JO ck) fun _ _ zz19c _=>?_;obtain rfl:=zz19c;rfl) p
theorem T6 {f:Nat} {as ks} {Q:Bool→H→Prop} (p:E c d (.call f as ks) m h fun v h₁=>TrW c v h₁ Q):Bt c d (.call f as ks) m h Q:=I5 (fun _ _ ck=>by refine Fs (MO ck) fun _ _ _ _ zz20e _=>?_;obtain rfl:=zz20e;rfl) p
theorem SE {x:X} {n:Nat} {as ks} {Q:Bool→H→Prop} (p:E c d (.meth x n as ks) m h fun v h₁=>TrW c v h₁ Q):Bt c d (.meth x n as ks) m h Q:=I5 (fun _ _ ck=>by refine Jw (MN ck) fun _ _ _ _ _ zz21f _=>?_;obtain rfl:=zz21f;rfl) p
theorem Xe {x i:X} {Q:Bool→H→Prop} (p:E c d (.sub x i) m h fun v h₁=>TrW c v h₁ Q):Bt c d (.sub x i) m h Q:=I5 (fun _ _ ck=>by refine D1 (Pd ck) fun _ _ _ zz22d _=>?_;obtain rfl:=zz22d;rfl) p
theorem YO {Q:Bool→H→Prop} (q:Q true h):Bt c d .tt m h Q:=I5 (fun _ _ ck=>by refine xEE (Ug ck) fun _ _ zz23c=>?_;obtain rfl:=zz23c;rfl) (UU (Dl q))
theorem Wq {x:X} {Q:Bool→H→Prop} (p:Bt c d x m h fun b h₁=>Q (!b) h₁):Bt c d (.not x) m h Q:=by
  intro sc e ck A env F g s hA V R
  refine Ib (QY ck) fun v pos zz24c c1=>?_;obtain rfl:=zz24c
  exact isTrue_not (p _ _ c1 _ _ _ _ _ hA V R)
theorem JR {op:CmpOp} {a b:X} {Q:Bool→H→Prop} (p:E c d a m h fun va h₁=>E c d b m h₁ fun vb h₂=>OpW c (compareOp op) va vb h₂ fun v h₃=>TrW c v h₃ Q):Bt c d (.cmp op a b) m h Q:=by
  intro sc e ck A env F g s hA V R
  refine AW (PP ck) fun l r pos zz25d c1 c2 c3=>?_;obtain rfl:=zz25d
  refine wpAny_isTrue_Compare1 ((p _ _ c1 _ _ _ _ _ hA V R).use fun ra s₁ g₁ h₁ va e1 R1 r1 p1=>?_) c3
  refine (p1 _ _ c2 _ _ _ _ _ hA (V.ext e1) R1).use fun rb s₂ g₂ h₂ vb e2 R2 r2 p2=>?_
  refine (p2 _ _ _ _ _ _ hA R2 (Ai.mono e2 r1) r2).use fun rc s₃ g₃ h₃ vc e3 R3 r3 p3=>?_
  exact (p3 _ _ _ _ _ hA R3 r3).from ((e1.trans e2).trans e3)
noncomputable def Bts (c:Cx) (d:Nat) (and:Bool) (m:Loc):List X→H→(Bool→H→Prop)→Prop
  | [],h,Q=>Q and h
  | x::xs,h,Q=>Bt c d x m h fun b h₁=>if b=and then Bts c d and m xs h₁ Q else Q (!and) h₁
theorem OT {and:Bool}:∀ {xs:List X} {h:H} {Q:Bool→H→Prop},Bts c d and m xs h Q→∀ {sc es} {A env F g s pos whole},Bw c.N sc xs es=true→OkA d A→Aw c sc F env g m h s→Rep c g h s →
    BvW c A (PySem.isTrue (.BoolOp (if and then .And else .Or) es pos) env whole) g h s Q:=by
  intro zl;induction zl with
  | nil =>
    intro h Q p sc es A env F g s pos whole ck hA V R
    refine (Ed ck).symm▸?_
    cases and
    · exact isTrue_or_nil (Al g h Ext.refl R p)
    · exact isTrue_and_nil ⟨g,h,Ext.refl,R,p⟩
  | cons x xs ih =>
    intro h Q p sc es A env F g s pos whole ck hA V R
    refine DO ck fun e r zz27c c1 c2 c3=>?_;obtain rfl:=zz27c
    cases and
    · refine isTrue_or ((p _ _ c1 _ _ _ _ _ hA V R).use fun b s₁ g₁ h₁ e1 R1 p1=>?_)
      cases b
      · exact (ih p1 c3 hA (V.ext e1) R1).from e1
      · exact (Al g₁ h₁ e1 R1 p1)
    · refine isTrue_and ((p _ _ c1 _ _ _ _ _ hA V R).use fun b s₁ g₁ h₁ e1 R1 p1=>?_)
      cases b
      · exact (Al g₁ h₁ e1 R1 p1)
      · exact (ih p1 c3 hA (V.ext e1) R1).from e1
theorem Mb {and:Bool} {xs:List X} {Q:Bool→H→Prop} (p:Bts c d and m xs h Q):Bt c d (.bop and xs) m h Q:=by
  intro sc e ck A env F g s hA V R
  refine Au (Qj ck) fun es pos zz28c c1 _=>?_;obtain rfl:=zz28c
  exact OT p c1 hA V R
noncomputable def Ebs (c:Cx) (d:Nat) (and:Bool) (m:Loc):List X→H→(V→H→Prop)→Prop
  | [],_,_=>False
  | [x],h,Q=>E c d x m h Q
  | x::xs,h,Q=>E c d x m h fun v h₁=>TrW c v h₁ fun b h₂=>if b=and then Ebs c d and m xs h₂ Q else Q v h₂
theorem Je {and:Bool}:∀ {xs:List X} {h:H} {Q:V→H→Prop},Ebs c d and m xs h Q→∀ {sc es} {A env F g s pos},Bw c.N sc xs es=true→OkA d A→Aw c sc F env g m h s→Rep c g h s →
    EvW c A (boolOp pos (if and then .And else .Or) (evalEach es env)) g h s Q
  | [],_,_,p,_,_,_,_,_,_,_,_,_,_,_,_=>p.elim
  | [x],h,Q,p,sc,es,A,env,F,g,s,pos,ck,hA,V,R=>by
    refine DO ck fun e r zz29c c1 c2 c3=>?_;obtain rfl:=zz29c
    refine (Ed c3).symm▸?_
    exact p _ _ c1 _ _ _ _ _ hA V R
  | x::y::xs,h,Q,p,sc,es,A,env,F,g,s,pos,ck,hA,V,R=>by
    refine DO ck fun e r zz30c c1 c2 c3=>?_;obtain rfl:=zz30c
    refine DO c3 fun e' r' zz31c c1' c2' c3'=>?_;obtain rfl:=zz31c
    refine wpAny_bind ((p _ _ c1 _ _ _ _ _ hA V R).use fun rv s₁ g₁ h₁ v e1 R1 r1 p1=>?_)
    refine wpAny_bind (wpAny_standAt (wpAny_bind (wpAny_holding ((p1 _ _ _ _ _ hA R1 r1).use fun b s₂ g₂ h₂ e2 R2 p2=>?_))))
    have go:b=and→EvW c A (boolOp pos (if and then .And else .Or) (evalEach (e'::r') env)) g₂ h₂ s₂ Q:=fun q=>by
      rw[if_pos q] at p2
      exact Je p2 c3 hA (V.ext (e1.trans e2)) R2
    cases and<;>cases b
    · exact (go rfl).from (e1.trans e2)
    · exact wpAny_pure (Ab g₂ h₂ v (e1.trans e2) R2 (Ai.mono e2 r1) (by simpa using p2))
    · exact wpAny_pure (Ab g₂ h₂ v (e1.trans e2) R2 (Ai.mono e2 r1) (by simpa using p2))
    · exact (go rfl).from (e1.trans e2)
theorem ZA {and:Bool} {xs:List X} {Q:V→H→Prop} (p:Ebs c d and m xs h Q):E c d (.bop and xs) m h Q:=by
  intro sc e ck A env F g s hA V R
  refine Au (Qj ck) fun es pos zz32c c1 _=>?_;obtain rfl:=zz32c
  exact Je p c1 hA V R
theorem Zi {x:X} {Q:V→H→Prop} (p:E c d x m h fun v h₁=>TrW c v h₁ fun b h₂=>Q (.bool (!b)) h₂):E c d (.not x) m h Q:=by
  intro sc e ck A env F g s hA V R
  refine Ib (QY ck) fun v pos zz33c c1=>?_;obtain rfl:=zz33c
  refine wpAny_UnaryOp ((p _ _ c1 _ _ _ _ _ hA V R).use fun rv s₁ g₁ h₁ v e1 R1 r1 p1=>?_)
  exact not_of ((p1 _ _ _ _ _ hA R1 r1).use fun b s₂ g₂ h₂ e2 R2 p2=>(Ab g₂ h₂ _ (e1.trans e2) R2 A7 p2))
theorem MF {t a b:X} {Q:V→H→Prop} (p:Bt c d t m h fun b₁ h₁=>if b₁=true then E c d a m h₁ Q else E c d b m h₁ Q):E c d (.ite t a b) m h Q:=by
  intro sc e ck A env F g s hA V R
  refine CO (Wo ck) fun u l r pos zz34e c1 c2 c3=>?_;obtain rfl:=zz34e
  refine IfExp_ ((p _ _ c1 _ _ _ _ _ hA V R).use fun b₁ s₁ g₁ h₁ e1 R1 p1=>?_)
  split
  · rename_i z;rw[if_pos z] at p1;exact (p1 _ _ c2 _ _ _ _ _ hA (V.ext e1) R1).from e1
  · rename_i z;rw[if_neg z] at p1;exact (p1 _ _ c3 _ _ _ _ _ hA (V.ext e1) R1).from e1
end
end
section
noncomputable def P3 (ps:List Str):List (Str × Value)→List (Str × Value)→Prop
  | _,[]=>True
  | sl,x::r=>ps.contains x.1=true∧sl.lookup x.1=none∧P3 ps (sl++[x]) r
theorem Km {ps:List Str} {f:Str × Value→List (Str × Value) × List (Str × Value)→Sem (ForInStep (List (Str × Value) × List (Str × Value)))}
    (hf:∀ x sl,ps.contains x.1=true→sl.lookup x.1=none→f x (sl,[])=pure (.yield (sl++[x],[]))) :
    ∀ (kw sl:List (Str × Value)),P3 ps sl kw→forIn kw (sl,[]) f=pure (sl++kw,[])
  | [],sl,_=>by rw[List.append_nil];rfl
  | x::r,sl,h=>by
    rw[List.forIn_cons,hf x sl h.1 h.2.1]
    show forIn r (sl++[x],[]) f=_
    rw[Km hf r _ h.2.2,List.append_assoc];rfl
noncomputable def F0:List (Str × Value)→List (Str × Value)→List (Str × Value)
  | sl,[]=>sl
  | sl,x::r=>F0 (if (sl.lookup x.1).isNone then sl++[x] else sl) r
theorem Mc {f:Str × Value→List (Str × Value)→Sem (ForInStep (List (Str × Value)))}
    (hf:∀ x sl,f x sl=pure (.yield (if (sl.lookup x.1).isNone then sl++[x] else sl))):∀ (l sl:List (Str × Value)),forIn l sl f=pure (F0 sl l):=by
  intro zl;induction zl with
  | nil =>
    intro sl
    exact rfl
  | cons x r ih =>
    intro sl
    rw[List.forIn_cons,hf x sl]
    exact ih _
theorem LV {n:Str}:∀ {l sl:List (Str × Value)},(F0 sl l).lookup n=(sl.lookup n).or (l.lookup n):=by
  intro zl;induction zl with
  | nil =>
    intro sl
    simp[F0]
  | cons x r ih =>
    intro sl
    unfold F0
    rw[ih]
    by_cases hx:(sl.lookup x.1).isNone=true
    · rw[if_pos hx]
      rw[List.lookup_append]
      by_cases hn:n=x.1
      · subst hn
        have hx':List.lookup x.1 sl=none:=Option.isNone_iff_eq_none.mp hx
        simp[hx',List.lookup]
      · have e:(n==x.1)=false:=by simp[hn]
        simp[List.lookup,e]
    · rw[if_neg hx]
      by_cases hn:n=x.1
      · subst hn
        cases q:List.lookup x.1 sl with
        | none=>rw[q] at hx;exact absurd rfl hx
        | some v=>rfl
      · have e:(n==x.1)=false:=by simp[hn]
        simp[List.lookup,e]
structure XE (fd:FuncData) (req:List Str) (opt:List (Str × Value)) (h:Heap):Prop where
  po:fd.params.posonlyargs=[]
  va:fd.params.vararg=none
  ko:fd.params.kwonlyargs=[]
  kw:fd.params.kwarg=none
  names:fd.params.args.map (·.arg)=req++opt.map (·.1)
  dflt:(fd.defaults=.none∧opt=[])∨∃ T n vs,fd.defaults=.ref T∧h.get? T=some { cls:=.type "tuple",dict:=none,data:=.seq vs n,slots:=#[] }∧vs.toList=opt.map (·.2)
noncomputable def G5 (req:List Str) (opt:List (Str × Value)) (sl:List (Str × Value)):List (Str × Value) :=
  (req++opt.map (·.1)).filterMap fun n=>((F0 sl opt).lookup n).map (n,·)
theorem Lm {α β:Type}:∀ l:List (α × β),(l.map (·.1)).zip (l.map (·.2))=l:=by
  intro zl;induction zl with
  | nil =>
    exact rfl
  | cons x r ih =>
    simp only[List.map_cons,List.zip_cons_cons,ih]
theorem Zw {M:Model} {A:Around} {E:Value→Shared→Prop} {s:Shared} {ps:List Str} {f:Str × Value→List (Str × Value) × List (Str × Value)→Sem (ForInStep (List (Str × Value) × List (Str × Value)))} {Q:List (Str × Value) × List (Str × Value)→Shared→Prop} {kw sl:List (Str × Value)}
    (hf:∀ x sl,ps.contains x.1=true→sl.lookup x.1=none→f x (sl,[])=pure (.yield (sl++[x],[]))) (h:P3 ps sl kw) (q:Q (sl++kw,[]) s):wpAny M A (forIn kw (sl,[]) f) Q E s:=by
  rw[Km hf kw sl h];exact wpAny_pure q
theorem SX {M:Model} {A:Around} {E:Value→Shared→Prop} {s:Shared} {f:Str × Value→List (Str × Value)→Sem (ForInStep (List (Str × Value)))} {Q:List (Str × Value)→Shared→Prop} {l sl:List (Str × Value)}
    (hf:∀ x sl,f x sl=pure (.yield (if (sl.lookup x.1).isNone then sl++[x] else sl))) (q:Q (F0 sl l) s):wpAny M A (forIn l sl f) Q E s:=by
  rw[Mc hf];exact wpAny_pure q
theorem IF {fd:FuncData} {req:List Str} {opt:List (Str × Value)} {s:Shared} {vs:List Value} {kw:List (Str × Value)} (F:XE fd req opt s.heap)
    (h1:vs.length≤(req++opt.map (·.1)).length) (h2:P3 (req++opt.map (·.1)) ((req++opt.map (·.1)).zip vs) kw)
    (h3:∀ n∈req,(((req++opt.map (·.1)).zip vs++kw).lookup n).isSome=true) :
    BindsTo s fd ⟨vs,kw⟩ (G5 req opt ((req++opt.map (·.1)).zip vs++kw)):=by
  intro M A E Q q
  obtain ⟨_,_,⟨po,ar,va,ko,_,kwa,_⟩,_,_,_,_,dfl,_,_,_,_,_,_,_⟩:=fd
  obtain ⟨F1,F2,F3,F4,F5,F6⟩:=F
  obtain rfl:po=[]:=F1
  obtain rfl:va=none:=F2
  obtain rfl:ko=[]:=F3
  obtain rfl:kwa=none:=F4
  have F5:ar.map (·.arg)=req++opt.map (·.1):=F5
  rw[← F5] at h1 h2
  refine wpAny_bind (Zw (ps:=ar.map (·.arg)) (fun x sl a b=>?_) h2 ?_)
  · refine (if_pos (Bool.or_eq_true_iff.mpr (.inl a))).trans ?_
    rw[b];rfl
  have hs:∃ o:Option (Array Value),(o.getD #[]).toList=opt.map (·.2)∧∀ (k:Option (Array Value)→Sem (List (Str × Value))),wpAny M A (k o) Q E s→wpAny M A (seqItems? dfl >>= k) Q E s:=by
    rcases F6 with ⟨d1,d2⟩ | ⟨T,n,ds,d1,d2,d3⟩
    · obtain rfl:dfl=_:=d1
      subst d2
      exact (iEA none rfl (fun k z=>wpAny_bind (wpAny_pure z)))
    · obtain rfl:dfl=_:=d1
      exact (iEA (some ds) d3 (fun k z=>wpAny_bind (wpAny_seqItems d2 rfl z)))
  refine xEA hs fun o ho hk=>?_
  refine hk _ ?_
  have l2:(ar.map (·.arg)).length=req.length+opt.length:=by rw[F5,List.length_append,List.length_map]
  have l3:(o.getD #[]).toList.drop ((o.getD #[]).toList.length - (ar.map (·.arg)).length)=opt.map (·.2):=by
    rw[ho,List.length_map,l2,show opt.length - (req.length+opt.length)=0 by simp,List.drop_zero]
  have l4:(ar.map (·.arg)).length - ((o.getD #[]).toList.drop ((o.getD #[]).toList.length - (ar.map (·.arg)).length)).length=req.length:=by rw[l3,l2,List.length_map];simp
  refine wpAny_ite_false (show decide ((decide (vs.length > (ar.map (·.arg)).length)&&true)=true)=false by rw[decide_eq_false (Nat.not_lt.mpr h1)];rfl) (wpAny_ite_false ?_ (wpAny_bind (SX (fun x sl=>?_) ?_)))
  · show decide ((!(List.filter (fun n=>(List.lookup n ((ar.map (·.arg)).zip vs++kw)).isNone) (List.take ((ar.map (·.arg)).length - (List.drop ((o.getD #[]).toList.length - (ar.map (·.arg)).length) (o.getD #[]).toList).length) (ar.map (·.arg)))).isEmpty)=true)=false
    rw[l4,F5,List.take_left' rfl,List.filter_eq_nil_iff.mpr fun n hn=>?_]
    · rfl
    · refine isK (h3 n hn) fun v hv=>?_
      rw[hv];simp
  · by_cases z:(List.lookup x.1 sl).isNone=true<;>simp[z]
  · refine wpAny_bind (wpAny_pure (wpAny_pure ?_))
    show Q ((ar.map (·.arg)++([]:List Str)).filterMap fun n=>((F0 ((ar.map (·.arg)).zip vs++kw) ((List.drop ((ar.map (·.arg)).length - (List.drop ((o.getD #[]).toList.length - (ar.map (·.arg)).length) (o.getD #[]).toList).length) (ar.map (·.arg))).zip (List.drop ((o.getD #[]).toList.length - (ar.map (·.arg)).length) (o.getD #[]).toList))).lookup n).map (n,·)) s
    rw[l4,l3,List.append_nil,F5,List.drop_left' rfl,Lm opt]
    exact q
end
section
section
variable {c:Cx} {d:Nat} {m:Loc} {h:H} {A:Around} {g:G} {s:Shared} {sc:Scope} {F:Addr→Prop} {env:Env}
theorem BB {n:Nat} {v:V} {m:Loc} (k:Nat):(m.set n v).rw.lookup k=if k=n then (m.rw.lookup n).map (fun _=>some v) else m.rw.lookup k:=E0 k
theorem Rep.own (V:Aw c sc F env g m h s) (R:Rep c g h s) {a:Addr} (ha:F a) {h':Heap} {tk:Nat} (hs:Heap.SameBut a s.heap h') (hal:(h'.get? a).isSome=true) :
    Rep c g h { s with heap:=h',toks:=tk }∧Ext F g h s g h { s with heap:=h',toks:=tk }:=by
  have X:Ext F g h s g h { s with heap:=h',toks:=tk }:=by
   refine ⟨fun _ e=>⟨e,rfl⟩,fun _ _ e=>e,fun _ _=>rfl,fun _ _=>rfl,fun b l=>?_,fun b o e _ nf=>(hs.2 b (fun q=>nf (q▸ha))).trans e⟩
   by_cases q:b=a
   · rw[q];exact hal
   · show (h'.get? b).isSome=true
     rw[hs.2 b q];exact l
  refine ⟨R.other (fun b o e k=>(hs.2 b (fun q=>?_)).trans e) rfl rfl,X⟩
  subst q
  refine xAA (V.ex _ ha) fun e1 e2 _=>?_
  rw[e1,e2] at k
  rcases k with k | k<;>exact ff k
theorem BM {n:Nat} {v:V} {rv:Value} (O:c.Ok) (V:Aw c sc F env g m h s) (R:Rep c g h s) (hn:(m.rw.lookup n).isSome=true) (r:Ai g h v rv) {Q:Unit→Shared→Prop} {E:Value→Shared→Prop}
    (q:∀ s',Ext F g h s g h s'→Rep c g h s'→Aw c sc F env g (m.set n v) h s'→Q () s'):wpAny (model c.prog c.w) A (storeName env (c.nm n) rv) Q E s:=by
  refine BC V.vars fun mm hns v1 v2=>?_
  have hlc:∀ {a v},s.heap.IsCell a v→a≠env.locals:=fun zz e=>xEA zz fun o ho hd=>by
    obtain ⟨o',es,ep,h1,h2,_⟩:=hns
    rw[e,h1] at ho;cases ho
    rw[h2] at hd;injection hd
  rcases V.sto n hn with k | ⟨k,a,v₀,e1,e2,e3⟩
  · refine wpAny_storeName_local k hns (fun h' hn' hs'=>?_) (by rw[V.kind];rfl)
    have alv:(h'.get? env.locals).isSome=true:=by obtain ⟨o,es,ep,hL,_⟩:=hn';rw[hL];rfl
    obtain ⟨R',X⟩:=Rep.own V R V.own (tk:=s.toks+1) hs' alv
    have kc:∀ {b v},s.heap.IsCell b v→h'.IsCell b v:=fun e=>e.sameBut hs' (hlc e)
    have kv:∀ {k w},k≠n→D0 c env g h s.heap mm k w→D0 c env g h h' (fun x=>if x=c.nm n then some rv else mm x) k w:=fun hk zz=>xEA zz fun rw_ r1 z =>
      (iEA rw_ r1 (z.imp (fun zy8a=>zy8a.elim fun a1 a2=>⟨a1,by show (if _ then _ else _)=_;rw[if_neg (fun e=>hk (O.inj _ _ e))];exact a2⟩) fun zz=>Qc zz fun a1 b b1 b2 b3=>(Jg a1 b b1 b2 (kc b3))))
    refine q _ X R' ⟨V.kind,V.glob,V.bi,V.cd,V.kinds,V.cinj,fun a e=>?_,V.own,(Bj _ hn' (fun k w e=>?_) (fun k w z e=>?_)),V.has,fun x a e=>?_,fun k e=>?_⟩
    · obtain ⟨x1,x2,x3⟩:=V.ex a e
      exact (iAA x1 x2 (X.alive a x3))
    · rw[BB] at e
      by_cases hk:k=n
      · subst hk
        rw[if_pos rfl] at e
        refine isK hn fun o ho=>?_
        rw[ho] at e;cases e
        exact (iEA rv r (.inl ⟨by assumption,if_pos rfl⟩))
      · rw[if_neg hk] at e;exact kv hk (v1 k w e)
    · rw[BB] at z
      by_cases hk:k=n
      · subst hk;rw[if_pos rfl] at z
        refine isK hn fun o ho=>?_
        rw[ho] at z;exact nn z.symm
      · rw[if_neg hk] at z;exact kv hk (v2 k w z e)
    · exact X.alive _ (V.clt x a e)
    · rw[BB] at e
      have e':(m.rw.lookup k).isSome=true:=by
        by_cases hk:k=n
        · rw[hk];exact hn
        · rwa [if_neg hk] at e
      exact (V.sto k e').imp id fun zz=>Ms zz fun z b w b1 b2 b3=>(HX z b w b1 b2 (kc b3))
  · refine wpAny_storeName_cell V.kind k e1 e3 fun h' hc' hs'=>?_
    have alv:(h'.get? a).isSome=true:=by obtain ⟨o,hL,_⟩:=hc';rw[hL];rfl
    obtain ⟨R',X⟩:=Rep.own V R e2 (tk:=s.toks) hs' alv
    have hns':h'.Ns env.locals mm:=hns.sameBut hs' (Ne.symm (hlc e3))
    have kv:∀ {k w},k≠n→D0 c env g h s.heap mm k w→D0 c env g h h' mm k w:=fun hk zz=>xEA zz fun rw_ r1 z =>
      (iEA rw_ r1 (z.imp id fun zz=>Qc zz fun a1 b b1 b2 b3=>(Jg a1 b b1 b2 (b3.sameBut hs' fun q=>hk (O.inj _ _ (V.cinj _ _ _ b1 (q▸e1)))))))
    refine q _ X R' ⟨V.kind,V.glob,V.bi,V.cd,V.kinds,V.cinj,fun a e=>?_,V.own,(Bj _ hns' (fun k w e=>?_) (fun k w z e=>?_)),V.has,fun x a e=>?_,fun j e=>?_⟩
    · obtain ⟨x1,x2,x3⟩:=V.ex a e
      exact (iAA x1 x2 (X.alive a x3))
    · rw[BB] at e
      by_cases hk:k=n
      · subst hk
        rw[if_pos rfl] at e
        refine isK hn fun o ho=>?_
        rw[ho] at e;cases e
        exact (iEA rv r (.inr (Jg (.inl (by assumption)) a e1 ((V.ex a e2).1) hc')))
      · rw[if_neg hk] at e;exact kv hk (v1 k w e)
    · rw[BB] at z
      by_cases hk:k=n
      · subst hk;rw[if_pos rfl] at z
        refine isK hn fun o ho=>?_
        rw[ho] at z;exact nn z.symm
      · rw[if_neg hk] at z;exact kv hk (v2 k w z e)
    · exact X.alive _ (V.clt _ _ e)
    · rw[BB] at e
      have e':(m.rw.lookup j).isSome=true:=by
        by_cases hk:j=n
        · rw[hk];exact hn
        · rwa [if_neg hk] at e
      refine (V.sto j e').imp id fun zz=>Ms zz fun z b w b1 b2 b3=>?_
      by_cases hb:b=a
      · subst hb;exact (HX z b _ b1 b2 hc')
      · exact (HX z b w b1 b2 (b3.sameBut hs' hb))
noncomputable def CI (k:Nat) (cs:List (Str × Addr)):Prop:=(∀ x y a,cs.lookup x=some a→cs.lookup y=some a→x=y)∧∀ x a,cs.lookup x=some a→a<k
theorem CI.cons {k:Nat} {cs:List (Str × Addr)} {n:Str} (x:CI k cs):CI (k+1) ((n,k)::cs):=by
  refine ⟨fun a b e h1 h2=>?_,fun a e h1=>?_⟩
  · rw[List.lookup_cons] at h1 h2
    cases ha:a==n<;>cases hb:b==n<;>rw[ha] at h1<;>rw[hb] at h2
    · exact x.1 a b e h1 h2
    · cases h2;exact absurd (x.2 _ _ h1) (Nat.lt_irrefl _)
    · cases h1;exact absurd (x.2 _ _ h2) (Nat.lt_irrefl _)
    · rw[beq_iff_eq.mp ha,beq_iff_eq.mp hb]
  · rw[List.lookup_cons] at h1
    cases ha:a==n<;>rw[ha] at h1
    · exact Nat.lt_succ_of_lt (x.2 _ _ h1)
    · cases h1;exact Nat.lt_succ_self _
theorem Kj:∀ {names:List (Str × NameKind)} {k:Nat} {cs:List (Str × Addr)},CI k cs→∃ k',CI k' (cellsFrom k names cs):=by
  intro zl;induction zl with
  | nil =>
    intro k cs x
    exact ⟨k,x⟩
  | cons zq r ih =>
    obtain ⟨n,kd⟩:=zq
    intro k cs x
    unfold cellsFrom
    split
    · exact ih x.cons
    · exact ih x
theorem Eh:∀ {names:List (Str × NameKind)} {h:Heap} {cs:List (Str × Addr)} {x:Str} {a:Addr},(cellsFrom h.objs.size names cs).lookup x=some a →
    cs.lookup x=some a∨(h.objs.size≤a∧(pushCells h names).IsCell a none):=by
  intro zl;induction zl with
  | nil =>
    intro h cs x a e
    exact .inl e
  | cons zq r ih =>
    obtain ⟨n,kd⟩:=zq
    intro h cs x a e
    unfold cellsFrom at e
    unfold pushCells
    split at e
    · rename_i q
      rw[if_pos q]
      have hz:(h.push { cls:=.type "cell",data:=.cell none }).objs.size=h.objs.size+1:=Heap.size_push ..
      rw[← hz] at e
      rcases ih e with i | ⟨i1,i2⟩
      · rw[List.lookup_cons] at i
        cases ha:x==n<;>rw[ha] at i
        · exact .inl i
        · cases i
          exact .inr ⟨Nat.le_refl _,(iEA _ (pushCells_keeps _ _ _ _ (Heap.get?_push_size _ rfl)) rfl)⟩
      · rw[hz] at i1
        exact .inr ⟨by exact Nat.le_of_lt ‹_›,i2⟩
    · rename_i q
      rw[if_neg q]
      exact ih e
theorem DX:∀ {names:List (Str × NameKind)} {k:Nat} {cs:List (Str × Addr)} {x:Str},(cs.lookup x).isSome=true→((cellsFrom k names cs).lookup x).isSome=true:=by
  intro zl;induction zl with
  | nil =>
    intro k cs x e
    exact e
  | cons zq r ih =>
    obtain ⟨n,kd⟩:=zq
    intro k cs x e
    unfold cellsFrom
    split
    · refine ih ?_
      rw[List.lookup_cons]
      cases x==n
      · exact e
      · rfl
    · exact ih e
theorem B1:∀ {names:List (Str × NameKind)} {k:Nat} {cs:List (Str × Addr)} {x:Str},names.lookup x=some .cell→((cellsFrom k names cs).lookup x).isSome=true
  | (n,kd)::r,k,cs,x,e=>by
    rw[List.lookup_cons] at e
    unfold cellsFrom
    cases hx:x==n<;>rw[hx] at e
    · split<;>exact B1 e
    · cases e
      show ((cellsFrom (k+1) r ((n,k)::cs)).lookup x).isSome=true
      refine DX ?_
      rw[List.lookup_cons,hx];rfl
theorem GY:∀ {names:List (Str × NameKind)} {k:Nat} {cs:List (Str × Addr)} {x:Str},(∀ p∈names,p.1=x→p.2≠.cell)→(cellsFrom k names cs).lookup x=cs.lookup x:=by
  intro zl;induction zl with
  | nil =>
    intro k cs x e
    exact rfl
  | cons zq r ih =>
    obtain ⟨n,kd⟩:=zq
    intro k cs x e
    unfold cellsFrom
    split
    · rename_i q
      rw[ih (fun p hp=>e p (List.mem_cons_of_mem _ hp)),List.lookup_cons]
      have:(x==n)=false:=by
        cases hx:x==n with
        | false=>rfl
        | true=>exact absurd (beq_iff_eq.mp q) (e (n,kd) List.mem_cons_self (beq_iff_eq.mp hx).symm)
      rw[this]
    · exact ih (fun p hp=>e p (List.mem_cons_of_mem _ hp))
end
end
section
section
variable {c:Cx} {d:Nat} {m:Loc} {h:H} {A:Around} {g:G} {s:Shared} {sc:Scope} {F:Addr→Prop} {env:Env}
noncomputable def Bv (c:Cx) (g:G) (h:H):List (Nat × V)→List (Str × Value)→Prop
  | [],r=>r=[]
  | x::xs,r=>∃ rv t,r=(c.nm x.1,rv)::t∧Ai g h x.2 rv∧Bv c g h xs t
noncomputable def setAll:List (Nat × V)→Loc→Loc
  | [],m=>m
  | (n,v)::r,m=>setAll r (m.set n v)
theorem Bv.mono {g g':G} {h h':H} {s s':Shared} {E} (x:Ext E g h s g' h' s'):∀ {bs:List (Nat × V)} {rbs:List (Str × Value)},Bv c g h bs rbs→Bv c g' h' bs rbs:=by
  intro zl;induction zl with
  | nil =>
    intro _ e
    exact e
  | cons _ _ ih =>
    rintro _ ⟨rv,t,e1,e2,e3⟩
    exact (Al rv t e1 (Ai.mono x e2) (ih e3))
theorem Lo (O:c.Ok) {f:Str × Value→PUnit→Sem (ForInStep PUnit)} (hf:∀ n v u,f (n,v) u=(do storeName env n v;pure (.yield ⟨⟩))) {Ex:Value→Shared→Prop} {Q:PUnit→Shared→Prop} {g₀:G} {h₀:H} {s₀:Shared} :
    ∀ {bs:List (Nat × V)} {rbs:List (Str × Value)} {m:Loc} {s:Shared},Aw c sc F env g m h s→Rep c g h s→Bv c g h bs rbs→(∀ x∈bs,(m.rw.lookup x.1).isSome=true)→Ext F g₀ h₀ s₀ g h s →
      (∀ s',Ext F g₀ h₀ s₀ g h s'→Rep c g h s'→Aw c sc F env g (setAll bs m) h s'→Q ⟨⟩ s')→wpAny (model c.prog c.w) A (forIn rbs ⟨⟩ f) Q Ex s
  | [],rbs,m,s,V,R,b,hn,X,q=>by
    subst b
    exact wpAny_pure (q s X R V)
  | (n,v)::bs,rbs,m,s,V,R,b,hn,X,q=>by
    obtain ⟨rv,t,rfl,r,b⟩:=b
    rw[List.forIn_cons,hf]
    refine wpAny_bind (wpAny_bind (BM O V R (hn _ List.mem_cons_self) r fun s' X' R' V'=>wpAny_pure ?_))
    refine Lo O hf V' R' (b.mono X') (fun x hx=>?_) (X.trans X') q
    rw[BB]
    have:=hn x (List.mem_cons_of_mem _ hx)
    split
    · rename_i e;rw[e] at this
      rw[Option.isSome_map];exact this
    · exact this
structure FE (c:Cx) (sc:Scope) (names:List (Str × NameKind)) (cl:List (Str × Addr)) (env:Env) (g:G) (m:Loc) (h:H) (s:Shared):Prop where
  kind:env.scope.kind=.function
  glob:env.globals=mainGlobals
  bi:env.builtins=builtinsNs
  cd:∀ x,c.code sc=some x→env.code=.ref x.1
  loc:env.locals=s.heap.objs.size
  cells:env.cells=cellsFrom (s.heap.objs.size+1) names cl
  kinds:∀ x k,sc.names.lookup x=some k→env.kindOf x=some k∨(k=.free∧env.kindOf x=some .cell)
  ci:CI s.heap.objs.size cl
  ca:∀ x a,cl.lookup x=some a→(s.heap.get? a).isSome=true
  has:∀ x,env.kindOf x=some .cell∨env.kindOf x=some .free→((cellsFrom (s.heap.objs.size+1) names cl).lookup x).isSome=true
  rw_:∀ n o,m.rw.lookup n=some o→o=none∧(env.kindOf (c.nm n)=some .local∨(env.kindOf (c.nm n)=some .cell∧names.lookup (c.nm n)=some .cell∧cl.lookup (c.nm n)=none))
  ro:∀ n v,m.rw.lookup n=none→m.ro.lookup n=some v→(∀ p∈names,p.1=c.nm n→p.2≠.cell)∧∃ rv a,Ai g h v rv∧(env.kindOf (c.nm n)=some .cell∨env.kindOf (c.nm n)=some .free)∧cl.lookup (c.nm n)=some a∧g.slot a=none∧s.heap.IsCell a (some rv)
theorem Ls {names:List (Str × NameKind)} {cl:List (Str × Addr)} {ob:Obj} (R:Rep c g h s) (N:FE c sc names cl env g m h s) (hob:ob.isFreed=false) (hd:ob.data=.dict #[]) {s':Shared} (hs:s'={ s with heap:=pushCells (s.heap.push ob) names }) :
    Ext No g h s g h s'∧Rep c g h s'∧Aw c sc (fun a=>s.heap.get? a=none∧(s'.heap.get? a).isSome=true) env g m h s':=by
  have hk:∀ a o,s.heap.get? a=some o→s'.heap.get? a=some o:=fun a o e=>by rw[hs];exact pushCells_keeps _ _ _ _ (Heap.get?_push_of_some _ e)
  have X:Ext No g h s g h s':=⟨fun _ e=>⟨e,rfl⟩,fun _ _ e=>e,fun _ _=>rfl,fun _ _=>rfl,fun b l=>by refine isK l fun o q=>?_;rw[hk b o q];rfl,fun b o e _ nf=>hk b o e⟩
  have R':Rep c g h s':=R.other (fun a o e _=>hk a o e) (by rw[hs]) (by rw[hs])
  have hL:s'.heap.get? s.heap.objs.size=some ob:=by rw[hs];exact pushCells_keeps _ _ _ _ (Heap.get?_push_size _ hob)
  have hp1:(s.heap.push ob).objs.size=s.heap.objs.size+1:=Heap.size_push ..
  have ci1:CI (s.heap.objs.size+1) cl:=⟨N.ci.1,fun x a e=>Nat.lt_succ_of_lt (N.ci.2 x a e)⟩
  have spec:∀ {x a},env.cells.lookup x=some a→cl.lookup x=some a∨(s.heap.objs.size+1≤a∧s'.heap.IsCell a none):=fun {x a} e=>by
    rw[N.cells,← hp1] at e
    have:=Eh e
    rw[hp1] at this
    refine hs.symm▸?_;exact this
  have ns:s'.heap.Ns env.locals fun _=>none:=by
    rw[N.loc]
    refine (Ab ob (#[]) 0 hL ?_ (fun e he=>by simp at he) (fun x=>by rfl))
    exact hd
  refine (iAA X R' ⟨N.kind,N.glob,N.bi,N.cd,N.kinds,?_,fun a e=>(iAA ((R.none_ e.1).1) ((R.none_ e.1).2) e.2),⟨by rw[N.loc];exact AL _,by rw[N.loc,hL];rfl⟩,(Bj _ ns (fun n v e=>?_) (fun n v z e=>?_)),fun x e=>by rw[N.cells];exact N.has x e,fun x a e=>?_,fun n e=>?_⟩)
  · refine xE (Kj (names:=names) ci1) fun k' ck=>?_
    refine N.cells.symm▸?_;exact ck.1
  · cases (N.rw_ n _ e).1
  · obtain ⟨n1,rv,a,r,k,e1,e2,e3⟩:=N.ro n v z e
    exact (iEA rv r (.inr (Jg k a (by rw[N.cells,GY n1];exact e1) e2 (e3.keeps hk))))
  · rcases spec e with i | ⟨_,o,i,_⟩
    · exact X.alive a (N.ca x a i)
    · rw[i];rfl
  · refine isK e fun o ho=>?_
    refine (N.rw_ n o ho).2.imp id fun zz=>xAA zz fun k1 k2 k3=>⟨k1,?_⟩
    refine isK (B1 (k:=s.heap.objs.size+1) (cs:=cl) k2) fun a ha=>?_
    rw[← N.cells] at ha
    rcases spec ha with i | ⟨i1,i2⟩
    · rw[k3] at i;exact nn i
    · refine (Al a none ha ⟨?_,by refine xEA i2 fun o i2 _=>?_;rw[i2];rfl⟩ i2)
      cases z:s.heap.get? a with
      | none=>rfl
      | some o=>exact absurd (Heap.lt_size z) (Nat.not_lt.mpr (Nat.le_of_succ_le i1))
theorem Oy (O:c.Ok) {scope:Scope} {cl:List (Str × Addr)} {bs:List (Nat × V)} {rbs:List (Str × Value)} {qual:Str} {func:Option Addr} {code:Value} {around:Option Env} {builtins:Addr} {Ex:Value→Shared→Prop} {Q:Env→Shared→Prop}
    (R:Rep c g h s) (N:FE c sc scope.names cl (newEnv scope s.heap.objs.size mainGlobals (cellsFrom (s.heap.objs.size+1) scope.names cl) qual func code around builtins) g m h s) (b:Bv c g h bs rbs) (hn:∀ x∈bs,(m.rw.lookup x.1).isSome=true)
    (q:∀ F s',(∀ a,F a→s.heap.get? a=none)→Ext F g h s g h s'→Rep c g h s'→Aw c sc F (newEnv scope s.heap.objs.size mainGlobals (cellsFrom (s.heap.objs.size+1) scope.names cl) qual func code around builtins) g (setAll bs m) h s' →
      Q (newEnv scope s.heap.objs.size mainGlobals (cellsFrom (s.heap.objs.size+1) scope.names cl) qual func code around builtins) s') :
    wpAny (model c.prog c.w) A (newFunctionEnv scope mainGlobals cl rbs qual func code around builtins) Q Ex s:=by
  refine wpAny_bind (wpAny_alloc ?_)
  refine wpAny_bind (wpAny_layCells _ (fun name kind cells=>by cases hkc:kind==NameKind.cell<;>simp[hkc]) _ _ _ _ ?_)
  refine xAA (Ls (ob:={ cls:=.type (if around.isSome then "dict" else "frame"),data:=.dict #[] }) R N rfl rfl rfl) fun X R' V=>?_
  have hz:(s.heap.push { cls:=.type (if around.isSome then "dict" else "frame"),data:=.dict #[] }).objs.size=s.heap.objs.size+1:=Heap.size_push ..
  refine hz.symm▸?_
  refine wpAny_bind (Lo O (env:=newEnv scope s.heap.objs.size mainGlobals (cellsFrom (s.heap.objs.size+1) scope.names cl) qual func code around builtins) ?_ V R' b hn X.up fun s' X' R'' V'=>?_)
  · intro n v u
    cases around<;>rfl
  · have:=q _ s' (fun a e=>e.1) X' R'' V'
    cases around<;>exact wpAny_pure this
end
end
section
inductive Out where
  | nx | br | ct
  | rt (v:V)
noncomputable def B5 (g:G) (h:H):Out→Flow→Prop
  | .nx,f=>f=.next
  | .br,f=>f=.brk
  | .ct,f=>f=.cont
  | .rt v,f=>∃ rv,f=.ret rv∧Ai g h v rv
noncomputable def BI:Expr→Bool
  | .ListComp ..=>true
  | .DictComp ..=>true
  | .SetComp ..=>true
  | _=>false
structure PS where
  t:Nat
  a:Expr
  b:Expr
  d:Expr
  u:Option Expr
  l:List Expr
  s:Str
  r:Str
  A:List Stmt
  B:List Stmt
  C:List Stmt
  h:Option ExceptHandler
  hs:List ExceptHandler
  ps:Arguments
  f:Scope
  m:Option Expr
  n:Nat
  p:Pos
  q:Pos
noncomputable def a₀:Arguments:=⟨[],[],none,[],[],none,[]⟩
noncomputable def s₀:PS:=⟨0,e₀,e₀,e₀,none,[],⟨#[]⟩,⟨#[]⟩,[],[],[],none,[],a₀,f₀,none,0,p₀,p₀⟩
noncomputable def Zr:Expr→Expr→Pos→PS
  | .Name x p,e,q=>⟨2,e,e₀,e₀,none,[],x,⟨#[]⟩,[],[],[],none,[],a₀,f₀,none,0,p,q⟩
  | .Attribute o x p,e,q=>⟨3,e,o,e₀,none,[],x,⟨#[]⟩,[],[],[],none,[],a₀,f₀,none,0,p,q⟩
  | .Subscript o i p,e,q=>⟨4,e,o,i,none,[],⟨#[]⟩,⟨#[]⟩,[],[],[],none,[],a₀,f₀,none,0,p,q⟩
  | .Tuple ts n p,e,q=>⟨5,e,e₀,e₀,none,ts,⟨#[]⟩,⟨#[]⟩,[],[],[],none,[],a₀,f₀,none,n,p,q⟩
  | _,_,_=>s₀
noncomputable def XJ:Expr→Expr→List Stmt→Pos→PS
  | .Name x p,e,b,q=>⟨10,e,e₀,e₀,none,[],x,⟨#[]⟩,b,[],[],none,[],a₀,f₀,none,0,p,q⟩
  | .Tuple ts n p,e,b,q=>⟨11,e,e₀,e₀,none,ts,⟨#[]⟩,⟨#[]⟩,b,[],[],none,[],a₀,f₀,none,n,p,q⟩
  | _,_,_,_=>s₀
noncomputable def Y5:Expr→Pos→PS
  | .Subscript o i p,q=>⟨6,e₀,o,i,none,[],⟨#[]⟩,⟨#[]⟩,[],[],[],none,[],a₀,f₀,none,0,p,q⟩
  | _,_=>s₀
noncomputable def ps:Stmt→PS
  | .Expr e p=>⟨1,e,e₀,e₀,none,[],⟨#[]⟩,⟨#[]⟩,[],[],[],none,[],a₀,f₀,none,0,p,p₀⟩
  | .Assign ts e q=>match ts with
    | [t]=>Zr t e q
    | _=>s₀
  | .Delete ts q=>match ts with
    | [t]=>Y5 t q
    | _=>s₀
  | .Return u p=>⟨7,e₀,e₀,e₀,u,[],⟨#[]⟩,⟨#[]⟩,[],[],[],none,[],a₀,f₀,none,0,p,p₀⟩
  | .If t a b p=>⟨8,t,e₀,e₀,none,[],⟨#[]⟩,⟨#[]⟩,a,b,[],none,[],a₀,f₀,none,0,p,p₀⟩
  | .While t a b p=>⟨9,t,e₀,e₀,none,[],⟨#[]⟩,⟨#[]⟩,a,b,[],none,[],a₀,f₀,none,0,p,p₀⟩
  | .For t e b c q=>match c with
    | []=>XJ t e b q
    | _=>s₀
  | .Assert t m p=>⟨12,t,e₀,e₀,none,[],⟨#[]⟩,⟨#[]⟩,[],[],[],none,[],a₀,f₀,m,0,p,p₀⟩
  | .Pass p=>⟨13,e₀,e₀,e₀,none,[],⟨#[]⟩,⟨#[]⟩,[],[],[],none,[],a₀,f₀,none,0,p,p₀⟩
  | .Break p=>⟨14,e₀,e₀,e₀,none,[],⟨#[]⟩,⟨#[]⟩,[],[],[],none,[],a₀,f₀,none,0,p,p₀⟩
  | .Continue p=>⟨15,e₀,e₀,e₀,none,[],⟨#[]⟩,⟨#[]⟩,[],[],[],none,[],a₀,f₀,none,0,p,p₀⟩
  | .Try a hs b c p=>match hs with
    | h::hs=>⟨16,e₀,e₀,e₀,none,[],⟨#[]⟩,⟨#[]⟩,a,b,c,some h,hs,a₀,f₀,none,0,p,p₀⟩
    | []=>s₀
  | .FunctionDef x ps b ds u ts f tf y p=>match ds,u,ts,tf with
    | [],none,[],none=>⟨17,e₀,e₀,e₀,none,[],x,y,b,[],[],none,[],ps,f,none,0,p,p₀⟩
    | _,_,_,_=>s₀
  | _=>s₀
noncomputable def rbS (t:Nat) (x:PS) (e:Stmt):Stmt :=
  cond (Nat.beq t 0) e (cond (Nat.beq t 1) (.Expr x.a x.p) (cond (Nat.beq t 2) (.Assign [.Name x.s x.p] x.a x.q) (cond (Nat.beq t 3) (.Assign [.Attribute x.b x.s x.p] x.a x.q) (cond (Nat.beq t 4) (.Assign [.Subscript x.b x.d x.p] x.a x.q)
  (cond (Nat.beq t 5) (.Assign [.Tuple x.l x.n x.p] x.a x.q) (cond (Nat.beq t 6) (.Delete [.Subscript x.b x.d x.p] x.q) (cond (Nat.beq t 7) (.Return x.u x.p) (cond (Nat.beq t 8) (.If x.a x.A x.B x.p) (cond (Nat.beq t 9) (.While x.a x.A x.B x.p)
  (cond (Nat.beq t 10) (.For (.Name x.s x.p) x.a x.A [] x.q) (cond (Nat.beq t 11) (.For (.Tuple x.l x.n x.p) x.a x.A [] x.q) (cond (Nat.beq t 12) (.Assert x.a x.m x.p) (cond (Nat.beq t 13) (.Pass x.p) (cond (Nat.beq t 14) (.Break x.p) (cond (Nat.beq t 15) (.Continue x.p)
  (cond (Nat.beq t 16) (.Try x.A (x.h.toList++x.hs) x.B x.C x.p) (.FunctionDef x.s x.ps x.A [] none [] x.f none x.r x.p)))))))))))))))))
theorem U1 (e:Stmt):e=rbS (ps e).t (ps e) e:=by
  cases e with
  | Assign ts e q=>match ts with
    | [t]=>cases t<;>rfl
    | []=>rfl
    | _::_::_=>rfl
  | Delete ts q=>match ts with
    | [t]=>cases t<;>rfl
    | []=>rfl
    | _::_::_=>rfl
  | For t e b c q=>match c with
    | []=>cases t<;>rfl
    | _::_=>rfl
  | Try a hs b c p=>cases hs<;>rfl
  | FunctionDef x ps b ds u ts f tf y p=>match ds,u,ts,tf with
    | [],none,[],none=>rfl
    | _::_,_,_,_=>rfl
    | [],some _,_,_=>rfl
    | [],none,_::_,_=>rfl
    | [],none,[],some _=>rfl
  | _=>rfl
theorem Ba {e:Stmt} {n:Nat} (h:Nat.beq (ps e).t n=true):e=rbS n (ps e) e:=(U1 e).trans (congrArg (rbS · (ps e) e) (eN h))
noncomputable def LO:Expr→Bool
  | .Tuple ..=>true
  | _=>false
noncomputable def He (ps:Arguments):Bool:=ps.defaults.isEmpty&&ps.kw_defaults.isEmpty&&ps.posonlyargs.isEmpty&&ps.kwonlyargs.isEmpty&&ps.vararg.isNone&&ps.kwarg.isNone&&ps.args.all (·.annotation.isNone)
mutual
noncomputable def ckS (c:CxN) (sc:Scope):S→Stmt→Bool
  | .expr x,e=>Nat.beq (ps e).t 1&&(ckE c sc x (ps e).a&&!BI (ps e).a)
  | .asg n x,e=>Nat.beq (ps e).t 2&&(c.nm n==(ps e).s&&(ckE c sc x (ps e).a&&!BI (ps e).a))
  | .asgC n x,e=>Nat.beq (ps e).t 2&&(c.nm n==(ps e).s&&(ckE c sc x (ps e).a&&BI (ps e).a))
  | .asgA o n x,e=>Nat.beq (ps e).t 3&&(c.nm n==(ps e).s&&(ckE c sc o (ps e).b&&(ckE c sc x (ps e).a&&!BI (ps e).a)))
  | .asgI o i x,e=>Nat.beq (ps e).t 4&&(ckE c sc o (ps e).b&&(ckE c sc i (ps e).d&&(!DL (ps e).d&&(ckE c sc x (ps e).a&&!BI (ps e).a))))
  | .asgT ns x,e=>Nat.beq (ps e).t 5&&(Bg c ns (ps e).l&&(ckE c sc x (ps e).a&&(!BI (ps e).a&&!LO (ps e).a)))
  | .del o i,e=>Nat.beq (ps e).t 6&&(ckE c sc o (ps e).b&&(ckE c sc i (ps e).d&&!DL (ps e).d))
  | .ret x,e=>Nat.beq (ps e).t 7&&IC (ckE c sc x) (EL x) (ps e).u
  | .iff t a b,e=>Nat.beq (ps e).t 8&&(ckE c sc t (ps e).a&&(Cq c sc a (ps e).A&&Cq c sc b (ps e).B))
  | .whl t a,e=>Nat.beq (ps e).t 9&&((ps e).B.isEmpty&&(ckE c sc t (ps e).a&&Cq c sc a (ps e).A))
  | .for1 n x a,e=>Nat.beq (ps e).t 10&&(c.nm n==(ps e).s&&(ckE c sc x (ps e).a&&(!EX (ps e).a&&Cq c sc a (ps e).A)))
  | .forT ns x a,e=>Nat.beq (ps e).t 11&&(Bg c ns (ps e).l&&(ckE c sc x (ps e).a&&(!EX (ps e).a&&Cq c sc a (ps e).A)))
  | .assert t,e=>Nat.beq (ps e).t 12&&ckE c sc t (ps e).a
  | .pass,e=>Nat.beq (ps e).t 13
  | .brk,e=>Nat.beq (ps e).t 14
  | .cont,e=>Nat.beq (ps e).t 15
  | .try_ a b z,e=>Nat.beq (ps e).t 16&&((ps e).h.isSome&&(Cq c sc a (ps e).A&&(Cq c sc b (ps e).B&&Cq c sc z (ps e).C)))
  | .def_ n,e=>Nat.beq (ps e).t 17&&(c.nm n==(ps e).s&&(c.nm n==(ps e).r&&(He (ps e).ps&&((c.code sc).isSome&&(ps e).f.names.all (fun p=>p.2 != .free || sc.names.lookup p.1==some .cell || sc.names.lookup p.1==some .free)))))
  | .bad,_=>true
termination_by structural x=>x
noncomputable def Cq (c:CxN) (sc:Scope):List S→List Stmt→Bool
  | [],es=>es.isEmpty
  | x::xs,es=>match es with | e::es=>ckS c sc x e&&Cq c sc xs es | []=>false
termination_by structural x=>x
end
section
variable {c:CxN} {sc:Scope} {e:Stmt}
theorem UG {n:Nat} (h:ckS c sc (.def_ n) e=true):∃ ps b scope p,e=.FunctionDef (c.nm n) ps b [] none [] scope none (c.nm n) p∧He ps=true∧(c.code sc).isSome=true ∧
    ∀ p∈scope.names,p.2=.free→sc.names.lookup p.1=some .cell∨sc.names.lookup p.1=some .free:=by
  refine Ad h fun h0 h=>?_
  refine Ad h fun h1 h=>?_
  refine Ad h fun h2 h=>?_
  refine Ad h fun h3 h=>?_
  have z:=Ba h0
  refine (Ez _ _ _ _ ((z.trans (congrArg (fun x=>Stmt.FunctionDef x _ _ _ _ _ _ _ _ _) (eq_of_beq h1).symm)).trans (congrArg (fun x=>Stmt.FunctionDef _ _ _ _ _ _ _ _ x _) (eq_of_beq h2).symm)) h3 ((Aa h).1) (fun p hp e=>?_))
  have:=List.all_eq_true.mp (Aa h).2 p hp
  rw[e] at this
  exact (Bool.or_eq_true_iff.mp this).imp eq_of_beq eq_of_beq
theorem JT {es:List Stmt} (h:Cq c sc [] es=true):es=[]:=GI h
theorem KV {x:S} {xs:List S}:∀ {es:List Stmt},Cq c sc (x::xs) es=true→∃ e r,es=e::r∧ckS c sc x e=true∧Cq c sc xs r=true
  | e::r,h=>(Ff e r rfl (Aa h))
theorem QL {x:X} (h:ckS c sc (.expr x) e=true):∃ y p,e=.Expr y p∧ckE c sc x y=true∧BI y=false:=by
  refine Ad h fun h0 h=>?_
  exact (Al _ _ (Ba h0) ((Aa h).1) (A9 (Aa h).2))
theorem WN {n:Nat} {x:X} (h:ckS c sc (.asg n x) e=true):∃ y p q,e=.Assign [.Name (c.nm n) p] y q∧ckE c sc x y=true∧BI y=false:=by
  refine Ad h fun h0 h=>?_
  refine Ad h fun h1 h=>?_
  exact (DM _ _ _ ((Ba h0).trans (congrArg (fun x=>Stmt.Assign [.Name x _] _ _) (eq_of_beq h1).symm)) ((Aa h).1) (A9 (Aa h).2))
theorem M6 {n:Nat} {x:X} (h:ckS c sc (.asgC n x) e=true):∃ y p q,e=.Assign [.Name (c.nm n) p] y q∧ckE c sc x y=true∧BI y=true:=by
  refine Ad h fun h0 h=>?_
  refine Ad h fun h1 h=>?_
  exact (El _ _ _ ((Ba h0).trans (congrArg (fun x=>Stmt.Assign [.Name x _] _ _) (eq_of_beq h1).symm)) (Aa h))
theorem R8 {n:Nat} {o x:X} (h:ckS c sc (.asgA o n x) e=true):∃ z y p q,e=.Assign [.Attribute z (c.nm n) p] y q∧ckE c sc o z=true∧ckE c sc x y=true∧BI y=false:=by
  refine Ad h fun h0 h=>?_
  refine Ad h fun h1 h=>?_
  refine Ad h fun h2 h=>?_
  exact (Ez _ _ _ _ ((Ba h0).trans (congrArg (fun x=>Stmt.Assign [.Attribute _ x _] _ _) (eq_of_beq h1).symm)) h2 ((Aa h).1) (A9 (Aa h).2))
theorem SK {o i x:X} (h:ckS c sc (.asgI o i x) e=true):∃ z j y p q,e=.Assign [.Subscript z j p] y q∧ckE c sc o z=true∧ckE c sc i j=true∧DL j=false∧ckE c sc x y=true∧BI y=false:=by
  refine Ad h fun h0 h=>?_
  refine Ad h fun h1 h=>?_
  refine Ad h fun h2 h=>?_
  refine Ad h fun h3 h=>?_
  exact ⟨_,_,_,_,_,Ba h0,h1,h2,A9 h3,(Aa h).1,A9 (Aa h).2⟩
theorem Sl {ns:List Nat} {x:X} (h:ckS c sc (.asgT ns x) e=true):∃ ts y k p q,e=.Assign [.Tuple ts k p] y q∧Bg c ns ts=true∧ckE c sc x y=true∧BI y=false∧LO y=false:=by
  refine Ad h fun h0 h=>?_
  refine Ad h fun h1 h=>?_
  refine Ad h fun h2 h=>?_
  exact (Hm _ _ _ _ _ (Ba h0) h1 h2 (A9 (Aa h).1) (A9 (Aa h).2))
theorem Wi {o i:X} (h:ckS c sc (.del o i) e=true):∃ z j p q,e=.Delete [.Subscript z j p] q∧ckE c sc o z=true∧ckE c sc i j=true∧DL j=false:=by
  refine Ad h fun h0 h=>?_
  refine Ad h fun h1 h=>?_
  exact (Ez _ _ _ _ (Ba h0) h1 ((Aa h).1) (A9 (Aa h).2))
theorem Rg {x:X} (h:ckS c sc (.ret x) e=true):(∃ p,x=.none∧e=.Return none p)∨∃ y p,e=.Return (some y) p∧ckE c sc x y=true:=by
  refine Ad h fun h0 h=>?_
  rcases YZ h with ⟨q,z⟩ | ⟨y,z,h1⟩
  · exact .inl (iEA _ q ((Ba h0).trans (congrArg (Stmt.Return · _) z)))
  · exact .inr (Ff y _ ((Ba h0).trans (congrArg (Stmt.Return · _) z)) h1)
theorem Xy {t:X} {a b:List S} (h:ckS c sc (.iff t a b) e=true):∃ u p q r,e=.If u p q r∧ckE c sc t u=true∧Cq c sc a p=true∧Cq c sc b q=true:=by
  refine Ad h fun h0 h=>?_
  exact (FS _ _ _ _ (Ba h0) ((Aa h).1) (Aa (Aa h).2))
theorem Wa {t:X} {a:List S} (h:ckS c sc (.whl t a) e=true):∃ u p r,e=.While u p [] r∧ckE c sc t u=true∧Cq c sc a p=true:=by
  refine Ad h fun h0 h=>?_
  refine Ad h fun h1 h=>?_
  exact (El _ _ _ ((Ba h0).trans (congrArg (Stmt.While _ _ · _) (GI h1))) (Aa h))
theorem Ss {n:Nat} {x:X} {a:List S} (h:ckS c sc (.for1 n x a) e=true):∃ p y b q,e=.For (.Name (c.nm n) p) y b [] q∧ckE c sc x y=true∧EX y=false∧Cq c sc a b=true:=by
  refine Ad h fun h0 h=>?_
  refine Ad h fun h1 h=>?_
  refine Ad h fun h2 h=>?_
  exact (Ez _ _ _ _ ((Ba h0).trans (congrArg (fun x=>Stmt.For (.Name x _) _ _ _ _) (eq_of_beq h1).symm)) h2 (A9 (Aa h).1) ((Aa h).2))
theorem ND {ns:List Nat} {x:X} {a:List S} (h:ckS c sc (.forT ns x a) e=true):∃ ts k p y b q,e=.For (.Tuple ts k p) y b [] q∧Bg c ns ts=true∧ckE c sc x y=true∧EX y=false∧Cq c sc a b=true:=by
  refine Ad h fun h0 h=>?_
  refine Ad h fun h1 h=>?_
  refine Ad h fun h2 h=>?_
  exact ⟨_,_,_,_,_,_,Ba h0,h1,h2,A9 (Aa h).1,(Aa h).2⟩
theorem N2 {t:X} (h:ckS c sc (.assert t) e=true):∃ u z p,e=.Assert u z p∧ckE c sc t u=true:=by
  refine Ad h fun h0 h=>?_
  exact (El _ _ _ (Ba h0) h)
theorem Ri {a b z:List S} (h:ckS c sc (.try_ a b z) e=true):∃ p q r h₀ hs pos,e=.Try p (h₀::hs) q r pos∧Cq c sc a p=true∧Cq c sc b q=true∧Cq c sc z r=true:=by
  refine Ad h fun h0 h=>?_
  refine Ad h fun h1 h=>?_
  refine isK h1 fun w hw=>?_
  exact ⟨_,_,_,w,(ps e).hs,_,(Ba h0).trans (congrArg (fun (o:Option ExceptHandler)=>Stmt.Try (ps e).A (o.toList++(ps e).hs) (ps e).B (ps e).C (ps e).p) hw),(Aa h).1,Aa (Aa h).2⟩
end
noncomputable abbrev StP (c:Cx) (sc:Scope) (F:Addr→Prop) (env:Env) (g:G) (h:H) (s:Shared) (Q:Out→Loc→H→Prop):Flow→Shared→Prop:=fun f s'=>∃ g' h' m' o,Ext F g h s g' h' s'∧Rep c g' h' s'∧Aw c sc F env g' m' h' s'∧B5 g' h' o f∧Q o m' h'
noncomputable def StW (c:Cx) (A:Around) (t:Sem Flow) (sc:Scope) (F:Addr→Prop) (env:Env) (g:G) (h:H) (s:Shared) (Q:Out→Loc→H→Prop):Prop :=
  wpAny (model c.prog c.w) A t (StP c sc F env g h s Q) NoE s
noncomputable def St (c:Cx) (d:Nat) (x:S) (m:Loc) (h:H) (Q:Out→Loc→H→Prop):Prop :=
  ∀ sc e,ckS c.N sc x e=true→∀ A env F g s,OkA d A→Aw c sc F env g m h s→Rep c g h s→StW c A (exec e env) sc F env g h s Q
noncomputable def Sts (c:Cx) (d:Nat) (x:List S) (m:Loc) (h:H) (Q:Out→Loc→H→Prop):Prop :=
  ∀ sc e,Cq c.N sc x e=true→∀ A env F g s,OkA d A→Aw c sc F env g m h s→Rep c g h s→StW c A (execs e env) sc F env g h s Q
section
variable {c:Cx} {d:Nat} {m:Loc} {h:H} {A:Around} {g:G} {s:Shared} {sc:Scope} {F:Addr→Prop} {env:Env}
theorem StW.use {t:Sem Flow} {Q:Out→Loc→H→Prop} {P:Flow→Shared→Prop} {Ex:Value→Shared→Prop} (x:StW c A t sc F env g h s Q)
    (k:∀ f s' g' h' m' o,Ext F g h s g' h' s'→Rep c g' h' s'→Aw c sc F env g' m' h' s'→B5 g' h' o f→Q o m' h'→P f s'):wpAny (model c.prog c.w) A t P Ex s :=
  wpAny_mono x (fun f s' zy36a=>BX zy36a fun g' h' m' o e1 e2 e3 e4 e5=>k f s' g' h' m' o e1 e2 e3 e4 e5) fun _ _ z=>z.elim
theorem StW.from {g₀:G} {h₀:H} {s₀:Shared} {t:Sem Flow} {Q:Out→Loc→H→Prop} {Ex:Value→Shared→Prop} (e:Ext F g₀ h₀ s₀ g h s) (x:StW c A t sc F env g h s Q) :
    wpAny (model c.prog c.w) A t (StP c sc F env g₀ h₀ s₀ Q) Ex s :=
  x.use fun _ _ g' h' m' o e1 e2 e3 e4 e5=>(An g' h' m' o (e.trans e1) e2 e3 e4 e5)
theorem St.mono {x:S} {Q Q':Out→Loc→H→Prop} (p:St c d x m h Q) (k:∀ o m' h',Q o m' h'→Q' o m' h'):St c d x m h Q':=fun sc e ck A env F g s hA V R =>
  (p sc e ck A env F g s hA V R).use fun _ _ g' h' m' o e1 e2 e3 e4 e5=>(An g' h' m' o e1 e2 e3 e4 (k _ _ _ e5))
theorem Sts.mono {x:List S} {Q Q':Out→Loc→H→Prop} (p:Sts c d x m h Q) (k:∀ o m' h',Q o m' h'→Q' o m' h'):Sts c d x m h Q':=fun sc e ck A env F g s hA V R =>
  (p sc e ck A env F g s hA V R).use fun _ _ g' h' m' o e1 e2 e3 e4 e5=>(An g' h' m' o e1 e2 e3 e4 (k _ _ _ e5))
theorem EE {Q:Out→Loc→H→Prop} (q:Q .nx m h):Sts c d [] m h Q:=by
  intro sc e ck A env F g s hA V R
  rw[JT ck]
  exact wpAny_execs_nil (An g h m .nx Ext.refl R V rfl q)
noncomputable def Vq (c:Cx) (d:Nat) (xs:List S) (Q:Out→Loc→H→Prop):Out→Loc→H→Prop
  | .nx,m,h=>Sts c d xs m h Q
  | o,m,h=>Q o m h
theorem AD {x:S} {xs:List S} {Q:Out→Loc→H→Prop} (p:St c d x m h (Vq c d xs Q)):Sts c d (x::xs) m h Q:=by
  intro sc e ck A env F g s hA V R
  refine Au (KV ck) fun e r zz37c c1 c2=>?_;obtain rfl:=zz37c
  refine wpAny_execs_cons ((p _ _ c1 _ _ _ _ _ hA V R).use fun f s₁ g₁ h₁ m₁ o e1 R1 V1 r1 q1=>?_)
  cases o with
  | nx=>unfold B5 at r1;subst r1;exact (q1 _ _ c2 _ _ _ _ _ hA V1 R1).from e1
  | br=>unfold B5 at r1;subst r1;exact ⟨g₁,h₁,m₁,.br,e1,R1,V1,rfl,q1⟩
  | ct=>unfold B5 at r1;subst r1;exact ⟨g₁,h₁,m₁,.ct,e1,R1,V1,rfl,q1⟩
  | rt v =>
    have r1':=r1
    refine xEA r1 fun rv zz38b r1=>?_;obtain rfl:=zz38b
    exact (An g₁ h₁ m₁ (.rt v) e1 R1 V1 r1' q1)
theorem Il {e:Expr} {t:Option Expr} {l:Nat} {env:Env} (h:BI e=false):swapsWith e t l env=pure false:=by
  cases e<;>first | rfl | exact ff h.symm
theorem Pi (V:Aw c sc F env g m h s):interactive env=false:=by
  unfold interactive;rw[V.kind];rfl
theorem G2 {x:X} {Q:Out→Loc→H→Prop} (p:E c d x m h fun _ h₁=>Q .nx m h₁):St c d (.expr x) m h Q:=by
  intro sc e ck A env F g s hA V R
  refine Au (QL ck) fun y pos zz39c c1 c2=>?_;obtain rfl:=zz39c
  refine wpAny_Expr_any ((p _ _ c1 _ _ _ _ _ hA V R).use fun rv s₁ g₁ h₁ v e1 R1 r1 q1=>?_) (Pi V) (Il c2)
  exact (An g₁ h₁ m .nx e1.up R1 (V.ext e1) rfl q1)
theorem Hw (O:c.Ok) {n:Nat} {x:X} {Q:Out→Loc→H→Prop} (hn:(m.rw.lookup n).isSome=true) (p:E c d x m h fun v h₁=>Q .nx (m.set n v) h₁):St c d (.asg n x) m h Q:=by
  intro sc e ck A env F g s hA V R
  refine Be (WN ck) fun y pos pos' zz40d c1 c2=>?_;obtain rfl:=zz40d
  refine wpAny_Assign_Name ((p _ _ c1 _ _ _ _ _ hA V R).use fun rv s₁ g₁ h₁ v e1 R1 r1 q1=>?_) (Il c2)
  exact BM O (V.ext e1) R1 hn r1 fun s' X R' V'=>(An g₁ h₁ _ .nx (e1.up.trans X) R' V' rfl q1)
theorem KC {Q:Out→Loc→H→Prop} (q:Q (.rt .none) m h):St c d (.ret .none) m h Q:=by
  intro sc e ck A env F g s hA V R
  have z:B5 g h (.rt .none) (.ret .none):=(iEA _ rfl DJ)
  rcases Rg ck with ⟨pos,_,rfl⟩ | ⟨y,pos,rfl,c1⟩
  · exact wpAny_Return_none (An g h m (.rt .none) Ext.refl R V z q)
  · refine xEE (NF c1) fun _ _ zz41c=>?_;obtain rfl:=zz41c
    exact wpAny_Return_some (wpAny_pure (An g h m (.rt .none) Ext.refl R V z q))
theorem PF {x:X} {Q:Out→Loc→H→Prop} (hx:EL x=false) (p:E c d x m h fun v h₁=>Q (.rt v) m h₁):St c d (.ret x) m h Q:=by
  intro sc e ck A env F g s hA V R
  rcases Rg ck with ⟨pos,rfl,rfl⟩ | ⟨y,pos,rfl,c1⟩
  · exact ff hx.symm
  · refine wpAny_Return_some ((p _ _ c1 _ _ _ _ _ hA V R).use fun rv s₁ g₁ h₁ v e1 R1 r1 q1=>?_)
    exact (An g₁ h₁ m (.rt v) e1.up R1 (V.ext e1) (iEA _ rfl r1) q1)
theorem O6 {t:X} {a b:List S} {Q:Out→Loc→H→Prop} (p:Bt c d t m h fun z h₁=>if z=true then Sts c d a m h₁ Q else Sts c d b m h₁ Q):St c d (.iff t a b) m h Q:=by
  intro sc e ck A env F g s hA V R
  refine CO (Xy ck) fun u p1 q1 pos zz42e c1 c2 c3=>?_;obtain rfl:=zz42e
  refine wpAny_If ((p _ _ c1 _ _ _ _ _ hA V R).use fun z s₁ g₁ h₁ e1 R1 k=>?_)
  split
  · rename_i hz;rw[if_pos hz] at k;exact (k _ _ c2 _ _ _ _ _ hA (V.ext e1) R1).from e1.up
  · rename_i hz;rw[if_neg hz] at k;exact (k _ _ c3 _ _ _ _ _ hA (V.ext e1) R1).from e1.up
theorem NP {t:X} {Q:Out→Loc→H→Prop} (p:Bt c d t m h fun z h₁=>z=true∧Q .nx m h₁):St c d (.assert t) m h Q:=by
  intro sc e ck A env F g s hA V R
  refine D1 (N2 ck) fun u z pos zz43d c1=>?_;obtain rfl:=zz43d
  refine wpAny_Assert_holds ((p _ _ c1 _ _ _ _ _ hA V R).use fun z s₁ g₁ h₁ e1 R1 k=>(HH k.1 g₁ h₁ m .nx e1.up R1 (V.ext e1) rfl k.2))
theorem WX {Q:Out→Loc→H→Prop} (q:Q .br m h):St c d .brk m h Q:=by
  intro sc e ck A env F g s hA V R
  rw[Ba ck]
  exact wpAny_Break (An g h m .br Ext.refl R V rfl q)
theorem Sn {Q:Out→Loc→H→Prop} (q:Q .ct m h):St c d .cont m h Q:=by
  intro sc e ck A env F g s hA V R
  rw[Ba ck]
  exact wpAny_Continue (An g h m .ct Ext.refl R V rfl q)
theorem Vv {a b:List S} {Q:Out→Loc→H→Prop} (p:Sts c d a m h (Vq c d b Q)):St c d (.try_ a b []) m h Q:=by
  intro sc e ck A env F g s hA V R
  obtain ⟨p1,q1,r1,h₀,hs,pos,rfl,c1,c2,c3⟩:=Ri ck
  rw[JT c3]
  refine wpAny_Try_except ((p _ _ c1 _ _ _ _ _ hA V R).use fun f s₁ g₁ h₁ m₁ o e1 R1 V1 r1 q1=>?_)
  cases o with
  | nx=>unfold B5 at r1;subst r1;exact (q1 _ _ c2 _ _ _ _ _ hA V1 R1).from e1
  | br=>unfold B5 at r1;subst r1;exact ⟨g₁,h₁,m₁,.br,e1,R1,V1,rfl,q1⟩
  | ct=>unfold B5 at r1;subst r1;exact ⟨g₁,h₁,m₁,.ct,e1,R1,V1,rfl,q1⟩
  | rt v =>
    have r1':=r1
    refine xEA r1 fun rv zz45b r1=>?_;obtain rfl:=zz45b
    exact (An g₁ h₁ m₁ (.rt v) e1 R1 V1 r1' q1)
theorem LZ {a z:List S} {y:S} {Q:Out→Loc→H→Prop} (p:Sts c d a m h fun o m₁ h₁=>o=.nx∧Sts c d (y::z) m₁ h₁ fun o' m₂ h₂=>o'=.nx∧Q .nx m₂ h₂):St c d (.try_ a [] (y::z)) m h Q:=by
  intro sc e ck A env F g s hA V R
  obtain ⟨p1,q1,r1,h₀,hs,pos,rfl,c1,c2,c3⟩:=Ri ck
  rw[JT c2]
  refine Au (KV c3) fun y' r' zz47c c4 c5=>?_;obtain rfl:=zz47c
  refine wpAny_Try_except_finally ((p _ _ c1 _ _ _ _ _ hA V R).use fun f s₁ g₁ h₁ m₁ o e1 R1 V1 r1 q1=>?_)
  obtain ⟨rfl,q1⟩:=q1
  unfold B5 at r1;subst r1
  refine wpAny_execs_nil ((q1 _ _ c3 _ _ _ _ _ hA V1 R1).use fun f s₂ g₂ h₂ m₂ o e2 R2 V2 r2 q2=>?_)
  obtain ⟨rfl,q2⟩:=q2
  unfold B5 at r2;subst r2
  exact (An g₂ h₂ m₂ .nx (e1.trans e2) R2 V2 rfl q2)
end
end
section
noncomputable def lkF (k:Nat) (l:Frag):Option Obj:=@List.rec (Addr × Obj) (fun _=>Option Obj) none (fun p _ ih=>cond (Nat.beq k p.1) (some p.2) ih) l
theorem Nq {k:Nat} {o:Obj}:∀ {l:Frag},lkF k l=some o→l.lookup k=some o:=by
  intro l;induction l with
  | nil=>intro e;exact nn e
  | cons p r ih =>
    intro e
    have e:cond (Nat.beq k p.1) (some p.2) (lkF k r)=some o:=e
    rw[List.lookup_cons]
    by_cases z:k=p.1
    · rw[← z,Nat.beq_refl] at e
      rw[← z,beq_self_eq_true];exact e
    · have z':Nat.beq k p.1=false:=Bool.eq_false_iff.mpr fun y=>z (eN y)
      rw[z'] at e
      rw[beq_eq_false_iff_ne.mpr z];exact ih e
noncomputable def lsq (a:List Nat):List Nat→Bool:=@List.rec Nat (fun _=>List Nat→Bool) (fun b=>b.isEmpty) (fun x _ ih b=>match b with
    | []=>false
    | y::b=>cond (Nat.beq x y) (ih b) false) a
theorem Yd:∀ {a b:List Nat},lsq a b=true→a=b:=by
  intro a;induction a with
  | nil=>intro b e;exact (GI e).symm
  | cons x a ih =>
    intro b e
    cases b with
    | nil=>exact ff e
    | cons y b =>
      have e:cond (Nat.beq x y) (lsq a b) false=true:=e
      cases z:Nat.beq x y with
      | false=>rw[z] at e;exact ff e
      | true=>rw[z] at e;rw[eN z,ih e]
noncomputable def sEq (a b:Str):Bool:=lsq a.cps.toList b.cps.toList
theorem Yb {a b:Str} (e:sEq a b=true):a=b:=congrArg Str.mk (Array.toList_inj.mp (Yd e))
noncomputable def PH:Data→Option (Array Value)
  | .seq vs _=>some vs
  | _=>none
noncomputable def Tm (K:Frag) (a:Addr):Option (Array Value):=(lkF a K).bind fun o=>cond (o.cls==.type "tuple" && (o.dict.isNone&&o.slots.isEmpty)) (PH o.data) none
noncomputable def Iq:Value→Option Addr
  | .ref a=>some a
  | _=>none
noncomputable def ST:Option V→V→Bool
  | some (.str s),.str t=>s==t
  | _,_=>false
theorem PY {o:Option V} {v:V} (e:ST o v=true):o=some v:=by
  cases o with
  | none=>exact absurd e fT
  | some x =>
    cases x<;>first | exact absurd e fT | skip
    cases v<;>first | exact absurd e fT | skip
    rw[eq_of_beq e]
noncomputable def W2 (K:Frag) (v:V) (x:Value):Bool:=match v with
  | .str s=>ST (toV x) (.str s)
  | .tup xs=>xs.isEmpty&&((Iq x).bind (Tm K)).any (·.isEmpty)
  | .none=>x==.none
  | .bool b=>x==.bool b
  | _=>false
noncomputable def Na (K:Frag):List V→List Value→Bool
  | [],[]=>true
  | a::as,b::bs=>W2 K a b&&Na K as bs
  | _,_=>false
noncomputable def Xp (K:Frag) (opt:List V) (x:Value):Bool:=(x==.none&&opt.isEmpty) || ((Iq x).bind (Tm K)).any fun vs=>Na K opt vs.toList
noncomputable def ZU:Data→Option FuncData
  | .func fd=>some fd
  | _=>none
noncomputable def Rr (K:Frag) (fa:Addr):Option FuncData:=(lkF fa K).bind fun o=>ZU o.data
noncomputable def Wn:FuncBody→List Stmt
  | .stmts b=>b
  | _=>[]
noncomputable def SR:FuncBody→Bool
  | .stmts _=>true
  | _=>false
noncomputable def Ak.ps (D:Ak):List Nat:=D.req++D.opt.map (·.1)
noncomputable def Zg:Data→Option (Array Value)
  | .fields vs=>some vs
  | _=>none
noncomputable def XM:Value→Option Str
  | .str n _=>some n
  | _=>none
noncomputable def MG (K:Frag) (cd:Value) (q:Str):Bool:=(((Iq cd).bind fun c=>(lkF c K).bind fun o=>Zg o.data).bind fun vs=>(vs[1]?).bind XM).any (sEq · q)
noncomputable def Wv (c:CxN) (K:Frag) (D:Ak) (fd:FuncData):Bool :=
  MG K fd.code fd.qualname&&!fd.scope.isCoroutine&&!fd.scope.isGenerator&&fd.scope.kind==.function&&fd.closure.isEmpty&&fd.globals==mainGlobals&&fd.builtins==builtinsNs &&
  SR fd.body&&fd.params.posonlyargs.isEmpty&&fd.params.vararg.isNone&&fd.params.kwonlyargs.isEmpty&&fd.params.kwarg.isNone&&fd.params.args.map (·.arg)==D.ps.map c.nm &&
  Xp K (D.opt.map (·.2)) fd.defaults&&D.locs.all (fun n=>fd.scope.names.lookup (c.nm n)==some .local || fd.scope.names.lookup (c.nm n)==some .cell) &&
  D.ps.all (fun n=>D.locs.contains n)&&fd.scope.names.all (fun p=>p.2 != .free)&&(match c.code fd.scope with | some x=>fd.code==.ref x.1 | none=>true)
noncomputable def Hr (c:CxN) (K:Frag) (fa:Addr) (D:Ak):Bool:=match Rr K fa with
  | some fd=>Wv c K D fd&&Cq c fd.scope D.body (Wn fd.body)
  | none=>false
noncomputable def GS (D:Ak) (vs:List V) (ns:List Nat) (ks:List V):List (Nat × V) :=
  D.ps.filterMap fun n=>(((D.ps.zip vs++ns.zip ks).lookup n).or (D.opt.lookup n)).map (n,·)
noncomputable def Bu:List Nat→Bool
  | []=>true
  | x::r=>!r.contains x&&Bu r
noncomputable def LH (D:Ak) (k:Nat) (ns:List Nat):Bool :=
  decide (k≤D.ps.length)&&ns.all (fun n=>D.ps.contains n&&!(D.ps.take k).contains n)&&Bu ns&&D.req.all (fun n=>(D.ps.take k).contains n || ns.contains n)
section
variable {c:Cx} {d:Nat} {m:Loc} {h:H} {A:Around} {g:G} {s:Shared} {sc:Scope} {F:Addr→Prop} {env:Env}
theorem Bv.append:∀ {a b:List (Nat × V)} {ra rb:List (Str × Value)},Bv c g h a ra→Bv c g h b rb→Bv c g h (a++b) (ra++rb):=by
  intro zl;induction zl with
  | nil =>
    intro b ra rb x y
    subst x;exact y
  | cons p a ih =>
    intro b ra rb x y
    refine Au x fun rv t zz1c e2 e3=>?_;obtain rfl:=zz1c
    exact (Al rv (t++rb) rfl e2 (ih e3 y))
theorem Bv.zip:∀ {ps:List Nat} {vs:List V} {rvs:List Value},Ac g h vs rvs→Bv c g h (ps.zip vs) ((ps.map c.nm).zip rvs)
  | [],vs,rvs,e=>by cases vs<;>rfl
  | p::ps,[],rvs,e=>by subst e;rfl
  | p::ps,v::vs,rvs,e=>by
    refine Au e fun rv r zz2c e1 e2=>?_;obtain rfl:=zz2c
    exact (Al rv _ rfl e1 (Bv.zip e2))
theorem Bv.none_ (hi:∀ n n',c.nm n=c.nm n'→n=n'):∀ {l:List (Nat × V)} {rl:List (Str × Value)} {n:Nat},Bv c g h l rl→l.lookup n=none→rl.lookup (c.nm n)=none:=by
  intro zl;induction zl with
  | nil =>
    intro rl n e q
    subst e;rfl
  | cons zq l ih =>
    obtain ⟨k,v⟩:=zq
    intro rl n e q
    refine Au e fun rv t zz3c e1 e2=>?_;obtain rfl:=zz3c
    rw[List.lookup_cons] at q ⊢
    cases z:n==k<;>rw[z] at q
    · have:(c.nm n==c.nm k)=false:=by
        cases y:c.nm n==c.nm k with
        | false=>rfl
        | true=>rw[hi _ _ (beq_iff_eq.mp y)] at z;simp at z
      refine this.symm▸?_;exact ih e2 q
    · exact nn q.symm
theorem Bv.some_ (hi:∀ n n',c.nm n=c.nm n'→n=n'):∀ {l:List (Nat × V)} {rl:List (Str × Value)} {n:Nat} {v:V},Bv c g h l rl→l.lookup n=some v→∃ rv,rl.lookup (c.nm n)=some rv∧Ai g h v rv:=by
  intro zl;induction zl with
  | nil =>
    intro rl n v e q
    exact nn q
  | cons zq l ih =>
    obtain ⟨k,w⟩:=zq
    intro rl n v e q
    refine Au e fun rv t zz4c e1 e2=>?_;obtain rfl:=zz4c
    rw[List.lookup_cons] at q ⊢
    cases z:n==k<;>rw[z] at q
    · have:(c.nm n==c.nm k)=false:=by
        cases y:c.nm n==c.nm k with
        | false=>rfl
        | true=>rw[hi _ _ (beq_iff_eq.mp y)] at z;simp at z
      refine this.symm▸?_;exact ih e2 q
    · cases q
      refine (beq_iff_eq.mp z).symm▸?_
      simp only[beq_self_eq_true]
      exact (iEA rv rfl e1)
theorem RU {d:Data} {vs:Array Value} (e:PH d=some vs):∃ n,d=.seq vs n:=by
  cases d<;>first | exact nn e | exact ⟨_,by rw[← oJ e]⟩
theorem Jn {x:Value} {a:Addr} (e:Iq x=some a):x=.ref a:=by
  cases x<;>first | exact nn e | rw[← oJ e]
theorem Pm {K:Frag} {x:Value} {p:Array Value→Bool} (e:((Iq x).bind (Tm K)).any p=true):∃ a n vs,x=.ref a∧K.lookup a=some { cls:=.type "tuple",dict:=none,data:=.seq vs n,slots:=#[] }∧p vs=true:=by
  cases q:(Iq x).bind (Tm K) with
  | none=>rw[q] at e;exact absurd e fT
  | some vs =>
    rw[q] at e
    refine Am q fun a q1 q=>?_
    refine Am q fun o q2 q=>?_
    have q1:=Jn q1
    obtain ⟨cl,dx,dt,sl⟩:=o
    cases z:(cl==.type "tuple" && (dx.isNone&&sl.isEmpty)) with
    | false =>
      have q:cond (cl==.type "tuple" && (dx.isNone&&sl.isEmpty)) (PH dt) none=some vs:=q
      rw[z] at q;exact nn q
    | true =>
      rw[z] at q
      refine xE (RU q) fun n zz2b=>?_;obtain rfl:=zz2b
      simp only[Bool.and_eq_true,beq_iff_eq,Array.isEmpty_iff,Option.isNone_iff_eq_none] at z
      refine xAA z fun zz9a zz9b zz9c=>?_;obtain rfl:=zz9a;obtain rfl:=zz9b;obtain rfl:=zz9c
      exact (DM a n vs q1 (Nq q2) e)
theorem Nu {v:V} {rv:Value} (e:toV rv=some v):Ai g h v rv:=by
  cases rv<;>first | exact nn e | (rw[← oJ e];exact PN)
theorem PM {K:Frag} (X:K.In c.B) (R:Rep c g h s) {v:V} {rv:Value} (e:W2 K v rv=true):Ai g h v rv:=by
  cases v with
  | none=>rw[eq_of_beq (show (rv==.none)=true from e)];exact DJ
  | str s=>exact Nu (PY e)
  | bool b=>rw[eq_of_beq (show (rv==.bool b)=true from e)];exact A7
  | tup xs =>
    have e:=Bool.and_eq_true_iff.mp (show (xs.isEmpty&&_)=true from e)
    refine Be (Pm e.2) fun a n vs zz10d q e2=>?_;obtain rfl:=zz10d
    rw[List.isEmpty_iff.mp e.1]
    rw[Array.isEmpty_iff.mp e2] at q
    exact ⟨a,n,#[],rfl,R.base _ _ (X _ _ q),by rfl⟩
  | _=>exact absurd e fT
theorem IR {K:Frag} (X:K.In c.B) (R:Rep c g h s):∀ {vs:List V} {rvs:List Value},Na K vs rvs=true→Ac g h vs rvs
  | [],[],_=>by rfl
  | [],_::_,e=>by exact ff e
  | _::_,[],e=>by exact ff e
  | a::as,b::bs,e=>by
    have e:(W2 K a b&&Na K as bs)=true:=e
    simp only[Bool.and_eq_true] at e
    exact (Al b bs rfl (PM X R e.1) (IR X R e.2))
theorem N3 {K:Frag} {h:Heap} (X:K.In h) {cd:Value} {q:Str} (e:MG K cd q=true):h.CodeRec cd q:=by
  cases z:((Iq cd).bind fun c=>(lkF c K).bind fun o=>Zg o.data).bind fun vs=>(vs[1]?).bind XM with
  | none=>unfold MG at e;rw[z] at e;exact ff e
  | some t =>
    unfold MG at e;rw[z] at e
    refine Am z fun vs z y=>?_
    refine Am z fun c q1 z=>?_
    refine Am z fun o q2 z=>?_
    refine Am y fun v q3 y=>?_
    obtain ⟨u,hu⟩:∃ u,v=.str t u:=by cases v<;>first | exact nn y | exact ⟨_,by rw[← oJ y]⟩
    have hd:o.data=.fields vs:=by
      cases w:o.data<;>rw[w] at z<;>first | exact nn z | rw[← oJ z]
    exact ⟨c,o,vs,u,Jn q1,X _ _ (Nq q2),hd,by rw[q3,hu,Yb e]⟩
theorem OH {K:Frag} {fa:Addr} {fd:FuncData} (e:Rr K fa=some fd):∃ o,K.lookup fa=some o∧o.data=.func fd:=by
  refine Am e fun o q e=>?_
  refine (iEA o (Nq q) ?_)
  cases z:o.data<;>rw[z] at e<;>first | exact nn e | rw[← oJ e]
theorem EV (hi:∀ n n',c.nm n=c.nm n'→n=n') {f:Nat→Option V} {rf:Str→Option Value}:∀ {ps:List Nat},(∀ n∈ps,(f n=none∧rf (c.nm n)=none)∨∃ v rv,f n=some v∧rf (c.nm n)=some rv∧Ai g h v rv) →
    Bv c g h (ps.filterMap fun n=>(f n).map (n,·)) ((ps.map c.nm).filterMap fun x=>(rf x).map (x,·))
  | [],_=>rfl
  | p::ps,k=>by
    have ih:=EV hi (ps:=ps) (f:=f) (rf:=rf) fun n hn=>k n (List.mem_cons_of_mem _ hn)
    rcases k p List.mem_cons_self with ⟨e1,e2⟩ | ⟨v,rv,e1,e2,r⟩
    · simp only[List.map_cons,List.filterMap_cons,e1,e2,Option.map_none];exact ih
    · simp only[List.map_cons,List.filterMap_cons,e1,e2,Option.map_some]
      exact (Al rv _ rfl r ih)
theorem Nj (hi:∀ n n',c.nm n=c.nm n'→n=n') {ps:List Nat}:∀ {ns:List Nat} {ks:List Value} {sl:List (Str × Value)},(∀ n∈ns,ps.contains n=true∧sl.lookup (c.nm n)=none)→Bu ns=true→P3 (ps.map c.nm) sl ((ns.map c.nm).zip ks)
  | [],ks,sl,_,_=>by cases ks<;>trivial
  | n::ns,[],sl,_,_=>trivial
  | n::ns,k::ks,sl,hn,hd=>by
    have hd:(!ns.contains n&&Bu ns)=true:=hd
    simp only[Bool.and_eq_true,Bool.not_eq_true'] at hd
    have h0:=hn n List.mem_cons_self
    refine (iAA ?_ h0.2 (Nj hi (fun x hx=>⟨(hn x (List.mem_cons_of_mem _ hx)).1,?_⟩) hd.2))
    · exact List.contains_iff_mem.mpr (List.mem_map.mpr (iEA n (List.contains_iff_mem.mp h0.1) rfl))
    · rw[List.lookup_append,(hn x (List.mem_cons_of_mem _ hx)).2]
      have:(c.nm x==c.nm n)=false:=by
        cases y:c.nm x==c.nm n with
        | false=>rfl
        | true =>
          rw[hi _ _ (beq_iff_eq.mp y)] at hx
          rw[List.contains_iff_mem.mpr hx] at hd;cases hd.1
      simp[List.lookup,this]
theorem DY {x:Nat}:∀ {ps:List Nat} {vs:List V},(ps.take vs.length).contains x=false→(ps.zip vs).lookup x=none
  | [],vs,_=>by cases vs<;>rfl
  | p::ps,[],_=>rfl
  | p::ps,v::vs,e=>by
    have e:(x==p || (ps.take vs.length).contains x)=false:=e
    simp only[Bool.or_eq_false_iff] at e
    rw[List.zip_cons_cons,List.lookup_cons,e.1]
    exact DY e.2
theorem Ch {x:Nat}:∀ {ps:List Nat} {vs:List V},(ps.take vs.length).contains x=true→((ps.zip vs).lookup x).isSome=true
  | [],vs,e=>by simp at e
  | p::ps,[],e=>by simp at e
  | p::ps,v::vs,e=>by
    have e:(x==p || (ps.take vs.length).contains x)=true:=e
    simp only[List.zip_cons_cons,List.lookup_cons]
    cases z:x==p
    · rw[z] at e;exact Ch e
    · rfl
theorem Gv {ps:List Nat} {f:Nat→Option V} {x:Nat × V} (hx:x∈ps.filterMap fun n=>(f n).map (n,·)):x.1∈ps:=by
  refine xEA (List.mem_filterMap.mp hx) fun n hn e=>?_
  cases q:f n with
  | none=>rw[q] at e;exact nn e
  | some v=>rw[q] at e;cases e;exact hn
theorem B7 {α:Type}:∀ {l:List (Nat × α)} {n:Nat} {o:α},l.lookup n=some o→(n,o)∈l
  | (k,v)::r,n,o,e=>by
    rw[List.lookup_cons] at e
    cases z:n==k<;>rw[z] at e
    · exact List.mem_cons_of_mem _ (B7 e)
    · cases e;rw[beq_iff_eq.mp z];exact List.mem_cons_self
theorem DT {n:Nat}:∀ {l:List Nat},n∈l→((l.map fun n=>(n,(none:Option V))).lookup n).isSome=true
  | x::r,e=>by
    rw[List.map_cons,List.lookup_cons]
    cases z:n==x
    · rcases List.mem_cons.mp e with q | q
      · rw[q] at z;simp at z
      · exact DT q
    · rfl
noncomputable def Yl:Out→V
  | .rt v=>v
  | _=>.none
theorem OkA.deeper {d:Nat} {A:Around} {env:Env} (x:OkA (d+1) A):OkA d (A.deeper env):=by
  refine (iAA x.1 ?_ ?_)
  · have:=x.2.1;exact q1 this
  · have:=x.2.2;exact q55 this
theorem nt:∀ {b:Bool},(!b)=true→b=false
  | false,_=>rfl
theorem MW (O:c.Ok) {KF:Frag} (XF:KF.In c.B) {fa:Addr} {D:Ak} {vs:List V} {ns:List Nat} {ks:List V} {Q:V→H→Prop} (hD:Hr c.N KF fa D=true) (hb:LH D vs.length ns=true) (hk:ns.length=ks.length)
    (p:Sts c d D.body (setAll (GS D vs ns ks) ⟨[],D.locs.map (·,none)⟩) h fun o _ h'=>Q (Yl o) h'):A0 c (d+1) fa vs ns ks h Q:=by
  intro A g s rvs rks hA R r1 r2
  unfold Hr at hD
  cases hfd:Rr KF fa with
  | none=>rw[hfd] at hD;exact ff hD
  | some fd =>
  rw[hfd] at hD
  refine Ad hD fun hD hbody=>Ad hD fun hD hcc=>Ad hD fun hD hfree=>Ad hD fun hD hps=>Ad hD fun hD hloc=>Ad hD fun hD hdf=>Ad hD fun hD hnm=>Ad hD fun hD hkw=>Ad hD fun hD hko=>Ad hD fun hD hva=>Ad hD fun hD hpo=>Ad hD fun hD hst=>Ad hD fun hD hbi=>Ad hD fun hD hglo=>Ad hD fun hD hclo=>Ad hD fun hD hkd=>Ad hD fun hD hge=>Ad hD fun hcd hco=>?_
  have hco:=nt hco
  have hge:=nt hge
  have hkd:=beq_iff_eq.mp hkd
  have hclo:=List.isEmpty_iff.mp hclo
  have hglo:=beq_iff_eq.mp hglo
  have hbi:=beq_iff_eq.mp hbi
  have hnm:=beq_iff_eq.mp hnm
  refine Ad hb fun hb b4=>Ad hb fun hb b3=>Ad hb fun hb b2=>?_
  have b1:=of_decide_eq_true hb
  have X:KF.In s.heap:=XF.keeps R.keepsB
  refine xEA (OH hfd) fun o ho hdata=>?_
  obtain ⟨body,hbd⟩:∃ b,fd.body=.stmts b:=by
    cases q:fd.body with
    | stmts b=>exact ⟨b,rfl⟩
    | _=>rw[q] at hst;exact ff hst
  rw[hbd] at hbody
  obtain ⟨rd,hrd,hdflt⟩:∃ rd:List Value,Ac g h (D.opt.map (·.2)) rd∧((fd.defaults=.none∧rd=[])∨∃ T n vs,fd.defaults=.ref T∧s.heap.get? T=some { cls:=.type "tuple",dict:=none,data:=.seq vs n,slots:=#[] }∧vs.toList=rd):=by
    rcases Bool.or_eq_true_iff.mp hdf with q | q
    · have q:=Bool.and_eq_true_iff.mp q
      refine (iEA ([]) ?_ (.inl ⟨eq_of_beq q.1,rfl⟩))
      rw[List.isEmpty_iff.mp q.2];rfl
    · refine Be (Pm q) fun T n vs' e hT hv=>?_
      exact (iEA _ (IR XF R hv) (.inr (DM T n vs' e (X _ _ hT) rfl)))
  have hro:Bv c g h D.opt (((D.opt.map (·.1)).map c.nm).zip rd):=by
    have:=Bv.zip (c:=c) (ps:=D.opt.map (·.1)) hrd
    rw[Lm D.opt] at this;exact this
  have hlen:((D.opt.map (·.1)).map c.nm).length=rd.length:=by rw[hrd.len];simp
  have e1:(((D.opt.map (·.1)).map c.nm).zip rd).map (·.1)=(D.opt.map (·.1)).map c.nm:=by rw[List.map_fst_zip];exact Nat.le_of_eq hlen
  have e2:(((D.opt.map (·.1)).map c.nm).zip rd).map (·.2)=rd:=by rw[List.map_snd_zip];exact Nat.le_of_eq (id (Eq.symm hlen))
  have eps:(D.req.map c.nm)++(((D.opt.map (·.1)).map c.nm).zip rd).map (·.1)=D.ps.map c.nm:=by rw[e1];unfold Ak.ps;rw[List.map_append]
  have Fd:XE fd (D.req.map c.nm) (((D.opt.map (·.1)).map c.nm).zip rd) s.heap:=by
    refine ⟨List.isEmpty_iff.mp hpo,Option.isNone_iff_eq_none.mp hva,List.isEmpty_iff.mp hko,Option.isNone_iff_eq_none.mp hkw,by rw[hnm,eps],?_⟩
    rcases hdflt with ⟨q1,q2⟩ | ⟨T,n,vs',q1,q2,q3⟩
    · refine .inl ⟨q1,?_⟩
      rw[q2];exact List.zip_nil_right
    · exact .inr (DM T n vs' q1 q2 (by rw[q3,e2]))
  have hz:Bv c g h (D.ps.zip vs++ns.zip ks) ((D.ps.map c.nm).zip rvs++(ns.map c.nm).zip rks):=(Bv.zip r1).append (Bv.zip r2)
  have hB:BindsTo s fd ⟨rvs,(ns.map c.nm).zip rks⟩ (G5 (D.req.map c.nm) (((D.opt.map (·.1)).map c.nm).zip rd) ((D.ps.map c.nm).zip rvs++(ns.map c.nm).zip rks)):=by
    have:=IF (vs:=rvs) (kw:=(ns.map c.nm).zip rks) Fd (by rw[eps,r1.len,List.length_map];exact b1) ?_ ?_
    · rw[eps] at this;exact this
    · rw[eps]
      refine Nj O.inj (fun n hn=>?_) b3
      have q:=List.all_eq_true.mp b2 n hn
      simp only[Bool.and_eq_true,Bool.not_eq_true'] at q
      exact ⟨q.1,Bv.none_ O.inj (Bv.zip (c:=c) (ps:=D.ps) r1) (DY q.2)⟩
    · refine eps.symm▸?_
      intro x hx
      refine Dt hx fun n hn zz18c=>?_;obtain rfl:=zz18c
      have q:=List.all_eq_true.mp b4 n hn
      obtain ⟨v,hv⟩:∃ v,(D.ps.zip vs++ns.zip ks).lookup n=some v:=by
        refine Option.isSome_iff_exists.mp ?_
        rw[List.lookup_append]
        simp only[Bool.or_eq_true] at q
        rcases q with q | q
        · have:=Ch (vs:=vs) q
          cases z:(D.ps.zip vs).lookup n with
          | none=>rw[z] at this;exact ff this
          | some v=>rfl
        · cases z:(D.ps.zip vs).lookup n with
          | some v=>rfl
          | none =>
            have:((ns.zip ks).lookup n).isSome=true:=Ch (by refine hk▸List.take_length.symm▸?_;exact q)
            simpa using this
      refine xEA (Bv.some_ O.inj hz hv) fun rv hrv _=>?_
      rw[hrv];rfl
  have hbs:Bv c g h (GS D vs ns ks) (G5 (D.req.map c.nm) (((D.opt.map (·.1)).map c.nm).zip rd) ((D.ps.map c.nm).zip rvs++(ns.map c.nm).zip rks)):=by
    unfold G5 GS
    rw[eps]
    refine EV O.inj (rf:=fun x=>(F0 ((D.ps.map c.nm).zip rvs++(ns.map c.nm).zip rks) (((D.opt.map (·.1)).map c.nm).zip rd)).lookup x) fun n hn=>?_
    refine LV.symm▸?_
    cases z:(D.ps.zip vs++ns.zip ks).lookup n with
    | some v =>
      refine xEA (Bv.some_ O.inj hz z) fun rv hrv r=>?_
      refine hrv.symm▸?_;exact .inr ⟨v,rv,rfl,rfl,r⟩
    | none =>
      refine (Bv.none_ O.inj hz z).symm▸?_
      cases y:D.opt.lookup n with
      | none=>refine (Bv.none_ O.inj hro y).symm▸?_;exact .inl ⟨rfl,rfl⟩
      | some v =>
        refine xEA (Bv.some_ O.inj hro y) fun rv hrv r=>?_
        refine hrv.symm▸?_;exact .inr (Al v rv rfl rfl r)
  refine codeAny_call_function (by have:=hA.2.1;exact q56 this) (X _ _ ho) hdata hco hge hbd (N3 X hcd) (hB _ _ _ _ ?_)
  refine hglo.symm▸hbi.symm▸hclo.symm▸?_
  have lk:∀ n o,(D.locs.map fun n=>(n,(none:Option V))).lookup n=some o→o=none∧n∈D.locs:=by
    intro n o e
    have:=B7 e
    refine Dt this fun k hk e'=>?_
    cases e';exact ⟨rfl,hk⟩
  have kl:∀ n∈D.locs,fd.scope.names.lookup (c.nm n)=some .local∨fd.scope.names.lookup (c.nm n)=some .cell:=fun n hn=>by
    have:=List.all_eq_true.mp hloc n hn
    simpa only[Bool.or_eq_true,beq_iff_eq] using this
  refine Oy O (m:=⟨[],D.locs.map (·,none)⟩) (sc:=fd.scope) R ⟨hkd,rfl,rfl,(fun x e=>by rw[e] at hcc;exact beq_iff_eq.mp hcc),rfl,rfl,fun x k e=>.inl e,⟨fun _ _ _ e=>(nomatch e),fun _ _ e=>(nomatch e)⟩,fun _ _ e=>(nomatch e),fun x e=>?_,fun n o e=>?_,fun n v _ e=>by exact nn e⟩ hbs (fun x hx=>?_) fun F s' hF X' R' V'=>?_
  · rcases e with e | e
    · exact B1 e
    · have:=List.all_eq_true.mp hfree _ (mem_of_lookup e)
      simp at this
  · refine xA (lk n o e) fun zz6a hn=>?_;obtain rfl:=zz6a
    exact ⟨rfl,(kl n hn).imp id fun q=>(iAA q q rfl)⟩
  · have hp:=Gv hx
    have:=List.all_eq_true.mp hps x.1 hp
    exact DT (List.contains_iff_mem.mp this)
  · refine ⟨O.lim.keeps R'.keepsB,codeAny_func ?_⟩
    refine (p _ _ hbody _ _ _ _ _ hA.deeper V' R').use fun f s₂ g₂ h₂ m₂ o e2 R2 V2 r2 q2=>?_
    have X2:Ext No g h s g₂ h₂ s₂:=by
      have Y:=X'.trans e2
      refine ⟨Y.live,Y.fz,Y.fzold,Y.slot,Y.alive,fun a o e n _=>Y.keep a o e n fun z=>?_⟩
      rw[hF a z] at e;exact nn e
    cases o with
    | nx=>unfold B5 at r2;subst r2;exact ⟨_,g₂,h₂,.none,rfl,X2,R2,DJ,q2⟩
    | br=>unfold B5 at r2;subst r2;exact ⟨_,g₂,h₂,.none,rfl,X2,R2,DJ,q2⟩
    | ct=>unfold B5 at r2;subst r2;exact ⟨_,g₂,h₂,.none,rfl,X2,R2,DJ,q2⟩
    | rt v =>
      unfold B5 at r2;obtain ⟨rv,rfl,r2⟩:=r2
      exact (An _ g₂ h₂ v rfl X2 R2 r2 q2)
end
end
section
section
variable {c:Cx} {d:Nat} {m:Loc} {h:H} {A:Around} {g:G} {s:Shared} {sc:Scope} {F:Addr→Prop} {env:Env}
theorem Rep.allocI (R:Rep c g h s) {i:Id} (hi:h i=none) (k:Nat) {s':Shared} (hs:s'={ s with heap:=(s.heap.push emptyDict).push (instObj (c.cls k) s.heap.objs.size) }) :
    Rep c (g.addI i (s.heap.objs.size+1) s.heap.objs.size) (upd h i (.inst k [])) s'∧Ext No g h s (g.addI i (s.heap.objs.size+1) s.heap.objs.size) (upd h i (.inst k [])) s':=by
  have ne:∀ {j},(h j).isSome=true→j≠i:=fun e q=>by rw[q,hi] at e;exact ff e
  have hp1:(s.heap.push emptyDict).objs.size=s.heap.objs.size+1:=Heap.size_push ..
  have hk:∀ a o,s.heap.get? a=some o→s'.heap.get? a=some o:=fun a o e=>by rw[hs];exact Heap.get?_push_of_some _ (Heap.get?_push_of_some _ e)
  have hd:s'.heap.get? s.heap.objs.size=some emptyDict:=by rw[hs];exact Heap.get?_push_of_some _ (Heap.get?_push_size _ rfl)
  have hx:s'.heap.get? (s.heap.objs.size+1)=some (instObj (c.cls k) s.heap.objs.size):=by refine hs.symm▸hp1▸?_;exact Heap.get?_push_size _ rfl
  have ns:∀ a,(s.heap.get? a).isSome=true→(g.addI i (s.heap.objs.size+1) s.heap.objs.size).slot a=g.slot a:=fun a l=>by
    refine isK l fun o l=>?_
    have l:=Heap.lt_size l
    show (if a=_ then _ else if a=_ then _ else _)=_
    rw[if_neg (Nat.ne_of_lt (Nat.lt_succ_of_lt l)),if_neg (Nat.ne_of_lt l)]
  have hal:∀ a,(s.heap.get? a).isSome=true→(s'.heap.get? a).isSome=true:=fun a l=>by refine isK l fun o q=>?_;rw[hk a o q];rfl
  have hB:∀ a,s.heap.get? a=none→c.B.get? a=none:=fun a e=>by
    cases z:c.B.get? a with
    | none=>rfl
    | some o=>have:=R.fz _ _ (R.base _ _ z);rw[e] at this;exact nn this
  have X:Ext No g h s (g.addI i (s.heap.objs.size+1) s.heap.objs.size) (upd h i (.inst k [])) s' :=
    ⟨fun j e=>⟨by rw[Ae (ne e)];exact e,if_neg (ne e)⟩,fun _ _ e=>e,fun _ _=>rfl,ns,hal,fun a o e _ _=>hk a o e⟩
  refine ⟨⟨R.base,fun a o e=>hk a o (R.fz a o e),fun a o e=>?_,fun a x e=>?_,fun j e=>?_,fun j o' e=>?_,by rw[hs];exact R.gens,by rw[hs];exact R.os⟩,X⟩
  · rw[ns a (by rw[R.fz a o e];rfl)];exact R.apart a o e
  · by_cases q:a=s.heap.objs.size+1
    · subst q
      refine ⟨by rw[hx];rfl,hB _ ?_⟩
      cases z:s.heap.get? (s.heap.objs.size+1) with
      | none=>rfl
      | some o=>exact absurd (Heap.lt_size z) (Nat.not_lt.mpr (Nat.le_succ _))
    · by_cases q':a=s.heap.objs.size
      · subst q';exact ⟨by rw[hd];rfl,hB _ (AL _)⟩
      · have e':g.slot a=some x:=by simpa [G.addI,q,q'] using e
        exact ⟨hal a (R.lt a x e').1,(R.lt a x e').2⟩
  · by_cases q:j=i
    · subst q;simp[G.addI]
    · rw[Ae q] at e
      have z:=R.at_ j e
      have e1:(g.addI i (s.heap.objs.size+1) s.heap.objs.size).ρ j=g.ρ j:=if_neg q
      rw[e1]
      exact (ns _ (R.lt _ _ z).1).trans z
  · by_cases q:j=i
    · subst q
      rw[Aj] at e;cases e
      refine (Ab s.heap.objs.size ([]) 0 ?_ ?_ hd rfl)
      · show s'.heap.get? (if j=j then _ else _)=_
        rw[if_pos rfl];exact hx
      · show (if _=_ then _ else if _=_ then _ else _)=_
        rw[if_neg (Nat.ne_of_lt (Nat.lt_succ_self _)),if_pos rfl]
    · rw[Ae q] at e
      have hj:(h j).isSome=true:=by rw[e];rfl
      refine EO.keeps X hj R (fun a b z=>?_) (R.obj j o' e)
      have l:=(R.lt a _ z).1
      refine isK l fun o q=>?_
      rw[q];exact hk a o q
theorem OkA.underTC {d:Nat} {A:Around} {a:Addr} {rest:List Value} {kw:List (Str × Value)} (x:OkA (d+1) A):OkA d (A.under (.builtin "type.__call__" ⟨.ref a::rest,kw⟩)):=by
  refine (iAA x.1 ?_ ?_)
  · have:=x.2.1
    show A.depth+_+3*d+3<_
    exact q1 this
  · have:=x.2.2
    show A.units+_+40*d+40<_
    exact q2 this
theorem Q4 (O:c.Ok) {k:Nat} {fI:Addr} {i:Id} {vs:List V} {ns:List Nat} {ks:List V} {Q:V→H→Prop} (hm:c.meth k 25=some fI) (hi:h i=none)
    (p:A0 c d fI (.ref i::vs) ns ks (upd h i (.inst k [])) fun v h'=>v=.none∧(h' i).isSome=true∧Q (.ref i) h'):A0 c (d+1) (c.cls k) vs ns ks h Q:=by
  intro A g s rvs rks hA R r1 r2
  refine JP (O.meth _ _ _ hm) fun hc hf ht hk=>?_
  have C:=GN hc
  have X:=R.K O
  rw[O.std 25 "__init__" rfl] at hf
  obtain ⟨hh,gs,dr,tk,os⟩:=s
  refine xA (R.allocI hi k rfl) fun R' X'=>?_
  refine (make_core (makes_of X C.mks) (looks_findIn X hf) (fun self=>bind_fn X self ht) (.inl rfl) ?_)
  have rs:Ai (g.addI i (hh.objs.size+1) hh.objs.size) (upd h i (.inst k [])) (.ref i) (.ref (hh.objs.size+1)):=by
    refine And.intro (by rw[Aj];rfl) ?_;show _=Value.ref (if i=i then _ else _);rw[if_pos rfl]
  have W:=p (A.under (.builtin "type.__call__" ⟨.ref (c.cls k)::rvs,(ns.map c.nm).zip rks⟩)) _ _ (.ref (hh.objs.size+1)::rvs) rks hA.underTC R' (by exact (Al _ _ rfl rs (Ac.mono X' r1))) (Ac.mono X' r2)
  refine codeAny_mono W fun r s₁ zy7a=>BX zy7a fun rv g₁ h₁ v e0 e1 R1 r1 q1=>?_
  subst e0
  refine xAA q1 fun zz8a q1 q2=>?_;obtain rfl:=zz8a
  exact (HH r1 _ g₁ h₁ (.ref i) rfl (X'.trans e1) R1 (Ai.mono e1 rs) q2)
noncomputable def Gw (n:Nat) (v:V):List (Nat × V)→List (Nat × V)
  | []=>[(n,v)]
  | (k,w)::r=>if k==n then (k,v)::r else (k,w)::Gw n v r
theorem C1.put (hi:∀ n n',c.nm n=c.nm n'→n=n') {hsh:Int} {tk:Tok} {n:Nat} {v:V} {rv:Value} (r:Ai g h v rv):∀ {fs:List (Nat × V)} {es:List DictEntry},C1 c g h fs es→C1 c g h (Gw n v fs) (putL (c.nm n) hsh (.str (c.nm n) tk) rv es):=by
  intro zl;induction zl with
  | nil =>
    intro es e
    subst e;exact ⟨hsh,tk,rv,[],rfl,r,rfl⟩
  | cons zq fs ih =>
    obtain ⟨k,w⟩:=zq
    intro es e
    refine Hf e fun hs' t rw_ q zz9e e1 e2=>?_;obtain rfl:=zz9e
    unfold Gw putL
    have hs:(Value.str (c.nm k) t).isStr (c.nm n)=(c.nm k==c.nm n):=rfl
    refine hs.symm▸?_
    cases z:k==n
    · have:(c.nm k==c.nm n)=false:=by
        cases y:c.nm k==c.nm n with
        | false=>rfl
        | true=>rw[hi _ _ (beq_iff_eq.mp y)] at z;simp at z
      refine this.symm▸?_
      exact (FS hs' t rw_ _ rfl e1 (ih e2))
    · have:(c.nm k==c.nm n)=true:=by rw[beq_iff_eq.mp z];exact if_pos rfl
      refine this.symm▸?_
      exact (FS hs' t rv _ rfl r e2)
theorem Lk {n:Nat} {v:V}:∀ {fs:List (Nat × V)},(Gw n v fs).length≤fs.length+1
  | []=>Nat.le_refl _
  | (k,w)::r=>by
    unfold Gw
    split
    · simp
    · have:=Lk (n:=n) (v:=v) (fs:=r);exact Nat.add_le_add_right this 1
theorem V5 (O:c.Ok) {i:Id} {k n:Nat} {fs:List (Nat × V)} {v:V} {rv:Value} {tk:Tok} {RR:Result→Shared→Prop} (R:Rep c g h s) (hi:h i=some (.inst k fs)) (hf:c.fld k n=true) (hl:fs.length<900) (r:Ai g h v rv)
    (q:∀ s',Ext No g h s g (upd h i (.inst k (Gw n v fs))) s'→Rep c g (upd h i (.inst k (Gw n v fs))) s'→RR (.ok (.ret .none)) s') :
    codeAny (model c.prog c.w) A (.call (.builtin "object.__setattr__") ⟨[.ref (g.ρ i),.str (c.nm n) tk,rv],[]⟩) RR s:=by
  refine AW (R.obj i _ hi) fun dx es nn e1 e2 e3 e5=>?_
  have I:W.InstAt s.heap (g.ρ i) (instObj (c.cls k) dx) (c.cls k) (some (dictOf es nn)):=⟨e1,rfl,rfl,e3⟩
  refine xA (O.fld k n hf) fun hc hfn=>?_
  have C:=GN hc
  have X:=R.K O
  refine osa_open X I C.pl (r:=none) (by unfold takerIn;rw[hfn];rfl) fun b=>?_
  refine xEA (any_some C.hd) fun cd hcd hd=>?_
  refine wpAny_bind (wpAny_pure (wpAny_bind (wpAny_bind (wpAny_loadPart e1 ?_))))
  refine wpAny_bind ((looks_clsIn X hcd).here ?_)
  refine hd.symm▸?_
  refine wpAny_pure (a:=some dx) (wpAny_bind (wpAny_pure (wpAny_bind ?_)))
  refine wpAny_bind (wpAny_bind (wpAny_askSetting (wpAny_pure (wpAny_bind (wpAny_mkText (wpAny_bind (wpAny_loadPart e3 ?_)))))))
  dsimp only
  have cc:(!(es.toArray.any (·.key.isStr (c.nm n)))&&es.toArray.any (·.refKey))=false:=by
    exact (Array.any_toList ..)▸(Array.any_toList ..)▸(e5.noRef ..).symm▸(Bool.and_false ..).symm▸rfl
  refine (aRefKeyMayBeTheName_at ..).symm▸(cc ..).symm▸?_
  refine wpAny_updatePart e3 ?_
  have U:(s.heap.update dx (Obj.putName (c.nm n) (PyData.keyHash c.w.params (c.nm n)) (.str (c.nm n) s.toks) rv)).get? dx=some (dictOf (putL (c.nm n) (PyData.keyHash c.w.params (c.nm n)) (.str (c.nm n) s.toks) rv es) (putN (c.nm n) es nn)):=by
    rw[Heap.get?_update_self _ e3 (by rw[putName_dict];rfl),putName_dict]
  have ip:=e5.put O.inj (hsh:=PyData.keyHash c.w.params (c.nm n)) (tk:=s.toks) (n:=n) r
  refine wpAny_bind (wpAny_lookBehind U (pastItsLine_dict (by rw[List.size_toArray,ip.len];have:=Lk (n:=n) (v:=v) (fs:=fs);exact q3 hl this)) ?_)
  have hs:Heap.SameBut dx s.heap (s.heap.update dx (Obj.putName (c.nm n) (PyData.keyHash c.w.params (c.nm n)) (.str (c.nm n) s.toks) rv)):=Heap.SameBut.update ..
  have hp:g.ρ i≠dx:=fun z=>by
    have:=R.at_ i (by rw[hi];rfl)
    rw[z,e2] at this;cases this
  have hal0:∀ a b,g.slot a=some (i,b)→((s.heap.update dx (Obj.putName (c.nm n) (PyData.keyHash c.w.params (c.nm n)) (.str (c.nm n) s.toks) rv)).get? a).isSome=true:=fun a b z=>by
    by_cases y:a=dx
    · subst y;rw[U];rfl
    · rw[hs.2 a y];exact (R.lt a _ z).1
  refine xA (R.update (i:=i) (s':={ s with heap:=s.heap.update dx (Obj.putName (c.nm n) (PyData.keyHash c.w.params (c.nm n)) (.str (c.nm n) s.toks) rv),toks:=s.toks+1 }) (by rw[hi];rfl) (.inst k (Gw n v fs))
    (fun a na=>hs.2 a fun z=>na true (z▸e2)) hal0 rfl rfl fun h' m1 m2 m3 m4=>(Ab dx _ _ ((hs.2 _ hp).trans e1) e2 U (m4 _ _ ip))) fun R' X'=>?_
  exact wpAny_pure (q _ X' R')
theorem L7 (O:c.Ok) {i:Id} {k n:Nat} {fs:List (Nat × V)} {v:V} {rv:Value} {Q:Unit→Shared→Prop} {Ex:Value→Shared→Prop} (R:Rep c g h s) (hi:h i=some (.inst k fs)) (hf:c.fld k n=true) (hl:fs.length<900) (r:Ai g h v rv)
    (q:∀ s',Ext No g h s g (upd h i (.inst k (Gw n v fs))) s'→Rep c g (upd h i (.inst k (Gw n v fs))) s'→Q () s'):wpAny (model c.prog c.w) A (setAttr (.ref (g.ρ i)) (c.nm n) rv) Q Ex s:=by
  refine AW (R.obj i _ hi) fun dx es nn e1 e2 e3 e5=>?_
  have I:W.InstAt s.heap (g.ρ i) (instObj (c.cls k) dx) (c.cls k) (some (dictOf es nn)):=⟨e1,rfl,rfl,e3⟩
  refine xA (O.fld k n hf) fun hc hfn=>?_
  exact set_plain (R.K O) I (GN hc).sa (V5 O (s:={ s with toks:=s.toks+1 }) R.toks hi hf hl r fun s' X' R'=>q s' (Ext.toks.trans X') R')
theorem TC (O:c.Ok) {o x:X} {n:Nat} {Q:Out→Loc→H→Prop} (p:E c d x m h fun v h₁=>E c d o m h₁ fun ov h₂=>∃ i k fs,ov=.ref i∧h₂ i=some (.inst k fs)∧c.fld k n=true∧fs.length<900∧Q .nx m (upd h₂ i (.inst k (Gw n v fs)))):St c d (.asgA o n x) m h Q:=by
  intro sc e ck A env F g s hA V R
  refine CO (R8 ck) fun z y pos pos' zz16e c1 c2 c3=>?_;obtain rfl:=zz16e
  refine plainObj_wpAny_Assign_Attribute ((p _ _ c2 _ _ _ _ _ hA V R).use fun rv s₁ g₁ h₁ v e1 R1 r1 q1=>?_) (Il c3)
  refine (q1 _ _ c1 _ _ _ _ _ hA (V.ext e1) R1).use fun ro s₂ g₂ h₂ ov e2 R2 r2 q2=>?_
  obtain ⟨i,k,fs,rfl,hi,hf,hl,q2⟩:=q2
  obtain ⟨_,rfl⟩:=r2
  refine L7 O R2 hi hf hl (Ai.mono e2 r1) fun s' X' R'=>?_
  exact (An g₂ _ m .nx (((e1.trans e2).trans X').up) R' (V.ext ((e1.trans e2).trans X')) rfl q2)
end
end
section
section
variable {c:Cx} {d:Nat} {m:Loc} {h:H} {A:Around} {g:G} {s:Shared} {sc:Scope} {F:Addr→Prop} {env:Env}
noncomputable def DW (c:Cx) (d:Nat) (v:V) (n:Nat) (args:List X) (kws:List (Nat × X)) (m:Loc) (h:H) (Q:V→H→Prop):Prop :=
  ∀ sc as ks,Bw c.N sc args as=true→Gy c.N sc kws ks=true→∀ A env F g s rv pos pl,OkA d A→Aw c sc F env g m h s→Rep c g h s→Ai g h v rv →
    wpAny (model c.prog c.w) A (getMethod rv (c.nm n) pl) (fun r s'=>∃ g' h',Ext No g h s g' h' s'∧Rep c g' h' s'∧EvW c A (callWith pos r.1 r.2 (backTo pos (starEach as env)) (backToKw pos (keywordEach ks env))) g' h' s' Q) (fun _ _=>False) s
theorem Qv (o:Expr) (name:Str) (apos:Pos) (args:List Expr) (keywords:List Keyword) (pos:Pos) (env:Env):eval (.Call (.Attribute o name apos) args keywords pos) env=(do
    let ov ← attributeBase o name env (eval o env)
    standAt apos.atName
    methodCall o name apos pos env ov (args.length+keywords.length) (backTo pos (starEach args env)) (backToKw pos (keywordEach keywords env))):=rfl
theorem RG {l:List (Bool × Sem Value)} (h:l.any (·.1)=false):(l.all fun x=>!x.1)=true:=by
  rw[List.all_eq_not_any_not];simp only[Bool.not_not];rw[h];rfl
theorem Ry {x:X} {n:Nat} {args:List X} {kws:List (Nat × X)} {Q:V→H→Prop} (p:E c d x m h fun v h₁=>DW c d v n args kws m h₁ Q):E c d (.meth x n args kws) m h Q:=by
  intro sc e ck A env F g s hA V R
  obtain ⟨o,as,ks,p1,p2,rfl,⟨hl,hn⟩,hp,c1,c2,c3⟩:=MN ck
  rw[Qv,Ic hp]
  refine wpAny_bind ((p _ _ c1 _ _ _ _ _ hA V R).use fun rv s₁ g₁ h₁ v e1 R1 r1 q1=>wpAny_bind (wpAny_standAt ?_))
  refine xAA (Ih (env:=env) (pos:=p2) c3) fun k1 k2 k3=>?_
  have few:methodCallForm (as.length+ks.length) (backTo p2 (starEach as env)) (backToKw p2 (keywordEach ks env))=true:=by
    unfold methodCallForm
    rw[RG (Ge c2),k2]
    simp only[Bool.true_and,decide_eq_true_eq]
    split<;>lia
  unfold methodCall
  rw[few]
  unfold calleeOf methodCallPos
  simp only[if_true,Bool.not_true,Bool.false_or,hl,beq_self_eq_true]
  refine wpAny_bind (wpAny_holding (wpAny_mono (q1 _ _ _ c2 c3 _ _ _ _ _ _ p2 _ hA (V.ext e1) R1 r1) (fun r s₂ z=>?_) fun _ _ z=>z))
  refine Au z fun g₂ h₂ e2 R2 w=>?_
  exact wpAny_bind (wpAny_pure (w.from (e1.trans e2)))
theorem Xz (O:c.Ok) {i:Id} {k n:Nat} {fs:List (Nat × V)} {f:Addr} {args:List X} {kws:List (Nat × X)} {Q:V→H→Prop} (hi:h i=some (.inst k fs)) (hm:c.meth k n=some f) (hf:fs.lookup n=none)
    (p:Es c d args m h fun vs h₁=>Ks c d kws m h₁ fun ks h₂=>A0 c d f (.ref i::vs) (kws.map (·.1)) ks h₂ Q):DW c d (.ref i) n args kws m h Q:=by
  intro sc as ks c1 c2 A env F g s rv pos pl hA V R r
  refine xA r fun his zz2b=>?_;obtain rfl:=zz2b
  obtain ⟨⟨dx,es,nn,I,_,Fr⟩⟩:=CD R hi
  refine JP (O.meth _ _ _ hm) fun hc hfn ht hk=>?_
  have C:=GN hc
  refine method_fn (R.K O) I C.ga C.gt hfn ht (by unfold shadowIn;simp only[lookIn_dict,Fr.none_ O.inj hf];rfl) (Al g h Ext.refl R ?_)
  refine Bz (P:=c.K.In) (keeps_K hk) c1 c2 hA V R p fun vs kvs h₂ g₂ s₂ rvs rks q e R₂ r1 r2=>⟨R₂.K O,?_⟩
  have z:Ai g₂ h₂ (.ref i) (.ref (g.ρ i)):=by exact ⟨(e.live i his).1,by rw[(e.live i his).2]⟩
  exact (q A g₂ s₂ (.ref (g.ρ i)::rvs) rks hA R₂ (by exact (Al _ _ rfl z r1)) r2).ev
theorem VM {v:V} {n:Nat} {T id:String} {args:List X} {kws:List (Nat × X)} {Q:V→H→Prop} (sl:Slot T (c.nm n) id) (pa:PlainAttrs T) (ty:typeOf (.builtin id)=pure (.type "method_descriptor"))
    (hT:∀ g s rv,Rep c g h s→Ai g h v rv→s.TypeIs rv T∧∀ a,rv=.ref a→∃ o,s.heap.get? a=some o∧o.dict=none)
    (p:Es c d args m h fun vs h₁=>Ks c d kws m h₁ fun ks h₂=>Av c d (.builtin id) (v::vs) (kws.map (·.1)) ks h₂ Q):DW c d v n args kws m h Q:=by
  intro sc as ks c1 c2 A env F g s rv pos pl hA V R r
  refine xA (hT g s rv R r) fun t1 t2=>?_
  refine getMethod_builtin t1 pa sl ty t2 (Al g h Ext.refl R ?_)
  refine Bz (P:=fun _=>True) RL c1 c2 hA V R p fun vs kvs h₂ g₂ s₂ rvs rks q e R₂ r1 r2=>⟨trivial,?_⟩
  exact q A g₂ s₂ (rv::rvs) rks hA R₂ (by exact (Al _ _ rfl (Ai.mono e r) r1)) r2
theorem Ka (O:c.Ok) {i:Id} {xs:List V} {n k:Nat} {nm id:String} {args:List X} {kws:List (Nat × X)} {Q:V→H→Prop} (hi:h i=some (.list xs)) (hn:BG[n]?=some nm) (hk:n=k) (sl:Slot "list" nm id) (ty:typeOf (.builtin id)=pure (.type "method_descriptor"))
    (p:Es c d args m h fun vs h₁=>Ks c d kws m h₁ fun ks h₂=>Av c d (.builtin id) (.ref i::vs) (kws.map (·.1)) ks h₂ Q):DW c d (.ref i) k args kws m h Q:=by
  subst hk
  refine VM (T:= "list") (by rw[O.std n nm hn];exact sl) PySem.F.plainAttrs_list ty (fun g s rv R r=>?_) p
  refine xA r fun _ zz5b=>?_;obtain rfl:=zz5b
  refine AJ R hi fun nn vs e1 e2 e3=>?_
  exact ⟨e3.typeIs,fun a e=>by cases e;exact (iEA _ e1 rfl)⟩
theorem J4 (O:c.Ok) {i:Id} {ep:Nat} {xs:List (List Nat × V)} {n k:Nat} {nm id:String} {args:List X} {kws:List (Nat × X)} {Q:V→H→Prop} (hi:h i=some (.dict ep xs)) (hn:BG[n]?=some nm) (hk:n=k) (sl:Slot "dict" nm id) (ty:typeOf (.builtin id)=pure (.type "method_descriptor"))
    (p:Es c d args m h fun vs h₁=>Ks c d kws m h₁ fun ks h₂=>Av c d (.builtin id) (.ref i::vs) (kws.map (·.1)) ks h₂ Q):DW c d (.ref i) k args kws m h Q:=by
  subst hk
  refine VM (T:= "dict") (by rw[O.std n nm hn];exact sl) PySem.F.plainAttrs_dict ty (fun g s rv R r=>?_) p
  refine xA r fun _ zz6b=>?_;obtain rfl:=zz6b
  refine xEA (R.obj i _ hi) fun kvs zz11b _=>?_;refine Au zz11b fun o es e0 e1 _=>?_
  exact ⟨(iEA o e0 e1.1),fun a e=>by cases e;exact (iEA _ e0 e1.2.1)⟩
theorem XX (O:c.Ok) {i:Id} {xs:List (List Nat)} {n k:Nat} {nm id:String} {args:List X} {kws:List (Nat × X)} {Q:V→H→Prop} (hi:h i=some (.set xs)) (hn:BG[n]?=some nm) (hk:n=k) (sl:Slot "set" nm id) (ty:typeOf (.builtin id)=pure (.type "method_descriptor"))
    (p:Es c d args m h fun vs h₁=>Ks c d kws m h₁ fun ks h₂=>Av c d (.builtin id) (.ref i::vs) (kws.map (·.1)) ks h₂ Q):DW c d (.ref i) k args kws m h Q:=by
  subst hk
  refine VM (T:= "set") (by rw[O.std n nm hn];exact sl) PySem.F.plainAttrs_set ty (fun g s rv R r=>?_) p
  refine xA r fun _ zz8b=>?_;obtain rfl:=zz8b
  refine xA (R.obj i _ hi) fun zz9a _=>?_;obtain ⟨o,es,ep,t,e0,e1,_⟩:=zz9a
  exact ⟨(iEA o e0 e1.1),fun a e=>by cases e;exact (iEA _ e0 e1.2.1)⟩
theorem RP (O:c.Ok) {e:X} {n:Nat} {Q:V→H→Prop}
    (p:E c d e m h fun v h₁=>∃ i k fs w,v=.ref i∧h₁ i=some (.inst k fs)∧c.catt k n=some w∧fs.lookup n=none∧Q w h₁):E c d (.attr e n) m h Q:=by
  intro sc ex ck A env F g s hA V R
  refine Au (JO ck) fun o pos zz14c hp c1=>?_;obtain rfl:=zz14c
  rw[K6 hp]
  refine wpAny_bind ((p _ _ c1 _ _ _ _ _ hA V R).use fun rv s₁ g₁ h₁ v e1 R1 r1 p1=>?_)
  refine BX p1 fun i k fs w zz15e hi hcv hw q=>?_;obtain rfl:=zz15e
  refine xA r1 fun _ zz10b=>?_;obtain rfl:=zz10b
  obtain ⟨⟨dx,es,nn,I,_,Fr⟩⟩:=CD R1 hi
  obtain ⟨hc,rw_,hfn,hlit,hsp,hcp,hhd⟩:=O.catt k n w hcv
  have C:=GN hc
  refine wpAny_bind (wpAny_standAt (wpAny_bind (wpAny_holding (get_value (R1.K O) I C.ga (findObj_cls C.hd hfn hsp hhd hcp (by exact Fr.none_ O.inj hw)) hhd ?_))))
  exact wpAny_bind (wpAny_letTemporaryGo (wpAny_pure (Ab g₁ h₁ w (e1.trans Ext.toks) R1.toks (Nu hlit) q)))
theorem Vj (O:c.Ok) {k n:Nat} {f:Addr} {args:List X} {kws:List (Nat × X)} {Q:V→H→Prop} (hm:c.stat k n=some f)
    (p:Es c d args m h fun vs h₁=>Ks c d kws m h₁ fun ks h₂=>A0 c d f vs (kws.map (·.1)) ks h₂ Q):DW c d (.raw (.ref (c.cls k))) n args kws m h Q:=by
  intro sc as ks c1 c2 A env F g s rv pos pl hA V R r
  refine xA r fun zz13a _=>?_;obtain rfl:=zz13a
  obtain ⟨hc,hk,hg,hcp,mc,pp,rest,s1,s2,s3,s4,s5,s6,s7⟩:=O.stat _ _ _ hm
  refine method_cls (R.K O) hg (cls_bind (R.K O) s1 s2 (wpAny_call (sm_get (s:={ s with toks:=s.toks+1 }) ((R.toks (tk:=s.toks+1)).K O) s3 (handed_on rfl (Al g h Ext.toks R.toks ?_)))))
  refine Bz (P:=c.K.In) (keeps_K hk) c1 c2 hA (V.ext Ext.toks) R.toks p fun vs kvs h₂ g₂ s₂ rvs rks q e R₂ r1 r2=>⟨R₂.K O,?_⟩
  exact (q A g₂ s₂ rvs rks hA R₂ r1 r2).ev
theorem SH (O:c.Ok) {i:Id} {k n:Nat} {fs:List (Nat × V)} {f:Addr} {args:List X} {kws:List (Nat × X)} {Q:V→H→Prop} (hi:h i=some (.inst k fs)) (hm:c.stat k n=some f) (hf:fs.lookup n=none)
    (p:Es c d args m h fun vs h₁=>Ks c d kws m h₁ fun ks h₂=>A0 c d f vs (kws.map (·.1)) ks h₂ Q):DW c d (.ref i) n args kws m h Q:=by
  intro sc as ks c1 c2 A env F g s rv pos pl hA V R r
  refine xA r fun _ zz15b=>?_;obtain rfl:=zz15b
  obtain ⟨⟨dx,es,nn,I,_,Fr⟩⟩:=CD R hi
  obtain ⟨hc,hk,hg,hcp,mc,pp,rest,s1,s2,s3,s4,s5,s6,s7⟩:=O.stat _ _ _ hm
  have C:=GN hc
  refine method_usual (R.K O) I C.ga C.gt s4 (by simp only[Option.all_some,s5];rfl) ?_
  have hfo:findObj c.K (c.cls k) (some (dictOf es nn)) (c.nm n)=some (.bind (.builtin "staticmethod.__get__") (.ref pp)):=by
    refine xEA (any_some C.hd) fun cd hcd hd=>?_
    refine bs hcd (bs s4 (bs s6 (bs s7 (bs (a:=none) ?_ (if_neg (by rw[hcp];exact fT))))))
    exact (if_pos hd).trans (Fr.none_ O.inj hf)
  refine get_bind (R.K O) I C.ga hfo C.gt (wpAny_call (sm_get (s:={ s with toks:=s.toks+1 }) ((R.toks (tk:=s.toks+1)).K O) s3 (handed_on rfl (Al g h Ext.toks R.toks ?_))))
  refine Bz (P:=c.K.In) (keeps_K hk) c1 c2 hA (V.ext Ext.toks) R.toks p fun vs kvs h₂ g₂ s₂ rvs rks q e R₂ r1 r2=>⟨R₂.K O,?_⟩
  exact (q A g₂ s₂ rvs rks hA R₂ r1 r2).ev
end
end
section
section
variable {c:Cx} {d:Nat} {m:Loc} {h:H} {A:Around} {g:G} {s:Shared} {sc:Scope} {F:Addr→Prop} {env:Env}
theorem Rep.push (R:Rep c g h s) (ob:Obj) {tk:Nat}:Rep c g h { s with heap:=s.heap.push ob,toks:=tk }∧Ext No g h s g h { s with heap:=s.heap.push ob,toks:=tk }:=by
  exact ⟨R.other (fun a o e _=>Heap.get?_push_of_some _ e) rfl rfl,⟨fun _ e=>⟨e,rfl⟩,fun _ _ e=>e,fun _ _=>rfl,fun _ _=>rfl,fun a l=>By _ l,fun a o e _ _=>Heap.get?_push_of_some _ e⟩⟩
noncomputable abbrev EC (vs:Array Value):Obj:={ cls:=.type "list",dict:=none,data:=.seq vs 0,slots:=#[] }
noncomputable abbrev Mv (vs:Array Value):Obj:={ cls:=.type "tuple",dict:=none,data:=.seq vs 0,slots:=#[] }
theorem Rep.newList (R:Rep c g h s) {i:Id} {xs:List V} {rvs:List Value} (hi:h i=none) (r:Ac g h xs rvs) :
    Rep c (g.add i s.heap.objs.size) (upd h i (.list xs)) { s with heap:=s.heap.push (EC rvs.toArray) }∧Ext No g h s (g.add i s.heap.objs.size) (upd h i (.list xs)) { s with heap:=s.heap.push (EC rvs.toArray) } :=
  R.alloc hi _ rfl _ fun g' h' hp e _ m2=>(Ff 0 rvs.toArray e (m2 _ _ r))
theorem Bs {i:Id} {o:O} {a:Addr}:Ai (g.add i a) (upd h i o) (.ref i) (.ref a):=by
  unfold Ai;rw[Aj];exact ⟨rfl,by show _=Value.ref (if i=i then _ else _);rw[if_pos rfl]⟩
theorem Rep.newTup (R:Rep c g h s) {xs:List V} {rvs:List Value} (r:Ac g h xs rvs):∃ g',Rep c g' h { s with heap:=s.heap.push (Mv rvs.toArray) }∧Ext No g h s g' h { s with heap:=s.heap.push (Mv rvs.toArray) }∧Ai g' h (.tup xs) (.ref s.heap.objs.size):=by
  obtain ⟨R',X⟩:=R.freeze (Mv rvs.toArray) rfl
  refine (Bj _ R' X ?_)
  exact (DM _ 0 rvs.toArray rfl (by show (if _=_ then _ else _)=_;exact if_pos rfl) (Ac.mono X r))
theorem Ee (i:Id) {xs:List X} {Q:V→H→Prop} (p:Es c d xs m h fun vs h₁=>h₁ i=none∧vs.length≤2^20∧Q (.ref i) (upd h₁ i (.list vs))):E c d (.list xs) m h Q:=by
  intro sc e ck A env F g s hA V R
  refine Ib (Sc ck) fun es pos zz2c c1=>?_;obtain rfl:=zz2c
  refine List_ ((p _ _ c1 _ _ _ _ _ _ hA V R).use fun rvs s₁ g₁ h₁ vs e1 R1 r1 q1=>?_)
  refine xAA q1 fun hi hl q1=>?_
  obtain ⟨R2,X2⟩:=R1.newList hi r1
  exact wpAny_newList (Ab _ _ (.ref i) (e1.trans X2) R2 Bs q1) (by rw[r1.len,sizeLine_eq];lia)
theorem Qd {xs:List X} {Q:V→H→Prop} (p:Es c d xs m h fun vs h₁=>vs.length≤2^20∧Q (.tup vs) h₁):E c d (.tup xs) m h Q:=by
  intro sc e ck A env F g s hA V R
  refine D1 (Xm ck) fun es k pos zz5d c1=>?_;obtain rfl:=zz5d
  refine Tuple_ ((p _ _ c1 _ _ _ _ _ _ hA V R).use fun rvs s₁ g₁ h₁ vs e1 R1 r1 q1=>?_)
  obtain ⟨hl,q1⟩:=q1
  refine BC (R1.newTup r1) fun g₂ R2 X2 r2=>?_
  exact wpAny_newTuple (Ab _ _ (.tup vs) (e1.trans X2) R2 r2 q1) (by rw[r1.len];exact q6 hl)
theorem Rep.newDict (R:Rep c g h s) {i:Id} (hi:h i=none) :
    Rep c (g.add i s.heap.objs.size) (upd h i (.dict 0 [])) { s with heap:=s.heap.push emptyDict }∧Ext No g h s (g.add i s.heap.objs.size) (upd h i (.dict 0 [])) { s with heap:=s.heap.push emptyDict }:=by
  refine R.alloc hi _ rfl _ fun g' h' hp e _ _=>(iEA ([]) ?_ rfl)
  refine AW (Heap.DictOf.new (knd:=PySem.strKind c.prog c.w) s.heap) fun o es ep h1 h2 h3 h4=>?_
  rw[Heap.get?_push_size _ rfl] at h1
  cases h1
  cases h3
  exact (Fn _ _ e h2 rfl h4)
theorem Sh (i:Id) {Q:V→H→Prop} (hi:h i=none) (q:Q (.ref i) (upd h i (.dict 0 []))):E c d (.dict [] []) m h Q:=by
  intro sc e ck A env F g s hA V R
  refine AW (TF ck) fun es fs pos zz9d c1 c2 _=>?_;obtain rfl:=zz9d
  refine (Sx c1).symm▸(Ed c2).symm▸?_
  obtain ⟨R2,X2⟩:=R.newDict hi
  simp only[eval_Dict_empty]
  exact wpAny_bind (wpAny_standAt (wpAny_newObj_type (Ab _ _ (.ref i) X2 R2 Bs q)))
noncomputable def Mp (c:Cx) (o i:V) (h:H) (Q:V→H→Prop):Prop :=
  ∀ d A g s ro ri,OkA d A→Rep c g h s→Ai g h o ro→Ai g h i ri→∃ T id,s.TypeIs ro T∧typeLookup (.type T) "__getitem__" = pure (some (.builtin id))∧EvW c A (getItem ro ri) g h s Q
theorem FH {j:Expr} (hj:DL j=false) (o i:Value):subscripted j false o i=operate [o,i] (getItem o i):=by
  cases j<;>first | rfl | exact ff hj.symm
theorem Up {o i:X} {Q:V→H→Prop} (p:E c d o m h fun ov h₁=>E c d i m h₁ fun iv h₂=>Mp c ov iv h₂ Q):E c d (.sub o i) m h Q:=by
  intro sc e ck A env F g s hA V R
  refine AW (Pd ck) fun z j pos zz11d c1 c2 c3=>?_;obtain rfl:=zz11d
  refine Subscript_ ((p _ _ c1 _ _ _ _ _ hA V R).use fun ro s₁ g₁ h₁ ov e1 R1 r1 q1=>?_)
  refine (q1 _ _ c2 _ _ _ _ _ hA (V.ext e1) R1).use fun ri s₂ g₂ h₂ iv e2 R2 r2 q2=>?_
  refine Au (q2 _ _ _ _ _ _ hA R2 (Ai.mono e2 r1) r2) fun T id t1 t2 w=>?_
  exact tail_any t1 t2 (w.from (e1.trans e2)) (FH c3 _ _)
theorem Ac.get {k:Nat} {x:V}:∀ {xs:List V} {vs:List Value} {k:Nat},Ac g h xs vs→xs[k]?=some x→∃ rv,vs[k]?=some rv∧Ai g h x rv:=by
  intro zl;induction zl with
  | nil =>
    intro vs k e q
    simp at q
  | cons y xs ih =>
    intro vs k e q
    refine Au e fun v r zz13c e1 e2=>?_;obtain rfl:=zz13c
    cases k with
    | zero=>simp only[List.getElem?_cons_zero,Option.some.injEq] at q;subst q;exact ⟨v,rfl,e1⟩
    | succ k=>exact ih (k:=k) e2 q
theorem Ac.gk {xs:List V} {vs:List Value} {k:Nat} {x:V} {p:Prop} (r:Ac g h xs vs) (e:xs[k]?=some x) (q:∀ rv,vs[k]?=some rv→Ai g h x rv→p):p:=xEA (Ac.get (k:=0) r e) q
theorem KM {i:Id} {xs:List V} {k:Int} {x:V} {Q:V→H→Prop} (hi:h i=some (.list xs)) (h0:0≤k) (h1:k<2^40) (hx:xs[k.toNat]?=some x) (q:Q x h):Mp c (.ref i) (.int k) h Q:=by
  intro d A g s ro ri hA R r1 r2
  obtain ⟨_,rfl⟩:=r1
  obtain ⟨t,rfl⟩:=r2
  refine AJ R hi fun n vs e1 e2 e3=>?_
  refine Ac.gk (k:=k.toNat) e2 hx fun rv hr rr=>?_
  refine (Al ("list") _ e3.typeIs list_getitem_lookup (wpAny_getItem_list e3 h0 (by exact q7 h1) (by refine (Array.getElem?_toList)▸?_;exact hr) (Ab g h x Ext.refl R rr q)))
theorem JC {k:Int} {n:Nat} (h0:0≤k) (h:k.toNat<n):seqIndex? k n=some k.toNat:=by
  have h1:¬ k<0:=by exact Int.not_lt_of_ge h0
  have h2:k<n:=by exact (Int.toNat_lt h0).mp h
  simp[seqIndex?,h1,h0,h2]
theorem Sv {xs:List V} {k:Int} {x:V} {Q:V→H→Prop} (h0:0≤k) (h1:k<2^40) (hx:xs[k.toNat]?=some x) (q:Q x h):Mp c (.tup xs) (.int k) h Q:=by
  intro d A g s ro ri hA R r1 r2
  refine FG R r1 fun a n vs zz22d e1 e2 e3=>?_;obtain rfl:=zz22d
  obtain ⟨t,rfl⟩:=r2
  refine Ac.gk (k:=k.toNat) e2 hx fun rv hr rr=>?_
  have hlt:k.toNat<xs.length:=by
    exact (List.getElem?_eq_some_iff.mp hx).1
  have hs:vs.size=xs.length:=e2.arr
  refine (Al ("tuple") _ (iEA _ e1 rfl) slot_tuple_getitem.lookup (getItem_tuple e3 (by exact q9 h0) (by exact q7 h1) (j:=k.toNat) ?_ (by refine (Array.getElem?_toList)▸?_;exact hr) (Ab g h x Ext.refl R rr q)))
  exact JC h0 (by rw[hs];exact hlt)
theorem DG {a b:List Nat} (h:ofL a=ofL b):a=b:=by
  have:=congrArg (fun x:Str=>x.cps.toList) h
  simpa using this
theorem Az.some_:∀ {es:List (List Nat × V)} {kvs:List (Str × Value)} {k:List Nat} {v:V},Az g h es kvs→es.lookup k=some v→∃ rv,kvs.find? (fun kv=>kv.1=ofL k)=some (ofL k,rv)∧Ai g h v rv:=by
  intro zl;induction zl with
  | nil =>
    intro kvs k v e q
    exact nn q
  | cons zq es ih =>
    obtain ⟨x,w⟩:=zq
    intro kvs k v e q
    refine Au e fun rv r zz25c e1 e2=>?_;obtain rfl:=zz25c
    rw[List.lookup_cons] at q
    cases z:k==x<;>rw[z] at q
    · refine xEA (ih e2 q) fun rv' h1 h2=>?_
      have hne:¬ (ofL x=ofL k):=fun y=>by rw[DG y] at z;simp at z
      exact (iEA rv' (by rw[List.find?_cons_of_neg (by simpa using hne)];exact h1) h2)
    · cases q
      have hx:=beq_iff_eq.mp z
      subst hx
      exact (iEA rv (by exact List.find?_cons_of_pos (by exact if_pos rfl)) e1)
theorem Az.none_:∀ {es:List (List Nat × V)} {kvs:List (Str × Value)} {k:List Nat},Az g h es kvs→es.lookup k=none→kvs.find? (fun kv=>kv.1=ofL k)=none:=by
  intro zl;induction zl with
  | nil =>
    intro kvs k e q
    subst e;rfl
  | cons zq es ih =>
    obtain ⟨x,w⟩:=zq
    intro kvs k e q
    refine Au e fun rv r zz27c e1 e2=>?_;obtain rfl:=zz27c
    rw[List.lookup_cons] at q
    cases z:k==x<;>rw[z] at q
    · have hne:¬ (ofL x=ofL k):=fun y=>by rw[DG y] at z;simp at z
      rw[List.find?_cons_of_neg (by simpa using hne)];exact ih e2 q
    · exact nn q.symm
theorem Om {i:Id} {ep:Nat} {es:List (List Nat × V)} (R:Rep c g h s) (hi:h i=some (.dict ep es)):∃ kvs,s.heap.DictAt (PySem.strKind c.prog c.w) (g.ρ i) kvs ep∧s.heap.DictOf (PySem.strKind c.prog c.w) (g.ρ i) kvs∧Az g h es kvs:=by
  refine xEA (R.obj i _ hi) fun kvs e0 e2=>?_
  refine xEE (id e0) fun o es' e0'=>?_
  exact (Bj kvs e0 (SJ o es' ep e0') e2)
theorem Bi {i:Id} {ep:Nat} {es:List (List Nat × V)} {p:Prop} (R:Rep c g h s) (hi:h i=some (.dict ep es)) (k:∀ kvs,s.heap.DictAt (PySem.strKind c.prog c.w) (g.ρ i) kvs ep→s.heap.DictOf (PySem.strKind c.prog c.w) (g.ρ i) kvs→Az g h es kvs→p):p:=BC (Om R hi) k
theorem E7 {k:List Nat} {t:Tok}:(PySem.strKind c.prog c.w).is (ofL k) (.str ⟨k.toArray⟩ t)=true:=by exact if_pos rfl
theorem Kz {i:Id} {ep:Nat} {es:List (List Nat × V)} {k:List Nat} {x:V} {Q:V→H→Prop} (hi:h i=some (.dict ep es)) (hx:es.lookup k=some x) (q:Q x h):Mp c (.ref i) (.str k) h Q:=by
  intro d A g s ro ri hA R r1 r2
  obtain ⟨_,rfl⟩:=r1
  obtain ⟨t,rfl⟩:=r2
  refine Bi R hi fun kvs zz32b e3 e4=>?_;obtain ⟨o,es',e0,e1,_⟩:=zz32b
  refine xEA (Az.some_ e4 hx) fun rv hr rr=>?_
  refine (Al ("dict") _ (iEA o e0 e1.1) slot_dict_getitem.lookup (wpAny_getItem_of (E7 (k:=k)) e3.mapOf (v:=rv) ?_ (Ab g h x Ext.toks R.toks rr q)))
  unfold valueAt
  rw[hr];rfl
theorem Ej {x:X} {o:Option Expr} {Q:V→H→Prop} (ck:IC (ckE c.N sc x) (EL x) o=true) (p:E c d x m h Q) (hA:OkA d A) (V:Aw c sc F env g m h s) (R:Rep c g h s):EvW c A (evalPart o env) g h s Q:=by
  rcases YZ ck with ⟨rfl,rfl⟩ | ⟨e,rfl,c1⟩
  · exact p sc (.Constant .none 0 ⟨0,0,0,0⟩) (by rfl) A env F g s hA V R
  · exact p _ _ c1 _ _ _ _ _ hA V R
noncomputable def NK:V→Option (Option Int)
  | .none=>some none
  | .int i=>some (some i)
  | _=>none
theorem J7 {v:V} {rv:Value} {p:Option Int} (r:Ai g h v rv) (e:NK v=some p):IsPart rv p:=by
  cases v<;>cases e<;>unfold Ai at r
  · subst r;exact .none
  · obtain ⟨t,rfl⟩:=r;exact .int _ _
noncomputable def Cl (xs:List V) (lo hi st:Option Int):List V :=
  (sliceRange (sliceBounds lo hi st xs.length).1 (sliceBounds lo hi st xs.length).2.1 (sliceBounds lo hi st xs.length).2.2).filterMap (xs[·]?)
theorem Ac.pick {xs:List V} {vs:List Value} (e:Ac g h xs vs):∀ l:List Nat,Ac g h (l.filterMap (xs[·]?)) (l.filterMap (vs[·]?)):=by
  intro zl;induction zl with
  | nil =>
    rfl
  | cons k l ih =>
    rw[List.filterMap_cons,List.filterMap_cons]
    cases q:xs[k]? with
    | none =>
      have:vs[k]?=none:=by rw[List.getElem?_eq_none_iff] at q ⊢;rw[e.len];exact q
      rw[this];exact ih
    | some x =>
      refine Ac.gk (k:=k) e q fun rv h1 h2=>?_
      rw[h1]
      exact (Al rv _ rfl h2 ih)
theorem IA {xs:List V} {vs:Array Value} {lo hi st:Option Int} (e:Ac g h xs vs.toList):Ac g h (Cl xs lo hi st) (slicePick vs lo hi st).toList:=by
  unfold slicePick Cl
  refine e.arr.symm▸?_
  have:=e.pick (sliceRange (sliceBounds lo hi st xs.length).1 (sliceBounds lo hi st xs.length).2.1 (sliceBounds lo hi st xs.length).2.2)
  simpa only[Array.getElem?_toList] using this
theorem Ac.ints:∀ {ss:List Int} {vs:List Value},IntsAre vs ss→Ac g h (ss.map .int) vs
  | _,_,e=>by induction e with
    | nil=>exact rfl
    | cons y t e ih=>exact (Al _ _ rfl DE ih)
noncomputable def Od (c:Cx) (v:V) (h:H) (xs:List V):Prop:=(∃ i,v=.ref i∧h i=some (.list xs))∨∃ l ss vs,v=.raw (.ref l)∧c.B.IsList l (vs:List Value).toArray∧IntsAre vs ss∧xs=ss.map .int
theorem Od.here {v:V} {rv:Value} {xs:List V} (R:Rep c g h s) (x:Od c v h xs) (r:Ai g h v rv):∃ a vs,rv=.ref a∧Ac g h xs vs.toList∧s.heap.IsList a vs:=by
  rcases x with ⟨i,rfl,hi⟩ | ⟨l,ss,vs,rfl,⟨o,e,q⟩,hi,rfl⟩
  · obtain ⟨_,rfl⟩:=r
    refine AJ R hi fun n vs l1 l2 l3=>?_
    exact (Al _ vs rfl l2 l3)
  · obtain ⟨rfl,_⟩:=r
    exact ⟨l,vs.toArray,rfl,Ac.ints hi,o,R.fz _ _ (R.base _ _ e),q⟩
theorem KT {x lo hi st:X} {Q:V→H→Prop} (j:Id)
    (p:E c d x m h fun v h₁=>E c d lo m h₁ fun vl h₂=>E c d hi m h₂ fun vh h₃=>E c d st m h₃ fun vt h₄ =>
      ∃ xs a b t,Od c v h₄ xs∧xs.length≤2^20∧NK vl=some a∧NK vh=some b∧NK vt=some t∧t≠some 0∧h₄ j=none∧Q (.ref j) (upd h₄ j (.list (Cl xs a b t)))):E c d (.slc x lo hi st) m h Q:=by
  intro sc e ck A env F g s hA V R
  refine GL (Vb ck) fun v l u t pos pos' zz39g c1 c2 c3 c4=>?_;obtain rfl:=zz39g
  refine Subscript_ ((p _ _ c1 _ _ _ _ _ hA V R).use fun ro s₁ g₁ h₁ ov e1 R1 r1 q1=>?_)
  refine wpAny_Slice ((Ej c2 q1 hA (V.ext e1) R1).use fun rl s₂ g₂ h₂ vl e2 R2 r2 q2=>?_)
  refine (Ej c3 q2 hA (V.ext (e1.trans e2)) R2).use fun rh s₃ g₃ h₃ vh e3 R3 r3 q3=>?_
  refine (Ej c4 q3 hA (V.ext ((e1.trans e2).trans e3)) R3).use fun rt s₄ g₄ h₄ vt e4 R4 r4 q4=>?_
  refine BH q4 fun xs a b t' hi hl p1 p2 p3 h0 hj q=>?_
  have r1':=Ai.mono ((e2.trans e3).trans e4) r1
  refine Au (hi.here R4 r1') fun z vs zz41c l2 l3=>?_;obtain rfl:=zz41c
  obtain ⟨R5,X5⟩:=R4.push { cls:=.type "slice",data:=.fields #[rl,rh,rt] } (tk:=s₄.toks)
  obtain ⟨R6,X6⟩:=R5.newList (rvs:=(slicePick vs a b t').toList) hj (Ac.mono X5 (IA (lo:=a) (hi:=b) (st:=t') l2))
  have fin:wpAny (model c.prog c.w) A (getItem (.ref z) (.ref s₄.heap.objs.size)) (EvP c g h s Q) NoE { s₄ with heap:=s₄.heap.push { cls:=.type "slice",data:=.fields #[rl,rh,rt] } } :=
    wpAny_getItem_list_slice (l3.push _) (Heap.IsSliceOf.new ..) (J7 (Ai.mono (e3.trans e4) r2) p1) (J7 (Ai.mono e4 r3) p2) (J7 r4 p3) h0 (Ab _ _ (.ref j) (((((e1.trans e2).trans e3).trans e4).trans X5).trans X6) R6 Bs q) (by rw[l2.arr,sizeLine_eq];lia)
  cases t with
  | none=>exact tail_any (l3.push _).typeIs list_getitem_lookup fin rfl
  | some t=>exact tail_any (l3.push _).typeIs list_getitem_lookup fin rfl
end
end
section
section
variable {c:Cx} {d:Nat} {m:Loc} {h:H} {A:Around} {g:G} {s:Shared} {sc:Scope} {F:Addr→Prop} {env:Env}
theorem opI {f:Value→Value→Sem Value} {a b:Int} {Q:V→H→Prop} (p:∀ A g s t u,Rep c g h s→EvW c A (f (.int a t) (.int b u)) g h s Q):OpW c f (.int a) (.int b) h Q:=by
  intro d A g s ra rb hA R r1 r2
  obtain ⟨t,rfl⟩:=r1
  obtain ⟨u,rfl⟩:=r2
  exact p A g s t u R
theorem TP {f:Value→Value→Sem Value} {k:List Nat} {i:Id} {Q:V→H→Prop} (p:∀ A g s t,Rep c g h s→(h i).isSome=true→EvW c A (f (.str ⟨k.toArray⟩ t) (.ref (g.ρ i))) g h s Q):OpW c f (.str k) (.ref i) h Q:=by
  intro d A g s ra rb hA R r1 r2
  obtain ⟨t,rfl⟩:=r1
  obtain ⟨hi,rfl⟩:=r2
  exact p A g s t R hi
theorem Qu {a b:Int} {Q:V→H→Prop} (q:Q (.int (a+b)) h):OpW c (binaryOp .Add) (.int a) (.int b) h Q:=by
  refine opI fun A g s t u R=>?_
  exact add_int (EvW.fin R DE q)
theorem Wd {a b:Int} {Q:V→H→Prop} (q:Q (.int (a - b)) h):OpW c (binaryOp .Sub) (.int a) (.int b) h Q:=by
  refine opI fun A g s t u R=>?_
  exact sub_int (EvW.fin R DE q)
theorem JQ {a:Int} (h:a.natAbs<2^60):Builtin.Int.intBits a≤64:=by
  unfold Builtin.Int.intBits
  split
  · simp
  · rename_i hz
    have hz':a.natAbs≠0:=by simpa using hz
    have:=(Nat.log2_lt hz').mpr h
    exact q10 this
theorem QZ {a b:Int} {Q:V→H→Prop} (hs:a.natAbs<2^60∨b.natAbs<2^60) (q:Q (.int (a*b)) h):OpW c (binaryOp .Mult) (.int a) (.int b) h Q:=by
  refine opI fun A g s t u R=>?_
  exact mul_int (EvW.fin R DE q) (hs.elim (fun z=>IntMulOk.of_left (JQ z)) fun z=>IntMulOk.of_right (JQ z))
theorem OM {a b:Int} (h:b.natAbs<2^60):Builtin.divisionGoesByPylong a b=false:=by
  unfold Builtin.divisionGoesByPylong
  dsimp only
  have:¬ ((if (b==0)=true then 0 else b.natAbs.log2 / 30+1) > 300):=by
    split
    · decide
    · rename_i hz
      have hz':b.natAbs≠0:=by simpa using hz
      have:=(Nat.log2_lt hz').mpr h
      exact q11 this
  rw[decide_eq_false this,Bool.false_and]
theorem M9 {a b:Int} {Q:V→H→Prop} (h0:b≠0) (hs:b.natAbs<2^60) (q:Q (.int (Int.fdiv a b)) h):OpW c (binaryOp .FloorDiv) (.int a) (.int b) h Q:=by
  refine opI fun A g s t u R=>?_
  exact floordiv_int h0 (EvW.fin R DE q) (.inl (OM hs))
theorem PQ {a b:Int} {Q:V→H→Prop} (h0:b≠0) (q:Q (.int (Int.fmod a b)) h):OpW c (binaryOp .Mod) (.int a) (.int b) h Q:=by
  refine opI fun A g s t u R=>?_
  exact mod_int h0 (EvW.fin R DE q)
theorem O3 {a n:Int} {Q:V→H→Prop} (h0:0≤n) (hn:n≤2^20) (ha:a.natAbs<2^60) (q:Q (.int (a^n.toNat)) h):OpW c (binaryOp .Pow) (.int a) (.int n) h Q:=by
  refine opI fun A g s t u R=>?_
  refine pow_int h0 ?_ (EvW.fin R DE q)
  have hb:((Builtin.Int.intBits a:Nat):Int)≤64:=by have:=JQ ha;exact Nat.ToInt.of_le rfl rfl this
  calc ((Builtin.Int.intBits a:Nat):Int)*n≤64*n:=Int.mul_le_mul_of_nonneg_right hb h0
    _≤2^27:=by exact q12 hn
theorem HO {a b:List Nat} {Q:V→H→Prop} (hs:a.length+b.length≤2^20) (q:Q (.str (a++b)) h):OpW c (binaryOp .Add) (.str a) (.str b) h Q:=by
  intro d A g s ra rb hA R r1 r2
  obtain ⟨t,rfl⟩:=r1
  obtain ⟨u,rfl⟩:=r2
  refine add_str (fun t' tk=>?_) ?_
  · have e:(⟨a.toArray⟩++⟨b.toArray⟩:Str)=⟨(a++b).toArray⟩:=by
      show Str.mk (a.toArray++b.toArray)=_
      rw[← List.append_toArray]
    rw[e]
    exact EvW.fin R PN q
  · show (a.toArray.size+b.toArray.size≤_)
    exact q13 hs
theorem Ac.append:∀ {xs ys:List V} {vs ws:List Value},Ac g h xs vs→Ac g h ys ws→Ac g h (xs++ys) (vs++ws):=by
  intro zl;induction zl with
  | nil =>
    intro ys vs ws x y
    subst x;exact y
  | cons a xs ih =>
    intro ys vs ws x y
    refine Au x fun v r zz7c e1 e2=>?_;obtain rfl:=zz7c
    exact (Al v _ rfl e1 (ih e2 y))
section
variable {a b:Int} {Q:V→H→Prop}
theorem X8 (q:Q (.bool (decide (b<a))) h):OpW c (compareOp .Gt) (.int a) (.int b) h Q:=by
  refine opI fun A g s t u R=>?_
  exact gt_int (Ab g h _ Ext.refl R A7 q)
theorem Uj (q:Q (.bool (decide (b≤a))) h):OpW c (compareOp .GtE) (.int a) (.int b) h Q:=by
  refine opI fun A g s t u R=>?_
  exact ge_int (Ab g h _ Ext.refl R A7 q)
end
noncomputable def B0:V→Bool
  | .none=>true
  | _=>false
theorem K5 {v:V} {rv:Value} (hr:∀ x,v≠.raw x) (r:Ai g h v rv):(rv==Value.none)=B0 v:=by
  cases v with
  | none=>subst r;rfl
  | bool b=>subst r;rfl
  | int i=>obtain ⟨t,rfl⟩:=r;rfl
  | str x=>obtain ⟨t,rfl⟩:=r;rfl
  | tup xs=>refine D1 r fun a n vs zz10d _=>?_;obtain rfl:=zz10d;rfl
  | ref i=>rw[r.2];rfl
  | raw x=>exact absurd rfl (hr x)
  | vw k i=>refine GV r fun _ a zz11c _=>?_;obtain rfl:=zz11c;rfl
  | rng a c n=>refine Jw r fun a b t u w zz12f _=>?_;obtain rfl:=zz12f;rfl
theorem E5 {v:V} {Q:V→H→Prop} (hr:∀ x,v≠.raw x) (q:Q (.bool (B0 v)) h):OpW c (compareOp .Is) v .none h Q:=by
  intro d A g s ra rb hA R r1 r2
  subst r2
  refine is_none (Ab g h _ Ext.refl R (by rw[K5 hr r1];exact A7) q)
theorem Iv {v:V} {Q:V→H→Prop} (hr:∀ x,v≠.raw x) (q:Q (.bool (!B0 v)) h):OpW c (compareOp .IsNot) v .none h Q:=by
  intro d A g s ra rb hA R r1 r2
  subst r2
  refine isNot_none (Ab g h _ Ext.refl R (by rw[K5 hr r1];exact A7) q)
noncomputable def Qk:Option Bool→Option Bool→Option Bool
  | some a,some b=>some (a&&b)
  | _,_=>none
noncomputable def BA (f:V→V→Option Bool):List V→List V→Option Bool
  | x::xs,y::ys=>Qk (f x y) (BA f xs ys)
  | _,_=>some true
noncomputable def UA:V→Option Bool
  | .bool b=>some b
  | _=>none
noncomputable def YQ:V→Option Int
  | .int b=>some b
  | _=>none
noncomputable def Zh:V→Option (List Nat)
  | .str b=>some b
  | _=>none
noncomputable def Zu:V→Option (List V)
  | .tup b=>some b
  | _=>none
noncomputable def Yu:V→Option Id
  | .ref b=>some b
  | _=>none
noncomputable def LR:O→Option (List V)
  | .list xs=>some xs
  | _=>none
noncomputable def Vf:V→Option Bool
  | .none=>some true
  | .int _=>some false
  | .str _=>some false
  | _=>none
theorem Nz {v:V} {b:Bool} (e:UA v=some b):v=.bool b:=by cases v<;>first | exact nn e | exact congrArg V.bool (oJ e)
theorem Rd {v:V} {b:Int} (e:YQ v=some b):v=.int b:=by cases v<;>first | exact nn e | exact congrArg V.int (oJ e)
theorem QA {v:V} {b:List Nat} (e:Zh v=some b):v=.str b:=by cases v<;>first | exact nn e | exact congrArg V.str (oJ e)
theorem O5 {v:V} {b:List V} (e:Zu v=some b):v=.tup b:=by cases v<;>first | exact nn e | exact congrArg V.tup (oJ e)
theorem P1 {v:V} {b:Id} (e:Yu v=some b):v=.ref b:=by cases v<;>first | exact nn e | exact congrArg V.ref (oJ e)
theorem Mg {o:Option O} {b:List V} (e:o.bind LR=some b):o=some (.list b):=by
  refine Am e fun o zz13b e=>?_;obtain rfl:=zz13b
  cases o<;>first | exact nn e | exact congrArg (fun x=>some (O.list x)) (oJ e)
noncomputable def eqD (h:H):Nat→V→V→Option Bool
  | 0,_,_=>none
  | n+1,a,b=>match a with
    | .none=>Vf b
    | .bool x=>(UA b).map fun y=>x==y
    | .int x=>(YQ b).map fun y=>x==y
    | .str x=>(Zh b).map fun y=>x==y
    | .tup xs=>(Zu b).bind fun ys=>(BA (eqD h n) xs ys).map fun b=>b&&xs.length==ys.length
    | .ref i=>(Yu b).bind fun j=>((h i).bind LR).bind fun xs=>((h j).bind LR).bind fun ys=>if xs.length=ys.length then BA (eqD h n) xs ys else some false
    | _=>none
theorem ME (x y:List Nat):((⟨x.toArray⟩:Str)==⟨y.toArray⟩)=(x==y):=by
  rw[Bool.eq_iff_iff,beq_iff_eq,beq_iff_eq]
  exact ⟨fun e=>DG e,fun e=>by rw[e]⟩
theorem SV (R:Rep c g h s) {i j:Id} (hi:(h i).isSome=true) (hj:(h j).isSome=true) (e:g.ρ i=g.ρ j):i=j:=by
  have a:=R.at_ i hi
  have b:=R.at_ j hj
  rw[e,b] at a
  cases a;rfl
theorem Fo {f:V→V→Option Bool} (hf:∀ a b r k,f a b=some k→Ai g h a r→Ai g h b r→k=true):∀ {xs ys:List V} {vs:List Value} {k:Bool},BA f xs ys=some k→Ac g h xs vs→Ac g h ys vs→k=true
  | [],ys,vs,k,e,r1,r2=>by
    cases ys<;>· cases e;rfl
  | x::xs,[],vs,k,e,r1,r2=>by cases e;rfl
  | x::xs,y::ys,vs,k,e,r1,r2=>by
    refine Au r1 fun v r zz14c a1 a2=>?_;obtain rfl:=zz14c
    refine Au r2 fun v' r' e' b1 b2=>?_
    cases e'
    have e:Qk (f x y) (BA f xs ys)=some k:=e
    cases q1:f x y with
    | none=>rw[q1] at e;exact nn e
    | some k1 =>
      cases q2:BA f xs ys with
      | none=>rw[q1,q2] at e;exact nn e
      | some k2 =>
        rw[q1,q2] at e;cases e
        rw[hf _ _ _ _ q1 a1 b1,Fo hf q2 a2 b2];rfl
theorem HF {i:Id} {r:Value} (e:Ai g h (.ref i) r):(h i).isSome=true∧r=.ref (g.ρ i):=by exact e
theorem Fp {x:Int} {r:Value} (e:Ai g h (.int x) r):∃ t,r=.int x t:=by exact e
theorem Fm {x:List Nat} {r:Value} (e:Ai g h (.str x) r):∃ t,r=.str ⟨x.toArray⟩ t:=by exact e
theorem Hh {r:Value} (e:Ai g h .none r):r=.none:=by exact e
theorem F8 {b:Bool} {r:Value} (e:Ai g h (.bool b) r):r=.bool b:=by exact e
theorem Px (R:Rep c g h s):∀ {n:Nat} {a b:V} {r:Value} {k:Bool},eqD h n a b=some k→Ai g h a r→Ai g h b r→k=true:=by
  intro zl;induction zl with
  | zero =>
    intro _ _ _ _ e _ _
    exact nn e
  | succ n ih =>
    intro a b r k e r1 r2
    cases a with
    | none =>
      rw[Hh r1] at r2
      cases b with
      | none=>exact (oJ e).symm
      | int y=>obtain ⟨t,z⟩:=Fp r2;exact Value.noConfusion z
      | str y=>obtain ⟨t,z⟩:=Fm r2;exact Value.noConfusion z
      | _=>exact nn e
    | bool x =>
      refine C0 e fun y q e=>?_
      rw[Nz q,F8 r1] at r2
      rw[← e,Value.bool.inj (F8 r2),beq_self_eq_true]
    | int x =>
      refine C0 e fun y q e=>?_
      rw[Rd q] at r2
      obtain ⟨t,rfl⟩:=Fp r1
      obtain ⟨t',z⟩:=Fp r2
      rw[← e,(Value.int.inj z).1,beq_self_eq_true]
    | str x =>
      refine C0 e fun y q e=>?_
      rw[QA q] at r2
      obtain ⟨t,rfl⟩:=Fm r1
      obtain ⟨t',z⟩:=Fm r2
      rw[← e,DG (Value.str.inj z).1,beq_self_eq_true]
    | tup xs =>
      refine Am e fun ys q e=>?_
      refine C0 e fun k' q' e=>?_
      rw[O5 q] at r2
      refine Be r1 fun a1 n1 v1 zz27d f1 p1=>?_;obtain rfl:=zz27d
      refine Be r2 fun a2 n2 v2 e2 f2 p2=>?_
      cases e2
      rw[f1] at f2;cases f2
      rw[← e,Fo (fun a b r k e x y=>ih e x y) q' p1 p2,← p1.len,p2.len,beq_self_eq_true];rfl
    | ref i =>
      refine Am e fun j q e=>?_
      refine Am e fun xs h1 e=>?_
      refine Am e fun ys h2 e=>?_
      rw[P1 q] at r2
      obtain ⟨hi,rfl⟩:=HF r1
      obtain ⟨hj,e2⟩:=HF r2
      have:=SV R hi hj (Value.ref.inj e2)
      subst this
      have z:=oJ (h1.symm.trans h2)
      subst z
      rw[if_pos rfl] at e
      refine AJ R (Mg h1) fun n1 vs l1 l2 l3=>?_
      exact Fo (fun a b r k e x y=>ih e x y) e l2 l2
    | _=>exact nn e
end
end
section
section
variable {c:Cx} {d:Nat} {m:Loc} {h:H} {A:Around} {g:G} {s:Shared} {sc:Scope} {F:Addr→Prop} {env:Env}
open SeqAt (EqAt RcAt RcNeAt)
theorem RB {A:Around} {s:Shared} {a b:Value} {k:Bool} (hf:∀ x t,a≠.float x t) (hr:RcAt A s a b k) (hs:a=b→k=true):EqAt A s a b k:=fun prog w E Q hq=>by
  refine wpAny_holding ?_
  refine wpAny_ite_split (fun hab=>?_) (fun _=>?_)
  · have:=hs (eq_of_beq hab)
    subst this
    exact wpAny_bind (wpAny_rule (wpAny_pure hq))
  · cases a<;>first | exact absurd rfl (hf _ _) | exact wpAny_bind (hr prog w E _ (wpAny_truthy_bool hq))
theorem SQ {n:Nat} {a b:V} {k:Bool} {ra:Value} (e:eqD h n a b=some k) (r:Ai g h a ra):∀ x t,ra≠.float x t:=by
  intro x t q
  subst q
  cases n with
  | zero=>exact nn e
  | succ n =>
    cases a with
    | none=>exact Value.noConfusion (Hh r)
    | bool b=>exact Value.noConfusion (F8 r)
    | int i=>obtain ⟨t,z⟩:=Fp r;exact Value.noConfusion z
    | str x=>obtain ⟨t,z⟩:=Fm r;exact Value.noConfusion z
    | tup xs=>refine D1 r fun a n vs z _=>?_;exact Value.noConfusion z
    | ref i=>exact Value.noConfusion (HF r).2
    | _=>exact nn e
noncomputable def eAt (f:V→V→Option Bool) (xs ys:List V) (j:Nat):Bool:=match xs[j]?,ys[j]? with
  | some x,some y=>(f x y).getD true
  | _,_=>true
theorem C7 {f:V→V→Option Bool}:∀ {xs ys:List V} {k:Bool},BA f xs ys=some k→(List.range (min xs.length ys.length)).all (eAt f xs ys)=k∧∀ j x y,xs[j]?=some x→ys[j]?=some y→∃ b,f x y=some b∧eAt f xs ys j=b
  | [],ys,k,e=>by
    have:k=true:=by cases ys<;>(cases e;rfl)
    subst this
    exact ⟨by rfl,fun j x y q=>by simp at q⟩
  | x::xs,[],k,e=>by
    have:k=true:=by cases e;rfl
    subst this
    exact ⟨by rfl,fun j x y _ q=>by simp at q⟩
  | x::xs,y::ys,k,e=>by
    have e:Qk (f x y) (BA f xs ys)=some k:=e
    cases q1:f x y with
    | none=>rw[q1] at e;exact nn e
    | some k1 =>
      cases q2:BA f xs ys with
      | none=>rw[q1,q2] at e;exact nn e
      | some k2 =>
        rw[q1,q2] at e;cases e
        obtain ⟨i1,i2⟩:=C7 q2
        refine ⟨?_,fun j a b h1 h2=>?_⟩
        · rw[show min (x::xs).length (y::ys).length=min xs.length ys.length+1 by exact Nat.add_min_add_right xs.length ys.length 1,List.range_succ_eq_map,List.all_cons,List.all_map]
          have:(eAt f (x::xs) (y::ys)∘Nat.succ)=eAt f xs ys:=by funext j;rfl
          refine this.symm▸i1.symm▸?_
          have:eAt f (x::xs) (y::ys) 0=k1:=congrArg (Option.getD · true) q1
          rw[this]
        · cases j with
          | zero =>
            simp only[List.getElem?_cons_zero,Option.some.injEq] at h1 h2
            subst h1 h2
            exact ⟨k1,q1,congrArg (Option.getD · true) q1⟩
          | succ j =>
            simp only[List.getElem?_cons_succ] at h1 h2
            refine xEA (i2 j a b h1 h2) fun b' h3 h4=>?_
            exact (iEA b' h3 h4)
theorem KL {f:V→V→Option Bool} {A:Around} {xs ys:List V} {k:Bool} {vs ws:Array Value} (e:BA f xs ys=some k) (r1:Ac g h xs vs.toList) (r2:Ac g h ys ws.toList)
    (hf:∀ a b ra rb k,f a b=some k→Ai g h a ra→Ai g h b rb→EqAt A s ra rb k):∀ j (h1:j<vs.size) (h2:j<ws.size),EqAt A s vs[j] ws[j] (eAt f xs ys j):=by
  intro j h1 h2
  have l1:j<xs.length:=by rw[← r1.arr];exact h1
  have l2:j<ys.length:=by rw[← r2.arr];exact h2
  refine xEA ((C7 e).2 j xs[j] ys[j] (List.getElem?_eq_getElem l1) (List.getElem?_eq_getElem l2)) fun b hb he=>?_
  refine Ac.gk (k:=j) r1 (List.getElem?_eq_getElem l1) fun rv q1 q2=>?_
  refine Ac.gk (k:=j) r2 (List.getElem?_eq_getElem l2) fun rw_ q3 q4=>?_
  rw[Array.getElem?_toList,Array.getElem?_eq_getElem h1] at q1
  rw[Array.getElem?_toList,Array.getElem?_eq_getElem h2] at q3
  simp only[he,oJ q1,oJ q3]
  exact hf _ _ _ _ _ hb q2 q4
theorem A6 {hp:Heap} {a:Addr} {n:Nat} {vs:Array Value} (e:hp.get? a=some { cls:=.type "tuple",dict:=none,data:=.seq vs n,slots:=#[] }):hp.IsTuple a vs:=(Dj _ e rfl n rfl)
theorem I8 (R:Rep c g h s):∀ {n:Nat} {A:Around} {a b:V} {ra rb:Value} {k:Bool},eqD h n a b=some k→A.units+n<cLine→Ai g h a ra→Ai g h b rb→RcAt A s ra rb k∧RcNeAt A s ra rb (!k):=by
  intro zl;induction zl with
  | zero =>
    intro _ _ _ _ _ _ e _ _ _
    exact nn e
  | succ n ih =>
    intro A a b ra rb k e hu r1 r2
    have hu0:A.units<cLine:=Nat.lt_of_le_of_lt (Nat.le_add_right _ _) hu
    have sub:∀ a b ra rb k,eqD h n a b=some k→Ai g h a ra→Ai g h b rb→EqAt A.in1 s ra rb k:=fun a b ra rb k e x y =>
      RB (SQ e x) (ih e (by rw[Nat.add_assoc,Nat.add_comm 1 n];exact hu) x y).1 fun q=>by subst q;exact Px R e x y
    cases a with
    | none =>
      refine (Hh r1).symm▸?_
      cases b with
      | none=>refine (Hh r2).symm▸(oJ e)▸?_;exact ⟨RcAt.none_none,RcNeAt.none_none⟩
      | int y=>obtain ⟨t,rfl⟩:=Fp r2;refine (oJ e)▸?_;exact ⟨RcAt.none_int _ _,RcNeAt.none_int _ _⟩
      | str y=>obtain ⟨t,rfl⟩:=Fm r2;refine (oJ e)▸?_;exact ⟨RcAt.none_str _ _,RcNeAt.none_str _ _⟩
      | _=>exact nn e
    | bool x =>
      refine C0 e fun y q e=>?_
      rw[Nz q] at r2
      refine (F8 r1).symm▸(F8 r2).symm▸e▸?_;exact ⟨RcAt.bool_bool _ _,RcNeAt.bool_bool _ _⟩
    | int x =>
      refine C0 e fun y q e=>?_
      rw[Rd q] at r2
      obtain ⟨t,rfl⟩:=Fp r1
      obtain ⟨u,rfl⟩:=Fp r2
      refine e▸?_;exact ⟨RcAt.int_int _ _ _ _,RcNeAt.int_int _ _ _ _⟩
    | str x =>
      refine C0 e fun y q e=>?_
      rw[QA q] at r2
      obtain ⟨t,rfl⟩:=Fm r1
      obtain ⟨u,rfl⟩:=Fm r2
      refine (e ..)▸(ME ..)▸?_;exact ⟨RcAt.str_str _ _ _ _,RcNeAt.str_str _ _ _ _⟩
    | tup xs =>
      refine Am e fun ys q e=>?_
      refine C0 e fun k' q' e=>?_
      rw[O5 q] at r2
      refine FG R r1 fun a1 n1 v1 zz20d f1 p1 _=>?_;obtain rfl:=zz20d
      refine FG R r2 fun a2 n2 v2 zz21d f2 p2 _=>?_;obtain rfl:=zz21d
      have it:=KL (A:=A.in1) q' p1 p2 sub
      have l1:=RcAt.tuples (A6 f1) (A6 f2) hu0 it
      have l2:=RcNeAt.tuples (A6 f1) (A6 f2) hu0 it
      rw[p1.arr,p2.arr,(C7 q').1,e] at l1 l2
      exact ⟨l1,l2⟩
    | ref i =>
      refine Am e fun j q e=>?_
      refine Am e fun xs h1 e=>?_
      refine Am e fun ys h2 e=>?_
      rw[P1 q] at r2
      obtain ⟨hi,rfl⟩:=HF r1
      obtain ⟨hj,rfl⟩:=HF r2
      refine AJ R (Mg h1) fun n1 v1 _ p1 l1=>?_
      refine AJ R (Mg h2) fun n2 v2 _ p2 l2=>?_
      by_cases hl:xs.length=ys.length
      · rw[if_pos hl] at e
        have it:=KL (A:=A.in1) e p1 p2 sub
        have hk:=(C7 e).1
        have e1:=RcAt.lists l1 l2 (by rw[p1.arr,p2.arr];exact hl) hu0 it
        have e2:=RcNeAt.lists l1 l2 (by rw[p1.arr,p2.arr];exact hl) hu0 it
        rw[hl,Nat.min_self] at hk
        rw[p1.arr,hl,hk] at e1 e2
        exact ⟨e1,e2⟩
      · rw[if_neg hl] at e
        refine (oJ e)▸?_
        have hz:(v1.size != v2.size)=true:=by rw[p1.arr,p2.arr];exact bne_iff_ne.mpr hl
        exact ⟨RcAt.lists_lengths l1 l2 hz hu0,RcNeAt.lists_lengths l1 l2 hz hu0⟩
    | _=>exact nn e
theorem Qn (n:Nat) {a b:V} {k:Bool} {Q:V→H→Prop} (e:eqD h n a b=some k) (hn:n≤30) (q:Q (.bool k) h):OpW c (compareOp .Eq) a b h Q:=by
  intro d A g s ra rb hA R r1 r2
  exact (I8 R e (by have:=hA.2.2;lia) r1 r2).1 _ _ _ _ (Ab g h _ Ext.refl R A7 q)
theorem MY (n:Nat) {a b:V} {k:Bool} {Q:V→H→Prop} (e:eqD h n a b=some k) (hn:n≤30) (q:Q (.bool (!k)) h):OpW c (compareOp .NotEq) a b h Q:=by
  intro d A g s ra rb hA R r1 r2
  exact (I8 R e (by have:=hA.2.2;lia) r1 r2).2 _ _ _ _ (Ab g h _ Ext.refl R A7 q)
theorem H5:∀ {ss:List (List Nat)} {vs:List Value},Ac g h (ss.map .str) vs→StrsAre vs (ss.map ofL):=by
  intro zl;induction zl with
  | nil =>
    intro vs e
    unfold Ac at e;subst e;exact .nil
  | cons x ss ih =>
    intro vs e
    rw[List.map_cons] at e;unfold Ac at e
    refine Au e fun v r zz29c e1 e2=>?_;obtain rfl:=zz29c
    unfold Ai at e1;obtain ⟨t,rfl⟩:=e1
    exact .cons _ _ (ih e2)
theorem MZ (k:List Nat):∀ ss:List (List Nat),(ss.map ofL).any (·==ofL k)=ss.contains k:=by
  intro zl;induction zl with
  | nil =>
    exact rfl
  | cons x ss ih =>
    simp only[List.map_cons,List.any_cons,ih,List.contains_cons]
    have:(ofL x==ofL k)=(k==x):=by rw[show ofL x=⟨x.toArray⟩ from rfl,ME,Bool.eq_iff_iff,beq_iff_eq,beq_iff_eq];exact ⟨Eq.symm,Eq.symm⟩
    rw[this]
theorem LM {i:Id} {ss:List (List Nat)} {k:List Nat} {Q:V→H→Prop} (hi:h i=some (.list (ss.map .str))) (q:Q (.bool (ss.contains k)) h):OpW c (compareOp .In) (.str k) (.ref i) h Q:=by
  refine TP fun A g s t R _=>?_
  refine AJ R hi fun n vs e1 e2 e3=>?_
  refine in_list_strs (vs:=vs.toList) (by simp only[Array.toArray_toList];exact e3) (H5 e2) ?_
  rw[show (⟨k.toArray⟩:Str)=ofL k from rfl,MZ]
  exact (Ab g h _ Ext.refl R A7 q)
theorem Iz {i:Id} {ss:List (List Nat)} {k:List Nat} {Q:V→H→Prop} (hi:h i=some (.list (ss.map .str))) (q:Q (.bool (!ss.contains k)) h):OpW c (compareOp .NotIn) (.str k) (.ref i) h Q:=by
  refine TP fun A g s t R _=>?_
  refine AJ R hi fun n vs e1 e2 e3=>?_
  refine notin_list_strs (vs:=vs.toList) (by simp only[Array.toArray_toList];exact e3) (H5 e2) ?_
  rw[show (⟨k.toArray⟩:Str)=ofL k from rfl,MZ]
  exact (Ab g h _ Ext.refl R A7 q)
theorem Bh {es:List (List Nat × V)} {kvs:List (Str × Value)} {k:List Nat} (e:Az g h es kvs):(valueAt kvs (ofL k)).isSome=(es.lookup k).isSome:=by
  unfold valueAt
  cases q:es.lookup k with
  | none=>rw[Az.none_ e q];rfl
  | some v=>refine xEA (Az.some_ e q) fun rv h1 _=>?_;rw[h1];rfl
theorem HP (O:c.Ok) {i:Id} {ep:Nat} {es:List (List Nat × V)} {k:List Nat} {Q:V→H→Prop} (hi:h i=some (.dict ep es)) (q:Q (.bool (es.lookup k).isSome) h):OpW c (compareOp .In) (.str k) (.ref i) h Q:=by
  refine TP fun A g s t R his=>?_
  refine Bi R hi fun kvs _ e3 e4=>?_
  refine wpAny_in_of (E7 (k:=k)) (DK O R his) e3.mapOf ?_
  rw[Bh e4]
  exact (Ab g h _ Ext.toks R.toks A7 q)
theorem ET (O:c.Ok) {i:Id} {ep:Nat} {es:List (List Nat × V)} {k:List Nat} {Q:V→H→Prop} (hi:h i=some (.dict ep es)) (q:Q (.bool (!(es.lookup k).isSome)) h):OpW c (compareOp .NotIn) (.str k) (.ref i) h Q:=by
  refine TP fun A g s t R his=>?_
  refine Bi R hi fun kvs _ e3 e4=>?_
  refine wpAny_notIn_of (E7 (k:=k)) (DK O R his) e3.mapOf ?_
  rw[Bh e4]
  exact (Ab g h _ Ext.toks R.toks A7 q)
theorem LU {k:Nat} {x:List Nat} {Q:V→H→Prop} (q:Q (.bool (x.contains k)) h):OpW c (compareOp .In) (.str [k]) (.str x) h Q:=by
  intro d A g s ra rb hA R r1 r2
  unfold Ai at r1 r2
  obtain ⟨t,rfl⟩:=r1
  obtain ⟨u,rfl⟩:=r2
  refine PySem.P.in_str (x:=⟨x.toArray⟩) (y:=⟨[k].toArray⟩) ?_
  rw[show (⟨[k].toArray⟩:Str)=⟨#[k]⟩ from rfl,StrLaws.found_one]
  have e:decide (k∈(⟨x.toArray⟩:Str).cps.toList)=x.contains k:=by
    show decide (k∈x.toArray.toList)=_
    rw[Bool.eq_iff_iff,decide_eq_true_eq,List.contains_iff_mem]
  rw[e]
  exact (Ab g h _ Ext.refl R A7 q)
end
end
section
noncomputable def DF:Expr→Bool
  | .Tuple ..=>true
  | _=>false
noncomputable def P5:Expr→Bool
  | .Tuple ..=>true
  | .Name ..=>true
  | _=>false
noncomputable def UN (tup:Bool) (g:G) (h:H) (s:Shared) (x:V) (rv:Value):Prop :=
  match tup with
  | true=>∃ xs T vals,x=.tup xs∧rv=.ref T∧s.heap.IsTuple T vals∧Ac g h xs vals.toList
  | false=>Ai g h x rv
structure Jx (c:Cx) (it:Value) (tgt:Expr) (xs:List V) (ok:H→Prop) (P:Addr→Prop) (St:Nat→G→H→Shared→Prop):Prop where
  step:∀ A g h s k x,A.handled=none→Rep c g h s→ok h→St k g h s→xs[k]?=some x→∀ (Q:Value→Shared→Prop) (Ex:Value→Shared→Prop),
    (∀ rv s₁,Rep c g h s₁→(∀ b o,¬ P b→s.heap.get? b=some o→s₁.heap.get? b=some o)→UN (DF tgt) g h s₁ x rv→St (k+1) g h s₁→Q rv s₁) →
    wpAny (model c.prog c.w) A (pyNext it) (fun r s₁=>match r with | none=>False | some v=>wpAny (model c.prog c.w) A (letOwnedTupleGo tgt it v) (fun _ s₂=>Q v s₂) Ex s₁) Ex s
  done:∀ A g h s,A.handled=none→Rep c g h s→ok h→St xs.length g h s→∀ (Q:Shared→Prop) (Ex:Value→Shared→Prop),
    (∀ s₁,Rep c g h s₁→(∀ b o,¬ P b→s.heap.get? b=some o→s₁.heap.get? b=some o)→Q s₁)→wpAny (model c.prog c.w) A (pyNext it) (fun r s₁=>r=none∧Q s₁) Ex s
  keep:∀ k F g h s g' h' s',St k g h s→Rep c g h s→Ext F g h s g' h' s'→(∀ a,F a→¬ P a)→St k g' h' s'
  self:∀ A g h s k,St k g h s→∀ (Q:Value→Shared→Prop) (Ex:Value→Shared→Prop),Q it s→wpAny (model c.prog c.w) A (pyIter it) Q Ex s
noncomputable def DV (c:Cx) (v:V) (h:H) (tup:Bool) (xs:List V) (ok:H→Prop):Prop :=
  ∀ A g s rv tgt,P5 tgt=true→DF tgt=tup→A.handled=none→Rep c g h s→Ai g h v rv →
    wpAny (model c.prog c.w) A (pyIter rv) (fun it s'=>∃ P St,Jx c it tgt xs ok P St∧St 0 g h s'∧Rep c g h s'∧Ext No g h s g h s'∧∀ a,P a→s.heap.get? a=none∧(s'.heap.get? a).isSome=true) (fun _ _=>False) s
section
variable {c:Cx} {d:Nat} {m:Loc} {h:H} {A:Around} {g:G} {s:Shared} {sc:Scope} {F P:Addr→Prop} {env:Env}
theorem Rep.atP (R:Rep c g h s) {I:Addr} (n:g.slot I=none) (n':g.fz I=none) {h':Heap} {tk:Nat} (hs:Heap.SameBut I s.heap h') (hal:(h'.get? I).isSome=true) (hP:P I) :
    Rep c g h { s with heap:=h',toks:=tk }∧Ext P g h s g h { s with heap:=h',toks:=tk }:=by
  refine ⟨R.other (fun b o e k=>(hs.2 b fun q=>?_).trans e) rfl rfl,⟨fun _ e=>⟨e,rfl⟩,fun _ _ e=>e,fun _ _=>rfl,fun _ _=>rfl,fun b l=>?_,fun b o e _ nf=>(hs.2 b fun q=>nf (q▸hP)).trans e⟩⟩
  · subst q;rw[n,n'] at k;rcases k with k | k<;>exact ff k
  · by_cases q:b=I
    · rw[q];exact hal
    · refine (hs.2 b q).symm▸?_;exact l
theorem Rep.extBut (R:Rep c g h s) {I:Addr} (n:g.slot I=none) (n':g.fz I=none) {h':Heap} {tk:Nat} (hs:Heap.ExtBut I s.heap h'):Rep c g h { s with heap:=h',toks:=tk } :=
  R.other (fun b o e k=>hs b o (fun q=>by subst q;rw[n,n'] at k;rcases k with k | k<;>exact ff k) e) rfl rfl
theorem Tk {x:Str} {p:Pos} {it v:Value}:letOwnedTupleGo (.Name x p) it v=pure ():=rfl
theorem ED {xs:List V} {vs:Array Value} {k:Nat} {x:V} (e:Ac g h xs vs.toList) (q:xs[k]?=some x):∃ rv,vs[k]?=some rv∧Ai g h x rv:=by
  refine Ac.gk (k:=k) e q fun rv h1 h2=>?_
  exact (iEA rv (by refine (Array.getElem?_toList)▸?_;exact h1) h2)
theorem NE {tgt:Expr} {x:V} {rv:Value} {s:Shared} (R:Rep c g h s) (ht:DF tgt=true→∃ ys,x=.tup ys) (r:Ai g h x rv):UN (DF tgt) g h s x rv:=by
  cases q:DF tgt with
  | false=>exact r
  | true =>
    refine xE (ht q) fun ys zz1b=>?_;obtain rfl:=zz1b
    refine FG R r fun a n vs zz3d e1 e2 _=>?_;obtain rfl:=zz3d
    exact (Ab ys a vs rfl rfl (A6 e1) e2)
theorem Xs {t:Expr} (h:DF t=true):∃ es k p,t=.Tuple es k p:=by
  cases t<;>first | exact ff h | exact (SJ _ _ _ rfl)
set_option tactic.hygienic true in
theorem JS {tgt:Expr} {I:Addr} {o:Obj} {n:String} {v:Value} {Q:Unit→Shared→Prop} {Ex:Value→Shared→Prop} (hg:P5 tgt=true) (ho:s.heap.get? I=some o) (hc:o.cls=.type n)
    (hn:["enumerate", "zip", "dict_itemiterator", "dict_reverseitemiterator", "odict_iterator", "itertools.zip_longest", "itertools.pairwise"].contains n=false) (q:Q () s) :
    wpAny (model c.prog c.w) A (letOwnedTupleGo tgt (.ref I) v) Q Ex s:=by
  cases tgt<;>first | (exact ff hg;done) | skip
  · exact wpAny_pure q
  · cases v<;>first | exact wpAny_pure q | skip
    refine wpAny_bind (wpAny_load ho ?_)
    obtain ⟨cl,di,da,sl⟩:=o
    obtain rfl:cl=_:=hc
    cases da with
    | fields vs=>exact wpAny_ite_false (by rw[hn];rfl) (wpAny_pure q)
    | _=>exact wpAny_pure q
theorem EH {i:Id} {xs:List V} {tup:Bool} (hi:h i=some (.list xs)) (ht:tup=true→∀ x∈xs,∃ ys,x=.tup ys):DV c (.ref i) h tup xs fun h'=>h' i=some (.list xs):=by
  intro A g s rv tgt hg htg hh R r
  subst htg
  refine xA r fun his zz2b=>?_;obtain rfl:=zz2b
  refine AJ R hi fun n vs e1 e2 e3=>?_
  refine wpAny_pyIter_list e3 ?_
  refine xA (R.push { cls:=.type "list_iterator",data:=.fields #[.ref (g.ρ i),.int 0 0] } (tk:=s.toks)) fun R' X'=>?_
  refine (EB (·=s.heap.objs.size) (fun k g' h' s'=>s'.heap.IsListIter s.heap.objs.size (g.ρ i) k∧(h' i).isSome=true∧g'.ρ i=g.ρ i∧g'.slot s.heap.objs.size=none∧g'.fz s.heap.objs.size=none) ⟨?_,?_,?_,?_⟩ (DU (Bj _ (Heap.get?_push_size _ rfl) rfl rfl) his rfl R.fresh.1 R.fresh.2) R' X' (fun a e=>by refine e.symm▸?_;exact ⟨AL _,by rw[Heap.get?_push_size _ rfl];rfl⟩))
  · intro A g' h' s' k x hh R1 hok zi0 hx Q Ex hQ;obtain ⟨q1,q0,q2,q3,q4⟩:=zi0
    refine AJ R1 hok fun n' vs' f1 f2 f3=>?_
    rw[q2] at f3
    refine xEA (ED (k:=k) f2 hx) fun rv hr rr=>?_
    refine wpAny_pyNext_list_item q1 f3 hr fun hp hit hs=>?_
    refine BC (id hit) fun o ho hc hd=>?_
    refine xA (R1.atP (P:=(·=s.heap.objs.size)) q3 q4 (tk:=s'.toks) hs (by rw[ho];rfl) rfl) fun R2 X2=>?_
    refine JS hg ho hc (by decide) (hQ rv _ R2 (fun b o nb e=>(hs.2 b nb).trans e) (NE R2 (fun z=>ht z x (List.mem_of_getElem? hx)) rr) (DU hit q0 q2 q3 q4))
  · intro A g' h' s' hh R1 hok zi0 Q Ex hQ;obtain ⟨q1,q0,q2,q3,q4⟩:=zi0
    refine AJ R1 hok fun n' vs' f1 f2 f3=>?_
    rw[q2] at f3
    refine wpAny_pyNext_list_end hh q1 f3 (by rw[Array.getElem?_eq_none_iff,f2.arr];exact Nat.le_refl _) fun hp hs=>⟨rfl,hQ _ (R1.extBut q3 q4 hs) fun b o nb e=>hs b o nb e⟩
  · intro k F' g' h' s' g'' h'' s'' zi0 R1 X1 hF;obtain ⟨q1,q0,q2,q3,q4⟩:=zi0
    refine BC (id q1) fun o ho hc hd=>?_
    have hal:(s'.heap.get? s.heap.objs.size).isSome=true:=by rw[ho];rfl
    exact (DU (Bj o (X1.keep _ _ ho q3 fun z=>hF _ z rfl) hc hd) ((X1.live i q0).1) (((X1.live i q0).2).trans q2) ((X1.slot _ hal).trans q3) ((X1.fzold _ hal).trans q4))
  · intro A g' h' s' k zi0 Q Ex hQ;refine xA zi0 fun q1 _=>?_
    exact wpAny_pyIter_listiter q1 hQ
theorem La {xs:List V} {tup:Bool} (ht:tup=true→∀ x∈xs,∃ ys,x=.tup ys):DV c (.tup xs) h tup xs fun _=>True:=by
  intro A g s rv tgt hg htg hh R r
  subst htg
  refine FG R r fun a n vs zz13d e1 e2 _=>?_;obtain rfl:=zz13d
  have hfz:g.fz a=some { cls:=.type "tuple",dict:=none,data:=.seq vs n,slots:=#[] }:=by
    refine Be r fun a' n' vs' e f _=>?_
    cases e
    rw[R.fz _ _ f] at e1;cases e1;exact f
  refine wpAny_pyIter_tuple (A6 e1) ?_
  refine xA (R.push { cls:=.type "tuple_iterator",data:=.fields #[.ref a,.int 0 0] } (tk:=s.toks)) fun R' X'=>?_
  refine (EB (·=s.heap.objs.size) (fun k g' h' s'=>s'.heap.IsTupleIter s.heap.objs.size a k∧g'.fz a=some { cls:=.type "tuple",dict:=none,data:=.seq vs n,slots:=#[] }∧Ac g' h' xs vs.toList∧g'.slot s.heap.objs.size=none∧g'.fz s.heap.objs.size=none) ⟨?_,?_,?_,?_⟩ (DU (Bj _ (Heap.get?_push_size _ rfl) rfl rfl) hfz e2 R.fresh.1 R.fresh.2) R' X' (fun a e=>by refine e.symm▸?_;exact ⟨AL _,by rw[Heap.get?_push_size _ rfl];rfl⟩))
  · intro A g' h' s' k x hh R1 hok zi0 hx Q Ex hQ;obtain ⟨q1,q2,q2',q3,q4⟩:=zi0
    refine xEA (ED (k:=k) q2' hx) fun rv hr rr=>?_
    refine wpAny_pyNext_tuple_item q1 (A6 (R1.fz _ _ q2)) hr fun hp hit hs=>?_
    refine BC (id hit) fun o ho hc hd=>?_
    refine xA (R1.atP (P:=(·=s.heap.objs.size)) q3 q4 (tk:=s'.toks) hs (by rw[ho];rfl) rfl) fun R2 X2=>?_
    exact JS hg ho hc (by decide) (hQ rv _ R2 (fun b o nb e=>(hs.2 b nb).trans e) (NE R2 (fun z=>ht z x (List.mem_of_getElem? hx)) rr) (DU hit q2 q2' q3 q4))
  · intro A g' h' s' hh R1 hok zi0 Q Ex hQ;obtain ⟨q1,q2,q2',q3,q4⟩:=zi0
    exact wpAny_pyNext_tuple_end hh q1 (A6 (R1.fz _ _ q2)) (by rw[Array.getElem?_eq_none_iff,q2'.arr];exact Nat.le_refl _) fun hp hs=>⟨rfl,hQ _ (R1.extBut q3 q4 hs) fun b o nb e=>hs b o nb e⟩
  · intro k F' g' h' s' g'' h'' s'' zi0 R1 X1 hF;obtain ⟨q1,q2,q2',q3,q4⟩:=zi0
    refine BC (id q1) fun o ho hc hd=>?_
    have hal:(s'.heap.get? s.heap.objs.size).isSome=true:=by rw[ho];rfl
    exact (DU (Bj o (X1.keep _ _ ho q3 fun z=>hF _ z rfl) hc hd) (X1.fz _ _ q2) (Ac.mono X1 q2') ((X1.slot _ hal).trans q3) ((X1.fzold _ hal).trans q4))
  · intro A g' h' s' k zi0 Q Ex hQ;refine xA zi0 fun q1 _=>?_
    exact wpAny_pyIter_tupleiter q1 hQ
noncomputable def E6 (a c:Int) (n:Nat):List V:=(List.range n).map fun (k:Nat)=>.int (a+(k:Int)*c)
theorem Nd {a c':Int} {n k:Nat} {x:V} (e:(E6 a c' n)[k]?=some x):k<n∧x=.int (a+k*c'):=by
  unfold E6 at e
  rw[List.getElem?_map] at e
  cases q:(List.range n)[k]? with
  | none=>rw[q] at e;exact nn e
  | some j =>
    rw[q] at e;cases e
    obtain ⟨l,rfl⟩:=List.getElem?_eq_some_iff.mp q
    simp only[List.length_range] at l
    exact ⟨l,by simp⟩
theorem CH {a b:Int} {n:Nat}:DV c (.rng a b n) h false (E6 a b n) fun _=>True:=by
  intro A g s rv tgt hg htg hh R r
  obtain ⟨r,st,t,u,w,rfl,e1,e2,e3⟩:=r
  refine wpAny_pyIter_range (R.fz _ _ e1) e2 ?_
  refine xA (R.push { cls:=.type "range_iterator",data:=.fields #[rawInt a,rawInt (Builtin.Range.rangeSize a st b),rawInt b] } (tk:=s.toks)) fun R' X'=>?_
  refine (EB (·=s.heap.objs.size) (fun k g' h' s'=>IsRangeIter s'.heap s.heap.objs.size (a+k*b) (n - k) b∧g'.slot s.heap.objs.size=none∧g'.fz s.heap.objs.size=none) ⟨?_,?_,?_,?_⟩ (iAA ?_ R.fresh.1 R.fresh.2) R' X' (fun a e=>by refine e.symm▸?_;exact ⟨AL _,by rw[Heap.get?_push_size _ rfl];rfl⟩))
  · intro A g' h' s' k x hh R1 hok zi0 hx Q Ex hQ;refine xAA zi0 fun q1 q3 q4=>?_
    refine xA (Nd hx) fun hk zz19b=>?_;obtain rfl:=zz19b
    refine wpAny_pyNext_range_item q1 (by exact q15 hk) fun hp hit hs=>?_
    refine xA (R1.atP (P:=(·=s.heap.objs.size)) q3 q4 (tk:=s'.toks+1) hs (by rw[hit];rfl) rfl) fun R2 X2=>?_
    refine JS hg hit rfl (by decide) (hQ _ _ R2 (fun b o nb e=>(hs.2 b nb).trans e) ?_ (iAA ?_ q3 q4))
    · rw[htg];exact DE (g:=g') (h:=h')
    · have h1:a+(k:Int)*b+b=a+((k+1:Nat):Int)*b:=by simp only[Int.natCast_add,Int.add_mul];lia
      have h2:(n:Int) - k - 1=(n:Int) - ((k+1:Nat):Int):=by exact q17
      rw[h1,h2] at hit
      exact hit
  · intro A g' h' s' hh R1 hok zi0 Q Ex hQ;refine xAA zi0 fun q1 q3 q4=>?_
    exact wpAny_pyNext_range_end hh q1 (by unfold E6;simp) fun hp hs=>⟨rfl,hQ _ (R1.extBut q3 q4 hs) fun b o nb e=>hs b o nb e⟩
  · intro k F' g' h' s' g'' h'' s'' zi0 R1 X1 hF;refine xAA zi0 fun q1 q3 q4=>?_
    have hal:(s'.heap.get? s.heap.objs.size).isSome=true:=by rw[q1];rfl
    exact (iAA (X1.keep _ _ q1 q3 fun z=>hF _ z rfl) ((X1.slot _ hal).trans q3) ((X1.fzold _ hal).trans q4))
  · intro A g' h' s' k zi0 Q Ex hQ;refine xA zi0 fun q1 _=>?_
    exact wpAny_pyIter_rangeiter q1 hQ
  · have:IsRangeIter (s.heap.push { cls:=.type "range_iterator",data:=.fields #[rawInt a,rawInt (Builtin.Range.rangeSize a st b),rawInt b] }) s.heap.objs.size a (Builtin.Range.rangeSize a st b) b:=Heap.get?_push_size _ rfl
    have h1:a+((0:Nat):Int)*b=a:=by simp
    have h2:(n:Int) - ((0:Nat):Int)=Builtin.Range.rangeSize a st b:=by rw[e3];rfl
    show IsRangeIter _ _ (a+((0:Nat):Int)*b) ((n:Int) - ((0:Nat):Int)) b
    rw[h1,h2]
    exact this
noncomputable def Bm (one:Bool) (ns:List Nat) (x:V) (m:Loc):Loc:=match one,ns,x with
  | true,[n],x=>m.set n x
  | false,ns,.tup ys=>setAll (ns.zip ys) m
  | _,_,_=>m
theorem ckN {ns:List Nat} {e:Expr} {es:List Expr} (ck:Bg c.N ns (e::es)=true):∃ n ns' p,ns=n::ns'∧e=.Name (c.nm n) p∧Bg c.N ns' es=true:=by
  cases ns with
  | nil=>exact ff ck
  | cons n ns =>
    have ck:=Bool.and_eq_true_iff.mp (show (LB e==some (c.nm n)&&Bg c.N ns es)=true from ck)
    refine xE (Pp (eq_of_beq ck.1)) fun p e=>?_
    exact (DM n ns p rfl e ck.2)
theorem YM {ns:List Nat} (ck:Bg c.N ns []=true):ns=[]:=by unfold Bg at ck;exact List.isEmpty_iff.mp ck
theorem Hq:∀ {es:List Expr} {ns:List Nat},Bg c.N ns es=true→(assignEach es env).length=ns.length∧(assignEach es env).findIdx? (·.1)=none∧es.length=ns.length:=by
  intro zl;induction zl with
  | nil =>
    intro ns ck
    rw[YM ck];exact ⟨rfl,rfl,rfl⟩
  | cons e es ih =>
    intro ns ck
    refine Be (ckN ck) fun n ns p zz26d zz26e c2=>?_;obtain rfl:=zz26d;obtain rfl:=zz26e
    refine xAA (ih c2) fun i1 i2 i3=>?_
    refine (iAA (congrArg (·+1) i1) ?_ (congrArg (·+1) i3))
    show List.findIdx? _ (_::assignEach es env)=none
    rw[List.findIdx?_cons,i2];rfl
theorem SP {n k:Nat} {v:V} (e:(m.rw.lookup k).isSome=true):((m.set n v).rw.lookup k).isSome=true:=by
  rw[BB]
  split
  · rename_i z;rw[z] at e;rw[Option.isSome_map];exact e
  · exact e
theorem E2 (O:c.Ok) {Ex:Value→Shared→Prop} {Q:Unit→Shared→Prop} {g₀:G} {h₀:H} {s₀:Shared} :
    ∀ {es:List Expr} {ns:List Nat} {ys:List V} {rys:List Value} {m:Loc} {s:Shared},Bg c.N ns es=true→Aw c sc F env g m h s→Rep c g h s→Ac g h ys rys→(∀ n∈ns,(m.rw.lookup n).isSome=true)→Ext F g₀ h₀ s₀ g h s →
      (∀ s',Ext F g₀ h₀ s₀ g h s'→Rep c g h s'→Aw c sc F env g (setAll (ns.zip ys) m) h s'→Q () s')→wpAny (model c.prog c.w) A (assignInOrder ((assignEach es env).map (·.2)) rys) Q Ex s
  | [],ns,ys,rys,m,s,ck,V,R,r,hn,X,q=>by
    rw[YM ck] at q
    exact wpAny_pure (q s X R V)
  | e::es,ns,ys,rys,m,s,ck,V,R,r,hn,X,q=>by
    refine Be (ckN ck) fun n ns p zz28d zz28e c2=>?_;obtain rfl:=zz28d;obtain rfl:=zz28e
    cases ys with
    | nil =>
      subst r
      exact wpAny_pure (q s X R V)
    | cons y ys =>
      refine Au r fun rv r' zz29c r1 r2=>?_;obtain rfl:=zz29c
      refine wpAny_bind (wpAny_holding (wpAny_assign_Name (BM O V R (hn n List.mem_cons_self) r1 fun s' X' R' V'=>?_)))
      exact E2 O c2 V' R' (Ac.mono X' r2) (fun k hk=>SP (hn k (List.mem_cons_of_mem _ hk))) (X.trans X') q
theorem HZ {h':Heap} (hs:Heap.ExtBut s.heap.objs.size s.heap h'):Ext No g h s g h { s with heap:=h' }:=by
  have hk:∀ a o,s.heap.get? a=some o→h'.get? a=some o:=fun a o e=>hs a o (C6 (by rw[e];rfl)) e
  exact ⟨fun _ e=>⟨e,rfl⟩,fun _ _ e=>e,fun _ _=>rfl,fun _ _=>rfl,fun b l=>by refine isK l fun o q=>?_;refine (hk b o q).symm▸?_;rfl,fun b o e _ _=>hk b o e⟩
noncomputable def FY (one:Bool) (ns:List Nat) (x:V):Prop:=match one,x with
  | true,_=>True
  | false,.tup ys=>ys.length=ns.length
  | _,_=>False
theorem Kc {one:Bool} {ns:List Nat} {t:Expr} (h:AK c.N one ns t=true):(∃ y p,t=.Name y p)∨∃ es k p,t=.Tuple es k p:=by
  cases t<;>first | exact ff h | exact .inl ⟨_,_,rfl⟩ | exact .inr (SJ _ _ _ rfl)
theorem HU {one:Bool} {ns:List Nat} {y:Str} {p:Pos} (h:AK c.N one ns (.Name y p)=true):one=true∧∃ n,ns=[n]∧c.nm n=y:=by
  refine Ad h fun h0 h=>?_
  cases ns with
  | nil=>exact ff h
  | cons n r=>cases r with
    | nil=>exact (N4 h0 _ rfl (beq_iff_eq.mp h))
    | cons=>exact ff h
theorem Hi {one:Bool} {ns:List Nat} {es:List Expr} {k:Nat} {p:Pos} (h:AK c.N one ns (.Tuple es k p)=true):one=false∧Bg c.N ns es=true:=by
  refine Ad h fun h0 h=>⟨?_,h⟩
  cases one with
  | false=>rfl
  | true=>exact ff h0
theorem Oj (O:c.Ok) {one:Bool} {ns:List Nat} {tgt:Expr} {x:V} {rv:Value} {Ex:Value→Shared→Prop} {Q:Unit→Shared→Prop} (hh:A.handled=none) (ct:AK c.N one ns tgt=true) (V:Aw c sc F env g m h s) (R:Rep c g h s)
    (it:UN (DF tgt) g h s x rv) (hn:∀ n∈ns,(m.rw.lookup n).isSome=true) (hl:FY one ns x) (q:∀ s',Ext F g h s g h s'→Rep c g h s'→Aw c sc F env g (Bm one ns x m) h s'→Q () s') :
    wpAny (model c.prog c.w) A (assign tgt env rv) Q Ex s:=by
  rcases Kc ct with ⟨y,p,rfl⟩ | ⟨es,k,p,rfl⟩
  · refine GV (HU ct) fun zz32a n zz32c zz32d=>?_;obtain rfl:=zz32a;obtain rfl:=zz32c;obtain rfl:=zz32d
    exact wpAny_assign_Name (BM O V R (hn n List.mem_cons_self) it fun s' X' R' V'=>q s' X' R' V')
  · refine xA (Hi ct) fun zz26a ct=>?_;obtain rfl:=zz26a
    refine AW it fun ys T vals zz34d zz34e hT r=>?_;obtain rfl:=zz34d;obtain rfl:=zz34e
    refine xAA (Hq (env:=env) ct) fun n1 n2 _=>?_
    refine wpAny_assign_Tuple hh hT (by rw[n1,r.arr,hl]) n2 fun h' hs=>?_
    have X0:=HZ (g:=g) (h:=h) hs
    have R0:Rep c g h { s with heap:=h' }:=R.other (fun a o e _=>hs a o (C6 (by rw[e];rfl)) e) rfl rfl
    exact E2 O ct (V.ext X0) R0 (Ac.mono X0 r) hn X0.up fun s' X' R' V'=>q s' X' R' V'
end
end
section
section
variable {c:Cx} {d:Nat} {m:Loc} {h:H} {A:Around} {g:G} {s:Shared} {sc:Scope} {F P:Addr→Prop} {env:Env}
theorem Aw.atP {s':Shared} (V:Aw c sc F env g m h s) (hk:∀ b o,¬ P b→s.heap.get? b=some o→s'.heap.get? b=some o) (hF:∀ a,F a→¬ P a) (hc:∀ x a,env.cells.lookup x=some a→¬ P a):Aw c sc F env g m h s':=by
  have al:∀ a,¬ P a→(s.heap.get? a).isSome=true→(s'.heap.get? a).isSome=true:=fun a n l=>by refine isK l fun o q=>?_;rw[hk a o n q];rfl
  have kv:∀ {mm n v},D0 c env g h s.heap mm n v→D0 c env g h s'.heap mm n v:=fun zy2a=>xEA zy2a fun rv r q =>
    (iEA rv r (q.imp id fun zz=>Tu zz fun k a e1 e2 o e3 e4=>⟨k,a,e1,e2,o,hk a o (hc _ a e1) e3,e4⟩))
  refine BC V.vars fun mm zz3b v1 v2=>?_;obtain ⟨o,es,ep,hL,r⟩:=zz3b
  exact ⟨V.kind,V.glob,V.bi,V.cd,V.kinds,V.cinj,fun a e=>(iAA ((V.ex a e).1) ((V.ex a e).2.1) (al a (hF a e) (V.ex a e).2.2)),V.own,(Bj mm (El o es ep (hk _ _ (hF _ V.own) hL) r) (fun n v e=>kv (v1 n v e)) (fun n v z e=>kv (v2 n v z e))),V.has,
    fun x a e=>al a (hc x a e) (V.clt x a e),fun n e=>(V.sto n e).imp id fun zz=>Rz zz fun k a v₀ e1 e2 o e3 e4=>⟨k,a,v₀,e1,e2,o,hk a o (hF a e2) e3,e4⟩⟩
theorem Ext.atP {g₀:G} {h₀:H} {s₀ s':Shared} (X:Ext F g₀ h₀ s₀ g h s) (hk:∀ b o,¬ P b→s.heap.get? b=some o→s'.heap.get? b=some o) (hP:∀ a,P a→s₀.heap.get? a=none):Ext F g₀ h₀ s₀ g h s':=by
  have np:∀ a o,s₀.heap.get? a=some o→¬ P a:=fun a o e z=>by rw[hP a z] at e;exact nn e
  refine ⟨X.live,X.fz,X.fzold,X.slot,fun a l=>?_,fun a o e n nf=>hk a o (np a o e) (X.keep a o e n nf)⟩
  refine isK l fun o q=>?_
  refine isK (X.alive a l) fun o' q'=>?_
  rw[hk a o' (np a o q) q'];rfl
noncomputable def C8 (c:Cx) (sc:Scope) (F:Addr→Prop) (env:Env) (g₀:G) (h₀:H) (s₀:Shared) (St:Nat→G→H→Shared→Prop) (xs:List V) (I:List V→Loc→H→Prop) (k:Nat) (s:Shared):Prop :=
  ∃ g h m,Ext F g₀ h₀ s₀ g h s∧Rep c g h s∧Aw c sc F env g m h s∧St k g h s∧I (xs.drop k) m h
theorem J9 (O:c.Ok) {it:Value} {tgt:Expr} {xs:List V} {ok:H→Prop} {St:Nat→G→H→Shared→Prop} {one:Bool} {ns:List Nat} {I:List V→Loc→H→Prop} {g₀:G} {h₀:H} {s₀:Shared} {k:Nat} {s:Shared}
    (It:Jx c it tgt xs ok P St) (hP:∀ a,P a→s₀.heap.get? a=none) (hF:∀ a,F a→¬ P a) (hc:∀ x a,env.cells.lookup x=some a→¬ P a) (ct:AK c.N one ns tgt=true) (hh:A.handled=none)
    (hI:∀ r m h,I r m h→ok h) (hT:∀ y r m h,I (y::r) m h→(∀ n∈ns,(m.rw.lookup n).isSome=true)∧FY one ns y) (hk:k≤xs.length) (J:C8 c sc F env g₀ h₀ s₀ St xs I k s)
    {N:Shared→Prop} {Y:Shared→Prop} {Ex:Value→Shared→Prop}
    (hN:∀ g h m s s',St k g h s→k=xs.length→Ext F g₀ h₀ s₀ g h s'→Rep c g h s'→Aw c sc F env g m h s'→I [] m h→N s')
    (hY:∀ y r g h m s',xs.drop k=y::r→Ext F g₀ h₀ s₀ g h s'→Rep c g h s'→Aw c sc F env g (Bm one ns y m) h s'→St (k+1) g h s'→I (y::r) m h→Y s') :
    wpAny (model c.prog c.w) A (pyNext it) (fun r s₁=>match r with | none=>N s₁ | some v=>wpAny (model c.prog c.w) A (letOwnedTupleGo tgt it v) (fun _ s₂=>wpAny (model c.prog c.w) A (assign tgt env v) (fun _=>Y) Ex s₂) Ex s₁) Ex s:=by
  refine FP J fun g h m X R V S i=>?_
  cases q:xs.drop k with
  | nil =>
    have hk':k=xs.length:=by have:=congrArg List.length q;rw[List.length_drop] at this;simp at this;exact q18 hk this
    rw[q] at i
    subst hk'
    refine wpAny_mono (It.done A g h s hh R (hI _ _ _ i) S (fun s₁=>N s₁) Ex fun s₁ R1 k1=>hN g h m s s₁ S rfl (X.atP k1 hP) R1 (V.atP k1 hF hc) i) (fun r s₁ zy9a=>zy9a.elim fun e z=>?_) fun _ _ z=>z
    subst e;exact z
  | cons y r =>
    rw[q] at i
    have hx:xs[k]?=some y:=by
      have:=congrArg (fun l=>l[0]?) q
      simpa using this
    refine wpAny_mono (It.step A g h s k y hh R (hI _ _ _ i) S hx (fun v s₂=>wpAny (model c.prog c.w) A (assign tgt env v) (fun _=>Y) Ex s₂) Ex fun rv s₁ R1 k1 im S1=>?_) (fun r s₁ z=>?_) fun _ _ z=>z
    · refine xA (hT _ _ _ _ i) fun t1 t2=>?_
      refine Oj O hh ct (V.atP k1 hF hc) R1 im t1 t2 fun s₂ X2 R2 V2=>?_
      exact hY y r g h m s₂ q ((X.atP k1 hP).trans X2) R2 V2 (It.keep _ _ _ _ _ _ _ _ S1 R1 X2 hF) i
    · cases r with
      | none=>exact z.elim
      | some v=>exact z
theorem Dx {α:Type} {xs:List α} {k:Nat} {y:α} {r:List α} (e:xs.drop k=y::r):xs.drop (k+1)=r∧k<xs.length:=by
  constructor
  · rw[← List.drop_drop,e];rfl
  · have:=congrArg List.length e
    rw[List.length_drop] at this
    simp at this;exact Nat.lt_of_sub_eq_succ this
noncomputable def Lv (I:Loc→H→Prop) (Q:Out→Loc→H→Prop):Out→Loc→H→Prop
  | .nx,m,h=>I m h
  | .ct,m,h=>I m h
  | .br,m,h=>Q .nx m h
  | .rt v,m,h=>Q (.rt v) m h
theorem HW (O:c.Ok) {it:Value} {tgt:Expr} {xs:List V} {ok:H→Prop} {St:Nat→G→H→Shared→Prop} {one:Bool} {ns:List Nat} {I:List V→Loc→H→Prop} {g₀:G} {h₀:H} {s₀ s:Shared} {a:List S} {body:List Stmt} {Q:Out→Loc→H→Prop} {RR:Result→Shared→Prop}
    (It:Jx c it tgt xs ok P St) (hP:∀ a,P a→s₀.heap.get? a=none) (hF:∀ a,F a→¬ P a) (hc:∀ x a,env.cells.lookup x=some a→¬ P a) (ct:AK c.N one ns tgt=true) (hA:OkA d A)
    (hI:∀ r m h,I r m h→ok h) (hT:∀ y r m h,I (y::r) m h→(∀ n∈ns,(m.rw.lookup n).isSome=true)∧FY one ns y) (cb:Cq c.N sc a body=true)
    (hb:∀ y r m h,I (y::r) m h→Sts c d a (Bm one ns y m) h (Lv (I r) Q)) (he:∀ m h,I [] m h→Q .nx m h) (J:C8 c sc F env g₀ h₀ s₀ St xs I 0 s)
    (hR:∀ f s' g' h' m' o,Ext F g₀ h₀ s₀ g' h' s'→Rep c g' h' s'→Aw c sc F env g' m' h' s'→B5 g' h' o f→Q o m' h'→RR (.ok f) s') :
    codeAny (model c.prog c.w) A (.forLoop tgt it body [] env) RR s:=by
  refine codeAny_forLoop_any (fun n s=>∃ k,k≤xs.length∧n=xs.length - k∧C8 c sc F env g₀ h₀ s₀ St xs I k s) (fun n s zy11a=>BC zy11a fun k hk hn J=>?_) xs.length (Bj 0 (Nat.zero_le _) rfl J)
  refine wpAny_mono (J9 O It hP hF hc ct hA.1 hI hT hk J (N:=fun s₁=>wpAny (model c.prog c.w) A (execs [] env) (fun f s₃=>RR (.ok f) s₃) (notedBy (model c.prog c.w) A env fun e s'=>RR (.error e) s') s₁)
    (Y:=fun s₂=>wpAny (model c.prog c.w) A (execs body env) (fun f s₃=>match f with
            | .next | .cont=>∃ m,m<n∧∃ k,k≤xs.length∧m=xs.length - k∧C8 c sc F env g₀ h₀ s₀ St xs I k s₃
            | .brk=>RR (.ok .next) s₃
            | .ret v=>RR (.ok (.ret v)) s₃) (notedBy (model c.prog c.w) A env fun e s'=>RR (.error e) s') s₂) (Ex:=notedBy (model c.prog c.w) A env fun e s'=>RR (.error e) s') ?_ ?_) (fun r s₁ z=>?_) fun _ _ z=>z
  · intro g h m s s' _ hk' X R V i
    exact wpAny_execs_nil (hR _ _ _ _ _ .nx X R V rfl (he _ _ i))
  · intro y r g h m s₂ q X R V S i
    refine xA (Dx q) fun q1 q2=>?_
    refine (hb y r m h i _ _ cb _ _ _ _ _ hA V R).use fun f s₃ g₃ h₃ m₃ o e3 R3 V3 r3 z=>?_
    have again:I r m₃ h₃→∃ m,m<n∧∃ k,k≤xs.length∧m=xs.length - k∧C8 c sc F env g₀ h₀ s₀ St xs I k s₃:=fun i3 =>
      ⟨xs.length - (k+1),by exact q19 hn q2,k+1,by exact Nat.succ_le_of_lt ‹_›,rfl,g₃,h₃,m₃,X.trans e3,R3,V3,It.keep _ _ _ _ _ _ _ _ S R e3 hF,by rw[q1];exact i3⟩
    cases o with
    | nx=>unfold B5 at r3;subst r3;exact again z
    | ct=>unfold B5 at r3;subst r3;exact again z
    | br=>unfold B5 at r3;subst r3;exact hR _ _ _ _ _ .nx (X.trans e3) R3 V3 rfl z
    | rt v =>
      have r3':=r3
      refine xEA r3 fun rv zz13b r3=>?_;obtain rfl:=zz13b
      exact hR _ _ _ _ _ (.rt v) (X.trans e3) R3 V3 r3' z
  · cases r<;>exact z
theorem Gq {e:Expr} {env:Env} {x:Value} (h:EX e=false):foldedSetIterable e env x=pure x:=by
  cases e<;>first | rfl | exact ff h.symm
theorem Ir {one:Bool} {ns:List Nat} {tgt:Expr} (ct:AK c.N one ns tgt=true):P5 tgt=true∧DF tgt=!one:=by
  rcases Kc ct with ⟨y,p,rfl⟩ | ⟨es,k,p,rfl⟩
  · refine xA (HU ct) fun zz9a _=>?_;obtain rfl:=zz9a;exact ⟨rfl,rfl⟩
  · refine xA (Hi ct) fun zz10a _=>?_;obtain rfl:=zz10a;exact ⟨rfl,rfl⟩
noncomputable def SL (c:Cx) (d:Nat) (one:Bool) (ns:List Nat) (x:X) (a:List S) (m:Loc) (h:H) (Q:Out→Loc→H→Prop):Prop :=
  E c d x m h fun v h₁=>∃ xs ok,DV c v h₁ (!one) xs ok∧∃ I:List V→Loc→H→Prop,(∀ r m h,I r m h→ok h)∧I xs m h₁ ∧
    (∀ y r m h,I (y::r) m h→(∀ n∈ns,(m.rw.lookup n).isSome=true)∧FY one ns y∧Sts c d a (Bm one ns y m) h (Lv (I r) Q))∧∀ m h,I [] m h→Q .nx m h
theorem PX (O:c.Ok) {one:Bool} {ns:List Nat} {x:X} {a:List S} {Q:Out→Loc→H→Prop} {tgt iter:Expr} {body:List Stmt} {pos:Pos} (p:SL c d one ns x a m h Q) (ct:AK c.N one ns tgt=true) (cx:ckE c.N sc x iter=true) (cs:EX iter=false)
    (cb:Cq c.N sc a body=true) (hA:OkA d A) (V:Aw c sc F env g m h s) (R:Rep c g h s):StW c A (exec (.For tgt iter body [] pos) env) sc F env g h s Q:=by
  refine xA (Ir ct) fun o1 o2=>?_
  refine wpAny_For ((p _ _ cx _ _ _ _ _ hA V R).use fun rv s₁ g₁ h₁ v e1 R1 r1 q1=>?_) fun _=>Gq cs
  obtain ⟨xs,ok,iv,I,hI,i0,hb,he⟩:=q1
  refine wpAny_mono (iv A g₁ s₁ rv tgt o1 o2 hA.1 R1 r1) (fun it s₂ zy18a=>G6 zy18a fun P St It S0 R2 X2 hP=>?_) fun _ _ z=>z
  have V1:=V.ext e1
  refine HW O (F:=F) (Q:=Q) (one:=one) (ns:=ns) (I:=I) It (fun a z=>(hP a z).1) (fun a e z=>?_) (fun y a e z=>?_) ct hA hI (fun y r m h i=>⟨(hb y r m h i).1,(hb y r m h i).2.1⟩) cb (fun y r m h i=>(hb y r m h i).2.2) he
    (Ek g₁ h₁ m X2.up R2 (V1.ext X2) S0 i0) fun f s' g' h' m' o X' R' V' r' q'=>(An g' h' m' o (e1.up.trans X') R' V' r' q')
  · have:=(V1.ex a e).2.2;rw[(hP a z).1] at this;exact ff this
  · have:=V1.clt y a e;rw[(hP a z).1] at this;exact ff this
theorem MU (O:c.Ok) {n:Nat} {x:X} {a:List S} {Q:Out→Loc→H→Prop} (p:SL c d true [n] x a m h Q):St c d (.for1 n x a) m h Q:=by
  intro sc e ck A env F g s hA V R
  refine CO (Ss ck) fun p' y b pos zz19e c1 c2 c3=>?_;obtain rfl:=zz19e
  exact PX O p (by exact if_pos rfl) c1 c2 c3 hA V R
theorem T3 (O:c.Ok) {ns:List Nat} {x:X} {a:List S} {Q:Out→Loc→H→Prop} (p:SL c d false ns x a m h Q):St c d (.forT ns x a) m h Q:=by
  intro sc e ck A env F g s hA V R
  refine GL (ND ck) fun ts k p' y b pos zz20g c0 c1 c2 c3=>?_;obtain rfl:=zz20g
  exact PX O p (by trivial) c1 c2 c3 hA V R
theorem UK {t:X} {a:List S} {Q:Out→Loc→H→Prop} (I:Nat→Loc→H→Prop) (p:∀ n m h,I n m h→Bt c d t m h fun b h₁=>if b=true then Sts c d a m h₁ (Lv (fun m' h'=>∃ k,k<n∧I k m' h') Q) else Q .nx m h₁) (n:Nat) (i:I n m h):St c d (.whl t a) m h Q:=by
  intro sc e ck A env F g s hA V R
  refine Be (Wa ck) fun u b pos zz21d c1 c2=>?_;obtain rfl:=zz21d
  refine wpAny_While (codeAny_whileLoop (fun n s'=>∃ g' h' m',Ext F g h s g' h' s'∧Rep c g' h' s'∧Aw c sc F env g' m' h' s'∧I n m' h') (fun n s' zy22a=>AW zy22a fun g' h' m' X R' V' i'=>?_) n (Ab g h m Ext.refl R V i))
  refine wpAny_mono ((p n m' h' i' _ _ c1 _ _ _ _ _ hA V' R')) (fun z s₁ zy23a=>Au zy23a fun g₁ h₁ e1 R1 q1=>?_) fun _ _ z=>z.elim
  dsimp only at q1
  split
  · rename_i hz
    rw[if_pos hz] at q1
    refine (q1 _ _ c2 _ _ _ _ _ hA (V'.ext e1) R1).use fun f s₃ g₃ h₃ m₃ o e3 R3 V3 r3 z=>?_
    have again:(∃ k,k<n∧I k m₃ h₃)→∃ k,k<n∧∃ g' h' m',Ext F g h s g' h' s₃∧Rep c g' h' s₃∧Aw c sc F env g' m' h' s₃∧I k m' h':=fun zy24a=>xEA zy24a fun k l i3=>(Jb k l g₃ h₃ m₃ ((X.trans e1.up).trans e3) R3 V3 i3)
    cases o with
    | nx=>unfold B5 at r3;subst r3;exact again z
    | ct=>unfold B5 at r3;subst r3;exact again z
    | br=>unfold B5 at r3;subst r3;exact ⟨g₃,h₃,m₃,.nx,(X.trans e1.up).trans e3,R3,V3,rfl,z⟩
    | rt v =>
      have r3':=r3
      refine xEA r3 fun rv zz25b r3=>?_;obtain rfl:=zz25b
      exact (An g₃ h₃ m₃ (.rt v) ((X.trans e1.up).trans e3) R3 V3 r3' z)
  · rename_i hz
    rw[if_neg hz] at q1
    exact wpAny_execs_nil (An g₁ h₁ m' .nx (X.trans e1.up) R1 (V'.ext e1) rfl q1)
end
end
section
section
variable {c:Cx} {d:Nat} {m:Loc} {h:H} {A:Around} {g:G} {s:Shared} {sc scope:Scope} {F P:Addr→Prop} {env:Env}
noncomputable def BK (cells:List (Str × Addr)):List (Str × NameKind)→List (Str × Addr)→List (Str × Addr)
  | [],acc=>acc
  | (n,k)::r,acc=>if k==.free then BK cells r ((n,(cells.lookup n).getD 0)::acc) else BK cells r acc
theorem Ia {f:Str × NameKind→List (Str × Addr)→Sem (ForInStep (List (Str × Addr)))} (hf:∀ n k r,f (n,k) r=if (k==.free)=true then (do let x ← cellOf env n;pure (.yield ((n,x)::r))) else pure (.yield r)) :
    ∀ {names:List (Str × NameKind)} (acc:List (Str × Addr)),(∀ p∈names,p.2=.free→(env.cells.lookup p.1).isSome=true)→forIn names acc f=pure (BK env.cells names acc)
  | [],acc,_=>rfl
  | (n,k)::r,acc,e=>by
    rw[List.forIn_cons,hf]
    have ih:=fun acc=>Ia hf (names:=r) acc (fun p hp=>e p (List.mem_cons_of_mem _ hp))
    unfold BK
    cases hk:k==NameKind.free with
    | false=>exact ih acc
    | true =>
      refine isK (e (n,k) List.mem_cons_self (beq_iff_eq.mp hk)) fun a ha=>?_
      unfold cellOf
      rw[ha]
      exact ih _
theorem Bo (e:∀ p∈scope.names,p.2=.free→(env.cells.lookup p.1).isSome=true):closureFor scope env=pure (BK env.cells scope.names []):=by
  simp only[closureFor]
  rw[Ia (fun n k r=>by cases hk:k==NameKind.free<;>rfl) [] e]
  rfl
theorem I2:∀ {names:List (Str × NameKind)} {acc:List (Str × Addr)} {cells:List (Str × Addr)} {x:Str} {a:Addr},(∀ p∈names,p.2=.free→(cells.lookup p.1).isSome=true)→(BK cells names acc).lookup x=some a →
    acc.lookup x=some a∨(cells.lookup x=some a∧(x,NameKind.free)∈names):=by
  intro zl;induction zl with
  | nil =>
    intro acc cells x a _ e
    exact .inl e
  | cons zq r ih =>
    obtain ⟨n,k⟩:=zq
    intro acc cells x a hc e
    unfold BK at e
    have hc':=fun p hp=>hc p (List.mem_cons_of_mem _ hp)
    cases hk:k==NameKind.free with
    | false =>
      rw[hk] at e
      rcases ih hc' e with i | ⟨i1,i2⟩
      · exact .inl i
      · exact .inr ⟨i1,List.mem_cons_of_mem _ i2⟩
    | true =>
      rw[hk] at e
      rcases ih hc' e with i | ⟨i1,i2⟩
      · rw[List.lookup_cons] at i
        cases hx:x==n with
        | false=>rw[hx] at i;exact .inl i
        | true =>
          rw[hx] at i
          have hk':=beq_iff_eq.mp hk
          have hx':=beq_iff_eq.mp hx
          subst hk' hx'
          refine isK (hc (x,.free) List.mem_cons_self rfl) fun b hb=>?_
          rw[hb] at i
          exact .inr ⟨hb.trans i,List.mem_cons_self⟩
      · exact .inr ⟨i1,List.mem_cons_of_mem _ i2⟩
theorem Mw:∀ {names:List (Str × NameKind)} {acc:List (Str × Addr)} {cells:List (Str × Addr)} {x:Str},(acc.lookup x).isSome=true→((BK cells names acc).lookup x).isSome=true:=by
  intro zl;induction zl with
  | nil =>
    intro acc cells x e
    exact e
  | cons zq r ih =>
    obtain ⟨n,k⟩:=zq
    intro acc cells x e
    unfold BK
    split
    · refine ih ?_
      rw[List.lookup_cons]
      cases x==n
      · exact e
      · rfl
    · exact ih e
theorem Gr:∀ {names:List (Str × NameKind)} {acc:List (Str × Addr)} {cells:List (Str × Addr)} {x:Str},(x,NameKind.free)∈names→((BK cells names acc).lookup x).isSome=true
  | (n,k)::r,acc,cells,x,e=>by
    unfold BK
    rcases List.mem_cons.mp e with q | q
    · cases q
      refine Mw ?_
      simp
    · split<;>exact Gr q
theorem J8 {env:Env} (hk:env.scope.kind=.function):∀ {names:List (Str × NameKind)} {x:Str},
    (names.map fun (n,k)=>if (k==NameKind.free&&env.scope.kind==.function&&env.kindOf n==some .cell) then (n,NameKind.cell) else (n,k)).lookup x=(names.lookup x).map fun k=>if (k==.free&&env.kindOf x==some .cell)=true then .cell else k:=by
  intro zl;induction zl with
  | nil =>
    intro x
    exact rfl
  | cons zq r ih =>
    obtain ⟨n,k⟩:=zq
    intro x
    have ih:=ih (x:=x)
    rw[List.map_cons]
    simp only[List.lookup_cons]
    cases hx:x==n with
    | false =>
      by_cases hc:(k==NameKind.free&&env.scope.kind==.function&&env.kindOf n==some .cell)=true
      · simp only[hc,if_true,List.lookup_cons,hx];exact ih
      · simp only[hc,if_false,List.lookup_cons,hx,Bool.false_eq_true];exact ih
    | true =>
      have:=beq_iff_eq.mp hx
      subst this
      by_cases hc:(k==NameKind.free&&env.kindOf x==some .cell)=true
      · have hc':(k==NameKind.free&&env.scope.kind==.function&&env.kindOf x==some .cell)=true:=by
          simp only[Bool.and_eq_true] at hc ⊢
          exact ⟨⟨hc.1,by rw[hk];rfl⟩,hc.2⟩
        simp only[hc',if_true,hc,List.lookup_cons,beq_self_eq_true,Option.map_some]
      · have hc':¬ (k==NameKind.free&&env.scope.kind==.function&&env.kindOf x==some .cell)=true:=by
          simp only[Bool.and_eq_true] at hc ⊢
          exact fun z=>hc ⟨z.1.1,z.2⟩
        simp only[hc',if_false,hc,List.lookup_cons,beq_self_eq_true,Option.map_some,Bool.false_eq_true]
noncomputable def Bf (m:Loc) (own ro:List Nat):Loc:=⟨ro.filterMap fun n=>(m.get n).map (n,·),own.map (·,none)⟩
theorem Q6 {own ro:List Nat} {n:Nat} {v:V} (e:(Bf m own ro).ro.lookup n=some v):n∈ro∧m.get n=some v:=by
  have:=B7 e
  refine xEA (List.mem_filterMap.mp this) fun k hk e'=>?_
  cases q:m.get k with
  | none=>rw[q] at e';exact nn e'
  | some w=>rw[q] at e';cases e';exact ⟨hk,q⟩
structure HS (c:Cx) (sc scope:Scope) (own ro:List Nat):Prop where
  kind:scope.kind=.function
  cd:c.code scope=none
  uniq:∀ p∈scope.names,scope.names.lookup p.1=some p.2
  own:∀ n∈own,scope.names.lookup (c.nm n)=some .local∨scope.names.lookup (c.nm n)=some .cell
  ro:∀ n∈ro,scope.names.lookup (c.nm n)=some .free
  free:∀ p∈scope.names,p.2=.free→sc.names.lookup p.1=some .cell∨sc.names.lookup p.1=some .free
theorem Jj {tg own ro:List Nat} (h:HE c.N sc scope tg own ro=true):tg=own∧HS c sc scope own ro:=by
  refine Ad h fun h h8=>Ad h fun h h7=>Ad h fun h h6=>Ad h fun h h5=>Ad h fun h h4=>Ad h fun h _=>Ad h fun h _=>Ad h fun h1 h0=>?_
  refine ⟨beq_iff_eq.mp h4,beq_iff_eq.mp h1,Option.isNone_iff_eq_none.mp h0,fun p hp=>beq_iff_eq.mp (List.all_eq_true.mp h5 p hp),fun n hn=>?_,fun n hn=>beq_iff_eq.mp (List.all_eq_true.mp h7 n hn),fun p hp e=>?_⟩
  · exact (Bool.or_eq_true_iff.mp (List.all_eq_true.mp h6 n hn)).imp (fun a=>beq_iff_eq.mp a) fun a=>beq_iff_eq.mp a
  · have:=List.all_eq_true.mp h8 p hp
    obtain ⟨x,k⟩:=p
    obtain rfl:k=_:=e
    exact (Bool.or_eq_true_iff.mp (Aa this).2).imp (fun a=>beq_iff_eq.mp a) fun a=>beq_iff_eq.mp a
theorem IW {own ro:List Nat} (K:HS c sc scope own ro) (V:Aw c sc F env g m h s) (R:Rep c g h s) {cenv:Env} (hc:cenv={ newEnv scope s.heap.objs.size mainGlobals (cellsFrom (s.heap.objs.size+1) scope.names (BK env.cells scope.names [])) env.qual none .none (some env) builtinsNs with scope:=relabel scope env }) :
    FE c scope scope.names (BK env.cells scope.names []) cenv g (Bf m own ro) h s:=by
  have hfree:∀ p∈scope.names,p.2=.free→(env.cells.lookup p.1).isSome=true:=fun p hp e=>by
    refine V.has _ ?_
    rcases K.free p hp e with q | q
    · rcases V.kinds _ _ q with z | ⟨z,_⟩
      · exact .inl z
      · injection z
    · rcases V.kinds _ _ q with z | ⟨_,z⟩
      · exact .inr z
      · exact .inl z
  have kl:∀ x,cenv.kindOf x=(scope.names.lookup x).map fun k=>if (k==.free&&env.kindOf x==some .cell)=true then .cell else k:=fun x=>by
    rw[hc];exact J8 V.kind
  have sub:∀ {x a},(BK env.cells scope.names []).lookup x=some a→env.cells.lookup x=some a∧(x,NameKind.free)∈scope.names:=fun e=>by
    rcases I2 hfree e with i | i
    · exact nn i
    · exact i
  subst hc
  refine ⟨K.kind,rfl,V.bi,(fun x e=>by rw[K.cd] at e;exact nn e),rfl,rfl,fun x k e=>?_,⟨fun x y a e1 e2=>V.cinj _ _ _ (sub e1).1 (sub e2).1,fun x a e=>?_⟩,fun x a e=>V.clt _ _ (sub e).1,fun x e=>?_,fun n o e=>?_,fun n v _ e=>?_⟩
  · rw[kl,e,Option.map_some]
    by_cases q:(k==.free&&env.kindOf x==some .cell)=true
    · rw[if_pos q]
      simp only[Bool.and_eq_true,beq_iff_eq] at q
      exact .inr ⟨q.1,rfl⟩
    · rw[if_neg q];exact .inl rfl
  · refine isK (V.clt _ _ (sub e).1) fun o q=>?_
    exact Heap.lt_size q
  · rw[kl] at e
    cases q:scope.names.lookup x with
    | none=>rw[q] at e;rcases e with e | e<;>exact nn e
    | some k =>
      rw[q,Option.map_some] at e
      by_cases z:k=.free
      · subst z
        exact DX (Gr (mem_of_lookup q))
      · have z':(k==NameKind.free)=false:=by simpa using z
        rw[z'] at e
        rcases e with e | e
        · exact B1 (by rw[q];exact e)
        · exact absurd (oJ e) z
  · have:=B7 e
    refine Dt this fun k hk e'=>?_
    cases e'
    refine ⟨rfl,?_⟩
    rw[kl]
    rcases K.own _ hk with q | q
    · rw[q];exact .inl rfl
    · rw[q]
      refine .inr (iAA rfl rfl ?_)
      cases z:(BK env.cells scope.names []).lookup (c.nm n) with
      | none=>rfl
      | some a=>have:=K.uniq _ (sub z).2;rw[q] at this;cases this
  · refine xA (Q6 e) fun hr hg=>?_
    have hf:=K.ro n hr
    refine ⟨fun p hp e'=>?_,?_⟩
    · have:=K.uniq p hp
      rw[e',hf] at this
      rw[← oJ this];decide
    · refine BC V.vars fun mm hns v1 v2=>?_
      have key:D0 c env g h s.heap mm n v:=by
        unfold Loc.get at hg
        cases z:m.rw.lookup n with
        | some o=>rw[z] at hg;dsimp only at hg;subst hg;exact v1 n v z
        | none=>rw[z] at hg;exact v2 n v z hg
      refine xEA key fun rv r q=>?_
      have kf:env.kindOf (c.nm n)=some .cell∨env.kindOf (c.nm n)=some .free:=by
        rcases K.free _ (mem_of_lookup hf) rfl with q | q
        · rcases V.kinds _ _ q with z | ⟨z,_⟩
          · exact .inl z
          · injection z
        · rcases V.kinds _ _ q with z | ⟨_,z⟩
          · exact .inr z
          · exact .inl z
      rcases q with ⟨q,_⟩ | ⟨_,a,q1,q2,q3⟩
      · rcases kf with z | z<;>(rw[q] at z;cases z)
      · refine (EB rv a r ?_ ?_ q2 q3)
        · rw[kl,hf]
          rcases kf with z | z
          · rw[z];exact .inl rfl
          · rw[z];exact .inr rfl
        · refine isK (Gr (acc:=[]) (cells:=env.cells) (mem_of_lookup hf)) fun b hb=>?_
          rw[hb]
          have:=(sub hb).1
          rw[q1] at this
          exact this.symm
end
end
section
section
variable {c:Cx} {d:Nat} {m:Loc} {h:H} {A:Around} {g:G} {s:Shared} {sc scope:Scope} {F P:Addr→Prop} {env:Env}
theorem Ht {n:Nat} {v:V}:∀ {l:List (Nat × Option V)},(DZ n v l).map (·.1)=l.map (·.1):=by
  intro zl;induction zl with
  | nil =>
    exact rfl
  | cons zq r ih =>
    unfold DZ
    split
    · rfl
    · simp only[List.map_cons,List.map_cons,ih]
theorem Ph {n:Nat} {v:V} {o:Option V} {post:List (Nat × Option V)}:∀ {pre:List (Nat × Option V)},n∉pre.map (·.1)→DZ n v (pre++(n,o)::post)=pre++(n,some v)::post:=by
  intro zl;induction zl with
  | nil =>
    intro _
    simp[DZ]
  | cons zq r ih =>
    obtain ⟨k,w⟩:=zq
    intro e
    have h1:¬ k=n:=fun z=>e (by refine z.symm▸?_;exact List.mem_cons_self)
    have h2:(k==n)=false:=by simpa using h1
    rw[List.cons_append]
    unfold DZ
    refine h2.symm▸(ih (fun z=>e (List.mem_cons_of_mem _ z))).symm▸?_
    rfl
theorem Gz {ro:List (Nat × V)}:∀ {ns:List Nat} {ys:List V} {pre post:List (Nat × Option V)},post.map (·.1)=ns→(pre.map (·.1)++ns).Nodup→ys.length=ns.length→setAll (ns.zip ys) ⟨ro,pre++post⟩=⟨ro,pre++(ns.zip ys).map fun p=>(p.1,some p.2)⟩
  | [],ys,pre,post,e,_,_=>by
    have:post=[]:=by simpa using e
    subst this;rfl
  | n::ns,[],pre,post,_,_,l=>by simp at l
  | n::ns,y::ys,pre,post,e,nd,l=>by
    cases post with
    | nil=>simp at e
    | cons p post =>
      obtain ⟨k,o⟩:=p
      injection e with e1 e2
      subst e1
      have hn:k∉pre.map (·.1):=fun z=>(List.nodup_append.mp nd).2.2 k z k List.mem_cons_self rfl
      show setAll (ns.zip ys) ((⟨ro,pre++(k,o)::post⟩:Loc).set k y)=_
      unfold Loc.set
      rw[Ph hn,show pre++(k,some y)::post=(pre++[(k,some y)])++post by simp,Gz e2 (by simpa using nd) (by simpa using l)]
      simp
theorem I3 {P:Loc→Prop} {one:Bool} {ns:List Nat} {y:V} {m:Loc} (h1:∀ n x,P (m.set n x)) (h2:∀ l,P (setAll l m)) (h3:P m):P (Bm one ns y m):=by
  cases one with
  | true=>cases ns with
    | nil=>exact h3
    | cons n r=>cases r with
      | nil=>exact h1 n y
      | cons=>exact h3
  | false=>cases y with
    | tup ys=>exact h2 _
    | _=>exact h3
theorem K3 {one:Bool} {ns:List Nat} {y:V} {m:Loc}:(Bm one ns y m).ro=m.ro :=
  I3 (P:=fun l=>l.ro=m.ro) (fun _ _=>rfl) (fun l=>by
    induction l generalizing m with
    | nil=>rfl
    | cons p l ih=>exact ih) rfl
theorem Hp {one:Bool} {ns:List Nat} {y:V} {m:Loc}:(Bm one ns y m).rw.map (·.1)=m.rw.map (·.1) :=
  I3 (P:=fun l=>l.rw.map (·.1)=m.rw.map (·.1)) (fun _ _=>Ht) (fun l=>by
    induction l generalizing m with
    | nil=>rfl
    | cons p l ih=>exact ih.trans Ht) rfl
theorem Jd:∀ {l:List Nat},Bu l=true→l.Nodup:=by
  intro zl;induction zl with
  | nil =>
    intro _
    exact List.nodup_nil
  | cons x r ih =>
    intro e
    have e:(!r.contains x&&Bu r)=true:=e
    simp only[Bool.and_eq_true,Bool.not_eq_true'] at e
    exact List.nodup_cons.mpr ⟨fun z=>(by rw[List.contains_iff_mem.mpr z] at e;exact Bool.noConfusion e.1),ih e.2⟩
set_option tactic.hygienic true in
theorem Mo {one:Bool} {ns:List Nat} {y:V} {m:Loc} (hk:m.rw.map (·.1)=ns) (nd:Bu ns=true) (hl:FY one ns y) (h1:one=true→∃ n,ns=[n]):Bm one ns y m=Bm one ns y ⟨m.ro,ns.map (·,none)⟩:=by
  obtain ⟨ro,rw_⟩:=m
  cases one with
  | true =>
    obtain ⟨n,rfl⟩:=h1 rfl
    cases rw_ with
    | nil=>simp at hk
    | cons p r =>
      obtain ⟨k,o⟩:=p
      cases r with
      | cons _ _=>simp at hk
      | nil =>
        have hk:k=n:=by simpa using hk
        subst hk
        unfold Bm Loc.set DZ
        simp
  | false =>
    cases y<;>first | exact hl.elim | skip
    rename_i ys
    have a:=Gz (ro:=ro) (pre:=[]) (post:=rw_) hk (by simpa using Jd nd) hl
    have b:=Gz (ro:=ro) (pre:=[]) (post:=ns.map (·,none)) (by simp[Function.comp_def]) (by simpa using Jd nd) hl
    exact a.trans b.symm
theorem P7 {f:Expr→Bool→Sem (ForInStep Bool)} (hf:∀ e b,f e b=if b=true then (do let ok ← PySem.isTrue e env (eval e env);pure (.yield ok)) else pure (.yield b)) :
    ∀ {ifs:List X} {es:List Expr} {h:H} {g:G} {s:Shared} {Q:Bool→H→Prop},Bts c d true m ifs h Q→Bw c.N sc ifs es=true→OkA d A→Aw c sc F env g m h s→Rep c g h s→BvW c A (forIn es true f) g h s Q
  | [],es,h,g,s,Q,p,ck,hA,V,R=>by
    refine (Ed ck).symm▸?_
    exact wpAny_pure ⟨g,h,Ext.refl,R,p⟩
  | x::ifs,es,h,g,s,Q,p,ck,hA,V,R=>by
    refine DO ck fun e r zz5c c1 c2 c3=>?_;obtain rfl:=zz5c
    rw[List.forIn_cons,hf]
    refine wpAny_bind (wpAny_bind ((p _ _ c1 _ _ _ _ _ hA V R).use fun b s₁ g₁ h₁ e1 R1 p1=>wpAny_pure ?_))
    cases b with
    | true =>
      exact (P7 hf p1 c3 hA (V.ext e1) R1).from e1
    | false =>
      have:∀ l:List Expr,forIn l false f=(pure false:Sem Bool):=fun l=>by
        induction l with
        | nil=>rfl
        | cons y l ih=>rw[List.forIn_cons,hf];exact ih
      show wpAny _ _ (forIn r false f) _ _ _
      rw[this]
      exact wpAny_pure (Al g₁ h₁ e1 R1 p1)
theorem Rep.append (R:Rep c g h s) {j:Id} {acc:List V} {w:V} (hj:h j=some (.list acc)) (hl:acc.length≤2^21) {rv:Value} (r:Ai g h w rv) {Q:Value→Shared→Prop} {Ex:Value→Shared→Prop}
    (q:∀ s',Ext No g h s g (upd h j (.list (acc++[w]))) s'→Rep c g (upd h j (.list (acc++[w]))) s'→Q .none s'):wpAny (model c.prog c.w) A (call (.builtin "list.append") [.ref (g.ρ j),rv]) Q Ex s:=by
  refine AJ R hj fun n vs e1 e2 e3=>?_
  refine wpAny_list_append_plain ⟨n,e1⟩ (fun h' zy7a hs=>zy7a.elim fun n' l'=>?_) (by rw[e2.arr];exact q20 hl)
  have hi:(h j).isSome=true:=by rw[hj];rfl
  have hal:∀ a b,g.slot a=some (j,b)→(h'.get? a).isSome=true:=fun a b z=>by
    by_cases y:a=g.ρ j
    · subst y;rw[l'];rfl
    · rw[hs.2 a y];exact (R.lt a _ z).1
  have hv:Ac g h (acc++[w]) (vs.push rv).toList:=by
    have:=Ac.append e2 (show Ac g h [w] [rv] by exact (Al rv ([]) rfl r (by rfl)))
    simpa using this
  obtain ⟨R',X'⟩:=R.update (i:=j) (s':={ s with heap:=h' }) hi (.list (acc++[w])) (fun a na=>hs.2 a fun z=>na false (z▸R.at_ j hi)) hal rfl rfl fun h2 m1 m2 m3 m4=>(Ff n' _ l' (m2 _ _ hv))
  exact q _ X' R'
end
end
section
section
variable {c:Cx} {d:Nat} {m:Loc} {h:H} {A:Around} {g:G} {s:Shared} {sc scope:Scope} {F P:Addr→Prop} {env cenv:Env}
theorem Jx.plus {it:Value} {tgt:Expr} {xs:List V} {ok:H→Prop} {St:Nat→G→H→Shared→Prop} (It:Jx c it tgt xs ok P St) (j:Id) (D:Addr):Jx c it tgt xs ok P fun k g h s=>St k g h s∧g.ρ j=D∧(h j).isSome=true where
  step A g h s k x hh R hok S hx Q Ex hQ:=It.step A g h s k x hh R hok S.1 hx Q Ex fun rv s₁ R1 k1 im S1=>hQ rv s₁ R1 k1 im ⟨S1,S.2⟩
  done A g h s hh R hok S Q Ex hQ:=It.done A g h s hh R hok S.1 Q Ex hQ
  keep k F g h s g' h' s' S R X hF:=(iAA (It.keep k F g h s g' h' s' S.1 R X hF) (((X.live j S.2.2).2).trans S.2.1) ((X.live j S.2.2).1))
  self A g h s k S Q Ex hQ:=It.self A g h s k S.1 Q Ex hQ
theorem J3 {prog:Program} {w:World} {elt target iter:Expr} {ifs:List Expr} {pos:Pos} {it acc:Value} {env:Env} {R:Result→Shared→Prop} (I:Nat→Shared→Prop)
    (turn:∀ n s,I n s→wpAny (model prog w) A (pyNext it) (fun r s₁=>match r with
      | none=>R (.ok .next) s₁
      | some v=>wpAny (model prog w) A (letOwnedTupleGo target it v) (fun _ s₁'=>wpAny (model prog w) A (assign target env v) (fun _ s₂ =>
          wpAny (model prog w) A (forIn ifs true fun c r=>if r=true then do let ok ← PySem.isTrue c env (eval c env);pure (ForInStep.yield ok) else pure (ForInStep.yield r)) (fun ok s₃ =>
            if ok=true then wpAny (model prog w) A (eval elt env) (fun x s₄ =>
              wpAny (model prog w) A (call (.builtin "list.append") [acc,x]) (fun _ s₅=>∃ m,m<n∧I m s₅) (notedBy (model prog w) A env fun e s'=>R (.error e) s') s₄) (notedBy (model prog w) A env fun e s'=>R (.error e) s') s₃
            else ∃ m,m<n∧I m s₃) (notedBy (model prog w) A env fun e s'=>R (.error e) s') s₂) (notedBy (model prog w) A env fun e s'=>R (.error e) s') s₁') (notedBy (model prog w) A env fun e s'=>R (.error e) s') s₁)
      (notedBy (model prog w) A env fun e s'=>R (.error e) s') s)
    (n:Nat) (hI:I n s):codeAny (model prog w) A (.compLoop (.ListComp elt [⟨target,iter,ifs,0⟩] scope pos) 0 it acc env) R s:=by
  refine codeAny_loop rfl I (fun n s hI=>?_) n hI
  show wpAny _ A ((compTurn (.ListComp elt [⟨target,iter,ifs,0⟩] scope pos) 0 it acc env).onRaise (fun x=>do noteFrame x env;theTreesLotGoes x)) _ _ s
  refine wpAny_noted ?_
  rw[compTurn_list]
  refine wpAny_bind (wpAny_standAt (wpAny_bind (wpAny_mono (turn n s hI) (fun r s₁ h₁=>?_) fun _ _ h'=>h')))
  cases r with
  | none=>exact wpAny_pure h₁
  | some v =>
    refine wpAny_bind (wpAny_mono h₁ (fun _ s₁' h₁'=>?_) fun _ _ h'=>h')
    refine wpAny_bind (wpAny_mono h₁' (fun _ s₂ h₂=>wpAny_bind (wpAny_mono h₂ (fun ok s₃ h₃=>?_) fun _ _ h'=>h')) fun _ _ h'=>h')
    cases ok with
    | false=>exact wpAny_pure ⟨rfl,h₃⟩
    | true=>exact wpAny_bind (wpAny_bind (wpAny_mono h₃ (fun x s₄ h₄=>wpAny_bind (wpAny_mono h₄ (fun _ s₅ h₅=>wpAny_pure (wpAny_pure ⟨rfl,h₅⟩)) fun _ _ h'=>h')) fun _ _ h'=>h'))
noncomputable def QT (c:Cx) (d:Nat) (elt:X) (one:Bool) (ns:List Nat) (ifs:List X) (ro:List (Nat × V)) (j:Id) (I:List V→List V→H→Prop):Prop :=
  ∀ y r acc h,I (y::r) acc h→FY one ns y∧Bts c d true (Bm one ns y ⟨ro,ns.map (·,none)⟩) ifs h fun b h₂ =>
    if b=true then E c d elt (Bm one ns y ⟨ro,ns.map (·,none)⟩) h₂ fun w h₃=>h₃ j=some (.list acc)∧I r (acc++[w]) (upd h₃ j (.list (acc++[w]))) else I r acc h₂
noncomputable abbrev IN (I:List V→List V→H→Prop) (ro:List (Nat × V)) (ns:List Nat) (n:Nat):List V→Loc→H→Prop:=fun r m h=>∃ acc,I r acc h∧acc.length+r.length≤n∧m.ro=ro∧m.rw.map (·.1)=ns
noncomputable abbrev DH (St:Nat→G→H→Shared→Prop) (j:Id) (D:Addr):Nat→G→H→Shared→Prop:=fun k g h s=>St k g h s∧g.ρ j=D∧(h j).isSome=true
theorem Ip {n:Nat}:∀ {l:List (Nat × Option V)},n∈l.map (·.1)→(l.lookup n).isSome=true:=by
  intro zl;induction zl with
  | nil =>
    intro e
    simp at e
  | cons zq l ih =>
    obtain ⟨k,o⟩:=zq
    intro e
    rw[List.lookup_cons]
    cases y:n==k with
    | true=>rfl
    | false =>
      rcases List.mem_cons.mp e with q | q
      · rw[q] at y;simp at y
      · exact ih q
theorem Xw {one:Bool} {ns:List Nat} {tgt:Expr} (ct:AK c.N one ns tgt=true):one=true→∃ n,ns=[n]:=fun e=>by
  subst e
  rcases Kc ct with ⟨y,p,rfl⟩ | ⟨es,k,p,rfl⟩
  · refine GV (HU ct) fun _ n q _=>?_;exact ⟨n,q⟩
  · exact Bool.noConfusion (Hi ct).1
theorem Lq (O:c.Ok) {it:Value} {tgt:Expr} {xs:List V} {ok:H→Prop} {St:Nat→G→H→Shared→Prop} {one:Bool} {ns:List Nat} {I:List V→List V→H→Prop} {g₀:G} {h₀:H} {s₀ s:Shared} {elt:X} {ifs:List X} {ro:List (Nat × V)} {j:Id} {D:Addr}
    {ee iter:Expr} {es:List Expr} {pos:Pos} {RR:Result→Shared→Prop}
    (It:Jx c it tgt xs ok P St) (hP:∀ a,P a→s₀.heap.get? a=none) (hF:∀ a,F a→¬ P a) (hc:∀ x a,cenv.cells.lookup x=some a→¬ P a) (ct:AK c.N one ns tgt=true) (hA:OkA d A) (nd:Bu ns=true) (hl:xs.length≤2^20)
    (hI:∀ r acc h,I r acc h→ok h∧h j=some (.list acc)) (hT:QT c d elt one ns ifs ro j I) (ce:ckE c.N scope elt ee=true) (ci:Bw c.N scope ifs es=true)
    (J:∃ g h m,Ext F g₀ h₀ s₀ g h s∧Rep c g h s∧Aw c scope F cenv g m h s∧St 0 g h s∧I xs [] h∧m.ro=ro∧m.rw.map (·.1)=ns∧g.ρ j=D)
    (hR:∀ s' g' h' m' acc,Ext F g₀ h₀ s₀ g' h' s'→Rep c g' h' s'→Aw c scope F cenv g' m' h' s'→g'.ρ j=D→(h' j).isSome=true→I [] acc h'→RR (.ok .next) s') :
    codeAny (model c.prog c.w) A (.compLoop (.ListComp ee [⟨tgt,iter,es,0⟩] scope pos) 0 it (.ref D) cenv) RR s:=by
  have It':=It.plus j D
  have h1:=Xw ct
  refine GP J fun g h m X R Ve S i mr mk gD=>?_
  have fin:∀ {n:Nat} {k:Nat} {s:Shared},n=xs.length - k→k<xs.length→C8 c scope F cenv g₀ h₀ s₀ (DH St j D) xs (IN I ro ns xs.length) (k+1) s→∃ m,m<n∧∃ k,k≤xs.length∧m=xs.length - k∧C8 c scope F cenv g₀ h₀ s₀ (DH St j D) xs (IN I ro ns xs.length) k s :=
    fun {n k s} e l J=>(Rp (xs.length - (k+1)) (by exact q19 e l) (k+1) (by exact Nat.succ_le_of_lt ‹_›) rfl J)
  refine J3 (fun n s=>∃ k,k≤xs.length∧n=xs.length - k∧C8 c scope F cenv g₀ h₀ s₀ (DH St j D) xs (IN I ro ns xs.length) k s)
    (fun n s zy3a=>BC zy3a fun k hk hn J=>?_) xs.length (D2 0 (Nat.zero_le _) rfl g h m X R Ve (iAA S gD (by rw[(hI _ _ _ i).2];rfl)) ([]) i (by simp) mr mk)
  have hend:∀ s',(∃ g h m,Ext F g₀ h₀ s₀ g h s'∧Rep c g h s'∧Aw c scope F cenv g m h s'∧IN I ro ns xs.length [] m h∧g.ρ j=D)→RR (.ok .next) s':=fun s' zz=>FP zz fun g h m X R Ve zc gD=>xEA zc fun acc z _=>hR s' g h m acc X R Ve gD (by rw[(hI _ _ _ z).2];rfl) z
  refine wpAny_mono (J9 O (ns:=ns) (one:=one) It' hP hF hc ct hA.1 (fun r m h zz=>xEA zz fun acc z _=>(hI r acc h z).1) (fun y r m h zz=>Dh zz fun acc z _ _ z2=>⟨fun n hn=>Ip (by rw[z2];exact hn),(hT y r acc h z).1⟩) hk J (N:=fun s₁=>RR (.ok .next) s₁)
    (Y:=fun s₂=>wpAny (model c.prog c.w) A (forIn es true fun c r=>if r=true then do let ok ← PySem.isTrue c cenv (eval c cenv);pure (ForInStep.yield ok) else pure (ForInStep.yield r)) (fun ok s₃ =>
            if ok=true then wpAny (model c.prog c.w) A (eval ee cenv) (fun x s₄ =>
              wpAny (model c.prog c.w) A (call (.builtin "list.append") [.ref D,x]) (fun _ s₅=>∃ m,m<n∧∃ k,k≤xs.length∧m=xs.length - k∧C8 c scope F cenv g₀ h₀ s₀ (DH St j D) xs (IN I ro ns xs.length) k s₅) (notedBy (model c.prog c.w) A cenv fun e s'=>RR (.error e) s') s₄) (notedBy (model c.prog c.w) A cenv fun e s'=>RR (.error e) s') s₃
            else ∃ m,m<n∧∃ k,k≤xs.length∧m=xs.length - k∧C8 c scope F cenv g₀ h₀ s₀ (DH St j D) xs (IN I ro ns xs.length) k s₃) (notedBy (model c.prog c.w) A cenv fun e s'=>RR (.error e) s') s₂)
    (Ex:=notedBy (model c.prog c.w) A cenv fun e s'=>RR (.error e) s') ?_ ?_) (fun r s₁ z=>?_) fun _ _ z=>z
  · intro g h m s s' S hk' X R Ve i
    exact hend s' (Ek g h m X R Ve i S.2.1)
  · intro y r g h m s₂ q X R Ve zi0 zi1;refine xAA zi0 fun S gD hj=>?_;refine Dh zi1 fun acc z zl z1 z2=>?_
    refine xA (Dx q) fun q1 q2=>?_
    refine xA (hT y r acc h z) fun t1 t2=>?_
    have hb:Bm one ns y m=Bm one ns y ⟨ro,ns.map (·,none)⟩:=by rw[Mo z2 nd t1 h1,z1]
    have z1':(Bm one ns y m).ro=ro:=K3.trans z1
    have z2':(Bm one ns y m).rw.map (·.1)=ns:=Hp.trans z2
    rw[← hb] at t2
    refine wpAny_mono (P7 (fun e b=>rfl) t2 ci hA Ve R) (fun b s₃ zy9a=>Au zy9a fun g₃ h₃ e3 R3 p3=>?_) fun _ _ z=>z.elim
    have S3:=It'.keep _ _ _ _ _ _ _ _ (iAA S gD hj) R (e3.up (E:=F)) hF
    simp only[List.length_cons] at zl
    cases b with
    | false =>
      exact fin hn q2 ⟨g₃,h₃,_,X.trans e3.up,R3,Ve.ext e3,S3,acc,by rw[q1];exact p3,by rw[q1];exact Nat.le_of_lt ‹_›,z1',z2'⟩
    | true =>
      refine wpAny_mono (p3 _ _ ce _ _ _ _ _ hA (Ve.ext e3) R3) (fun rv s₄ zy10a=>FP zy10a fun g₄ h₄ w e4 R4 r4 hj4 i4=>?_) fun _ _ z=>z.elim
      have S4:=It'.keep _ _ _ _ _ _ _ _ S3 R3 (e4.up (E:=F)) hF
      refine S4.2.1▸?_
      refine R4.append hj4 (by exact q21 hl zl) r4 fun s₅ X5 R5=>?_
      have S5:=It'.keep _ _ _ _ _ _ _ _ S4 R4 (X5.up (E:=F)) hF
      refine S4.2.1.symm▸?_
      exact fin hn q2 (Fv g₄ _ _ (((X.trans e3.up).trans e4.up).trans X5.up) R5 (((Ve.ext e3).ext e4).ext X5) S5 (acc++[w]) (by rw[q1];exact i4) (by rw[q1];simp;exact q22 zl) z1' z2')
  · cases r<;>exact z
end
end
section
section
variable {c:Cx} {d:Nat} {m:Loc} {h:H} {A:Around} {g:G} {s:Shared} {sc scope:Scope} {F P:Addr→Prop} {env cenv:Env}
noncomputable def LcQ (c:Cx) (d:Nat) (elt:X) (one:Bool) (ns:List Nat) (src:X) (ifs:List X) (ro:List Nat) (m:Loc) (h:H) (j:Id) (Q:V→H→Prop):Prop :=
  E c d src m h fun v h₁=>∃ xs ok,DV c v h₁ (!one) xs ok∧xs.length≤2^20∧h₁ j=none∧∃ I:List V→List V→H→Prop,(∀ r acc h,I r acc h→ok h∧h j=some (.list acc))∧I xs [] (upd h₁ j (.list [])) ∧
    QT c d elt one ns ifs (Bf m ns ro).ro j I∧∀ acc h,I [] acc h→Q (.ref j) h
theorem Hx {qual:Str} {cl:List (Str × Addr)} {Q:Env→Shared→Prop} {Ex:Value→Shared→Prop} (R:Rep c g h s) (N:FE c scope scope.names cl cenv g m h s)
    (q:∀ s',(∀ x a,(cellsFrom (s.heap.objs.size+1) scope.names cl).lookup x=some a→cl.lookup x=some a∨s.heap.get? a=none)→Ext No g h s g h s'→Rep c g h s'→Aw c scope (fun a=>s.heap.get? a=none∧(s'.heap.get? a).isSome=true) cenv g m h s' →
      Q { scope,locals:=s.heap.objs.size,globals:=mainGlobals,cells:=cellsFrom (s.heap.objs.size+1) scope.names cl,qual,func:=none,code:=env.code,frame:=env.frame,builtins:=env.builtins } s') :
    wpAny (model c.prog c.w) A (newFunctionEnv scope mainGlobals cl [] qual none .none (some env)) Q Ex s:=by
  refine wpAny_bind (wpAny_alloc ?_)
  refine wpAny_bind (wpAny_layCells _ (fun name kind cells=>by cases hkc:kind==NameKind.cell<;>simp[hkc]) _ _ _ _ ?_)
  refine xAA (Ls (ob:={ cls:=.type (if (some env).isSome then "dict" else "frame"),data:=.dict #[] }) R N rfl rfl rfl) fun X R' V=>?_
  have hz:(s.heap.push { cls:=.type (if (some env).isSome then "dict" else "frame"),data:=.dict #[] }).objs.size=s.heap.objs.size+1:=Heap.size_push ..
  refine hz.symm▸?_
  refine wpAny_bind (wpAny_pure (wpAny_pure (q _ (fun x a e=>?_) X R' V)))
  rw[← hz] at e
  refine (Eh e).imp id fun z=>?_
  rw[hz] at z
  cases y:s.heap.get? a with
  | none=>rfl
  | some o=>exact absurd (Heap.lt_size y) (Nat.not_lt.mpr (Nat.le_of_succ_le z.1))
theorem IV {E:Addr→Prop} {g g':G} {h h':H} {s s':Shared} (X:Ext E g h s g' h' s') {a:Addr} (e:s'.heap.get? a=none):s.heap.get? a=none:=by
  cases y:s.heap.get? a with
  | none=>rfl
  | some o=>have:=X.alive a (by rw[y];rfl);rw[e] at this;exact ff this
theorem EA {ns ro:List Nat} (K:HS c sc scope ns ro) (V:Aw c sc F env g m h s):∀ p∈scope.names,p.2=.free→(env.cells.lookup p.1).isSome=true:=fun p hp e=>by
  refine V.has _ ?_
  rcases K.free p hp e with q | q
  · rcases V.kinds _ _ q with z | ⟨z,_⟩
    · exact .inl z
    · injection z
  · rcases V.kinds _ _ q with z | ⟨_,z⟩
    · exact .inr z
    · exact .inl z
theorem GJ {names:List (Str × NameKind)} {cells:List (Str × Addr)} {x:Str} {a:Addr} (hc:∀ p∈names,p.2=.free→(cells.lookup p.1).isSome=true) (e:(BK cells names []).lookup x=some a):cells.lookup x=some a:=by
  rcases I2 hc e with w | w
  · exact (nomatch w)
  · exact w.1
theorem Lu (O:c.Ok) {elt:X} {one:Bool} {ns:List Nat} {src:X} {ifs:List X} {ro:List Nat} {j:Id} {Q:V→H→Prop} {a t it:Expr} {fs:List Expr} {pos:Pos} {KK:Value→Addr→Result→Shared→Prop}
    (p:LcQ c d elt one ns src ifs ro m h j Q) (nd:Bu ns=true) (ct:AK c.N one ns t=true) (cs:ckE c.N sc src it=true) (ce:ckE c.N scope elt a=true) (cf:Bw c.N scope ifs fs=true) (K:HS c sc scope ns ro) (hA:OkA d A) (V:Aw c sc F env g m h s) (R:Rep c g h s)
    (hK:∀ D C g' h' s' mm,Ext No g h s g' h' s'→Rep c g' h' s'→Ai g' h' (.ref j) (.ref D)→s'.heap.Ns C mm→s.heap.get? C=none→g'.slot C=none→g'.fz C=none→Q (.ref j) h'→KK (.ref D) C (.ok .next) s') :
    wpAny (model c.prog c.w) A (eval it env) (fun x s₁=>wpAny (model c.prog c.w) A (pyIter x) (fun itv s₂=>wpAny (model c.prog c.w) A (newList []) (fun acc s₃ =>
      wpAny (model c.prog c.w) A (newFunctionEnv scope env.globals (BK env.cells scope.names []) [] env.qual none .none (some env)) (fun cenv s₄ =>
        codeAny (model c.prog c.w) A (.compStart (.ListComp a [⟨t,it,fs,0⟩] scope pos) 0 itv acc { cenv with scope:=relabel scope env }) (KK acc cenv.locals) s₄) (fun _ _=>False) s₃) (fun _ _=>False) s₂) (fun _ _=>False) s₁) (fun _ _=>False) s:=by
  refine xA (Ir ct) fun o1 o2=>?_
  refine (p _ _ cs _ _ _ _ _ hA V R).use fun rv s₁ g₁ h₁ v e1 R1 r1 q1=>?_
  refine Fu q1 fun xs ok iv hl hj I hI i0 hT he=>?_
  refine wpAny_mono (iv A g₁ s₁ rv t o1 o2 hA.1 R1 r1) (fun itv s₂ zy4a=>G6 zy4a fun P St It S0 R2 X2 hP=>?_) fun _ _ z=>z
  refine xA (R2.newList (i:=j) (xs:=[]) (rvs:=[]) hj (by rfl)) fun R3 X3=>?_
  refine wpAny_newList ?_
  have V1:=V.ext e1
  have V3:=(V1.ext X2).ext X3
  have hup:Bf m ns ro=Bf m ns ro:=rfl
  refine V.glob.symm▸?_
  refine Hx (env:=env) R3 (IW K V3 R3 rfl) fun s₄ hcl X4 R4 V4=>?_
  have X14:=((X2.trans X3).trans X4)
  have hP3:∀ a,P a→((s₂.heap.push (EC ([]:List Value).toArray)).get? a).isSome=true:=fun a z=>By _ (hP a z).2
  have hFn:∀ a,((s₂.heap.push (EC ([]:List Value).toArray)).get? a=none∧(s₄.heap.get? a).isSome=true)→s₁.heap.get? a=none:=fun a z=>by
    cases y:s₁.heap.get? a with
    | none=>rfl
    | some o=>have:=(X2.trans X3).alive a (by rw[y];rfl);rw[z.1] at this;exact ff this
  have loop:=Lq (s:=s₄) O (F:=fun a=>(s₂.heap.push (EC ([]:List Value).toArray)).get? a=none∧(s₄.heap.get? a).isSome=true) (g₀:=g₁) (h₀:=h₁) (s₀:=s₁) (D:=s₂.heap.objs.size) (ee:=a) (iter:=it) (pos:=pos)
    (RR:=KK (.ref s₂.heap.objs.size) (s₂.heap.push (EC ([]:List Value).toArray)).objs.size) It (fun a z=>(hP a z).1) (fun a z y=>by have:=hP3 a y;rw[z.1] at this;exact ff this) (fun x a z y=>?_) ct hA nd hl hI hT ce cf
    (GF _ _ _ X14.up R4 V4 (It.keep _ No _ _ _ _ _ _ S0 R2 (X3.trans X4) (fun _ z=>z.elim)) i0 rfl (by unfold Bf;simp[Function.comp_def]) (by show (if j=j then _ else _)=_;exact if_pos rfl)) fun s' g' h' m' acc X' R' V' gD hjs i=>?_
  · exact codeAny_compStart_list loop (It.self _ _ _ _ 0 (It.keep _ No _ _ _ _ _ _ S0 R2 (X3.trans X4) (fun _ z=>z.elim)) _ _ loop)
  · rcases hcl x a z with q | q
    · have:=V1.clt _ _ (GJ (EA K V) q)
      rw[(hP a y).1] at this;exact ff this
    · have:=hP3 a y;rw[q] at this;exact ff this
  · refine xEA V'.vars fun mm hns _=>?_
    have Xn:Ext No g₁ h₁ s₁ g' h' s':=⟨X'.live,X'.fz,X'.fzold,X'.slot,X'.alive,fun a o e n _=>X'.keep a o e n fun z=>by rw[hFn a z] at e;exact nn e⟩
    have own:=V'.own
    refine hK _ _ g' h' s' mm (e1.trans Xn) R' ?_ hns ?_ (V'.ex _ own).1 (V'.ex _ own).2.1 (he _ _ i)
    · unfold Ai;rw[gD];exact ⟨hjs,rfl⟩
    · exact IV e1 (hFn _ own)
theorem Ha (O:c.Ok) (j:Id) {elt:X} {one:Bool} {tg:List Nat} {src:X} {ifs:List X} {own ro:List Nat} {Q:V→H→Prop} (nd:Bu tg=true) (p:LcQ c d elt one tg src ifs ro m h j Q):E c d (.lcomp elt tg one src ifs own ro) m h Q:=by
  intro sc e ck A env F g s hA V R
  refine ER (K8 ck) fun a t it fs scope pos zz7g c1 c2 c3 c4 c5 c6=>?_;obtain rfl:=zz7g
  refine xA (Jj c5) fun zz3a K=>?_;obtain rfl:=zz3a
  simp only[eval_ListComp]
  refine wpAny_comprehension_free (use:=none) rfl (fun _=>Gq c6) (Bo (EA K V)) K.kind (fun x hx e=>by rw[K.uniq x hx,e]) ?_
  refine Lu O p nd c1 c2 c3 c4 K hA V R fun D C g' h' s' mm X R' r ns hC n1 n2 q=>(iEA mm ns (fun h'' hs=>?_))
  refine (Ab g' h' (.ref j) ?_ (R'.extBut n1 n2 hs.extBut) r q)
  exact X.atP (P:=(·=C)) (fun b o nb e=>(hs.2 b nb).trans e) fun a z=>z▸hC
end
end
section
section
variable {c:Cx} {d:Nat} {m:Loc} {h:H} {A:Around} {g:G} {s:Shared} {sc scope:Scope} {F P:Addr→Prop} {env cenv:Env}
theorem NO {elt:Expr} {gens:List Comprehension} {scope:Scope} {p:Pos} {x:Str} {q:Pos} {l:Nat} (V:Aw c sc F env g m h s):∃ b,swapsWith (.ListComp elt gens scope p) (some (.Name x q)) l env=pure b:=⟨_,rfl⟩
theorem G3 (O:c.Ok) (j:Id) {n:Nat} {elt:X} {one:Bool} {tg:List Nat} {src:X} {ifs:List X} {own ro:List Nat} {Q:Out→Loc→H→Prop} (hn:(m.rw.lookup n).isSome=true) (nd:Bu tg=true)
    (p:LcQ c d elt one tg src ifs ro m h j fun v h'=>Q .nx (m.set n v) h'):St c d (.asgC n (.lcomp elt tg one src ifs own ro)) m h Q:=by
  intro sc e ck A env F g s hA V R
  obtain ⟨y,pp,pos',rfl,ck,_⟩:=M6 ck
  have ck0:=ck
  obtain ⟨a,t,it,fs,scope,pos,rfl,c1,c2,c3,c4,c5,c6⟩:=K8 ck
  obtain ⟨rfl,K⟩:=Jj c5
  obtain ⟨b,hb⟩:=NO (elt:=a) (gens:=[⟨t,it,fs,0⟩]) (scope:=scope) (p:=pos) (x:=c.nm n) (q:=pp) (l:=pos'.line) V
  cases b with
  | false =>
    refine wpAny_Assign_Name ((Ha O j nd p _ _ ck0 _ _ _ _ _ hA V R).use fun rv s₁ g₁ h₁ v e1 R1 r1 q1=>?_) hb
    exact BM O (V.ext e1) R1 hn r1 fun s' X R' V'=>⟨g₁,h₁,_,.nx,e1.up.trans X,R',V',rfl,q1⟩
  | true =>
    rw[exec_Assign_Name_used _ _ _ _ hb]
    refine wpAny_bind (wpAny_standAt (wpAny_bind ?_))
    refine wpAny_bind (wpAny_mono (wpAny_comprehension_free (use:=some (assign (.Name (c.nm n) pp) env)) (Q:=fun _ s'=>∃ g' h' m' o,Ext F g h s g' h' s'∧Rep c g' h' s'∧Aw c sc F env g' m' h' s'∧B5 g' h' o .next∧Q o m' h') rfl (fun _=>Gq c6) (Bo (EA K V)) K.kind (fun x hx e=>by rw[K.uniq x hx,e]) ?_)
      (fun _ s' hq=>wpAny_pure (wpAny_pure hq)) fun _ _ z=>z)
    refine Lu O p nd c1 c2 c3 c4 K hA V R fun D C g' h' s' mm X R' r ns hC n1 n2 q=>?_
    have V':=V.ext X
    have nF:∀ a,F a→a≠C:=fun a z y=>by have:=(V.ex a z).2.2;rw[y,hC] at this;exact ff this
    refine wpAny_assign_Name (BM O V' R' hn r fun s'' X'' R'' V''=>?_)
    refine D1 ns fun o es ep hL rr=>?_
    refine (iEA mm (El o es ep (X''.keep _ _ hL n1 fun z=>nF _ z rfl) rr) (fun h'' hs=>?_))
    refine (An g' h' _ .nx ?_ (R''.extBut n1 n2 hs.extBut) (V''.atP (P:=(·=C)) (fun b o nb e=>(hs.2 b nb).trans e) (fun a z=>nF a z) (fun x a z y=>by have:=V.clt x a z;rw[y,hC] at this;exact ff this)) rfl q)
    exact (X.up.trans X'').atP (P:=(·=C)) (fun b o nb e=>(hs.2 b nb).trans e) fun a z=>z▸hC
noncomputable def Dy (k:List Nat) (v:V) (es:List (List Nat × V)):List (List Nat × V):=if es.any (fun e=>e.1==k) then es.map (fun e=>if e.1==k then (e.1,v) else e) else es++[(k,v)]
theorem Az.any {k:List Nat}:∀ {es:List (List Nat × V)} {kvs:List (Str × Value)},Az g h es kvs→kvs.any (fun kv=>decide (kv.1=ofL k))=es.any (fun e=>e.1==k):=by
  intro zl;induction zl with
  | nil =>
    intro kvs e
    subst e;rfl
  | cons x es ih =>
    intro kvs e
    refine Au e fun v r zz6c e1 e2=>?_;obtain rfl:=zz6c
    rw[List.any_cons,List.any_cons,ih e2]
    have:decide (ofL x.1=ofL k)=(x.1==k):=by
      rw[Bool.eq_iff_iff,decide_eq_true_eq,beq_iff_eq]
      exact ⟨fun e=>DG e,fun e=>by rw[e]⟩
    rw[this]
theorem Az.map {k:List Nat} {v:V} {rv:Value} (rr:Ai g h v rv):∀ {es:List (List Nat × V)} {kvs:List (Str × Value)},Az g h es kvs→Az g h (es.map (fun e=>if e.1==k then (e.1,v) else e)) (kvs.map fun kv=>if kv.1=ofL k then (kv.1,rv) else kv):=by
  intro zl;induction zl with
  | nil =>
    intro kvs e
    subst e;rfl
  | cons x es ih =>
    intro kvs e
    refine Au e fun w r zz7c e1 e2=>?_;obtain rfl:=zz7c
    rw[List.map_cons,List.map_cons]
    by_cases q:x.1=k
    · have q1:(x.1==k)=true:=by simpa using q
      rw[if_pos q1,if_pos (by rw[q])]
      exact (Al rv _ rfl rr (ih e2))
    · have q1:¬ (x.1==k)=true:=by simpa using q
      rw[if_neg q1,if_neg (fun z=>q (DG z))]
      exact (Al w _ rfl e1 (ih e2))
theorem Az.append:∀ {a b:List (List Nat × V)} {ra rb:List (Str × Value)},Az g h a ra→Az g h b rb→Az g h (a++b) (ra++rb):=by
  intro zl;induction zl with
  | nil =>
    intro b ra rb x y
    subst x;exact y
  | cons p a ih =>
    intro b ra rb x y
    refine Au x fun rv t zz8c e2 e3=>?_;obtain rfl:=zz8c
    exact (Al rv (t++rb) rfl e2 (ih e3 y))
theorem Az.put {k:List Nat} {v:V} {rv:Value} (rr:Ai g h v rv) {es:List (List Nat × V)} {kvs:List (Str × Value)} (e:Az g h es kvs):Az g h (Dy k v es) (stored kvs (ofL k) rv):=by
  unfold Dy stored
  have:=e.any (k:=k)
  by_cases q:(es.any fun e=>e.1==k)=true
  · rw[if_pos q,if_pos (by rw[this];exact q)]
    exact e.map rr
  · rw[if_neg q,if_neg (by rw[this];exact q)]
    exact e.append (Al rv ([]) rfl rr rfl)
theorem KW {k:List Nat} {v:V} {es:List (List Nat × V)}:(Dy k v es).length≤es.length+1:=by
  unfold Dy;split<;>simp
theorem Rep.setDict (R:Rep c g h s) {j:Id} (hj:(h j).isSome=true) {es:List (List Nat × V)} {kvs:List (Str × Value)} {h':Heap} {tk:Nat} (hd:h'.DictOf (PySem.strKind c.prog c.w) (g.ρ j) kvs) (hs:Heap.SameBut (g.ρ j) s.heap h') (e:Az g h es kvs) :
    ∃ ep,Rep c g (upd h j (.dict ep es)) { s with heap:=h',toks:=tk }∧Ext No g h s g (upd h j (.dict ep es)) { s with heap:=h',toks:=tk }:=by
  refine D1 hd fun o es' ep h1 h2=>?_
  have hal:∀ a b,g.slot a=some (j,b)→(h'.get? a).isSome=true:=fun a b z=>by
    by_cases y:a=g.ρ j
    · subst y;rw[h1];rfl
    · rw[hs.2 a y];exact (R.lt a _ z).1
  exact ⟨ep,R.update (i:=j) (s':={ s with heap:=h',toks:=tk }) hj (.dict ep es) (fun a na=>hs.2 a fun z=>na false (z▸R.at_ j hj)) hal rfl rfl fun h2' m1 m2 m3 m4=>(iEA kvs (Ff o es' h1 h2) (m3 _ _ e))⟩
theorem Rep.dictSet (R:Rep c g h s) {j:Id} {ep:Nat} {es:List (List Nat × V)} {k:List Nat} {v:V} {rv:Value} {t:Tok} (hj:h j=some (.dict ep es)) (hl:es.length≤2^20) (r:Ai g h v rv) {Q:Unit→Shared→Prop} {Ex:Value→Shared→Prop}
    (q:∀ s' ep',Ext No g h s g (upd h j (.dict ep' (Dy k v es))) s'→Rep c g (upd h j (.dict ep' (Dy k v es))) s'→Q () s'):wpAny (model c.prog c.w) A (dictSet (g.ρ j) (.str ⟨k.toArray⟩ t) rv) Q Ex s:=by
  refine Bi R hj fun kvs _ e3 e4=>?_
  refine wpAny_dictSet_pairs (E7 (k:=k)) e3 (fun h' hd hs=>?_) (by rw[e4.len];exact q6 hl)
  obtain ⟨ep',R',X'⟩:=R.setDict (by rw[hj];rfl) hd hs (e4.put r)
  exact q _ ep' X' R'
end
end
section
section
variable {c:Cx} {d:Nat} {m:Loc} {h:H} {A:Around} {g:G} {s:Shared} {sc scope:Scope} {F P:Addr→Prop} {env cenv:Env}
theorem Rep.allocAt (R:Rep c g h s) {i:Id} (hi:h i=none) {a:Addr} {h':Heap} {tk:Nat} {ob:Obj} (ha:s.heap.get? a=none) (hk:∀ b o,s.heap.get? b=some o→h'.get? b=some o) (hob:h'.get? a=some ob) (o:O)
    (ho:∀ g' h2 hp,hp.get? (g'.ρ i)=some ob→(∀ v rv,Ai g h v rv→Ai g' h2 v rv)→(∀ v rv,Ac g h v rv→Ac g' h2 v rv)→EO c g' h2 i hp o) :
    Rep c (g.add i a) (upd h i o) { s with heap:=h',toks:=tk }∧Ext No g h s (g.add i a) (upd h i o) { s with heap:=h',toks:=tk }:=by
  have ne:∀ {j},(h j).isSome=true→j≠i:=fun e q=>by rw[q,hi] at e;exact ff e
  have na:∀ {b},(s.heap.get? b).isSome=true→b≠a:=fun e q=>by rw[q,ha] at e;exact ff e
  have al:∀ b,(s.heap.get? b).isSome=true→(h'.get? b).isSome=true:=fun b l=>by refine isK l fun o q=>?_;rw[hk b o q];rfl
  have X:Ext No g h s (g.add i a) (upd h i o) { s with heap:=h',toks:=tk } :=
    ⟨fun j e=>⟨by rw[Ae (ne e)];exact e,if_neg (ne e)⟩,fun _ _ e=>e,fun _ _=>rfl,fun b l=>if_neg (na l),al,fun b o e _ _=>hk b o e⟩
  refine ⟨⟨R.base,fun b o e=>hk b o (R.fz b o e),fun b o e=>?_,fun b x e=>?_,fun j e=>?_,fun j o' e=>?_,R.gens,R.os⟩,X⟩
  · exact (X.slot b (by rw[R.fz b o e];rfl)).trans (R.apart b o e)
  · by_cases q:b=a
    · subst q
      refine ⟨by refine hob.symm▸?_;rfl,?_⟩
      cases z:c.B.get? b with
      | none=>rfl
      | some o=>have:=R.fz _ _ (R.base _ _ z);rw[ha] at this;exact nn this
    · have e':g.slot b=some x:=by simpa [G.add,q] using e
      exact ⟨al b (R.lt b x e').1,(R.lt b x e').2⟩
  · by_cases q:j=i
    · subst q;simp[G.add]
    · rw[Ae q] at e
      have z:=R.at_ j e
      have l:=(R.lt _ _ z).1
      have e1:(g.add i a).ρ j=g.ρ j:=if_neg q
      rw[e1]
      exact (if_neg (na l)).trans z
  · by_cases q:j=i
    · subst q
      rw[Aj] at e;cases e
      refine ho _ _ _ ?_ (fun v rv z=>Ai.mono X z) (fun v rv z=>Ac.mono X z)
      show h'.get? (if j=j then a else g.ρ j)=_
      rw[if_pos rfl];exact hob
    · rw[Ae q] at e
      have hj:(h j).isSome=true:=by rw[e];rfl
      refine EO.keeps X hj R (fun b b' z=>?_) (R.obj j o' e)
      obtain ⟨o,q⟩:=Option.isSome_iff_exists.mp (R.lt b _ z).1
      rw[q];exact hk b o q
theorem Rep.grow (R:Rep c g h s) {h':Heap} {tk:Nat} (hk:∀ b o,s.heap.get? b=some o→h'.get? b=some o):Rep c g h { s with heap:=h',toks:=tk }∧Ext No g h s g h { s with heap:=h',toks:=tk } :=
  ⟨R.other (fun a o e _=>hk a o e) rfl rfl,⟨fun _ e=>⟨e,rfl⟩,fun _ _ e=>e,fun _ _=>rfl,fun _ _=>rfl,fun b l=>by refine isK l fun o q=>?_;refine (hk b o q).symm▸?_;rfl,fun a o e _ _=>hk a o e⟩⟩
theorem Rep.newListAt (R:Rep c g h s) {i:Id} {xs:List V} {a:Addr} {h':Heap} {tk n:Nat} {vs:Array Value} (hi:h i=none) (ha:s.heap.get? a=none) (hk:∀ b o,s.heap.get? b=some o→h'.get? b=some o)
    (hob:h'.get? a=some { cls:=.type "list",dict:=none,data:=.seq vs n,slots:=#[] }) (r:Ac g h xs vs.toList) :
    Rep c (g.add i a) (upd h i (.list xs)) { s with heap:=h',toks:=tk }∧Ext No g h s (g.add i a) (upd h i (.list xs)) { s with heap:=h',toks:=tk } :=
  R.allocAt hi ha hk hob _ fun g' h2 hp e _ m2=>(Ff n vs e (m2 _ _ r))
section
variable {Q:V→H→Prop} {i j:Id} {xs:List V}
theorem Eb {f:Value} {v:V} (p:∀ A g s rv,OkA d A→Rep c g h s→Ai g h v rv→EvW c A (call f [rv] []) g h s Q):Av c d f [v] [] [] h Q:=by
  intro A g s rvs rks hA R r1 r2
  obtain ⟨rv,r,rfl,r1,rr⟩:=r1
  subst rr r2
  exact p A g s rv hA R r1
theorem Gk {f:Value} {v w:V} (p:∀ A g s rv rw,OkA d A→Rep c g h s→Ai g h v rv→Ai g h w rw→EvW c A (call f [rv,rw] []) g h s Q):Av c d f [v,w] [] [] h Q:=by
  intro A g s rvs rks hA R r1 r2
  obtain ⟨rv,r,rfl,r1,rr⟩:=r1
  obtain ⟨rw,r',rfl,r1',rr⟩:=rr
  subst rr r2
  exact p A g s rv rw hA R r1 r1'
theorem Gh {f:Value} (p:∀ A g s,OkA d A→Rep c g h s→(h i).isSome=true→EvW c A (call f [.ref (g.ρ i)] []) g h s Q):Av c d f [.ref i] [] [] h Q:=Eb fun A g s rv hA R r=>by
  obtain ⟨hi,rfl⟩:=r
  exact p A g s hA R hi
theorem KO (hi:h i=some (.list xs)) (hj:h j=none) (hl:xs.length≤2^20) (q:Q (.ref j) (upd h j (.list xs))):Av c d (.type "list") [.ref i] [] [] h Q:=by
  refine Gh fun A g s hA R _=>?_
  refine AJ R hi fun n vs e1 e2 e3=>?_
  refine call_list_seq _ (.inl rfl) e1 rfl rfl (fun h' c' hk hob=>?_) (by rw[e2.arr];exact q6 hl)
  obtain ⟨R',X'⟩:=R.newListAt (tk:=s.toks) hj (AL _) hk hob e2
  exact (Ab _ _ (.ref j) X' R' Bs q)
theorem L9 (hj:h j=none) (hl:xs.length≤2^20) (q:Q (.ref j) (upd h j (.list xs))):Av c d (.type "list") [.tup xs] [] [] h Q:=by
  refine Eb fun A g s rv hA R r1=>?_
  refine FG R r1 fun a n vs zz10d e1 e2 e3=>?_;obtain rfl:=zz10d
  refine call_list_seq _ (.inr rfl) e1 rfl rfl (fun h' c' hk hob=>?_) (by rw[e2.arr,sizeLine_eq];lia)
  obtain ⟨R',X'⟩:=R.newListAt (tk:=s.toks) hj (AL _) hk hob e2
  exact (Ab _ _ (.ref j) X' R' Bs q)
theorem Jl (hi:h i=some (.list xs)) (hl:xs.length≤2^20) (q:Q (.tup xs) h):Av c d (.type "tuple") [.ref i] [] [] h Q:=by
  refine Gh fun A g s hA R _=>?_
  refine AJ R hi fun n vs e1 e2 e3=>?_
  refine call_tuple_list e3 (fun h' hk=>?_) (by rw[e2.arr,sizeLine_eq];lia)
  obtain ⟨R',X'⟩:=R.grow (tk:=s.toks) hk
  refine BC (R'.newTup (rvs:=vs.toList) (Ac.mono X' e2)) fun g₂ R2 X2 r2=>?_
  exact (Ab _ _ (.tup xs) (X'.trans X2) R2 r2 q)
theorem Ac.strs:∀ {ss:List Str} {vs:List Value},StrsAre vs ss→Ac g h (ss.map fun x=>.str x.cps.toList) vs
  | _,_,e=>by induction e with
    | nil=>exact rfl
    | cons y t e ih =>
      refine (Al _ _ rfl ?_ ih)
      exact ⟨t,by exact (congrArg (Value.str y)∘fun a=>a) rfl⟩
noncomputable def WF (ss:List (List Nat)):Prop:=sortedS (ss.map ofL)=true
theorem IG {ss:List (List Nat)} (hi:h i=some (.list (ss.map .str))) (hl:ss.length<64) (hj:h j=none) (q:∀ ss':List (List Nat),ss'.Perm ss→WF ss'→Q (.ref j) (upd h j (.list (ss'.map .str)))):Av c d (.builtin "sorted") [.ref i] [] [] h Q:=by
  refine Gh fun A g s hA R _=>?_
  refine AJ R hi fun n vs e1 e2 e3=>?_
  refine sorted_strs (vs:=vs.toList) (by exact e3) (H5 e2) (by rw[e2.len,List.length_map];exact hl) fun out ss' p1 p2 p3=>?_
  obtain ⟨e,he⟩:=sortedAll_at s.heap vs.toList out
  have hp:(ss'.map fun x:Str=>x.cps.toList).Perm ss:=by
    have:=p2.map (fun x:Str=>x.cps.toList)
    rw[List.map_map] at this
    have e:((fun x:Str=>x.cps.toList)∘ofL)=id:=by funext x;simp
    rw[e,List.map_id] at this
    exact this
  have hv:=Ac.strs (g:=g) (h:=h) p1
  rw[show (ss'.map fun x:Str=>V.str x.cps.toList)=(ss'.map fun x:Str=>x.cps.toList).map .str by rw[List.map_map];rfl] at hv
  have hn:s.heap.get? (s.heap.objs.size+1)=none:=by
    cases z:s.heap.get? (s.heap.objs.size+1) with
    | none=>rfl
    | some o=>exact absurd (Heap.lt_size z) (Nat.not_lt.mpr (Nat.le_succ _))
  obtain ⟨R',X'⟩:=R.newListAt (tk:=s.toks) hj hn (fun b o e=>sortedAll_old e) he hv
  refine (Ab _ _ (.ref j) X' R' Bs (q _ hp ?_))
  unfold WF
  rw[List.map_map]
  have e:(ofL∘fun x:Str=>x.cps.toList)=id:=by funext x;simp[ofL]
  refine (e ..).symm▸(List.map_id ..).symm▸?_;exact p3
theorem Kp {n:Int} (h0:0≤n) (h1:n≤2^40) (q:Q (.rng 0 1 n.toNat) h):Av c d (.type "range") [.int n] [] [] h Q:=by
  refine Eb fun A g s rv hA R r1=>?_
  obtain ⟨t,rfl⟩:=r1
  refine call_range_1 ?_
  obtain ⟨R',X'⟩:=R.freeze { cls:=.type "range",data:=.fields #[.int 0 s.toks,.int n t,.int 1 (s.toks+1)] } rfl
  refine (Ab _ h (.rng 0 1 n.toNat) (X'.trans Ext.toks) R'.toks ?_ q)
  refine (Ol _ n s.toks t (s.toks+1) rfl (by show (if _=_ then _ else _)=_;exact if_pos rfl) (small_one (by exact Int.neg_ofNat_le_ofNat (2^62) 0) (by exact kbt_pos 62) (by exact q25 h0) (by lia)) ?_)
  rw[rangeSize_one];split<;>lia
noncomputable def ON (a:Int):List Nat:=(Str.ofString (toString a)).cps.toList
theorem IL {a:Int} (ha:a.natAbs<2^60) (q:Q (.str (ON a)) h):Av c d (.type "str") [.int a] [] [] h Q:=by
  refine Eb fun A g s rv hA R r1=>?_
  obtain ⟨t,rfl⟩:=r1
  refine PySem.P.str_of_int ?_ (Ab g h (.str (ON a)) Ext.toks R.toks ?_ q)
  · by_cases z:a.natAbs=0
    · rw[z];decide
    · have:=(Nat.log2_lt z).mpr ha;exact q32 this
  · exact ⟨s.toks,by exact (congrArg (Value.str (Str.ofString (toString a)))∘congrArg Shared.toks) rfl⟩
theorem Mx (hi:h i=some (.list xs)) (hl:xs.length≤2^20) (q:Q (.int xs.length) h):Av c d (.builtin "len") [.ref i] [] [] h Q:=by
  refine Gh fun A g s hA R _=>?_
  refine AJ R hi fun n vs e1 e2 e3=>?_
  refine call_len_list e3 (by rw[e2.arr];exact q33 hl) (Ab g h (.int xs.length) Ext.toks R.toks ?_ q)
  rw[e2.arr];exact DE
end
end
end
section
section
variable {c:Cx} {d:Nat} {m:Loc} {h:H} {A:Around} {g:G} {s:Shared} {sc scope:Scope} {F P:Addr→Prop} {env cenv:Env}
theorem Rep.setList (R:Rep c g h s) {j:Id} (hj:(h j).isSome=true) {xs:List V} {vs:Array Value} {n:Nat} {h':Heap} {tk:Nat} (hd:h'.get? (g.ρ j)=some { cls:=.type "list",dict:=none,data:=.seq vs n,slots:=#[] })
    (hs:Heap.SameBut (g.ρ j) s.heap h') (e:Ac g h xs vs.toList) :
    Rep c g (upd h j (.list xs)) { s with heap:=h',toks:=tk }∧Ext No g h s g (upd h j (.list xs)) { s with heap:=h',toks:=tk }:=by
  have hal:∀ a b,g.slot a=some (j,b)→(h'.get? a).isSome=true:=fun a b z=>by
    by_cases y:a=g.ρ j
    · subst y;rw[hd];rfl
    · rw[hs.2 a y];exact (R.lt a _ z).1
  exact R.update (i:=j) (s':={ s with heap:=h',toks:=tk }) hj (.list xs) (fun a na=>hs.2 a fun z=>na false (z▸R.at_ j hj)) hal rfl rfl fun h2' m1 m2 m3 m4=>(Ff n vs hd (m2 _ _ e))
theorem Ey {i j k:Id} {xs ys:List V} {Q:V→H→Prop} (hi:h i=some (.list xs)) (hj:h j=some (.list ys)) (hk:h k=none) (hl:xs.length+ys.length≤2^20) (q:Q (.ref k) (upd h k (.list (xs++ys)))):OpW c (binaryOp .Add) (.ref i) (.ref j) h Q:=by
  intro d A g s ra rb hA R r1 r2
  refine xA r1 fun _ zz1b=>?_;obtain rfl:=zz1b
  refine xA r2 fun _ zz2b=>?_;obtain rfl:=zz2b
  refine AJ R hi fun n1 v1 e1 p1 _=>?_
  refine AJ R hj fun n2 v2 e2 p2 _=>?_
  refine xA (R.newList (rvs:=v1.toList++v2.toList) hk (p1.append p2)) fun R' X'=>?_
  rw[show (v1.toList++v2.toList).toArray=v1++v2 by simp] at R' X'
  exact PySem.P.add_list e1 e2 (Ab _ _ (.ref k) X' R' Bs q) (by rw[p1.arr,p2.arr];exact q13 hl)
section
variable {Q:V→H→Prop} {i j:Id} {xs ys:List V}
theorem KE {v:V} (hi:h i=some (.list xs)) (hl:xs.length≤2^20) (q:Q .none (upd h i (.list (xs++[v])))):Av c d (.builtin "list.append") [.ref i,v] [] [] h Q:=by
  refine Gk fun A g s rv rv' hA R r1 r1'=>?_
  refine xA r1 fun _ zz4b=>?_;obtain rfl:=zz4b
  exact R.append hi (by exact q34 hl) r1' fun s' X' R'=>(Ab _ _ .none X' R' DJ q)
theorem FJ:∀ {xs:List V} {vs:List Value} (k:Nat),Ac g h xs vs→Ac g h (xs.eraseIdx k) (vs.eraseIdx k)
  | [],vs,k,e=>by subst e;exact (by rfl)
  | x::xs,vs,0,e=>by refine Au e fun v r zz7c _ e2=>?_;obtain rfl:=zz7c;exact e2
  | x::xs,vs,k+1,e=>by
    refine Au e fun v r zz8c e1 e2=>?_;obtain rfl:=zz8c
    exact (Al v _ rfl e1 (FJ k e2))
theorem XC {x:V} (hi:h i=some (.list (xs++[x]))) (hl:xs.length≤2^20) (q:Q x (upd h i (.list xs))):Av c d (.builtin "list.pop") [.ref i] [] [] h Q:=by
  refine Gh fun A g s hA R _=>?_
  refine AJ R hi fun n vs e1 e2 e3=>?_
  have hsz:vs.size=xs.length+1:=by rw[e2.arr];simp
  refine xEA (ED (k:=xs.length) e2 (x:=x) (by simp)) fun y hy ry=>?_
  refine call_meets PySem.F.slot_list_pop (iEA _ e1 rfl) PySem.F.entry_list_pop (PySem.F.args_list_pop_1 _) (MeetsSeq.list_pop_last (g.ρ i) vs n y (by rw[hsz];exact hy) (by rw[hsz];exact q36 hl)) ⟨e1,?_⟩
  have hv:Ac g h xs (vs.eraseIdxIfInBounds (vs.size - 1)).toList:=by
    have:=FJ (vs.size - 1) e2
    rw[hsz] at this ⊢
    rw[Nat.add_sub_cancel] at this ⊢
    rw[List.eraseIdx_append_of_length_le (Nat.le_refl _)] at this
    simpa using this
  refine xA (R.setList (tk:=s.toks) (by rw[hi];rfl) (IsL.update e1 fun xs=>xs.eraseIdxIfInBounds (vs.size - 1)) (Heap.SameBut.update ..) hv) fun R' X'=>?_
  exact (Ab _ _ x X' R' (Ai.mono X' ry) q)
theorem Us {ep:Nat} {es:List (List Nat × V)} {k:List Nat} {v:V} (O:c.Ok) (hi:h i=some (.dict ep es)) (q:Q ((es.lookup k).getD v) h):Av c d (.builtin "dict.get") [.ref i,.str k,v] [] [] h Q:=by
  intro A g s rvs rks hA R r1 r2
  obtain ⟨rv,r,rfl,r1,rr⟩:=r1
  obtain ⟨rv',r',rfl,r1',rr⟩:=rr
  obtain ⟨rv'',r'',rfl,r1'',rr⟩:=rr
  subst rr r2
  unfold Ai at r1 r1';obtain ⟨his,rfl⟩:=r1;obtain ⟨t,rfl⟩:=r1'
  refine Bi R hi fun kvs zz27b e3 e4=>?_;refine Au zz27b fun o es' e0 e1 _=>?_
  refine call_meetsIn PySem.F.slot_dict_get (iEA o e0 e1.1) PySem.F.entry_dict_get (PySem.F.args_dict_get_3 _ _ _) (S:=fun A' RR s'=>s'=s∧((valueAt kvs (ofL k)=none→RR (.ok (.ret rv'')) { s with toks:=s.toks+1 })∧∀ x,valueAt kvs (ofL k)=some x→RR (.ok (.ret x)) { s with toks:=s.toks+1 })) (MeetsIn.of_wp fun A' RR s' zy28a=>xAA zy28a fun hs h1 h2=>?_) (iAA rfl (fun hn=>?_) (fun x hx=>?_))
  · subst hs
    show wpAny _ _ (dictGet (g.ρ i) _ >>= _) _ _ _
    refine wpAny_bind (wpAny_dictGet_of (E7 (k:=k)) e3.mapOf ?_)
    cases q:valueAt kvs (ofL k) with
    | some x=>exact wpAny_pure ⟨x,rfl,h2 x q⟩
    | none =>
      show wpAny _ _ (Builtin.Dict.missed (g.ρ i) _ >>= _) _ _ _
      exact wpAny_bind (wpAny_missed_other (DK O R his) (wpAny_pure (iEA rv'' rfl (h1 q))))
  · refine (Ab g h _ Ext.toks R.toks ?_ q)
    cases z:es.lookup k with
    | none=>exact r1''
    | some w=>have:=Bh (k:=k) e4;rw[hn,z] at this;exact ff this
  · refine (Ab g h _ Ext.toks R.toks ?_ q)
    cases z:es.lookup k with
    | none=>have:=Bh (k:=k) e4;rw[hx,z] at this;exact ff this.symm
    | some w =>
      refine xEA (Az.some_ e4 z) fun rv a1 a2=>?_
      unfold valueAt at hx
      rw[a1] at hx;cases hx;exact a2
end
end
end
section
section
variable {c:Cx} {d:Nat} {m:Loc} {h:H} {A:Around} {g:G} {s:Shared} {sc scope:Scope} {F P:Addr→Prop} {env cenv:Env}
noncomputable def Ti (c:Cx) (o i v:V) (h:H) (Q:H→Prop):Prop :=
  ∀ d A g s ro ri rv,OkA d A→Rep c g h s→Ai g h o ro→Ai g h i ri→Ai g h v rv→wpAny (model c.prog c.w) A (setItem ro ri rv) (fun _ s'=>∃ g' h',Ext No g h s g' h' s'∧Rep c g' h' s'∧Q h') (fun _ _=>False) s
theorem So {o i x:X} {Q:Out→Loc→H→Prop} (p:E c d x m h fun v h₁=>E c d o m h₁ fun ov h₂=>E c d i m h₂ fun iv h₃=>Ti c ov iv v h₃ fun h₄=>Q .nx m h₄):St c d (.asgI o i x) m h Q:=by
  intro sc e ck A env F g s hA V R
  obtain ⟨z,j,y,pos,pos',rfl,c1,c2,_,c4,c5⟩:=SK ck
  refine wpAny_Assign_Subscript ((p _ _ c4 _ _ _ _ _ hA V R).use fun rv s₁ g₁ h₁ v e1 R1 r1 q1=>?_) (Il c5)
  refine (q1 _ _ c1 _ _ _ _ _ hA (V.ext e1) R1).use fun ro s₂ g₂ h₂ ov e2 R2 r2 q2=>?_
  refine (q2 _ _ c2 _ _ _ _ _ hA (V.ext (e1.trans e2)) R2).use fun ri s₃ g₃ h₃ iv e3 R3 r3 q3=>?_
  refine wpAny_mono (q3 _ _ _ _ _ _ _ hA R3 (Ai.mono e3 r2) r3 (Ai.mono (e2.trans e3) r1)) (fun _ s₄ zy2a=>Au zy2a fun g₄ h₄ e4 R4 q4=>?_) fun _ _ z=>z
  exact (An g₄ h₄ m .nx ((((e1.trans e2).trans e3).trans e4).up) R4 (V.ext (((e1.trans e2).trans e3).trans e4)) rfl q4)
theorem MS:∀ {xs:List V} {vs:List Value} {v:V} {rv:Value} (k:Nat),Ac g h xs vs→Ai g h v rv→Ac g h (xs.set k v) (vs.set k rv)
  | [],vs,v,rv,k,e,r=>by subst e;exact (by rfl)
  | x::xs,vs,v,rv,0,e,r=>by refine Au e fun w t zz3c _ e2=>?_;obtain rfl:=zz3c;exact (by exact (Al rv t rfl r e2))
  | x::xs,vs,v,rv,k+1,e,r=>by
    refine Au e fun w t zz4c e1 e2=>?_;obtain rfl:=zz4c
    exact (Al w _ rfl e1 (MS k e2 r))
theorem IB {prog:Program} {w:World} {l:Addr} {items:Array Value} {n:Nat} {k:Int} {t:Tok} {v:Value} {Q:Unit→Shared→Prop} {Ex:Value→Shared→Prop} (hl:IsL s.heap l items n) (h0:0≤k) (hfit:k<2^63) (hn:k<items.size)
    (hQ:∀ h' n',IsL h' l (items.setIfInBounds k.toNat v) n'→Heap.SameBut l s.heap h'→Q () { s with heap:=h' }):wpAny (model prog w) A (setItem (.ref l) (.int k t) v) Q Ex s:=by
  have hl':=hl.isList
  unfold setItem
  try with_reducible refine wpAny_holding ?_
  first | refine wpAny_bind (wpAny_pure ?_) | skip
  refine wpAny_bind (wpAny_sequenceKey hl'.typeIs (by decide) ?_)
  refine wpAny_bind (wpAny_callSpecial?_slot (name:=Str.ofString "__setitem__") hl'.typeIs slot_list_setitem
    (wpAny_call_entry slot_list_setitem hl'.typeIs entry_list_setitem ?_ (args_list_setitem _ _ _)))
  show wpAny _ _ (Builtin.List.listSubscript? (.int k t) >>= _) _ _ s
  refine wpAny_bind (wpAny_listSubscript_int (fitsIndex_of h0 hfit) ?_)
  clear hfit
  obtain ⟨j,rfl⟩:=Int.eq_ofNat_of_zero_le h0
  have hj:j<items.size:=by exact Int.ofNat_lt.mp hn
  have hx':items[j]?=some items[j]:=Array.getElem?_eq_getElem hj
  refine wpAny_bind (wpAny_bind (wpAny_seqItemAt hl rfl (wpAny_pure ?_)))
  rw[hx']
  show wpAny _ _ (setSeqItemAt l j v >>= _) _ _ s
  have hfin:=hl.update fun xs=>xs.setIfInBounds j v
  refine wpAny_bind (wpAny_setSeqItemAt hl rfl ?_)
  first
    | exact wpAny_bind (wpAny_pure (wpAny_pure ⟨.none,rfl,wpAny_pure (hQ _ _ hfin (Heap.SameBut.update ..))⟩))
    | exact wpAny_pure ⟨.none,rfl,wpAny_pure (hQ _ _ hfin (Heap.SameBut.update ..))⟩
theorem Rq {i:Id} {xs:List V} {k:Int} {v:V} {Q:H→Prop} (hi:h i=some (.list xs)) (h0:0≤k) (h1:k<2^40) (hk:k.toNat<xs.length) (q:Q (upd h i (.list (xs.set k.toNat v)))):Ti c (.ref i) (.int k) v h Q:=by
  intro d A g s ro ri rv hA R r1 r2 r3
  obtain ⟨_,rfl⟩:=r1;obtain ⟨t,rfl⟩:=r2
  refine AJ R hi fun n vs e1 e2 e3=>?_
  refine IB e1 h0 (by exact q7 h1) (by rw[e2.arr];exact (Int.toNat_lt h0).mp hk) fun h' n' hl hs=>?_
  have hv:Ac g h (xs.set k.toNat v) (vs.setIfInBounds k.toNat rv).toList:=by
    rw[Array.toList_setIfInBounds];exact MS _ e2 r3
  obtain ⟨R',X'⟩:=R.setList (tk:=s.toks) (by rw[hi];rfl) hl hs hv
  exact (Al _ _ X' R' q)
theorem Kq {i:Id} {ep:Nat} {es:List (List Nat × V)} {k:List Nat} {v:V} {Q:H→Prop} (hi:h i=some (.dict ep es)) (hl:es.length≤2^20) (q:∀ ep',Q (upd h i (.dict ep' (Dy k v es)))):Ti c (.ref i) (.str k) v h Q:=by
  intro d A g s ro ri rv hA R r1 r2 r3
  obtain ⟨_,rfl⟩:=r1;obtain ⟨t,rfl⟩:=r2
  refine Bi R hi fun kvs _ e3 e4=>?_
  refine wpAny_setItem_pairs (E7 (k:=k)) e3 (fun h' hd hs=>?_) (by rw[e4.len];exact q6 hl)
  refine xEA (R.setDict (tk:=s.toks+1) (by rw[hi];rfl) hd hs (e4.put r3)) fun ep' R' X'=>?_
  exact (Al _ _ X' R' (q ep'))
noncomputable def JK (k:List Nat) (es:List (List Nat × V)):List (List Nat × V):=es.filter fun e=>!(e.1==k)
theorem Az.del {k:List Nat}:∀ {es:List (List Nat × V)} {kvs:List (Str × Value)},Az g h es kvs→Az g h (JK k es) (without kvs (ofL k))
  | [],kvs,e=>by subst e;rfl
  | x::es,kvs,e=>by
    refine Au e fun w r zz14c e1 e2=>?_;obtain rfl:=zz14c
    have ih:=Az.del (k:=k) e2
    unfold JK without at *
    by_cases q:x.1=k
    · rw[List.filter_cons_of_neg (by simp[q]),List.filter_cons_of_neg (by simp[q])]
      exact ih
    · rw[List.filter_cons_of_pos (by simpa using q),List.filter_cons_of_pos (by simpa using fun z=>q (DG z))]
      exact (Al w _ rfl e1 ih)
theorem VH (O:c.Ok) {o i:X} {Q:Out→Loc→H→Prop} (p:E c d o m h fun ov h₁=>E c d i m h₁ fun iv h₂=>∃ j ep es k,ov=.ref j∧iv=.str k∧h₂ j=some (.dict ep es)∧es.length≤2^20∧(es.lookup k).isSome=true∧∀ ep',Q .nx m (upd h₂ j (.dict ep' (JK k es)))):St c d (.del o i) m h Q:=by
  intro sc e ck A env F g s hA V R
  refine CO (Wi ck) fun z j pos pos' zz15e c1 c2 _=>?_;obtain rfl:=zz15e
  refine wpAny_Delete ?_
  refine wpAny_bind (delete_Subscript ((p _ _ c1 _ _ _ _ _ hA V R).use fun ro s₁ g₁ h₁ ov e1 R1 r1 q1=>?_))
  refine (q1 _ _ c2 _ _ _ _ _ hA (V.ext e1) R1).use fun ri s₂ g₂ h₂ iv e2 R2 r2 q2=>?_
  refine Hn q2 fun i ep es k zz16e zz16f hi hl hk q=>?_;obtain rfl:=zz16e;obtain rfl:=zz16f
  have r1':=Ai.mono e2 r1
  obtain ⟨_,rfl⟩:=r1';obtain ⟨t,rfl⟩:=r2
  refine Bi R2 hi fun kvs zz19b e3 e4=>?_;obtain ⟨oo,es',e0,ex,_⟩:=zz19b
  refine wpAny_delItem_slot (iEA oo e0 ex.1) (by decide) PySem.F.slot_dict_delitem (call_meetsIn PySem.F.slot_dict_delitem (iEA oo e0 ex.1) PySem.F.entry_dict_delitem (PySem.F.args_dict_delitem_2 _ _) (meets_dict_delitem_pairs _ _ (E7 (k:=k))) (QD kvs e3 (by rw[e4.len,sizeLine_eq];lia) (by rw[Bh e4];exact hk) (fun h' hd hs=>?_)))
  refine xEA (R2.setDict (tk:=s₂.toks+1) (by rw[hi];rfl) hd hs e4.del) fun ep' R' X'=>?_
  exact wpAny_pure (An _ _ m .nx (((e1.trans e2).trans X').up) R' (V.ext ((e1.trans e2).trans X')) rfl (q ep'))
end
end
section
section
variable {c:Cx} {d:Nat} {m:Loc} {h:H} {A:Around} {g:G} {s:Shared} {sc scope:Scope} {F P:Addr→Prop} {env cenv:Env} {Q:V→H→Prop} {i j:Id} {xs:List V}
theorem RA (O:c.Ok) {ep:Nat} {es:List (List Nat × V)} (hi:h i=some (.dict ep es)) (q:Q (.vw "dict_values" i) h):Av c d (.builtin "dict.values") [.ref i] [] [] h Q:=by
  refine Eb fun A g s rv hA R r1=>?_
  refine xA r1 fun his zz1b=>?_;obtain rfl:=zz1b
  refine Bi R hi fun kvs zz2b e3 e4=>?_;refine Au zz2b fun o es' e0 e1 _=>?_
  refine call_meetsIn PySem.F.slot_dict_values (iEA o e0 e1.1) PySem.F.entry_dict_values (PySem.F.args_dict_values_1 _) (meets_dict_values (PySem.strKind c.prog c.w) _ (DK O R his)) ⟨⟨kvs,e3⟩,?_⟩
  refine xA (R.freeze { cls:=.type "dict_values",data:=.fields #[.ref (g.ρ i)] } rfl) fun R' X'=>?_
  refine (Ab _ h (.vw "dict_values" i) X' R' ?_ q)
  exact (N4 his _ rfl (by show (if _=_ then _ else _)=_;rw[if_pos rfl];rfl))
theorem Sa (O:c.Ok) {ep:Nat} {es:List (List Nat × V)} (hi:h i=some (.dict ep es)) (q:Q (.vw "dict_items" i) h):Av c d (.builtin "dict.items") [.ref i] [] [] h Q:=by
  refine Eb fun A g s rv hA R r1=>?_
  refine xA r1 fun his zz4b=>?_;obtain rfl:=zz4b
  refine Bi R hi fun kvs zz5b e3 e4=>?_;refine Au zz5b fun o es' e0 e1 _=>?_
  refine call_meetsIn PySem.F.slot_dict_items (iEA o e0 e1.1) PySem.F.entry_dict_items (PySem.F.args_dict_items_1 _) (meets_dict_items (PySem.strKind c.prog c.w) _ (DK O R his)) ⟨⟨kvs,e3⟩,?_⟩
  refine xA (R.freeze { cls:=.type "dict_items",data:=.fields #[.ref (g.ρ i)] } rfl) fun R' X'=>?_
  refine (Ab _ h (.vw "dict_items" i) X' R' ?_ q)
  exact (N4 his _ rfl (by show (if _=_ then _ else _)=_;rw[if_pos rfl];rfl))
theorem Az.vals:∀ {es:List (List Nat × V)} {kvs:List (Str × Value)},Az g h es kvs→Ac g h (es.map (·.2)) (kvs.map (·.2)):=by
  intro zl;induction zl with
  | nil =>
    intro kvs e
    subst e;exact (by rfl)
  | cons x es ih =>
    intro kvs e
    refine Au e fun w r zz7c e1 e2=>?_;obtain rfl:=zz7c
    exact (Al w _ rfl e1 (ih e2))
theorem N6 {ep:Nat} {es:List (List Nat × V)} (hi:h i=some (.dict ep es)):DV c (.vw "dict_values" i) h false (es.map (·.2)) fun h'=>h' i=some (.dict ep es):=by
  intro A g s rv tgt hg htg hh R r
  refine GV r fun his a zz8c e1=>?_;obtain rfl:=zz8c
  refine Bi R hi fun kvs e2 e3 e4=>?_
  refine wpAny_pyIter_values (Bj _ (R.fz _ _ e1) rfl rfl) e2 ?_
  refine xA (R.push { cls:=.type "dict_valueiterator",data:=.fields #[.ref (g.ρ i),.int 0 0,.int kvs.length 0,.int ep 0] } (tk:=s.toks)) fun R' X'=>?_
  refine (EB (·=s.heap.objs.size) (fun k g' h' s'=>s'.heap.IsValIter s.heap.objs.size (g.ρ i) k es.length ep∧(h' i).isSome=true∧g'.ρ i=g.ρ i∧g'.slot s.heap.objs.size=none∧g'.fz s.heap.objs.size=none) ⟨?_,?_,?_,?_⟩ (DU (Bj _ (Heap.get?_push_size _ rfl) rfl (by rw[e4.len];rfl)) his rfl R.fresh.1 R.fresh.2) R' X' (fun a e=>by rw[e];exact ⟨AL _,by rw[Heap.get?_push_size _ rfl];rfl⟩))
  · intro A g' h' s' k x hh R1 hok zi0 hx Q Ex hQ;obtain ⟨q1,q0,q2,q3,q4⟩:=zi0
    refine Bi R1 hok fun kvs' f2 f3 f4=>?_
    rw[q2] at f2
    refine Ac.gk (k:=k) f4.vals hx fun rv hr rr=>?_
    rw[List.getElem?_map] at hr
    cases hkv:kvs'[k]? with
    | none=>rw[hkv] at hr;exact nn hr
    | some kv =>
      rw[hkv] at hr;cases hr
      rw[← f4.len] at q1
      refine wpAny_pyNext_values_item q1 f2 hkv fun hp hit hs=>?_
      refine BC (id hit) fun o ho hc hd=>?_
      refine xA (R1.atP (P:=(·=s.heap.objs.size)) q3 q4 (tk:=s'.toks) hs (by rw[ho];rfl) rfl) fun R2 X2=>?_
      rw[f4.len] at hit
      refine JS hg ho hc (by decide) (hQ _ _ R2 (fun b o nb e=>(hs.2 b nb).trans e) ?_ (DU hit q0 q2 q3 q4))
      rw[htg];exact rr
  · intro A g' h' s' hh R1 hok zi0 Q Ex hQ;obtain ⟨q1,q0,q2,q3,q4⟩:=zi0
    refine Bi R1 hok fun kvs' f2 f3 f4=>?_
    rw[q2] at f2
    rw[List.length_map,← f4.len] at q1
    exact wpAny_pyNext_values_end hh q1 f2 (List.getElem?_eq_none (Nat.le_refl _)) fun hp hs=>⟨rfl,hQ _ (R1.extBut q3 q4 hs) fun b o nb e=>hs b o nb e⟩
  · intro k F' g' h' s' g'' h'' s'' zi0 R1 X1 hF;obtain ⟨q1,q0,q2,q3,q4⟩:=zi0
    refine BC (id q1) fun o ho hc hd=>?_
    have hal:(s'.heap.get? s.heap.objs.size).isSome=true:=by rw[ho];rfl
    exact (DU (Bj o (X1.keep _ _ ho q3 fun z=>hF _ z rfl) hc hd) ((X1.live i q0).1) (((X1.live i q0).2).trans q2) ((X1.slot _ hal).trans q3) ((X1.fzold _ hal).trans q4))
  · intro A g' h' s' k zi0 Q Ex hQ;refine xA zi0 fun q1 _=>?_
    exact wpAny_pyIter_valiter q1 hQ
theorem Ho:entryFor table "dict_itemiterator.__iter__" = some Builtin.«dict_keyiterator.__iter__»:=entryFor_alias (id':= "dict_keyiterator.__iter__") (by kernel_rfl) rfl (by decide +kernel) (by kernel_rfl)
theorem Ly {ep:Nat} {tup:Bool} (hi:h i=some (.dict ep [])):DV c (.vw "dict_items" i) h tup [] fun h'=>h' i=some (.dict ep []):=by
  intro A g s rv tgt hg htg hh R r
  refine GV r fun his a zz18c e1=>?_;obtain rfl:=zz18c
  refine Bi R hi fun kvs e2 e3 e4=>?_
  have hkv:kvs=[]:=by have:=e4.len;simpa using this
  subst hkv
  refine wpAny_pyIter_items (Bj _ (R.fz _ _ e1) rfl rfl) e2 ?_
  refine xA (R.push { cls:=.type "dict_itemiterator",data:=.fields #[.none,.bool false,.ref (g.ρ i),.int 0 0,.int (([]:List (Str × Value)).length:Nat) 0,.int ep 0,.none,.none] } (tk:=s.toks)) fun R' X'=>?_
  refine (EB (·=s.heap.objs.size) (fun k g' h' s'=>IsItemIter s'.heap s.heap.objs.size (g.ρ i) 0 ([]:List (Str × Value)).length ep .none .none∧(h' i).isSome=true∧g'.ρ i=g.ρ i∧g'.slot s.heap.objs.size=none∧g'.fz s.heap.objs.size=none) ⟨?_,?_,?_,?_⟩ (DU (Heap.get?_push_size _ rfl) his rfl R.fresh.1 R.fresh.2) R' X' (fun a e=>by rw[e];exact ⟨AL _,by rw[Heap.get?_push_size _ rfl];rfl⟩))
  · intro A g' h' s' k x hh R1 hok S hx Q Ex hQ
    simp at hx
  · intro A g' h' s' hh R1 hok zi0 Q Ex hQ;obtain ⟨q1,q0,q2,q3,q4⟩:=zi0
    refine Bi R1 hok fun kvs' f2 f3 f4=>?_
    rw[q2] at f2
    have hkv:kvs'=[]:=by have:=f4.len;simpa using this
    subst hkv
    exact wpAny_pyNext_items_end hh q1 f2 rfl fun hp hs=>⟨rfl,hQ _ (R1.extBut q3 q4 hs) fun b o nb e=>hs b o nb e⟩
  · intro k F' g' h' s' g'' h'' s'' zi0 R1 X1 hF;obtain ⟨q1,q0,q2,q3,q4⟩:=zi0
    have hal:(s'.heap.get? s.heap.objs.size).isSome=true:=by rw[q1];rfl
    exact (DU (X1.keep _ _ q1 q3 fun z=>hF _ z rfl) ((X1.live i q0).1) (((X1.live i q0).2).trans q2) ((X1.slot _ hal).trans q3) ((X1.fzold _ hal).trans q4))
  · intro A g' h' s' k zi0 Q Ex hQ;refine xA zi0 fun q1 _=>?_
    have hT:s'.TypeIs (.ref s.heap.objs.size) "dict_itemiterator" := (iEA _ q1 rfl)
    refine wpAny_pyIter_slot hT PySem.F.slot_dict_itemiterator_iter (wpAny_call_entry PySem.F.slot_dict_itemiterator_iter hT Ho ?_ (PySem.F.args_dict_itemiterator_iter_1 _))
    exact wpAny_pure ⟨_,rfl, "dict_itemiterator",_,hT,PySem.F.slot_dict_itemiterator_next.lookup,hQ⟩
theorem KP {ep:Nat} {es:List (List Nat × V)} (hi:h i=some (.dict ep es)) (hl:es.length≤2^20) (hj:h j=none) (q:Q (.ref j) (upd h j (.list (es.map (·.2))))):Av c d (.type "list") [.vw "dict_values" i] [] [] h Q:=by
  refine Eb fun A g s rv hA R r1=>?_
  refine GV r1 fun his a zz22c e1=>?_;obtain rfl:=zz22c
  refine Bi R hi fun kvs e2 e3 e4=>?_
  refine kdl_call (kdl_values (knd:=PySem.strKind c.prog c.w) (d:=g.ρ i) (kvs:=kvs) (ep:=ep)) hA.1 ⟨(Bj _ (R.fz _ _ e1) rfl rfl),e2⟩ (by rw[e4.len,sizeLine_eq];lia) fun h' tk acc' c' hk hob hit=>?_
  have hv:acc'.toList=kvs.map (·.2):=kdl_vals_eq acc'.toList (by exact hit.1) fun k v e=>hit.2 k v (by rw[← Array.getElem?_toList];exact e)
  refine xA (R.newListAt (tk:=tk) hj (AL _) hk hob (by rw[hv];exact e4.vals)) fun R' X'=>?_
  exact (Ab _ _ (.ref j) X' R' Bs q)
theorem OU {x:List Nat} (q:Q (.bool true) h):Av c d (.builtin "isinstance") [.str x,.raw (.type "str")] [] [] h Q:=by
  refine Gk fun A g s rv rv' hA R r1 r1'=>?_
  refine xE r1 fun t zz16b=>?_;obtain rfl:=zz16b;refine xA r1' fun zz17a _=>?_;obtain rfl:=zz17a
  exact IsiPair.str_str (Ab g h _ Ext.refl R A7 q)
theorem Hl {x:List Nat} (q:Q (.bool false) h):Av c d (.builtin "isinstance") [.str x,.raw (.type "dict")] [] [] h Q:=by
  refine Gk fun A g s rv rv' hA R r1 r1'=>?_
  refine xE r1 fun t zz18b=>?_;obtain rfl:=zz18b;refine xA r1' fun zz19a _=>?_;obtain rfl:=zz19a
  exact IsiPair.str_dict (Ab g h _ Ext.toks R.toks A7 q)
theorem Ml (O:c.Ok) {k k':Nat} {fs:List (Nat × V)} (hi:h i=some (.inst k fs)) (hc:isIn c.K (.ref (c.cls k)) (c.cls k')=true) (q:Q (.bool true) h):Av c d (.builtin "isinstance") [.ref i,.raw (.ref (c.cls k'))] [] [] h Q:=by
  refine Gk fun A g s rv rv' hA R r1 r1'=>?_
  refine xA r1 fun _ zz20b=>?_;obtain rfl:=zz20b;refine xA r1' fun zz21a _=>?_;obtain rfl:=zz21a
  obtain ⟨⟨dx,es,nn,I,_,Fr⟩⟩:=CD R hi
  exact isi_call (R.K O) (fun M=>I.type) hc (by intro e;injection e) (Ab g h _ Ext.refl R A7 q)
theorem V8 (hi:h i=none) (q:Q (.ref i) (upd h i (.set []))):Av c d (.type "set") [] [] [] h Q:=by
  intro A g s rvs rks hA R r1 r2
  subst r1 r2
  refine call_set_0 fun led=>?_
  have ho:∀ (g':G) (h2:H) (hp:Heap),hp.get? (g'.ρ i)=some { cls:=.type "set",data:=.set #[] 0 (SetTable.fresh 0 0 led) }→(∀ v rv,Ai g h v rv→Ai g' h2 v rv)→(∀ v rv,Ac g h v rv→Ac g' h2 v rv)→EO c g' h2 i hp (.set []):=fun g' h2 hp e _ _ =>
    ⟨(setObjOf_fresh (knd:=PySem.strKind c.prog c.w) led).setOf e (by decide),List.nodup_nil⟩
  refine xA (R.alloc hi { cls:=.type "set",data:=.set #[] 0 (SetTable.fresh 0 0 led) } rfl (.set []) ho) fun R' X'=>?_
  exact (Ab _ _ (.ref i) X' R' Bs q)
end
end
section
theorem Mt:typeLookup (.type "list_reverseiterator") "__len__" = pure none:=by kernel_rfl
theorem Qg:typeLookup (.type "list_reverseiterator") "__length_hint__" = pure (some (.builtin "list_reverseiterator.__length_hint__")):=by kernel_rfl
section
variable {prog:Program} {w:World} {A:Around} {E:Value→Shared→Prop} {s:Shared} {r l:Addr}
theorem O4 {Q:Bool→Shared→Prop} (hT:s.TypeIs (.ref r) "list_reverseiterator") (h:Q false s):wpAny (model prog w) A (Builtin.List.listLengthHint (.ref r)) Q E s:=by
  refine wpAny_bind (wpAny_specialOf hT Mt ?_)
  refine wpAny_bind (wpAny_specialOf hT Qg ?_)
  generalize hid:("list_reverseiterator.__length_hint__" : String)=id0
  wp_delta
  rw[show splitId id0=some ("list_reverseiterator", "__length_hint__") from by subst hid;decide +kernel]
  subst hid
  refine wpAny_bind (wpAny_isInstance (T:= "list_reverseiterator") (b:=true) hT (by kernel_rfl) ?_)
  refine wpAny_ite_split (fun hab=>absurd hab (by decide)) (fun _=>?_)
  refine wpAny_ite_split (fun _=>?_) (fun hab=>absurd (by decide +kernel) hab)
  refine wpAny_ite_split (fun hab=>absurd hab (by decide +kernel)) (fun _=>?_)
  exact wpAny_pure h
theorem LI {R:Result→Shared→Prop} {items:Array Value} (hh:A.handled=none) (hrl:l≠r) (S:Addr) (hSr:S≠r) (hSl:S≠l) (res:Value) (c₀:Nat) (hS:s.heap.get? S=some { cls:=.type "list",data:=.seq #[] c₀ })
    (hr:s.heap.IsRevIter r l ((items.size:Int) - 1)) (hl:s.heap.IsList l items)
    (hR:∀ h' tk acc' c',(∀ b o,b≠S→b≠r→s.heap.get? b=some o→h'.get? b=some o)→h'.get? S=some { cls:=.type "list",dict:=none,data:=.seq acc' c',slots:=#[] }→ItemsOf (fun i v=>items[items.size - 1 - i]?=some v) acc' items.size→R (.ok (.ret res)) { s with heap:=h',toks:=tk }) (hn:items.size≤sizeLine) :
    wpAny (model prog w) A.in1 (Builtin.List.listExtendWith (.ref S) (.ref r) res)
      (fun fin s'=>match fin with | .done f=>R (.ok f) s' | .again c'=>c'.quiet=true∧codeAny (model prog w) A c' R s') (fun e s'=>R (.error e) s') s:=by
  have W:=Walks.listRev (prog:=prog) (w:=w) (A:=A.in1) hh r l hrl items
  have hSf:S∉[r,l]:=by simp only[List.mem_cons,List.not_mem_nil,or_false,not_or];exact ⟨hSr,hSl⟩
  have key:∀ (h:Heap) (c₁ tk:Nat),h.IsRevIter r l ((items.size:Int) - 1)→h.IsList l items→(∀ b o,b≠S→s.heap.get? b=some o→h.get? b=some o) →
      h.get? S=some { cls:=.type "list",data:=.seq #[] c₁ }→codeAny (model prog w) A (.builtin "list.extend.loop" ⟨[.ref S,.ref r,res],[]⟩) R { s with heap:=h,toks:=tk }:=by
    intro h c₁ tk h1 h2 hk hS₁
    refine codeAny_extend_loopS W.toS hn S hSf res items.size 0 _ #[] c₁ rfl (Nat.zero_le _) (iAA (Nat.zero_le _) (by simpa using h1) h2) hS₁ (ItemsOf.nil _) fun s' acc' c' hm hS' hacc=>?_
    rw[Moved.eq_with hm]
    refine hR s'.heap s'.toks acc' c' (fun b o hb hb' e=>hm.heap b o (fun hmem=>?_) (hk b o hb e)) hS' hacc
    rcases List.mem_cons.mp hmem with e' | hmem
    · exact hb e'
    · exact hb' (List.mem_singleton.mp hmem)
  unfold Builtin.List.listExtendWith
  refine wpAny_bind (wpAny_typeOf (T:= "list_reverseiterator") hr.typeIs ?_)
  have h1:Builtin.List.listSameRef (.ref S) (.ref r)=false:=by simp[Builtin.List.listSameRef,hSr]
  have h2:(Value.type "list_reverseiterator" == Value.type "list")=false:=by decide
  have h3:(Value.type "list_reverseiterator" == Value.type "tuple")=false:=by decide
  simp only[h1,h2,h3,Bool.or_false,Bool.false_eq_true,if_false]
  refine wpAny_bind (wpAny_pyIter_revIter hr ?_)
  refine wpAny_bind (wpAny_holding (O4 hr.typeIs ?_))
  refine wpAny_ite_split (fun _=>?_) (fun _=>wpAny_pure ⟨plainId_quiet PySem.F.plain_extend_loop _,key _ c₀ _ hr hl (fun b o _ e=>e) hS⟩)
  refine wpAny_bind (wpAny_rule ?_)
  refine wpAny_bind ?_
  show wpAny _ _ (updateSeq S (·.push .none) >>= fun _=>updateSeq S (·.pop)) _ _ _
  refine wpAny_bind (wpAny_updateSeq hS rfl ?_)
  have hS₂:=Heap.get?_update_self (Obj.mapSeq (·.push Value.none)) hS rfl
  refine wpAny_updateSeq (hz:=by seq_fits) hS₂ rfl ?_
  have hS₃:=Heap.get?_update_self (Obj.mapSeq (·.pop)) hS₂ rfl
  have oth:∀ b o,b≠S→s.heap.get? b=some o→((s.heap.update S (Obj.mapSeq (·.push Value.none))).update S (Obj.mapSeq (·.pop))).get? b=some o :=
    fun b o hb e=>(Heap.get?_update_other _ _ (Ne.symm hb)).trans ((Heap.get?_update_other _ _ (Ne.symm hb)).trans e)
  exact wpAny_pure ⟨plainId_quiet PySem.F.plain_extend_loop _,key _ _ _ (hr.at fun o e=>oth r o hSr.symm e) (hl.at fun o e=>oth l o hSl.symm e) oth hS₃⟩
theorem Rx {Q:Value→Shared→Prop} {items:Array Value} (hh:A.handled=none) (hrl:l≠r) (hr:s.heap.IsRevIter r l ((items.size:Int) - 1)) (hl:s.heap.IsList l items) (hn:items.size≤sizeLine)
    (hQ:∀ h' tk acc' c',(∀ b o,b≠r→s.heap.get? b=some o→h'.get? b=some o)→h'.get? s.heap.objs.size=some { cls:=.type "list",dict:=none,data:=.seq acc' c',slots:=#[] }→ItemsOf (fun i v=>items[items.size - 1 - i]?=some v) acc' items.size→Q (.ref s.heap.objs.size) { s with heap:=h',toks:=tk }) :
    wpAny (model prog w) A (call (.type "list") [.ref r]) Q E s:=by
  refine callType_codes (Q₁:=fun obj s₁=>obj=.ref s.heap.objs.size∧s₁={ s with heap:=s.heap.push { cls:=.type "list",data:=.seq #[] } }) PySem.F.called_list (PySem.F.typeCall_list_1 _) PySem.F.entry_list_init
    (code_list_new _ ⟨rfl,rfl⟩) fun obj s₁ h₁=>?_
  obtain ⟨rfl,rfl⟩:=h₁
  have hS:(s.heap.push { cls:=.type "list",data:=.seq #[] }).get? s.heap.objs.size=some { cls:=.type "list",data:=.seq #[] }:=Heap.get?_push_size _ rfl
  have lr:r≠s.heap.objs.size:=by refine xEA hr fun o ho _=>?_;exact Nat.ne_of_lt (Heap.lt_size ho)
  have ll:l≠s.heap.objs.size:=by refine xEA hl fun o ho _=>?_;exact Nat.ne_of_lt (Heap.lt_size ho)
  refine (iAA (iEA _ hS rfl) (PySem.F.args_list_init_2 _ _) ?_)
  show wpAny _ _ (do let old ← Builtin.List.listItems (.ref s.heap.objs.size);Builtin.List.listUpdate (.ref s.heap.objs.size) (fun _=>#[]);letGo old.toList.reverse;Builtin.List.listExtendWith (.ref s.heap.objs.size) (.ref r) .none) _ _ _
  refine wpAny_bind ?_
  unfold Builtin.List.listItems
  refine wpAny_bind (wpAny_seqItems hS rfl (wpAny_pure ?_))
  show wpAny _ _ (updateSeq s.heap.objs.size (fun _=>#[]) >>= fun _=>letGo (#[]:Array Value).toList.reverse >>= fun _=>Builtin.List.listExtendWith (.ref s.heap.objs.size) (.ref r) .none) _ _ _
  refine wpAny_bind (wpAny_updateSeq hS rfl ?_)
  have hS₂:=Heap.get?_update_self (Obj.mapSeq (fun _=>(#[]:Array Value))) hS rfl
  have oth:∀ b o,b≠s.heap.objs.size→(s.heap.push { cls:=.type "list",data:=.seq #[] }).get? b=some o→((s.heap.push { cls:=.type "list",data:=.seq #[] }).update s.heap.objs.size (Obj.mapSeq (fun _=>(#[]:Array Value)))).get? b=some o :=
    fun b o hb e=>(Heap.get?_update_other _ _ (Ne.symm hb)).trans e
  refine wpAny_bind (wpAny_letGo ?_)
  refine LI (A:=A.in1) hh hrl s.heap.objs.size lr.symm ll.symm .none _ hS₂ ((hr.at fun o e=>Heap.get?_push_of_some _ e).at fun o e=>oth _ _ lr e) ((hl.at fun o e=>Heap.get?_push_of_some _ e).at fun o e=>oth _ _ ll e) (fun h' tk acc' c' hk hS' hacc=>?_) hn
  exact ⟨rfl,hQ h' tk acc' c' (fun b o hb e=>hk b o (Nat.ne_of_lt (Heap.lt_size e)) hb (oth b o (Nat.ne_of_lt (Heap.lt_size e)) (Heap.get?_push_of_some _ e))) hS' hacc⟩
end
section
variable {c:Cx} {d:Nat} {m:Loc} {h:H} {A:Around} {g:G} {s:Shared} {sc scope:Scope} {F P:Addr→Prop} {env cenv:Env}
theorem Ji (O:c.Ok) {f:Nat} {fv:Value} {arg:X} {K:V→H→Prop} {QQ:Value→Shared→Prop} {e:Expr} (hf:c.gv f=some fv) (hk:Hg fv=true) (ck:ckE c.N sc (.call f [arg] []) e=true) (hA:OkA d A) (V:Aw c sc F env g m h s) (R:Rep c g h s)
    (p:E c d arg m h K) (q:∀ v h₂ g₂ s₂ rv,K v h₂→Ext No g h s g₂ h₂ s₂→Rep c g₂ h₂ s₂→Ai g₂ h₂ v rv→wpAny (model c.prog c.w) A (call fv [rv]) QQ (fun _ _=>False) s₂) :
    wpAny (model c.prog c.w) A (eval e env) QQ (fun _ _=>False) s:=by
  refine Kl ck fun as ks p1 p2 zz4e hg hd c1 c2=>?_;obtain rfl:=zz4e
  refine DO c1 fun e r zz5c d1 d2 d3=>?_;obtain rfl:=zz5c
  refine (Ed d3).symm▸(FD c2).symm▸?_
  simp only[Lp]
  refine wpAny_bind (CF O V R hg hd hf ?_)
  refine xAA (Ih (env:=env) (pos:=p2) c2) fun k1 k2 k3=>?_
  rw[FD c2] at k2 k3
  refine callWith_of (P:=fun _=>True) (by refine (AT d2).symm▸?_;rfl) (fun h _=>?_) (Ew (by rw[AT d2];rfl) rfl ?_)
  · cases fv<;>first | exact ⟨.machine,.inr (.inl rfl),.now⟩ | exact ff hk
  · rw[AT d2]
    refine Calls.spliced_cons ((p _ _ d1 _ _ _ _ _ hA V R).use fun rv s₁ g₁ h₁ v e1 R1 r1 p1=>Calls.spliced_nil ?_)
    exact wpAny_evalAll_nil ⟨trivial,q v h₁ g₁ s₁ rv p1 e1 R1 r1⟩
theorem Ac.rev:∀ {xs:List V} {vs:List Value},Ac g h xs vs→Ac g h xs.reverse vs.reverse:=by
  intro zl;induction zl with
  | nil =>
    intro vs e
    unfold Ac at e;subst e;exact (by unfold Ac;rfl)
  | cons x xs ih =>
    intro vs e
    unfold Ac at e;refine Au e fun w r zz7c e1 e2=>?_;obtain rfl:=zz7c
    rw[List.reverse_cons,List.reverse_cons]
    exact (ih e2).append (by unfold Ac;exact (Al w ([]) rfl e1 (by unfold Ac;rfl)))
theorem OQ {xs:List V} {vs acc:Array Value} (e:Ac g h xs vs.toList) (it:ItemsOf (fun i v=>vs[vs.size - 1 - i]?=some v) acc vs.size):Ac g h xs.reverse acc.toList:=by
  have:acc=vs.reverse:=by
    refine Array.ext (by rw[it.1,Array.size_reverse]) fun i h1 h2=>?_
    have hq:vs[vs.size - 1 - i]?=some acc[i]:=it.2 i acc[i] (by simp)
    rw[Array.getElem_reverse]
    have hs:=it.1
    rw[Array.getElem?_eq_getElem (by exact q39 h1 hs)] at hq
    exact (oJ hq).symm
  rw[this,Array.toList_reverse]
  exact Ac.rev e
theorem Oc (O:c.Ok) {x:X} {Q:V→H→Prop} (p:E c d x m h fun v h₁=>∃ i j xs,v=.ref i∧h₁ i=some (.list xs)∧xs.length≤2^20∧h₁ j=none∧Q (.ref j) (upd h₁ j (.list xs.reverse))):E c d (.call 16 [.call 23 [x] []] []) m h Q:=by
  intro sc e ck A env F g s hA V R
  have hf:c.gv 16=some (.type "list"):=O.stdv 16 _ rfl
  have hf':c.gv 23=some (.type "reversed"):=O.stdv 23 _ rfl
  refine Kl ck fun as ks p1 p2 zz8e hg hd c1 c2=>?_;obtain rfl:=zz8e
  refine DO c1 fun e r zz9c d1 d2 d3=>?_;obtain rfl:=zz9c
  refine (Ed d3).symm▸(FD c2).symm▸?_
  simp only[Lp]
  refine wpAny_bind (CF O V R hg hd hf ?_)
  refine callWith_of (P:=fun _=>True) (by refine (AT d2).symm▸?_;rfl) (fun h _=>(iEA .machine (.inr (.inl rfl)) .now)) (Ew (by rw[AT d2];rfl) rfl ?_)
  rw[AT d2]
  refine Calls.spliced_cons (Ji O (fv:=.type "reversed") hf' rfl d1 hA V R p fun v h₁ g₁ s₁ rv p1 e1 R1 r1=>?_)
  refine FP p1 fun i j xs zz10d hi hl hj q=>?_;obtain rfl:=zz10d
  unfold Ai at r1;obtain ⟨his,rfl⟩:=r1
  refine AJ R1 hi fun n vs l1 l2 l3=>?_
  refine call_reversed_list l3 (Calls.spliced_nil ?_)
  obtain ⟨R2,X2⟩:=R1.push (revObj (g₁.ρ i) ((vs.size:Int) - 1)) (tk:=s₁.toks)
  have hne:g₁.ρ i≠s₁.heap.objs.size:=C6 (by rw[l1];rfl)
  refine wpAny_evalAll_nil ⟨trivial,?_⟩
  refine Rx (A:=A) (l:=g₁.ρ i) (r:=s₁.heap.objs.size) (items:=vs) hA.1 hne (Bj _ (Heap.get?_push_size _ rfl) rfl rfl) (l3.at fun o e=>Heap.get?_push_of_some _ e) (by rw[l2.arr,sizeLine_eq];exact q6 hl) fun h' tk acc' c' hk hob hit=>?_
  have hv:Ac g₁ h₁ xs.reverse acc'.toList:=OQ l2 hit
  have hk':∀ b o,s₁.heap.get? b=some o→h'.get? b=some o:=fun b o e=>hk b o (C6 (by rw[e];rfl)) (Heap.get?_push_of_some _ e)
  obtain ⟨R',X'⟩:=R1.newListAt (a:=s₁.heap.objs.size+1) (tk:=tk) hj (by
    cases z:s₁.heap.get? (s₁.heap.objs.size+1) with
    | none=>rfl
    | some o=>exact absurd (Heap.lt_size z) (Nat.not_lt.mpr (Nat.le_succ _))) hk' (by rw[← hob];congr 1;exact (Heap.size_push _ _).symm) hv
  refine (Ab _ _ (.ref j) (e1.trans X') R' ?_ q)
  have ea:(s₁.heap.push (revObj (g₁.ρ i) ((vs.size:Int) - 1))).objs.size=s₁.heap.objs.size+1:=Heap.size_push _ _
  show Ai _ _ (.ref j) (.ref (s₁.heap.push (revObj (g₁.ρ i) ((vs.size:Int) - 1))).objs.size)
  rw[ea]
  exact Bs
end
end
section
section
variable {c:Cx} {d:Nat} {m:Loc} {h:H} {A:Around} {g:G} {s:Shared} {sc scope:Scope} {F P:Addr→Prop} {env cenv:Env}
noncomputable def GA (xs:List V):List V:=xs.zipIdx.map fun p=>.tup [.int p.2,p.1]
theorem RK {xs:List V} {k:Nat} {x:V} (e:(GA xs)[k]?=some x):∃ y,xs[k]?=some y∧x=.tup [.int k,y]:=by
  unfold GA at e
  rw[List.getElem?_map,List.getElem?_zipIdx] at e
  cases q:xs[k]? with
  | none=>rw[q] at e;exact nn e
  | some y=>rw[q] at e;simp at e;exact (iEA y rfl e.symm)
theorem Rep.atP2 (R:Rep c g h s) {I J:Addr} (n:g.slot I=none) (n':g.fz I=none) (k:g.slot J=none) (k':g.fz J=none) {h':Heap} {tk:Nat} (hs:∀ b o,b≠I→b≠J→s.heap.get? b=some o→h'.get? b=some o):Rep c g h { s with heap:=h',toks:=tk } :=
  R.other (fun b o e q=>hs b o (fun z=>by subst z;rw[n,n'] at q;rcases q with q | q<;>exact ff q) (fun z=>by subst z;rw[k,k'] at q;rcases q with q | q<;>exact ff q) e) rfl rfl
theorem On {i:Id} {xs:List V} {e it:Addr} {tgt:Expr} (ht:DF tgt=true) (hi:h i=some (.list xs)) (hei:e≠it) (he:IsEnum s.heap e it 0 .none) (hit:s.heap.IsListIter it (g.ρ i) 0)
    (e1:g.slot e=none) (e2:g.fz e=none) (i1:g.slot it=none) (i2:g.fz it=none) :
    ∃ St,Jx c (.ref e) tgt (GA xs) (fun h'=>h' i=some (.list xs)) (fun a=>a=e∨a=it) St∧St 0 g h s:=by
  refine (iEA (fun k g' h' s'=>(∃ old,IsEnum s'.heap e it (k:Int) old)∧s'.heap.IsListIter it (g.ρ i) k∧(h' i).isSome=true∧g'.ρ i=g.ρ i∧g'.slot e=none∧g'.fz e=none∧g'.slot it=none∧g'.fz it=none) ⟨?_,?_,?_,?_⟩ (Ii ⟨_,he⟩ hit (by rw[hi];rfl) rfl e1 e2 i1 i2))
  · intro A g' h' s' k x hh R1 hok zi0 hx Q Ex hQ;obtain ⟨⟨old,q1⟩,q2,q3,q4,a1,a2,b1,b2⟩:=zi0
    refine xEA (RK hx) fun y hy zz1c=>?_;obtain rfl:=zz1c
    refine AJ R1 hok fun n' vs' f1 f2 f3=>?_
    rw[q4] at f3
    refine xEA (ED (k:=k) f2 hy) fun rv hr rr=>?_
    refine wpAny_pyNext_enum_item q1 q2 f3 hr hei fun h₁ ho h₁it hT hsz hk=>?_
    obtain ⟨es,kk,pp,rfl⟩:=Xs ht
    refine wpAny_letOwnedTupleGo_enum ho fun h₂ he₂ hs₂=>?_
    have all:∀ b o,b≠e→b≠it→s'.heap.get? b=some o→h₂.get? b=some o:=fun b o n1 n2 z=>(hs₂.2 b n1).trans (hk b o n1 n2 z)
    have R2:Rep c g' h' { s' with heap:=h₂,toks:=s'.toks+1 }:=R1.atP2 a1 a2 b1 b2 all
    have hsz':(s'.heap.objs.size:Addr)≠e:=by
      intro z;have:=AL s'.heap;rw[z,q1] at this;exact nn this.symm
    refine hQ _ _ R2 (fun b o nb z=>all b o (fun y=>nb (.inl y)) (fun y=>nb (.inr y)) z) ?_ (Ii ⟨_,he₂⟩ ?_ q3 q4 a1 a2 b1 b2)
    · refine (Ab ([.int k,y]) s'.heap.objs.size (#[.int k s'.toks,rv]) rfl rfl (Dj _ ((hs₂.2 _ hsz').trans hT) rfl _ rfl) ?_)
      refine (Al _ _ rfl DE ?_)
      exact (Al _ _ rfl rr (by rfl))
    · exact h₁it.at fun o z=>(hs₂.2 it hei.symm).trans z
  · intro A g' h' s' hh R1 hok zi0 Q Ex hQ;obtain ⟨⟨old,q1⟩,q2,q3,q4,a1,a2,b1,b2⟩:=zi0
    refine AJ R1 hok fun n' vs' f1 f2 f3=>?_
    rw[q4] at f3
    have hl:(GA xs).length=xs.length:=by unfold GA;simp
    rw[hl] at q1 q2
    refine wpAny_pyNext_enum_end hh q1 q2 f3 (by rw[Array.getElem?_eq_none_iff,f2.arr];exact Nat.le_refl _) fun h₁ hs=>⟨rfl,hQ _ (R1.extBut b1 b2 hs) fun b o nb z=>hs b o (fun y=>nb (.inr y)) z⟩
  · intro k F' g' h' s' g'' h'' s'' zi0 R1 X1 hF;obtain ⟨⟨old,q1⟩,q2,q3,q4,a1,a2,b1,b2⟩:=zi0
    have hal:(s'.heap.get? e).isSome=true:=by rw[q1];rfl
    have hal':(s'.heap.get? it).isSome=true:=by refine xEA q2 fun o ho _=>?_;rw[ho];rfl
    exact (Ii ⟨old,X1.keep _ _ q1 a1 fun z=>hF _ z (.inl rfl)⟩ (q2.at fun o z=>X1.keep _ _ z b1 fun z=>hF _ z (.inr rfl)) ((X1.live i q3).1) (((X1.live i q3).2).trans q4) ((X1.slot _ hal).trans a1) ((X1.fzold _ hal).trans a2) ((X1.slot _ hal').trans b1) ((X1.fzold _ hal').trans b2))
  · intro A g' h' s' k zi0 Q Ex hQ;refine xA zi0 fun zz5a _=>?_;obtain ⟨old,q1⟩:=zz5a
    exact wpAny_pyIter_enum q1 hQ
theorem Rm (O:c.Ok) {ns:List Nat} {x:X} {a:List S} {Q:Out→Loc→H→Prop}
    (p:E c d x m h fun v h₁=>∃ i xs,v=.ref i∧h₁ i=some (.list xs)∧∃ I:List V→Loc→H→Prop,(∀ r m h,I r m h→h i=some (.list xs))∧I (GA xs) m h₁ ∧
      (∀ y r m h,I (y::r) m h→(∀ n∈ns,(m.rw.lookup n).isSome=true)∧FY false ns y∧Sts c d a (Bm false ns y m) h (Lv (I r) Q))∧∀ m h,I [] m h→Q .nx m h):St c d (.forT ns (.call 13 [x] []) a) m h Q:=by
  intro sc e ck A env F g s hA V R
  obtain ⟨ts,k,p',y,b,pos,rfl,c0,c1,c2,c3⟩:=ND ck
  have hf:c.gv 13=some (.type "enumerate"):=O.stdv 13 _ rfl
  have ct:AK c.N false ns (.Tuple ts k p')=true:=by trivial
  refine wpAny_For (Ji O (fv:=.type "enumerate") hf rfl c1 hA V R p fun v h₁ g₁ s₁ rv q1 e1 R1 r1=>?_) fun _=>Gq c2
  obtain ⟨i,xs,rfl,hi,I,hI,i0,hb,he⟩:=q1
  refine xA r1 fun his zz8b=>?_;obtain rfl:=zz8b
  refine AJ R1 hi fun n vs l1 l2 l3=>?_
  refine call_enumerate_list l3 fun h' hE hIt hsz hk=>?_
  refine wpAny_pyIter_enum hE ?_
  have hne:s₁.heap.objs.size+1≠s₁.heap.objs.size:=Nat.succ_ne_self _
  have hno:s₁.heap.get? (s₁.heap.objs.size+1)=none:=by
    cases z:s₁.heap.get? (s₁.heap.objs.size+1) with
    | none=>rfl
    | some o=>exact absurd (Heap.lt_size z) (Nat.not_lt.mpr (Nat.le_succ _))
  refine xA (R1.grow (tk:=s₁.toks) hk) fun R2 X2=>?_
  obtain ⟨St,It,S0⟩:=On (s:={ s₁ with heap:=h' }) (tgt:=.Tuple ts k p') rfl hi hne hE hIt (R1.none_ hno).1 (R1.none_ hno).2 (R1.none_ (AL _)).1 (R1.none_ (AL _)).2
  have V1:=V.ext e1
  have hP:∀ a:Addr,a=s₁.heap.objs.size+1∨a=s₁.heap.objs.size→s₁.heap.get? a=none:=fun a z=>by rcases z with rfl | rfl;exact hno;exact AL _
  refine HW O (F:=F) (Q:=Q) (one:=false) (ns:=ns) (I:=I) It hP (fun a e z=>?_) (fun y a e z=>?_) ct hA hI (fun y r m h i=>⟨(hb y r m h i).1,(hb y r m h i).2.1⟩) c3 (fun y r m h i=>(hb y r m h i).2.2) he
    (Ek g₁ h₁ m X2.up R2 (V1.ext X2) S0 i0) fun f s' g' h' m' o X' R' V' r' q'=>(An g' h' m' o (e1.up.trans X') R' V' r' q')
  · have:=(V1.ex a e).2.2;rw[hP a z] at this;exact ff this
  · have:=V1.clt y a e;rw[hP a z] at this;exact ff this
theorem Sf {e:Expr} {ts:List Expr} {k:Nat} {p:Pos} {l:Nat} {env:Env} (h:BI e=false):swapsWithSole [.Tuple ts k p] e l env=pure false:=by
  unfold swapsWithSole
  exact Il h
theorem Rh {e:Expr} {ts:List Expr} {k:Nat} {p:Pos} {env:Env} (h:LO e=false):swappedStores [.Tuple ts k p] e env=pure none:=by
  cases e<;>first | rfl | exact ff h.symm
noncomputable def Ud (v:V) (h:H) (ys:List V):Prop:=v=.tup ys∨∃ i,v=.ref i∧h i=some (.list ys)
theorem Nb (O:c.Ok) {ns:List Nat} {x:X} {Q:Out→Loc→H→Prop} (hn:∀ n∈ns,(m.rw.lookup n).isSome=true)
    (p:E c d x m h fun v h₁=>∃ ys,Ud v h₁ ys∧ys.length=ns.length∧Q .nx (setAll (ns.zip ys) m) h₁):St c d (.asgT ns x) m h Q:=by
  intro sc e ck A env F g s hA V R
  obtain ⟨ts,y,k,pos,pos',rfl,c0,c1,c2,c3⟩:=Sl ck
  refine wpAny_Assign_stores ((p _ _ c1 _ _ _ _ _ hA V R).use fun rv s₁ g₁ h₁ v e1 R1 r1 q1=>?_) (Sf c2) (Rh c3)
  refine BC q1 fun ys hp hl q=>?_
  have V1:=V.ext e1
  refine xAA (Hq (env:=env) c0) fun n1 n2 _=>?_
  have fin:∀ (vals:List Value) (h':Heap),Heap.ExtBut s₁.heap.objs.size s₁.heap h'→Ac g₁ h₁ ys vals→wpAny (model c.prog c.w) A (assignInOrder ((assignEach ts env).map (·.2)) vals)
      (fun _ s'=>∃ g' h' m' o,Ext F g h s g' h' s'∧Rep c g' h' s'∧Aw c sc F env g' m' h' s'∧B5 g' h' o .next∧Q o m' h') (fun _ _=>False) { s₁ with heap:=h' }:=by
    intro vals h' hs r
    have X0:=HZ (g:=g₁) (h:=h₁) hs
    have R0:Rep c g₁ h₁ { s₁ with heap:=h' }:=R1.other (fun a o e _=>hs a o (C6 (by rw[e];rfl)) e) rfl rfl
    refine E2 O c0 (V1.ext X0) R0 (Ac.mono X0 r) hn X0.up fun s' X' R' V'=>?_
    exact (An g₁ h₁ _ .nx (e1.up.trans X') R' V' rfl q)
  show wpAny _ _ (assign (.Tuple ts k pos) env rv) _ _ _
  rcases hp with rfl | ⟨i,rfl,hi⟩
  · refine FG R1 r1 fun a n vs zz16d t1 t2 _=>?_;obtain rfl:=zz16d
    exact wpAny_assign_Tuple hA.1 (A6 t1) (by rw[n1,t2.arr,hl]) n2 fun h' hs=>fin _ _ hs t2
  · refine xA r1 fun _ zz12b=>?_;obtain rfl:=zz12b
    refine AJ R1 hi fun n vs l1 l2 l3=>?_
    refine wpAny_bind (wpAny_standAt ?_)
    unfold unpack
    rw[n1,n2,show ns.length=vs.size by rw[l2.arr,hl]]
    exact wpAny_bind (wpAny_holding (kun_itemsOf hA.1 l3 fun h' hs=>fin _ _ hs l2))
end
end
section
noncomputable def G0 (ys:List (List Nat)) (x:List Nat):List (List Nat):=if ys.contains x then ys else ys++[x]
noncomputable def AN (ys xs:List (List Nat)):List (List Nat):=xs.foldl G0 ys
theorem Kw (ys:List (List Nat)) (x:List Nat):(G0 ys x).length=if ys.contains x then ys.length else ys.length+1:=by
  unfold G0;split<;>simp
theorem NU:∀ (xs ys:List (List Nat)),(AN ys xs).length≤ys.length+xs.length:=by
  intro zl;induction zl with
  | nil =>
    intro ys
    exact Nat.le_refl _
  | cons x xs ih =>
    intro ys
    have:=ih (G0 ys x)
    rw[Kw] at this
    show (AN (G0 ys x) xs).length≤_
    rw[List.length_cons]
    split at this<;>lia
theorem Mr {ys:List (List Nat)} {x:List Nat} (h:ys.Nodup):(G0 ys x).Nodup:=by
  unfold G0;split
  · exact h
  · rename_i q
    rw[List.nodup_append]
    refine (iAA h (by simp) (fun a ha b hb e=>q ?_))
    simp only[List.mem_singleton] at hb
    subst hb;subst e
    exact List.contains_iff_mem.mpr ha
theorem DP:∀ {xs ys:List (List Nat)},ys.Nodup→(AN ys xs).Nodup:=by
  intro zl;induction zl with
  | nil =>
    intro _ h
    exact h
  | cons x xs ih =>
    intro ys h
    exact ih (Mr h)
noncomputable abbrev Eu (xs:List (List Nat)):Str→Bool:=fun k=>xs.any fun x=>ofL x==k
theorem QR {a b:List Nat} (e:ofL a=ofL b):a=b:=by
  have:=congrArg (fun x:Str=>x.cps.toList) e
  simpa using this
theorem Oh (ys:List (List Nat)) (x:List Nat) (k:Str):Eu (G0 ys x) k=(Eu ys k || decide (k=ofL x)):=by
  unfold Eu G0
  split
  · rename_i q
    by_cases e:k=ofL x
    · subst e
      have:(ys.any fun y=>ofL y==ofL x)=true:=List.any_eq_true.mpr (iEA x (List.contains_iff_mem.mp q) (by exact if_pos rfl))
      rw[this];rfl
    · simp[e]
  · rw[List.any_append]
    by_cases e:k=ofL x
    · subst e;simp
    · have:(ofL x==k)=false:=by simpa [beq_iff_eq] using fun h:ofL x=k=>e h.symm
      simp[this,e]
theorem FL (ys:List (List Nat)) (x:List Nat):Eu ys (ofL x)=ys.contains x:=by
  unfold Eu
  cases q:ys.contains x with
  | true=>exact List.any_eq_true.mpr ⟨x,List.contains_iff_mem.mp q,by exact if_pos rfl⟩
  | false =>
    rw[Bool.eq_false_iff] at q ⊢
    intro z
    refine xEA (List.any_eq_true.mp z) fun y hy e=>?_
    rw[QR (beq_iff_eq.mp e)] at hy
    exact q (List.contains_iff_mem.mpr hy)
theorem GB {ys xs:List (List Nat)} {i:Nat} {x:List Nat} (e:xs[i]?=some x):AN ys (xs.take (i+1))=G0 (AN ys (xs.take i)) x:=by
  unfold AN
  rw[List.take_add_one,e]
  simp[List.foldl_append]
section
variable {prog:Program} {w:World} {A:Around} {R:Result→Shared→Prop} {I:Addr} {fp wr:List Addr} {G:Array GenState→Array GenState→Prop} {n:Nat} {P:Nat→Value→Prop} {St:Nat→Shared→Prop}
theorem ID (W:WalksS prog w A.in1 I fp wr G n P St) (S:Addr) (hSf:S∉fp) (ys xs:List (List Nat)) (hn:n=xs.length)
    (hval:∀ i v,P i v→∃ x t,xs[i]?=some x∧v=.str (ofL x) t) (hb:ys.length+xs.length+1<scanBound) :
    ∀ (k i:Nat) (s:Shared),n - i=k→i≤n→St i s →
      s.heap.SetOf (PySem.strKind prog w) S (Eu (AN ys (xs.take i))) (AN ys (xs.take i)).length →
      (∀ s',Moved (S::wr) G s s'→s'.heap.SetOf (PySem.strKind prog w) S (Eu (AN ys xs)) (AN ys xs).length→R (.ok (.ret .none)) s') →
      codeAny (model prog w) A (.builtin "set.update.loop" ⟨[.ref S,.ref I],[]⟩) R s:=by
  have hSw:S∉wr:=fun h=>hSf (W.sub _ h)
  have hsub:∀ b∈wr,b∈S::wr:=fun b hb=>List.mem_cons_of_mem _ hb
  intro k
  induction k with
  | zero =>
    intro i s hk hi hst hS hR
    have hin:i=n:=by exact q42 hk hi
    subst hin
    refine codeAny_builtin F.entry_set_update_loop ?_
    refine wpAny_bind (W.done s _ _ hst fun s' hm=>?_)
    rw[List.take_of_length_le (by exact Nat.le_of_eq (id (Eq.symm hn)))] at hS
    exact wpAny_pure (hR s' (hm.mono hsub) (by
      refine Fs hS fun o es ep t ho rest=>?_
      exact (Ft o es ep t (hm.heap S _ hSw ho) rest)))
  | succ k ih =>
    intro i s hk hi hst hS hR
    have hlt:i<n:=by exact Nat.lt_of_sub_eq_succ hk
    refine codeAny_builtin F.entry_set_update_loop ?_
    refine wpAny_bind (W.item i s _ _ hlt hst fun v s' hP hst' hm=>?_)
    refine Ib (hval i v hP) fun x t hx zz3d=>?_;obtain rfl:=zz3d
    have hS':s'.heap.SetOf (PySem.strKind prog w) S (Eu (AN ys (xs.take i))) (AN ys (xs.take i)).length:=by
      refine Fs hS fun o es ep tb ho rest=>?_
      exact (Ft o es ep tb (hm.heap S _ hSw ho) rest)
    refine wpAny_bind (wpAny_holding ?_)
    refine wpAny_holding ?_
    have hkey:(PySem.strKind prog w).is (ofL x) (.str (ofL x) t)=true:=strKind_is _ _ _ _
    refine wpAny_bind ((PySem.strKind prog w).pyHash hkey ?_)
    have hroom:(AN ys (xs.take i)).length+1<scanBound:=by
      have h1:=NU (xs.take i) ys
      have h2:=List.length_take_le i xs
      exact q43 hn hb hk h1 h2
    refine wpAny_setAddHashed_of (knd:=PySem.strKind prog w) (s:={ s' with toks:=s'.toks+1 }) hkey rfl hS' hroom fun h' hsb hS2=>?_
    have hSi:h'.SetOf (PySem.strKind prog w) S (Eu (AN ys (xs.take (i+1)))) (AN ys (xs.take (i+1))).length :=
      SetOf_congr hS2 (fun k'=>by rw[GB hx,Oh]) (by rw[GB hx,Kw,FL])
    refine wpAny_pure ⟨plainId_quiet F.plain_set_update_loop _,ih (i+1) _ (by exact q44 hk) hlt (W.frame _ s' _ _ hst' (Nat.le_succ _) fun b hb o e=>?_) hSi fun s'' hm'' hS''=>?_⟩
    · rw[hsb.2 b (fun h:b=S=>hSf (by rw[← h];exact hb))];exact e
    · refine hR s'' (Moved.trans W.gtrans ((hm.mono hsub).then_heap (Nat.le_succ _) fun b o hb e=>?_) hm'') hS''
      rw[hsb.2 b (fun h:b=S=>hb (by rw[h];exact List.mem_cons_self))];exact e
end
structure MI (prog:Program) (w:World) (T:String) (l:Addr) (items:Array Value) (oI:Obj) (St:Addr→Nat→Heap→Prop):Prop where
  hsls:isSubtype (.type T) (.type "set")=pure false
  hslf:isSubtype (.type T) (.type "frozenset")=pure false
  hne:(Value.type T==Value.type "dict")=false
  iter:∀ (A:Around) (E:Value→Shared→Prop) (s:Shared) (Q:Value→Shared→Prop),(∃ o,s.heap.get? l=some o∧o.cls=.type T∧∃ n,o.data=.seq items n)→Q (.ref s.heap.objs.size) { s with heap:=s.heap.push oI }→wpAny (model prog w) A (pyIter (.ref l)) Q E s
  walk:∀ (A:Around) (I:Addr),A.handled=none→l≠I→Walks prog w A I [I,l] [I] items.size (fun i v=>items[i]?=some v) (St I)
  zero:∀ (I:Addr) (h:Heap),(∃ o,h.get? l=some o∧o.cls=.type T∧∃ n,o.data=.seq items n)→h.get? I=some oI→St I 0 h
  notFreed:oI.isFreed=false
theorem Iu:isSubtype (.type "tuple") (.type "set")=pure false:=by kernel_rfl
theorem EJ:isSubtype (.type "tuple") (.type "frozenset")=pure false:=by kernel_rfl
theorem Li {prog:Program} {w:World} {l:Addr} {items:Array Value}:MI prog w "list" l items { cls:=.type "list_iterator",data:=.fields #[.ref l,.int 0 0] } (fun I i h=>h.IsListIter I l i∧h.IsList l items) where
  hsls:=F.sub_list_set
  hslf:=F.sub_list_frozenset
  hne:=by decide
  iter A E s Q e q:=NB e fun o ho hc n hd=>wpAny_pyIter_list (l:=l) (Dj o ho hc n hd) q
  walk A I hh hne:=Walks.list hh I l hne items
  zero I h e q:=NB e fun o ho hc n hd=>⟨(Bj _ q rfl rfl),(Dj o ho hc n hd)⟩
  notFreed:=rfl
theorem N8 {prog:Program} {w:World} {l:Addr} {items:Array Value}:MI prog w "tuple" l items { cls:=.type "tuple_iterator",data:=.fields #[.ref l,.int 0 0] } (fun I i h=>h.IsTupleIter I l i∧h.IsTuple l items) where
  hsls:=Iu
  hslf:=EJ
  hne:=by decide
  iter A E s Q e q:=NB e fun o ho hc n hd=>wpAny_pyIter_tuple (t:=l) (Dj o ho hc n hd) q
  walk A I hh hne:=Walks.tuple hh I l hne items
  zero I h e q:=NB e fun o ho hc n hd=>⟨(Bj _ q rfl rfl),(Dj o ho hc n hd)⟩
  notFreed:=rfl
section
variable {prog:Program} {w:World} {A:Around} {E:Value→Shared→Prop} {s:Shared}
theorem GR {T:String} {l S:Addr} {items:Array Value} {oI:Obj} {St:Addr→Nat→Heap→Prop} {id:String} {ys xs:List (List Nat)} {Q:Unit→Shared→Prop} (K:MI prog w T l items oI St)
    (hh:A.handled=none) (hl:∃ o,s.heap.get? l=some o∧o.cls=.type T∧∃ n,o.data=.seq items n) (hv:items.size=xs.length) (hi:∀ (i:Nat) v,items[i]?=some v→∃ x t,xs[i]?=some x∧v=.str (ofL x) t) (hb:ys.length+xs.length+1<scanBound)
    (hS:s.heap.SetOf (PySem.strKind prog w) S (Eu ys) ys.length)
    (h:∀ (h':Heap) (tk:Nat),h'.SetOf (PySem.strKind prog w) S (Eu (AN ys xs)) (AN ys xs).length→(∀ b o,b≠S→s.heap.get? b=some o→h'.get? b=some o)→Q () { s with heap:=h',toks:=tk }) :
    wpAny (model prog w) A (Builtin.Frozenset.updateFrom id S (.ref l)) Q E s:=by
  obtain ⟨ol,hol,hcl,nl,hdl⟩:=_root_.id hl
  have hT:s.TypeIs (.ref l) T:=(iEA ol hol hcl)
  have hSl:S≠l:=by
    intro e;subst e
    refine CO hS fun o es ep t ho hx hd _=>?_
    rw[hol] at ho;cases ho;rw[hdl] at hd;injection hd
  have hSn:S≠s.heap.objs.size:=by
    refine Fs hS fun o es ep t ho _=>?_
    exact Nat.ne_of_lt (Heap.lt_size ho)
  have hln:l≠s.heap.objs.size:=Nat.ne_of_lt (Heap.lt_size hol)
  refine wpAny_bind ?_
  refine wpAny_bind (wpAny_isInstance (T:=T) (b:=false) hT K.hsls ?_)
  refine wpAny_isInstance (T:=T) (b:=false) hT K.hslf ?_
  refine wpAny_bind (wpAny_typeOf hT ?_)
  rw[K.hne]
  refine wpAny_bind (K.iter _ _ _ _ hl ?_)
  refine wpAny_bind (wpAny_runValue ?_)
  have hSf:S∉[s.heap.objs.size,l]:=by simp only[List.mem_cons,List.not_mem_nil,or_false,not_or];exact ⟨hSn,hSl⟩
  have hl':∃ o,(s.heap.push oI).get? l=some o∧o.cls=.type T∧∃ n,o.data=.seq items n:=(Dj ol (Heap.get?_push_of_some _ hol) hcl nl hdl)
  refine ID (K.walk A.in1 s.heap.objs.size hh hln).toS S hSf ys xs hv hi hb (items.size - 0) 0 _ (by simp) (Nat.zero_le _) (K.zero _ _ hl' (Heap.get?_push_size _ K.notFreed)) ?_ fun s' hm hS'=>?_
  · refine Fs hS fun o es ep t ho rest=>?_
    exact (Ft o es ep t (Heap.get?_push_of_some _ ho) rest)
  · rw[Moved.eq_with hm]
    refine wpAny_pure (h _ _ hS' fun b o hbS e=>hm.heap b o ?_ (Heap.get?_push_of_some _ e))
    simp only[List.mem_cons,List.not_mem_nil,or_false,not_or]
    exact ⟨hbS,Nat.ne_of_lt (Heap.lt_size e)⟩
end
end
section
section
variable {prog:Program} {w:World} {A:Around} {E:Value→Shared→Prop} {s:Shared}
theorem Fw {T:String} {l:Addr} {items:Array Value} {oI:Obj} {St:Addr→Nat→Heap→Prop} {xs:List (List Nat)} {Q:Value→Shared→Prop} (K:MI prog w T l items oI St)
    (hh:A.handled=none) (hl:∃ o,s.heap.get? l=some o∧o.cls=.type T∧∃ n,o.data=.seq items n) (hv:items.size=xs.length) (hi:∀ (i:Nat) v,items[i]?=some v→∃ x t,xs[i]?=some x∧v=.str (ofL x) t) (hb:xs.length+1<scanBound)
    (h:∀ (h':Heap) (tk:Nat),h'.SetOf (PySem.strKind prog w) s.heap.objs.size (Eu (AN [] xs)) (AN [] xs).length→(∀ b o,b<s.heap.objs.size→s.heap.get? b=some o→h'.get? b=some o)→Q (.ref s.heap.objs.size) { s with heap:=h',toks:=tk }) :
    wpAny (model prog w) A (call (.type "set") [.ref l]) Q E s:=by
  refine xEE F.called_set.mro fun c tl hmro=>?_
  have hmade:=F.called_set.made
  have hsub:=F.called_set.sub
  refine wpAny_call (codeAny_of_tree ?_)
  show wpAny _ _ (callAny (.type "set") _) _ _ _
  refine wpAny_pure ⟨Code.quiet_builtin _ (by decide +kernel),codeAny_builtin F.entry_type_call ?_⟩
  rw[Around.under_plain (weight_type_call_type "set" [.ref l] []) rfl]
  have h1:=F.called_set.notType
  have h2:=F.called_set.canCreate
  have hct:=PySem.F.typeCall_set_1 (.ref l)
  repeat (any_goals (first | assumption | wp_step))
  refine codeAny_mono (code_set_new_1 (.ref l) (E:=E) (Q₁:=fun obj s₁=>∃ led:Bool,obj=.ref s.heap.objs.size∧s₁={ s with heap:=s.heap.push { cls:=.type "set",dict:=none,data:=.set #[] 0 (.fresh 0 0 led) } }) fun led=>(iEA led rfl rfl)) fun r s₁ hr=>?_
  cases r with
  | error e=>exact hr
  | ok fl =>
    cases fl with
    | ret obj =>
      refine xEA hr fun led zz2b zz2c=>?_;obtain rfl:=zz2b;obtain rfl:=zz2c
      have hS:(s.heap.push { cls:=.type "set",dict:=none,data:=.set #[] 0 (.fresh 0 0 led) }).get? s.heap.objs.size=some { cls:=.type "set",dict:=none,data:=.set #[] 0 (.fresh 0 0 led) }:=Heap.get?_push_size _ rfl
      have hT:Shared.TypeIs { s with heap:=s.heap.push { cls:=.type "set",dict:=none,data:=.set #[] 0 (.fresh 0 0 led) } } (.ref s.heap.objs.size) "set" := (iEA _ hS rfl)
      have hli:=F.called_set.init.lookup
      have hbi:=F.called_set.init.bind (.ref s.heap.objs.size)
      repeat (any_goals (first | assumption | wp_step))
      refine codeAny_mono (codeAny_call_builtin (R:=wants (fun r s₂=>r=.none∧∃ h' tk,s₂={ s with heap:=h',toks:=tk } ∧
          h'.SetOf (PySem.strKind prog w) s.heap.objs.size (Eu (AN [] xs)) (AN [] xs).length ∧
          (∀ b o,b<s.heap.objs.size→s.heap.get? b=some o→h'.get? b=some o)) E) F.called_set.init.plain F.entry_set_init (check_set_init_1 hT ?_)) fun r₂ s₂ hr₂=>?_
      · obtain ⟨ol,hol,hcl,nl,hdl⟩:=hl
        unfold Builtin.«set.__init__» noKeywords
        generalize hU:Builtin.Frozenset.updateFrom=U
        wp_walk
        subst hU
        refine GR (ys:=[]) K (by trivial) (Dj ol (Heap.get?_push_of_some _ hol) hcl nl hdl) hv hi (by simpa using hb) ((PyProof.Rows.setObjOf_fresh (knd:=PySem.strKind prog w) led).setOf hS (by unfold scanBound;exact Nat.zero_lt_succ 4095)) fun h' tk hS' hk=>?_
        show wpAny _ _ (ret Value.none) _ _ _
        refine wpAny_pure (HX rfl h' tk rfl hS' (fun b o hb e=>hk b o (Nat.ne_of_lt hb) (Heap.get?_push_of_some _ e)))
      · cases r₂ with
        | error e=>exact hr₂
        | ok fl₂ =>
          cases fl₂ with
          | ret r =>
            obtain ⟨rfl,h',tk,rfl,hS',hk'⟩:=hr₂
            repeat (any_goals (first | assumption | wp_step))
            exact h _ _ hS' hk'
          | _=>exact hr₂.elim
    | _=>exact hr.elim
end
section
variable {c:Cx} {d:Nat} {m:Loc} {h:H} {A:Around} {g:G} {s:Shared} {sc scope:Scope} {F P:Addr→Prop} {env cenv:Env} {Q:V→H→Prop} {i j:Id}
theorem Fe:∀ {xs:List (List Nat)} {vs:List Value},Ac g h (xs.map .str) vs→vs.length=xs.length∧∀ (i:Nat) v,vs[i]?=some v→∃ x t,xs[i]?=some x∧v=Value.str (ofL x) t:=by
  intro zl;induction zl with
  | nil =>
    intro vs e
    have e:Ac g h [] vs:=e
    unfold Ac at e;subst e
    exact ⟨rfl,fun i v e=>by simp at e⟩
  | cons x xs ih =>
    intro vs e
    rw[List.map_cons] at e
    unfold Ac at e
    refine Au e fun w r zz5c e1 e2=>?_;obtain rfl:=zz5c
    unfold Ai at e1
    obtain ⟨t,rfl⟩:=e1
    obtain ⟨i1,i2⟩:=ih e2
    refine ⟨by simp[i1],fun i v q=>?_⟩
    cases i with
    | zero=>simp at q;exact ⟨x,t,rfl,q.symm⟩
    | succ i=>simpa using i2 i v (by simpa using q)
theorem Rep.newSetAt (R:Rep c g h s) {xs:List (List Nat)} {h':Heap} {tk:Nat} (hi:h i=none) (hS:h'.SetOf (PySem.strKind c.prog c.w) s.heap.objs.size (Eu xs) xs.length) (nd:xs.Nodup) (hk:∀ b o,s.heap.get? b=some o→h'.get? b=some o) :
    Rep c (g.add i s.heap.objs.size) (upd h i (.set xs)) { s with heap:=h',toks:=tk }∧Ext No g h s (g.add i s.heap.objs.size) (upd h i (.set xs)) { s with heap:=h',toks:=tk }:=by
  refine Fs (id hS) fun o es ep t ho rest=>?_
  exact R.allocAt hi (AL _) hk ho (.set xs) fun g' h2 hp e _ _=>⟨(Ft o es ep t e rest),nd⟩
theorem LQ {xs:List (List Nat)} (hi:h i=some (.list (xs.map .str))) (hl:xs.length<4000) (hj:h j=none) (q:Q (.ref j) (upd h j (.set (AN [] xs)))):Av c d (.type "set") [.ref i] [] [] h Q:=by
  refine Gh fun A g s hA R _=>?_
  refine AJ R hi fun n vs e1 e2 e3=>?_
  obtain ⟨a1,a2⟩:=Fe e2
  refine Fw (items:=vs) (xs:=xs) Li hA.1 (Dj _ e1 rfl n rfl) (by rw[← Array.length_toList];exact a1) (fun i v e=>a2 i v (by rw[Array.getElem?_toList];exact e)) (by unfold scanBound;lia) fun h' tk hS hk=>?_
  obtain ⟨R',X'⟩:=R.newSetAt (tk:=tk) hj hS (DP List.nodup_nil) fun b o e=>hk b o (Heap.lt_size e) e
  exact (Ab _ _ (.ref j) X' R' Bs q)
theorem OS {xs:List (List Nat)} (hl:xs.length<4000) (hj:h j=none) (q:Q (.ref j) (upd h j (.set (AN [] xs)))):Av c d (.type "set") [.tup (xs.map .str)] [] [] h Q:=by
  refine Eb fun A g s rv hA R r1=>?_
  refine FG R r1 fun a n vs zz12d e1 e2 e3=>?_;obtain rfl:=zz12d
  obtain ⟨a1,a2⟩:=Fe e2
  refine Fw (items:=vs) (xs:=xs) N8 hA.1 (Dj _ e1 rfl n rfl) (by rw[← Array.length_toList];exact a1) (fun i v e=>a2 i v (by rw[Array.getElem?_toList];exact e)) (by unfold scanBound;lia) fun h' tk hS hk=>?_
  obtain ⟨R',X'⟩:=R.newSetAt (tk:=tk) hj hS (DP List.nodup_nil) fun b o e=>hk b o (Heap.lt_size e) e
  exact (Ab _ _ (.ref j) X' R' Bs q)
theorem Rep.setSet (R:Rep c g h s) (hj:(h j).isSome=true) {xs:List (List Nat)} {h':Heap} {tk:Nat} (hS:h'.SetOf (PySem.strKind c.prog c.w) (g.ρ j) (Eu xs) xs.length) (nd:xs.Nodup)
    (hk:∀ b o,b≠g.ρ j→s.heap.get? b=some o→h'.get? b=some o):Rep c g (upd h j (.set xs)) { s with heap:=h',toks:=tk }∧Ext No g h s g (upd h j (.set xs)) { s with heap:=h',toks:=tk }:=by
  have al:∀ a,(s.heap.get? a).isSome=true→(h'.get? a).isSome=true:=fun a l=>by
    by_cases y:a=g.ρ j
    · subst y;refine Fs hS fun o es ep t ho _=>?_;rw[ho];rfl
    · refine isK l fun o q=>?_;rw[hk a o y q];rfl
  have X:Ext No g h s g (upd h j (.set xs)) { s with heap:=h',toks:=tk }:=by
    refine ⟨fun k e=>⟨?_,rfl⟩,fun _ _ e=>e,fun _ _=>rfl,fun _ _=>rfl,al,fun a o e n _=>hk a o (fun y=>?_) e⟩
    · by_cases q:k=j
      · subst q;rw[Aj];rfl
      · rw[Ae q];exact e
    · rw[y,R.at_ j hj] at n;exact nn n.symm
  refine ⟨⟨R.base,fun a o e=>hk a o (fun y=>?_) (R.fz a o e),R.apart,fun a x e=>⟨al a (R.lt a x e).1,(R.lt a x e).2⟩,fun k e=>?_,fun k o e=>?_,R.gens,R.os⟩,X⟩
  · have:=R.apart a o e;rw[y,R.at_ j hj] at this;exact nn this.symm
  · by_cases q:k=j
    · subst q;exact R.at_ _ hj
    · rw[Ae q] at e;exact R.at_ k e
  · by_cases q:k=j
    · subst q;rw[Aj] at e;cases e
      exact ⟨hS,nd⟩
    · rw[Ae q] at e
      have hkk:(h k).isSome=true:=by rw[e];rfl
      refine EO.keeps X hkk R (fun a b z=>?_) (R.obj k o e)
      obtain ⟨o',q'⟩:=Option.isSome_iff_exists.mp (R.lt a _ z).1
      show h'.get? a=s.heap.get? a
      rw[q']
      exact hk a o' (fun y=>q (by rw[y,R.at_ j hj] at z;cases z;rfl)) q'
theorem Js {ys xs:List (List Nat)} (hi:h i=some (.set ys)) (hj:h j=some (.list (xs.map .str))) (hl:ys.length+xs.length<4000) (q:Q .none (upd h i (.set (AN ys xs)))):Av c d (.builtin "set.update") [.ref i,.ref j] [] [] h Q:=by
  refine Gk fun A g s rv rv' hA R r1 r1'=>?_
  unfold Ai at r1 r1';obtain ⟨his,rfl⟩:=r1;obtain ⟨_,rfl⟩:=r1'
  refine AJ R hj fun n vs e1 e2 e3=>?_
  obtain ⟨a1,a2⟩:=Fe e2
  obtain ⟨hS,nd⟩:=R.obj i _ hi
  refine wpAny_call_entry PySem.F.slot_set_update hS.typeIs PySem.F.entry_set_update ?_ (PySem.F.args_set_update_2 _ _)
  unfold Builtin.«set.update» Builtin.Frozenset.manyOthers Builtin.Frozenset.addrOf
  refine wpAny_bind ?_
  refine wpAny_ite_split (fun hab=>Bool.noConfusion hab) (fun _=>wpAny_pure ?_)
  simp only[List.forIn_cons,List.forIn_nil,bind_assoc,pure_bind]
  refine wpAny_bind (GR (A:=A.in1) (ys:=ys) Li hA.1 (Dj _ e1 rfl n rfl) (by rw[← Array.length_toList];exact a1) (fun i v e=>a2 i v (by rw[Array.getElem?_toList];exact e)) (by unfold scanBound;exact q46 hl) hS fun h' tk hS' hk=>?_)
  obtain ⟨R',X'⟩:=R.setSet (tk:=tk) his hS' (DP nd) hk
  exact wpAny_pure (Jb .none rfl _ _ .none X' R' DJ q)
end
end
section
theorem JW:entryFor table "set.__ne__" = some Builtin.«frozenset.__ne__» :=
  entryFor_alias (id':= "frozenset.__ne__") (by kernel_rfl) rfl (by decide +kernel) (by kernel_rfl)
section
variable {prog:Program} {w:World} {A:Around} {E:Value→Shared→Prop} {s:Shared} {a b:Addr} {S S':Str→Bool} {n n':Nat}
theorem Mz {x:Value} {Q:Bool→Shared→Prop} (hx:x.scannable=true) (h:Q true s):wpAny (model prog w) A (Builtin.Frozenset.quietEq x) Q E s:=by
  cases x<;>first | (exact ff hx;done) | exact wpAny_pure h
theorem Mh {Q:Option (List (Int × Value)) × Unit→Shared→Prop} (h:Q (none,()) s):∀ l:List (Int × Value),(∀ e∈l,e.2.scannable=true) →
    wpAny (model prog w) A (forIn l ((none,()):Option (List (Int × Value)) × Unit) fun x __s =>
                match x with
                | (_,x)=>do
                  let __do_lift ← Builtin.Frozenset.quietEq x
                  if (!__do_lift)=true then do
                      let __do_lift ← Builtin.Frozenset.walk a
                      pure (ForInStep.done (some __do_lift,()))
                    else pure (ForInStep.yield (none,()))) Q E s:=by
  intro zl;induction zl with
  | nil =>
    intro _
    exact wpAny_pure h
  | cons zq l ih =>
    obtain ⟨hh,x⟩:=zq
    intro hl
    rw[List.forIn_cons]
    refine wpAny_bind (wpAny_bind (Mz (hl (hh,x) List.mem_cons_self) ?_))
    refine wpAny_pure ?_
    exact ih fun e he=>hl e (List.mem_cons_of_mem _ he)
theorem NQ {id:String} {o:Obj} {es:Array (Int × Value)} {ep:Nat} {t:SetTable} (ho:s.heap.get? a=some o) (hd:o.data=.set es ep t) (hf:t.fits es.size=true) (hS':s.heap.SetOf (PySem.strKind prog w) b S' n')
    {Q:Option Bool × Unit→Shared→Prop}:∀ l:List (Int × Value),ElemsOf (PySem.strKind prog w) l→((∀ k,(∃ e,e∈l∧(PySem.strKind prog w).is k e.2=true)→S' k=true)→Q (none,()) s)→((∃ k,(∃ e,e∈l∧(PySem.strKind prog w).is k e.2=true)∧S' k=false)→Q (some false,()) s) →
    wpAny (model prog w) A (forIn l ((none,()):Option Bool × Unit) fun x __s =>
            match x with
            | (h,x)=>do
              let __do_lift ← holding [x] (setFind b x h)
              if __do_lift.isNone=true then pure (ForInStep.done (some false,()))
                else do
                  Builtin.Frozenset.unchanged id a ep
                  pure (ForInStep.yield (none,()))) Q E s:=by
  intro zl;induction zl with
  | nil =>
    intro _ h1 _
    exact wpAny_pure (h1 fun k zy1a=>xEA zy1a fun e he _=>by cases he)
  | cons zq l ih =>
    obtain ⟨hh,x⟩:=zq
    intro hl h1 h2
    rw[List.forIn_cons]
    obtain ⟨⟨k,hk,hhk⟩,hsc⟩:=hl.head
    subst hhk
    refine wpAny_bind (wpAny_bind (wpAny_holding (wpAny_setFind_of hk hsc hS' fun r hr=>?_)))
    cases r with
    | none =>
      simp only[Option.isNone_none,if_true]
      refine wpAny_pure ?_
      exact wpAny_pure (h2 (iEA k (iEA _ List.mem_cons_self hk) hr.symm))
    | some j =>
      simp only[Option.isNone_some,Bool.false_eq_true,if_false]
      unfold Builtin.Frozenset.unchanged
      refine wpAny_bind (wpAny_bind (wpAny_setEpoch_of ho hd hf ?_))
      rw[if_neg (by lia)]
      refine wpAny_pure (wpAny_pure ?_)
      refine ih hl.tail (fun q=>h1 fun k' zy3a=>xEA zy3a fun e he hek=>?_) fun zz=>xEA zz fun k' zk q=>xEA zk fun e he hek=>h2 (iEA k' (iEA e (List.mem_cons_of_mem _ he) hek) q)
      rcases List.mem_cons.mp he with rfl | he
      · have:k'=k:=by
          have:=KeyKind.is_eq_decide hk k'
          have hek:(PySem.strKind prog w).is k' x=true:=hek
          rw[hek] at this;simpa using this.symm
        rw[this];exact hr.symm
      · exact q k' (iEA e he hek)
theorem Ob {id:String} {Q:Bool→Shared→Prop} (hS:s.heap.SetOf (PySem.strKind prog w) a S n) (hS':s.heap.SetOf (PySem.strKind prog w) b S' n')
    (h:∀ r:Bool,(r=true↔n≤n'∧∀ k,S k=true→S' k=true)→Q r s):wpAny (model prog w) A (Builtin.Frozenset.subsetOf id a b) Q E s:=by
  refine BH hS fun o es ep t ho hx hd hel hmem hb hf hn=>?_
  refine BH (_root_.id hS') fun o' es' ep' t' ho' hx' hd' hel' hmem' hb' hf' hn'=>?_
  unfold Builtin.Frozenset.subsetOf Builtin.Frozenset.sizeOf
  refine wpAny_bind (wpAny_bind (wpAny_setEntries_of ho hd hf (wpAny_pure ?_)))
  refine wpAny_bind (wpAny_bind (wpAny_setEntries_of ho' hd' hf' (wpAny_pure ?_)))
  refine wpAny_ite_split (fun q=>wpAny_pure (h false ⟨(fun e=>nomatch e),fun e=>by lia⟩)) fun q=>?_
  refine wpAny_bind (wpAny_setEpoch_of ho hd hf ?_)
  unfold Builtin.Frozenset.walkUnseen
  refine wpAny_bind (wpAny_bind (wpAny_setEntries_of ho hd hf (wpAny_bind (wpAny_setEntries_of ho' hd' hf' (wpAny_bind (Mh (wpAny_pure ?_) _ ?_))))))
  · refine wpAny_bind (NQ ho hd hf hS' es.toList hel (fun q1=>wpAny_pure (h true ⟨fun _=>⟨by exact q48 hn hn' q,fun k hk=>q1 k ((hmem k).mp hk)⟩,fun _=>rfl⟩)) fun zy7a=>xEA zy7a fun k q1 q2=>wpAny_pure (h false ⟨(fun e=>nomatch e),fun zy8a=>zy8a.elim fun _ e=>?_⟩))
    rw[e k ((hmem k).mpr q1)] at q2;exact ff q2.symm
  · intro e he
    rcases List.mem_append.mp he with he | he
    · exact (hel e he).2
    · exact (hel' e he).2
theorem Kt {v:Value} {Q:Bool→Shared→Prop} (hT:s.TypeIs v "set") (h:Q true s):wpAny (model prog w) A (Builtin.Frozenset.isAnySet v) Q E s:=by
  unfold Builtin.Frozenset.isAnySet
  refine wpAny_bind (wpAny_isInstance (T:= "set") (b:=true) hT sub_set_self ?_)
  exact wpAny_pure h
theorem Gc:isSubtype (.type "set") (.type "frozenset")=pure false:=by rw[isSubtype_type];kernel_rfl
theorem KD {Q:Value→Shared→Prop} (hS:s.heap.SetOf (PySem.strKind prog w) a S n) (hS':s.heap.SetOf (PySem.strKind prog w) b S' n')
    (h:∀ r:Bool,(r=true↔n=n'∧∀ k,S k=true→S' k=true)→Q (.bool !r) s) :
    wpAny (model prog w) A (Builtin.«frozenset.__ne__» ⟨[.ref a,.ref b],[]⟩) (fun fin s'=>∃ v,fin=.done (.ret v)∧Q v s') E s:=by
  refine BH (_root_.id hS) fun o es ep t ho hx hd hel hmem hb hf hn=>?_
  refine BH (_root_.id hS') fun o' es' ep' t' ho' hx' hd' hel' hmem' hb' hf' hn'=>?_
  unfold Builtin.«frozenset.__ne__»
  wp_delta
  refine wpAny_bind (m:=Builtin.Frozenset.slot1 _ _) (wpAny_pure ?_)
  refine wpAny_bind (Kt hS'.typeIs ?_)
  simp only[Bool.not_true,Bool.false_eq_true,if_false]
  refine wpAny_bind (m:=Builtin.Frozenset.addrOf _) (wpAny_pure ?_)
  refine wpAny_bind (m:=Builtin.Frozenset.addrOf _) (wpAny_pure ?_)
  unfold Builtin.Frozenset.sizeOf
  refine wpAny_bind (wpAny_bind (wpAny_setEntries_of ho hd hf (wpAny_pure ?_)))
  refine wpAny_bind (wpAny_bind (wpAny_setEntries_of ho' hd' hf' (wpAny_pure ?_)))
  refine wpAny_bind ?_
  refine wpAny_ite_split (fun q=>wpAny_pure ?_) fun q=>?_
  · refine wpAny_pure (iEA _ rfl (h false ⟨(fun e=>nomatch e),fun zy11a=>zy11a.elim fun e _=>?_⟩))
    rw[hn,hn',e] at q;simp at q
  · refine wpAny_bind (wpAny_bind (wpAny_isInstance (T:= "set") (b:=false) hS.typeIs Gc ?_))
    refine wpAny_pure ?_
    refine Ob hS hS' fun r hr=>wpAny_pure (iEA _ rfl (h r ⟨fun e=>?_,fun zy12a=>zy12a.elim fun e1 e2=>hr.mpr ⟨by exact Nat.le_of_eq e1,e2⟩⟩))
    have hq:es.size=es'.size:=by simpa using q
    exact ⟨by lia,(hr.mp e).2⟩
end
section
variable {c:Cx} {d:Nat} {m:Loc} {h:H} {A:Around} {g:G} {s:Shared} {sc scope:Scope} {F P:Addr→Prop} {env cenv:Env} {Q:V→H→Prop} {i j:Id}
theorem QX {xs ys:List (List Nat)}:(∀ k,Eu xs k=true→Eu ys k=true)↔xs.all (ys.contains ·)=true:=by
  constructor
  · intro e
    refine List.all_eq_true.mpr fun x hx=>?_
    rw[← FL]
    exact e _ (by rw[FL];exact List.contains_iff_mem.mpr hx)
  · intro e k hk
    refine xEA (List.any_eq_true.mp hk) fun x hx q=>?_
    have:k=ofL x:=(beq_iff_eq.mp q).symm
    subst this
    rw[FL]
    exact List.all_eq_true.mp e x hx
theorem NR {xs ys:List (List Nat)} (hi:h i=some (.set xs)) (hj:h j=some (.set ys)) (q:Q (.bool !(decide (xs.length=ys.length)&&xs.all (ys.contains ·))) h):OpW c (compareOp .NotEq) (.ref i) (.ref j) h Q:=by
  intro d A g s ra rb hA R r1 r2
  unfold Ai at r1 r2;obtain ⟨_,rfl⟩:=r1;obtain ⟨_,rfl⟩:=r2
  obtain ⟨hS,_⟩:=R.obj i _ hi
  obtain ⟨hS',_⟩:=R.obj j _ hj
  show wpAny _ _ (richCompare .NotEq _ _) _ _ _
  refine wpAny_richCompare_same_room hS.typeIs hS'.typeIs PySem.F.slot_set_ne (wpAny_call_entry PySem.F.slot_set_ne hS.typeIs JW ?_ (PySem.F.args_set_ne_2 _ _)) (by have:=hA.2.2;exact q49 this)
  refine KD hS hS' fun r hr=>(K7 (by intro e;injection e) g h _ Ext.refl R A7 ?_)
  have e:r=(decide (xs.length=ys.length)&&xs.all (ys.contains ·)):=by
    rw[Bool.eq_iff_iff,hr,Bool.and_eq_true,decide_eq_true_eq]
    exact and_congr Iff.rfl QX
  rw[e];exact q
end
end
section
section
variable {c:Cx} {d:Nat} {m:Loc} {h:H} {A:Around} {g:G} {s:Shared} {sc scope:Scope} {F P:Addr→Prop} {env cenv:Env}
noncomputable def isD (h:H) (j:Id) (acc:List (List Nat × V)):Prop:=∃ ep,h j=some (.dict ep acc)
noncomputable def QI (c:Cx) (d:Nat) (kx vx:X) (n:Nat) (ro:List (Nat × V)) (j:Id) (I:List V→List (List Nat × V)→H→Prop):Prop :=
  ∀ y r acc h,I (y::r) acc h→E c d kx ⟨ro,[(n,some y)]⟩ h fun kv h₂=>E c d vx ⟨ro,[(n,some y)]⟩ h₂ fun w h₃=>∃ ks,kv=.str ks∧isD h₃ j acc∧∀ ep',I r (Dy ks w acc) (upd h₃ j (.dict ep' (Dy ks w acc)))
noncomputable abbrev MK (I:List V→List (List Nat × V)→H→Prop) (ro:List (Nat × V)) (ns:List Nat) (n:Nat):List V→Loc→H→Prop:=fun r m h=>∃ acc,I r acc h∧acc.length+r.length≤n∧m.ro=ro∧m.rw.map (·.1)=ns
theorem IK {n:Nat} {y:V} {m:Loc} {ro:List (Nat × V)} (z1:m.ro=ro) (z2:m.rw.map (·.1)=[n]):Bm true [n] y m=⟨ro,[(n,some y)]⟩:=by
  obtain ⟨ro',rw_⟩:=m
  cases rw_ with
  | nil=>simp at z2
  | cons p r =>
    obtain ⟨k,o⟩:=p
    cases r with
    | cons _ _=>simp at z2
    | nil =>
      have:k=n:=by simpa using z2
      subst this
      subst z1
      show Loc.set _ _ _=_
      unfold Loc.set DZ
      simp
theorem Jm (O:c.Ok) {it:Value} {tgt:Expr} {xs:List V} {ok:H→Prop} {St:Nat→G→H→Shared→Prop} {n₀:Nat} {I:List V→List (List Nat × V)→H→Prop} {g₀:G} {h₀:H} {s₀ s:Shared} {kx vx:X} {ro:List (Nat × V)} {j:Id} {D:Addr}
    {ke ve iter:Expr} {pos:Pos} {RR:Result→Shared→Prop}
    (It:Jx c it tgt xs ok P St) (hP:∀ a,P a→s₀.heap.get? a=none) (hF:∀ a,F a→¬ P a) (hc:∀ x a,cenv.cells.lookup x=some a→¬ P a) (ct:AK c.N true [n₀] tgt=true) (hA:OkA d A) (hl:xs.length≤2^20)
    (hI:∀ r acc h,I r acc h→ok h∧isD h j acc) (hT:QI c d kx vx n₀ ro j I) (ce:ckE c.N scope kx ke=true) (cv:ckE c.N scope vx ve=true)
    (J:∃ g h m,Ext F g₀ h₀ s₀ g h s∧Rep c g h s∧Aw c scope F cenv g m h s∧St 0 g h s∧I xs [] h∧m.ro=ro∧m.rw.map (·.1)=[n₀]∧g.ρ j=D)
    (hR:∀ s' g' h' m' acc,Ext F g₀ h₀ s₀ g' h' s'→Rep c g' h' s'→Aw c scope F cenv g' m' h' s'→g'.ρ j=D→(h' j).isSome=true→I [] acc h'→RR (.ok .next) s') :
    codeAny (model c.prog c.w) A (.compLoop (.DictComp ke ve [⟨tgt,iter,[],0⟩] scope pos) 0 it (.ref D) cenv) RR s:=by
  have It':=It.plus j D
  have some_j:∀ {r acc h},I r acc h→(h j).isSome=true:=fun i=>by refine xE ((hI _ _ _ i).2) fun ep e=>?_;rw[e];rfl
  have hgo:∀ v:Value,letOwnedTupleGo tgt it v=pure ():=fun v=>by
    rcases Kc ct with ⟨y,p,rfl⟩ | ⟨es,k,p,rfl⟩
    · exact Tk
    · exact Bool.noConfusion (Hi ct).1
  refine GP J fun g h m X R Ve S i mr mk gD=>?_
  have fin:∀ {n:Nat} {k:Nat} {s:Shared},n=xs.length - k→k<xs.length→C8 c scope F cenv g₀ h₀ s₀ (DH St j D) xs (MK I ro [n₀] xs.length) (k+1) s→∃ m,m<n∧∃ k,k≤xs.length∧m=xs.length - k∧C8 c scope F cenv g₀ h₀ s₀ (DH St j D) xs (MK I ro [n₀] xs.length) k s :=
    fun {n k s} e l J=>(Rp (xs.length - (k+1)) (by exact q19 e l) (k+1) (by exact Nat.succ_le_of_lt ‹_›) rfl J)
  refine codeAny_compLoop_testsD (fun n s=>∃ k,k≤xs.length∧n=xs.length - k∧C8 c scope F cenv g₀ h₀ s₀ (DH St j D) xs (MK I ro [n₀] xs.length) k s)
    (fun n s zy5a=>BC zy5a fun k hk hn J=>?_) xs.length (D2 0 (Nat.zero_le _) rfl g h m X R Ve (iAA S gD (some_j i)) ([]) i (by simp) mr mk) hgo
  refine wpAny_mono (J9 O (ns:=[n₀]) (one:=true) It' hP hF hc ct hA.1 (fun r m h zz=>xEA zz fun acc z _=>(hI r acc h z).1) (fun y r m h zz=>Dh zz fun acc z _ _ z2=>⟨fun n hn=>Ip (by rw[z2];exact hn),trivial⟩) hk J (N:=fun s₁=>RR (.ok .next) s₁)
    (Y:=fun s₂=>wpAny (model c.prog c.w) A (eval ke cenv) (fun kv s₄=>wpAny (model c.prog c.w) A (eval ve cenv) (fun vv s₅=>wpAny (model c.prog c.w) A (dictSet D kv vv) (fun _ s₆=>∃ m,m<n∧∃ k,k≤xs.length∧m=xs.length - k∧C8 c scope F cenv g₀ h₀ s₀ (DH St j D) xs (MK I ro [n₀] xs.length) k s₆)
        (notedBy (model c.prog c.w) A cenv fun e s'=>RR (.error e) s') s₅) (notedBy (model c.prog c.w) A cenv fun e s'=>RR (.error e) s') s₄) (notedBy (model c.prog c.w) A cenv fun e s'=>RR (.error e) s') s₂)
    (Ex:=notedBy (model c.prog c.w) A cenv fun e s'=>RR (.error e) s') ?_ ?_) (fun r s₁ z=>?_) fun _ _ z=>z
  · intro g h m s s' S hk' X R Ve zi0;refine xEA zi0 fun acc z _=>?_
    exact hR s' g h m acc X R Ve S.2.1 (some_j z) z
  · intro y r g h m s₂ q X R Ve zi0 zi1;refine xAA zi0 fun S gD hj=>?_;refine Dh zi1 fun acc z zl z1 z2=>?_
    refine xA (Dx q) fun q1 q2=>?_
    have hb:=IK (y:=y) z1 z2
    have t2:=hT y r acc h z
    rw[← hb] at t2
    have z1':(Bm true [n₀] y m).ro=ro:=K3.trans z1
    have z2':(Bm true [n₀] y m).rw.map (·.1)=[n₀]:=Hp.trans z2
    simp only[List.length_cons] at zl
    refine wpAny_mono (t2 _ _ ce _ _ _ _ _ hA Ve R) (fun rk s₃ zy9a=>AW zy9a fun g₃ h₃ kv e3 R3 r3 p3=>?_) fun _ _ z=>z.elim
    have S3:=It'.keep _ _ _ _ _ _ _ _ (iAA S gD hj) R (e3.up (E:=F)) hF
    refine wpAny_mono (p3 _ _ cv _ _ _ _ _ hA (Ve.ext e3) R3) (fun rv s₄ zz=>LA zz fun g₄ h₄ w e4 R4 r4 ks hks zj i4=>zj.elim fun ep hj4=>?_) fun _ _ z=>z.elim
    subst hks
    have S4:=It'.keep _ _ _ _ _ _ _ _ S3 R3 (e4.up (E:=F)) hF
    refine xE r3 fun t zz8b=>?_;obtain rfl:=zz8b
    refine S4.2.1▸?_
    refine R4.dictSet hj4 (by exact q50 hl zl) r4 fun s₅ ep' X5 R5=>?_
    have S5:=It'.keep _ _ _ _ _ _ _ _ S4 R4 (X5.up (E:=F)) hF
    refine S4.2.1.symm▸?_
    have hle:=KW (k:=ks) (v:=w) (es:=acc)
    exact fin hn q2 (Fv g₄ _ _ (((X.trans e3.up).trans e4.up).trans X5.up) R5 (((Ve.ext e3).ext e4).ext X5) S5 (Dy ks w acc) (by rw[q1];exact i4 ep') (by rw[q1];exact q51 zl hle) z1' z2')
  · cases r with
    | none=>exact z
    | some v =>
      have z:wpAny (model c.prog c.w) A (letOwnedTupleGo tgt it v) _ _ _:=z
      rw[hgo] at z
      have z:wpAny (model c.prog c.w) A (assign tgt cenv v) _ _ s₁:=fun Γ p hΓ=>(z Γ p hΓ) Γ p hΓ
      refine wpAny_mono z (fun _ s₂ h₂=>?_) fun _ _ z=>z
      exact wpAny_pure (by exact h₂)
noncomputable def DcQ (c:Cx) (d:Nat) (kx vx:X) (n:Nat) (src:X) (ro:List Nat) (m:Loc) (h:H) (j:Id) (Q:V→H→Prop):Prop :=
  E c d src m h fun v h₁=>∃ xs ok,DV c v h₁ false xs ok∧xs.length≤2^20∧h₁ j=none∧∃ I:List V→List (List Nat × V)→H→Prop,(∀ r acc h,I r acc h→ok h∧isD h j acc)∧I xs [] (upd h₁ j (.dict 0 [])) ∧
    QI c d kx vx n (Bf m [n] ro).ro j I∧∀ acc h,I [] acc h→Q (.ref j) h
theorem Jh (O:c.Ok) {kx vx:X} {n:Nat} {src:X} {ro:List Nat} {j:Id} {Q:V→H→Prop} {a b t it:Expr} {pos:Pos} {KK:Value→Addr→Result→Shared→Prop}
    (p:DcQ c d kx vx n src ro m h j Q) (ct:AK c.N true [n] t=true) (cs:ckE c.N sc src it=true) (ce:ckE c.N scope kx a=true) (cf:ckE c.N scope vx b=true) (K:HS c sc scope [n] ro) (hA:OkA d A) (V:Aw c sc F env g m h s) (R:Rep c g h s)
    (hK:∀ D C g' h' s' mm,Ext No g h s g' h' s'→Rep c g' h' s'→Ai g' h' (.ref j) (.ref D)→s'.heap.Ns C mm→s.heap.get? C=none→g'.slot C=none→g'.fz C=none→Q (.ref j) h'→KK (.ref D) C (.ok .next) s') :
    wpAny (model c.prog c.w) A (eval it env) (fun x s₁=>wpAny (model c.prog c.w) A (pyIter x) (fun itv s₂=>wpAny (model c.prog c.w) A newDict (fun acc s₃ =>
      wpAny (model c.prog c.w) A (newFunctionEnv scope env.globals (BK env.cells scope.names []) [] env.qual none .none (some env)) (fun cenv s₄ =>
        codeAny (model c.prog c.w) A (.compStart (.DictComp a b [⟨t,it,[],0⟩] scope pos) 0 itv acc { cenv with scope:=relabel scope env }) (KK acc cenv.locals) s₄) (fun _ _=>False) s₃) (fun _ _=>False) s₂) (fun _ _=>False) s₁) (fun _ _=>False) s:=by
  refine xA (Ir ct) fun o1 o2=>?_
  refine (p _ _ cs _ _ _ _ _ hA V R).use fun rv s₁ g₁ h₁ v e1 R1 r1 q1=>?_
  refine Fu q1 fun xs ok iv hl hj I hI i0 hT he=>?_
  refine wpAny_mono (iv A g₁ s₁ rv t o1 o2 hA.1 R1 r1) (fun itv s₂ zy14a=>G6 zy14a fun P St It S0 R2 X2 hP=>?_) fun _ _ z=>z
  refine xA (R2.newDict (i:=j) hj) fun R3 X3=>?_
  refine wpAny_newObj_type ?_
  have V1:=V.ext e1
  have V3:=(V1.ext X2).ext X3
  refine V.glob.symm▸?_
  refine Hx (env:=env) R3 (IW K V3 R3 rfl) fun s₄ hcl X4 R4 V4=>?_
  have X14:=((X2.trans X3).trans X4)
  have hP3:∀ a,P a→((s₂.heap.push emptyDict).get? a).isSome=true:=fun a z=>By _ (hP a z).2
  have hFn:∀ a,((s₂.heap.push emptyDict).get? a=none∧(s₄.heap.get? a).isSome=true)→s₁.heap.get? a=none:=fun a z=>by
    cases y:s₁.heap.get? a with
    | none=>rfl
    | some o=>have:=(X2.trans X3).alive a (by rw[y];rfl);rw[z.1] at this;exact ff this
  have loop:=Jm (s:=s₄) O (F:=fun a=>(s₂.heap.push emptyDict).get? a=none∧(s₄.heap.get? a).isSome=true) (g₀:=g₁) (h₀:=h₁) (s₀:=s₁) (D:=s₂.heap.objs.size) (ke:=a) (ve:=b) (iter:=it) (pos:=pos)
    (RR:=KK (.ref s₂.heap.objs.size) (s₂.heap.push emptyDict).objs.size) It (fun a z=>(hP a z).1) (fun a z y=>by have:=hP3 a y;rw[z.1] at this;exact ff this) (fun x a z y=>?_) ct hA hl hI hT ce cf
    (GF _ _ _ X14.up R4 V4 (It.keep _ No _ _ _ _ _ _ S0 R2 (X3.trans X4) (fun _ z=>z.elim)) i0 rfl (by unfold Bf;rfl) (by show (if j=j then _ else _)=_;exact if_pos rfl)) fun s' g' h' m' acc X' R' V' gD hjs i=>?_
  · exact codeAny_compStart_dict loop (It.self _ _ _ _ 0 (It.keep _ No _ _ _ _ _ _ S0 R2 (X3.trans X4) (fun _ z=>z.elim)) _ _ loop)
  · rcases hcl x a z with q | q
    · have:=V1.clt _ _ (GJ (EA K V) q)
      rw[(hP a y).1] at this;exact ff this
    · have:=hP3 a y;rw[q] at this;exact ff this
  · refine xEA V'.vars fun mm hns _=>?_
    have Xn:Ext No g₁ h₁ s₁ g' h' s':=⟨X'.live,X'.fz,X'.fzold,X'.slot,X'.alive,fun a o e n _=>X'.keep a o e n fun z=>by rw[hFn a z] at e;exact nn e⟩
    have own:=V'.own
    refine hK _ _ g' h' s' mm (e1.trans Xn) R' ?_ hns ?_ (V'.ex _ own).1 (V'.ex _ own).2.1 (he _ _ i)
    · unfold Ai;rw[gD];exact ⟨hjs,rfl⟩
    · exact IV e1 (hFn _ own)
theorem To (O:c.Ok) (j:Id) {kx vx:X} {n:Nat} {src:X} {own ro:List Nat} {Q:V→H→Prop} (p:DcQ c d kx vx n src ro m h j Q):E c d (.dcomp kx vx [n] true src own ro) m h Q:=by
  intro sc e ck A env F g s hA V R
  refine ER (Lb ck) fun a b t it scope pos zz17g c1 c2 c3 c4 c5 c6=>?_;obtain rfl:=zz17g
  refine xA (Jj c5) fun zz11a K=>?_;obtain rfl:=zz11a
  rw[arm_eval_DictComp]
  refine wpAny_comprehension_free (use:=none) rfl (fun _=>Gq c6) (Bo (EA K V)) K.kind (fun x hx e=>by rw[K.uniq x hx,e]) ?_
  refine Jh O p c1 c2 c3 c4 K hA V R fun D C g' h' s' mm X R' r ns hC n1 n2 q=>(iEA mm ns (fun h'' hs=>?_))
  refine (Ab g' h' (.ref j) ?_ (R'.extBut n1 n2 hs.extBut) r q)
  exact X.atP (P:=(·=C)) (fun b o nb e=>(hs.2 b nb).trans e) fun a z=>z▸hC
theorem Tw (O:c.Ok) (j:Id) {n:Nat} {kx vx:X} {k:Nat} {src:X} {own ro:List Nat} {Q:Out→Loc→H→Prop} (hn:(m.rw.lookup n).isSome=true)
    (p:DcQ c d kx vx k src ro m h j fun v h'=>Q .nx (m.set n v) h'):St c d (.asgC n (.dcomp kx vx [k] true src own ro)) m h Q:=by
  intro sc e ck A env F g s hA V R
  obtain ⟨y,pp,pos',rfl,ck,_⟩:=M6 ck
  have ck0:=ck
  obtain ⟨a,b,t,it,scope,pos,rfl,c1,c2,c3,c4,c5,c6⟩:=Lb ck
  refine xA (Jj c5) fun zz14a K=>?_;obtain rfl:=zz14a
  obtain ⟨b',hb⟩:∃ b',swapsWith (.DictComp a b [⟨t,it,[],0⟩] scope pos) (some (.Name (c.nm n) pp)) pos'.line env=pure b':=⟨_,rfl⟩
  cases b' with
  | false =>
    refine wpAny_Assign_Name ((To O j p _ _ ck0 _ _ _ _ _ hA V R).use fun rv s₁ g₁ h₁ v e1 R1 r1 q1=>?_) hb
    exact BM O (V.ext e1) R1 hn r1 fun s' X R' V'=>⟨g₁,h₁,_,.nx,e1.up.trans X,R',V',rfl,q1⟩
  | true =>
    refine (exec_Assign_Name_used _ _ _ _ hb).symm▸?_
    refine wpAny_bind (wpAny_standAt (wpAny_bind ?_))
    rw[arm_evalThenUse_DictComp]
    refine wpAny_bind (wpAny_mono (wpAny_comprehension_free (use:=some (assign (.Name (c.nm n) pp) env)) (Q:=fun _ s'=>∃ g' h' m' o,Ext F g h s g' h' s'∧Rep c g' h' s'∧Aw c sc F env g' m' h' s'∧B5 g' h' o .next∧Q o m' h') rfl (fun _=>Gq c6) (Bo (EA K V)) K.kind (fun x hx e=>by rw[K.uniq x hx,e]) ?_)
      (fun _ s' hq=>wpAny_pure (wpAny_pure hq)) fun _ _ z=>z)
    refine Jh O p c1 c2 c3 c4 K hA V R fun D C g' h' s' mm X R' r ns hC n1 n2 q=>?_
    have V':=V.ext X
    have nF:∀ a,F a→a≠C:=fun a z y=>by have:=(V.ex a z).2.2;rw[y,hC] at this;exact ff this
    show wpAny _ A (assign (.Name (c.nm n) pp) env (.ref D)) _ _ _
    refine wpAny_assign_Name (BM O V' R' hn r fun s'' X'' R'' V''=>?_)
    refine D1 ns fun o es ep hL rr=>?_
    refine (iEA mm (El o es ep (X''.keep _ _ hL n1 fun z=>nF _ z rfl) rr) (fun h'' hs=>?_))
    refine (An g' h' _ .nx ?_ (R''.extBut n1 n2 hs.extBut) (V''.atP (P:=(·=C)) (fun b o nb e=>(hs.2 b nb).trans e) (fun a z=>nF a z) (fun x a z y=>by have:=V.clt x a z;rw[y,hC] at this;exact ff this)) rfl q)
    exact (X.up.trans X'').atP (P:=(·=C)) (fun b o nb e=>(hs.2 b nb).trans e) fun a z=>z▸hC
end
end
section
section
variable {c:Cx} {d:Nat} {m:Loc} {h:H} {A:Around} {g:G} {s:Shared} {sc scope:Scope} {F P:Addr→Prop} {env cenv:Env} {Q:V→H→Prop} {i j:Id}
noncomputable def JY (es fs:List (List Nat × V)):List (List Nat × V):=fs.foldl (fun acc e=>Dy e.1 e.2 acc) es
theorem Az.merge:∀ {fs es:List (List Nat × V)} {kvs more:List (Str × Value)},Az g h es kvs→Az g h fs more→Az g h (JY es fs) (merged kvs more):=by
  intro zl;induction zl with
  | nil =>
    intro es kvs more e f
    subst f;exact e
  | cons x fs ih =>
    intro es kvs more e f
    refine Au f fun v r zz1c f1 f2=>?_;obtain rfl:=zz1c
    show Az g h (JY (Dy x.1 x.2 es) fs) (merged (stored kvs (ofL x.1) v) r)
    exact ih (Az.put f1 e) f2
theorem WC (R:Rep c g h s) (hi:(h i).isSome=true) (hj:(h j).isSome=true) (n:i≠j):g.ρ i≠g.ρ j:=fun e=>by
  have a:=R.at_ i hi
  have b:=R.at_ j hj
  rw[e,b] at a
  cases a;exact n rfl
theorem II (O:c.Ok) {ep ep':Nat} {es fs:List (List Nat × V)} (hi:h i=some (.dict ep es)) (hj:h j=some (.dict ep' fs)) (hn:i≠j) (hl:es.length+fs.length≤2^20) (q:∀ ep'',Q .none (upd h i (.dict ep'' (JY es fs)))):Av c d (.builtin "dict.update") [.ref i,.ref j] [] [] h Q:=by
  refine Gk fun A g s rv rv' hA R r1 r1'=>?_
  refine xA r1 fun his zz1b=>?_;obtain rfl:=zz1b;refine xA r1' fun hjs zz2b=>?_;obtain rfl:=zz2b
  refine Bi R hi fun kvs zz4b e3 e4=>?_;refine Au zz4b fun o es' e0 e1 _=>?_
  refine Bi R hj fun kvs' _ f3 f4=>?_
  refine call_meetsIn PySem.F.slot_dict_update (iEA o e0 e1.1) PySem.F.entry_dict_update (PySem.F.args_dict_update_2 _ _) (meets_dict_update (PySem.strKind c.prog c.w) _ _ (WC R his hjs hn) (DK O R hjs))
    (Fn kvs kvs' e3 f3 (by rw[e4.len,f4.len];exact q13 hl) (fun h' hd _ hs=>?_))
  refine xEA (R.setDict (tk:=s.toks) his hd hs (e4.merge f4)) fun ep'' R' X'=>?_
  exact (Ab _ _ .none X' R' DJ (q ep''))
end
end
section
section
variable {c:Cx} {d:Nat} {m:Loc} {h:H} {A:Around} {g:G} {s:Shared} {sc scope:Scope} {F P:Addr→Prop} {env cenv:Env} {i j:Id}
theorem Rep.setOne (R:Rep c g h s) (hj:(h j).isSome=true) {o₀:O} {h':Heap} {tk:Nat} (hal:(h'.get? (g.ρ j)).isSome=true) (ho:∀ h2,EO c g h2 j h' o₀)
    (hk:∀ b o,b≠g.ρ j→s.heap.get? b=some o→h'.get? b=some o):Rep c g (upd h j o₀) { s with heap:=h',toks:=tk }∧Ext No g h s g (upd h j o₀) { s with heap:=h',toks:=tk }:=by
  have al:∀ a,(s.heap.get? a).isSome=true→(h'.get? a).isSome=true:=fun a l=>by
    by_cases y:a=g.ρ j
    · subst y;exact hal
    · refine isK l fun o q=>?_;rw[hk a o y q];rfl
  have X:Ext No g h s g (upd h j o₀) { s with heap:=h',toks:=tk }:=by
    refine ⟨fun k e=>⟨?_,rfl⟩,fun _ _ e=>e,fun _ _=>rfl,fun _ _=>rfl,al,fun a o e n _=>hk a o (fun y=>?_) e⟩
    · by_cases q:k=j
      · subst q;rw[Aj];rfl
      · rw[Ae q];exact e
    · rw[y,R.at_ j hj] at n;exact nn n.symm
  refine ⟨⟨R.base,fun a o e=>hk a o (fun y=>?_) (R.fz a o e),R.apart,fun a x e=>⟨al a (R.lt a x e).1,(R.lt a x e).2⟩,fun k e=>?_,fun k o e=>?_,R.gens,R.os⟩,X⟩
  · have:=R.apart a o e;rw[y,R.at_ j hj] at this;exact nn this.symm
  · by_cases q:k=j
    · subst q;exact R.at_ _ hj
    · rw[Ae q] at e;exact R.at_ k e
  · by_cases q:k=j
    · subst q;rw[Aj] at e;cases e
      exact ho _
    · rw[Ae q] at e
      have hkk:(h k).isSome=true:=by rw[e];rfl
      refine EO.keeps X hkk R (fun a b z=>?_) (R.obj k o e)
      obtain ⟨o',q'⟩:=Option.isSome_iff_exists.mp (R.lt a _ z).1
      rw[q']
      exact hk a o' (fun y=>q (by rw[y,R.at_ j hj] at z;cases z;rfl)) q'
theorem RM {o:O} (e:h i=some o):upd h i o=h:=by
  funext k
  unfold upd
  split
  · rename_i q;rw[q,e]
  · rfl
theorem NT (as:List Arg) (e:as.all (·.annotation.isNone)=true):annotationsOf as env=[]:=by
  induction as with
  | nil=>rfl
  | cons x r ih =>
    obtain ⟨x,a,p⟩:=x
    rw[List.all_cons,Bool.and_eq_true] at e
    obtain ⟨e1,e2⟩:=e
    cases a with
    | none=>exact ih e2
    | some a=>exact ff e1
theorem JX {a b:Int} {v:Value} (l:List Value) (h:TriplesOk l):TriplesOk (l++[rawInt a,rawInt b,v]):=by
  fun_induction TriplesOk l with
  | case1=>trivial
  | case2 _ _ _ _ _ rest ih=>exact ih h
  | case3=>exact h.elim
theorem Mq {ps:Arguments} (e:He ps=true):annTrees ps none env=[]∧ps.defaults=[]∧ps.kw_defaults=[]:=by
  obtain ⟨po,as,va,ko,kd,kw,df⟩:=ps
  unfold He at e
  simp only[Bool.and_eq_true,List.isEmpty_iff,Option.isNone_iff_eq_none] at e
  obtain ⟨⟨⟨⟨⟨⟨rfl,rfl⟩,rfl⟩,rfl⟩,rfl⟩,rfl⟩,e⟩:=e
  refine (iAA ?_ rfl rfl)
  unfold annTrees
  simp only[Option.toList_none,List.append_nil]
  rw[NT _ e];rfl
theorem ZK {M:Model} {E:Value→Shared→Prop} {name:Str} {params:Arguments} {body:List Stmt} {scope:Scope} {pos:Pos} {Q:Flow→Shared→Prop} (hd:params.defaults=[]) (hk0:params.kw_defaults=[]) (ha:annTrees params none env=[])
    (h:wpAny M A (makeTail name (qualnameIn env name name) params (.stmts body) scope env .none .none none pos pos.line)
      (fun v s'=>wpAny M A (storeName env name v) (fun _ s''=>Q .next s'') E s') E s) :
    wpAny M A (exec (.FunctionDef name params body [] none [] scope none name pos) env) Q E s:=by
  simp only[exec_def]
  refine wpAny_bind (wpAny_standAt (wpAny_bind (wpAny_holding ?_)))
  refine (defaultsOf_eq ..).symm▸(hk0 ..).symm▸(hd ..).symm▸(ha ..).symm▸?_
  refine wpAny_bind (kdv_all0 (env:=env) ?_)
  refine wpAny_bind (wpAny_holding (wpAny_pure ?_))
  refine wpAny_holding (wpAny_bind (wpAny_pure ?_))
  rw[makeFunction_eq]
  simp only[List.zip_nil_right,List.filterMap_nil,List.isEmpty_nil,if_true,pure_bind]
  exact wpAny_mono h (fun v s' h'=>wpAny_bind (wpAny_standAt (wpAny_bind (wpAny_bindName (wpAny_mono h' (fun _ _ h''=>wpAny_pure h'') fun _ _ x=>x))))) fun _ _ x=>x
theorem VJ (O:c.Ok) {n:Nat} {Q:Out→Loc→H→Prop} (hn:(m.rw.lookup n).isSome=true) (ht:∀ sc x,c.code sc=some x→h x.2.2=some (.tab x.2.1)) (q:∀ f,Q .nx (m.set n (.raw (.ref f))) h):St c d (.def_ n) m h Q:=by
  intro sc e ck A env F g s hA V R
  refine CO (UG ck) fun ps b scope pos zz7e h1 h2 h3=>?_;obtain rfl:=zz7e
  refine xAA (Mq (env:=env) h1) fun t1 t2 t3=>?_
  obtain ⟨⟨cc,P,i⟩,hx⟩:=Option.isSome_iff_exists.mp h2
  have hcode:env.code=.ref cc:=V.cd _ hx
  have hi:h i=some (.tab P):=ht _ _ hx
  have his:(h i).isSome=true:=by rw[hi];rfl
  refine GV (R.obj i _ hi) fun hρ vs hP hts=>?_
  rw[hρ] at hP
  have C:CodeHd s.heap cc P:=(O.code _ _ hx).keeps R.keepsB
  obtain ⟨mg,bm,ob,hg,b1,b2,b3,b4,b5,b6⟩:=O.bm
  have hsl:g.slot P=some (i,false):=by refine hρ▸?_;exact R.at_ i his
  have nP:∀ a o,c.B.get? a=some o→a≠P:=fun a o e z=>by
    have:=R.apart a o (R.base a o e);rw[z,hsl] at this;exact nn this.symm
  have hg':s.heap.Ns mainGlobals mg:=hg.keeps R.keepsB
  have hgP:mainGlobals≠P:=by refine D1 hg fun o es ep e _=>?_;exact nP _ _ e
  have hbG:bm≠mainGlobals:=fun q=>by
    refine Be hg fun o es ep e hd _=>?_
    rw[q,e] at b3;cases b3;rw[hd] at b6;injection b6
  have hB:s.heap.BuiltinsAt mg P:=⟨bm,ob,b1,b2,hbG,nP _ _ b3,R.keepsB _ _ b3,b4,b5,b6⟩
  have hcl:closureFor scope env=pure (BK env.cells scope.names []):=Bo fun p hp e=>by
    refine V.has _ ?_
    rcases h3 p hp e with q | q
    · rcases V.kinds _ _ q with z | ⟨z,_⟩
      · exact .inl z
      · injection z
    · rcases V.kinds _ _ q with z | ⟨_,z⟩
      · exact .inr z
      · exact .inl z
  refine ZK t2 t3 t1 ?_
  have fin:∀ (h':Heap) (tk:Nat) (f:Addr),Ext No g h s g h { s with heap:=h',toks:=tk }→Rep c g h { s with heap:=h',toks:=tk } →
      wpAny (model c.prog c.w) A (storeName env (c.nm n) (.ref f)) (fun _ s'=>∃ g' h' m' o,Ext F g h s g' h' s'∧Rep c g' h' s'∧Aw c sc F env g' m' h' s'∧B5 g' h' o .next∧Q o m' h') (fun _ _=>False) { s with heap:=h',toks:=tk }:=fun h' tk f X R' =>
    BM O (V.ext X) R' hn (v:=.raw (.ref f)) (by exact ⟨rfl,rfl⟩) fun s' X' R'' V'=>(An g h _ .nx (X.up.trans X') R'' V' rfl (q f))
  cases hf:codeAmong pos vs.toList with
  | none =>
    refine kdv_makeTail (mg:=mg) hcl V.glob hg' hcode C hP hts hf hgP hB fun c' ctv doc h' tk hx' hge hlt hrec htb=>?_
    have hst:∀ (oF:Obj),Rep c g h { s with heap:=h'.push oF,toks:=tk }∧Ext No g h s g h { s with heap:=h'.push oF,toks:=tk }:=fun oF=>by
      have:=R.setOne (j:=i) (o₀:=.tab P) (h':=h'.push oF) (tk:=tk) his (by rw[hρ,Heap.get?_push_of_some _ htb];rfl) (fun h2=>(N4 hρ _ (by rw[hρ];exact Heap.get?_push_of_some _ htb) ?_)) (fun b o nb e=>Heap.get?_push_of_some _ (hx' b o (by rw[← hρ];exact nb) e))
      · rw[RM hi] at this;exact this
      · rw[Array.toList_append]
        exact JX _ hts
    obtain ⟨R',X'⟩:=hst _
    exact fin _ _ _ X' R'
  | some cv =>
    refine kdv_makeTailHit (mg:=mg) hcl V.glob hg' hcode C hP hts hf hB fun ctv doc h' tk hk hsz=>?_
    obtain ⟨R',X'⟩:=R.grow (tk:=tk) (h':=h'.push _) fun b o e=>Heap.get?_push_of_some _ (hk b o e)
    exact fin _ _ _ X' R'
end
end
section
structure Par where
  K:Frag
  names:List String
  cls:List Nat
  code:List (String × Addr × Addr × Id)
  gi:List (Nat × Int)
noncomputable def Par.nm (p:Par) (k:Nat):Str:=match p.names[k]? with
  | some s=>Str.ofString s
  | none=>⟨#[k+2000000]⟩
noncomputable def cdS (s:String):Nat:=(Str.ofString s).cps.toList.foldr (fun c h=>h*1114112+(c+1)) 0
noncomputable def QM (x:Nat) (l:List Nat):Bool:=@List.rec Nat (fun _=>Bool) false (fun y _ ih=>cond (Nat.beq x y) true ih) l
noncomputable def UH (l:List Nat):Bool:=@List.rec Nat (fun _=>Bool) true (fun x r ih=>cond (QM x r) false ih) l
noncomputable def EI (l:List String):Bool:=UH (l.map cdS)&&(l.all fun s=>(Str.ofString s).cps.all (·<2000000))&&l.take 26==BG
noncomputable def Par.gv (p:Par) (k:Nat):Option Value:=(nsIn p.K mainGlobals (p.nm k)).bind fun o=>o.or ((AR[k]?).bind _root_.id)
noncomputable def Par.cl (p:Par) (k:Nat):Addr:=p.cls.getD k 0
noncomputable def Par.meth (p:Par) (k n:Nat):Option Addr:=(((findIn p.K (.ref (p.cl k)) (p.nm n)).bind id).bind Iq).bind fun f=>cond (Bx p.K (p.cl k)&&(typeIn p.K (.ref f)==some (.type "function")&&keepIn p.K (.ref f))) (some f) none
noncomputable def Par.fld (p:Par) (k n:Nat):Bool:=Bx p.K (p.cl k)&&findIn p.K (.ref (p.cl k)) (p.nm n)==some none
noncomputable def Par.catt (p:Par) (k n:Nat):Option V:=((findIn p.K (.ref (p.cl k)) (p.nm n)).bind id).bind fun rv=>cond (Bx p.K (p.cl k)&&(specialIn p.K rv "__get__" == some none&&(!copiedNames.contains (p.nm n)&&handedIn rv))) (toV rv) none
noncomputable def Nh (r:Option CFound) (q C:Addr):Bool:=match r with
  | some (.get a b c' e)=>a==.builtin "staticmethod.__get__" && b==.ref q&&c'==.none&&e==.ref C
  | _=>false
theorem LX {r:Option CFound} {q C:Addr} (h:Nh r q C=true):r=some (.get (.builtin "staticmethod.__get__") (.ref q) .none (.ref C)):=by
  cases r with
  | none=>exact ff h
  | some r=>cases r with
    | get a b c' e =>
      refine Ad h fun h h4=>Ad h fun h h3=>Ad h fun h1 h2=>?_
      rw[beq_iff_eq.mp h1,beq_iff_eq.mp h2,beq_iff_eq.mp h3,beq_iff_eq.mp h4]
    | _=>exact ff h
noncomputable def Par.stat (p:Par) (k n:Nat):Option Addr:=(((findIn p.K (.ref (p.cl k)) (p.nm n)).bind id).bind Iq).bind fun q=>((recIn p.K q "staticmethod").bind List.head?).bind Iq |>.bind fun f =>
  cond (Bx p.K (p.cl k)&&(keepIn p.K (.ref f)&&(specialIn p.K (.ref (p.cl k)) "__getattribute__" == some (some (.builtin "type.__getattribute__"))&&(!copiedNames.contains (p.nm n)&&(readsIn p.K (p.cl k) (.type "type") &&
        (Nh (findCls p.K (.ref (p.cl k)) (.type "type") (p.nm n)) q (p.cl k) &&
        (typeIn p.K (.ref q)==some (.type "staticmethod")&&(specialIn p.K (.ref q) "__get__" == some (some (.builtin "staticmethod.__get__"))&&takesIn p.K (.ref q)==some false)))))))) (some f) none
noncomputable def Par.codeOf (p:Par) (sc:Scope):Option (Addr × Addr × Id):=(p.code.find? fun q=>sc.names.any fun x=>x.1==Str.ofString q.1).map (·.2)
noncomputable def Par.cx (p:Par) (prog:Program) (w:World) (B:Heap) (os:OsState) (gok:Array GenState→Prop):Cx :=
  { N:={ nm:=p.nm,code:=p.codeOf,gi:=fun n=>p.gi.lookup n },prog,w,K:=p.K,B,os,gok,gv:=p.gv,cls:=p.cl,meth:=p.meth,fld:=p.fld,catt:=p.catt,stat:=p.stat }
theorem TK {x:Nat} {l:List Nat} (h:x∈l):QM x l=true:=by
  induction l with
  | nil=>exact nomatch h
  | cons y r ih =>
    show cond (Nat.beq x y) true (QM x r)=true
    cases h with
    | head=>rw[Nat.beq_refl];rfl
    | tail _ h=>rw[ih h];cases Nat.beq x y<;>rfl
theorem T8 {l:List String} (h:UH (l.map cdS)=true):(l.map Str.ofString).Nodup:=by
  induction l with
  | nil=>exact List.nodup_nil
  | cons s r ih =>
    have h:cond (QM (cdS s) (r.map cdS)) false (UH (r.map cdS))=true:=h
    cases q:QM (cdS s) (r.map cdS) with
    | true=>rw[q] at h;exact ff h
    | false =>
      rw[q] at h
      refine List.nodup_cons.mpr ⟨fun z=>?_,ih h⟩
      refine Dt z fun t ht e=>?_
      have:cdS t=cdS s:=congrArg (fun x:Str=>x.cps.toList.foldr (fun c h=>h*1114112+(c+1)) 0) e
      rw[← this,TK (List.mem_map_of_mem ht)] at q
      exact ff q.symm
theorem Wt {p:Par} (h:EI p.names=true) (n n':Nat) (e:p.nm n=p.nm n'):n=n':=by
  unfold EI at h
  simp only[Bool.and_eq_true] at h
  obtain ⟨⟨h1,h2⟩,h3⟩:=h
  have nd:=T8 h1
  have far:∀ {s:String} {k:Nat},s∈p.names→Str.ofString s≠⟨#[k+2000000]⟩:=fun {s k} hs e=>by
    have:=List.all_eq_true.mp h2 s hs
    rw[e] at this
    simp at this
    exact absurd this (by simp)
  unfold Par.nm at e
  cases q:p.names[n]? with
  | none =>
    rw[q] at e
    cases q':p.names[n']? with
    | none =>
      rw[q'] at e
      lia
    | some s=>rw[q'] at e;exact absurd e.symm (far (List.mem_of_getElem? q'))
  | some s =>
    rw[q] at e
    cases q':p.names[n']? with
    | none=>rw[q'] at e;exact absurd e (far (List.mem_of_getElem? q))
    | some s' =>
      rw[q'] at e
      obtain ⟨l,hs⟩:=List.getElem?_eq_some_iff.mp q
      obtain ⟨l',hs'⟩:=List.getElem?_eq_some_iff.mp q'
      have hl:(p.names.map Str.ofString)[n]'(by simpa using l)=(p.names.map Str.ofString)[n']'(by simpa using l'):=by
        simp only[List.getElem_map,hs,hs'];exact e
      rcases Nat.lt_trichotomy n n' with z | z | z
      · exact absurd hl (List.pairwise_iff_getElem.mp nd n n' (by simpa using l) (by simpa using l') z)
      · exact z
      · exact absurd hl.symm (List.pairwise_iff_getElem.mp nd n' n (by simpa using l') (by simpa using l) z)
theorem Qe {p:Par} (h:EI p.names=true) (k:Nat) (s:String) (e:BG[k]?=some s):p.nm k=Str.ofString s:=by
  unfold EI at h
  simp only[Bool.and_eq_true,beq_iff_eq] at h
  rw[← h.2] at e
  have:p.names[k]?=some s:=by
    rw[List.getElem?_take] at e
    split at e
    · exact e
    · exact nn e
  unfold Par.nm
  rw[this]
end
section
noncomputable def JG:Nat→Bool
  | 0=>true
  | k+1=>JG k&&(match AR[k]?,BG[k]? with
    | some (some v),some s=>bootBuiltins (Str.ofString s)==some v&&Str.ofString s != ("__name__" : Str)
    | some (some _),none=>false
    | _,_=>true)
theorem L5:JG 26=true:=by kernel_rfl
theorem L4:∀ {n k:Nat} {v:Value},JG n=true→k<n→AR[k]?=some (some v)→∃ s,BG[k]?=some s∧bootBuiltins (Str.ofString s)=some v∧Str.ofString s≠("__name__" : Str):=by
  intro zl;induction zl with
  | zero =>
    intro k v _ l _
    exact absurd l (Nat.not_lt_zero _)
  | succ n ih =>
    intro k v h l e
    refine Ad h fun h1 h2=>?_
    rcases Nat.lt_succ_iff_lt_or_eq.mp l with l | rfl
    · exact ih h1 l e
    · rw[e] at h2
      cases q:BG[k]? with
      | none=>rw[q] at h2;exact ff h2
      | some s =>
        rw[q] at h2
        exact Ad h2 fun a b=>Bj s rfl (beq_iff_eq.mp a) (bne_iff_ne.mp b)
noncomputable def Par.stdChk (p:Par):Nat→Bool
  | 0=>true
  | k+1=>p.stdChk k&&(match AR[k]? with | some (some v)=>p.gv k==some v | _=>true)
theorem N1 {p:Par}:∀ {n k:Nat} {v:Value},p.stdChk n=true→k<n→AR[k]?=some (some v)→p.gv k=some v:=by
  intro zl;induction zl with
  | zero =>
    intro k v _ l _
    exact absurd l (Nat.not_lt_zero _)
  | succ n ih =>
    intro k v h l e
    refine Ad h fun h1 h2=>?_
    rcases Nat.lt_succ_iff_lt_or_eq.mp l with l | rfl
    · exact ih h1 l e
    · rw[e] at h2;exact beq_iff_eq.mp h2
theorem Rk {k:Nat} {v:Value} (e:AR[k]?=some (some v)):k<26:=by
  obtain ⟨l,_⟩:=List.getElem?_eq_some_iff.mp e
  exact l
theorem Jf {o:Option (Option Value)} {v:Value} (e:o.bind id=some v):o=some (some v):=by
  refine Am e fun x q e=>?_
  rw[q];exact congrArg some e
theorem KQ {o:Option (Option Value)} {a:Addr} (e:(o.bind id).bind Iq=some a):o=some (some (.ref a)):=by
  refine Am e fun x q e=>?_
  rw[← Jn e];exact Jf q
noncomputable def gvI:Option Value→Int→Bool
  | some (.int j _),i=>i==j
  | _,_=>false
theorem W3 {i:Int}:∀ {o:Option Value},gvI o i=true→∃ t,o=some (.int i t)
  | some v,h=>by cases v<;>first | exact absurd h fT | exact ⟨_,by rw[eq_of_beq (a:=i) h]⟩
theorem Xc {p:Par} {prog:Program} {w:World} {B:Heap} {os:OsState} {gok:Array GenState→Prop} {mg mb:Str→Option Value} (hn:EI p.names=true) (hs:p.stdChk 26=true) (hgi:(p.gi.all fun q=>gvI (p.gv q.1) q.2)=true) (X:p.K.In B) (low:(B.get? sysModules).isSome=true) (lim:B.NoLimit)
    (G:B.Ns mainGlobals mg) (Gb:B.Ns builtinsNs mb) (hb:∀ x:Str,x≠ "__name__" → mb x=bootBuiltins x) (hc:∀ q∈p.code,CodeHd B q.2.1 q.2.2.1)
    (bm:∃ bm ob,mg "__builtins__" = some (.ref bm)∧bm≠builtinsNs∧B.get? bm=some ob∧ob.cls=.type "module" ∧ ob.dict=some builtinsNs∧ob.data=.plain):(p.cx prog w B os gok).Ok where
  std k s e:=Qe hn k s e
  stdv k v e:=N1 hs (Rk e) e
  low:=low
  X:=X
  lim:=lim
  gl:=(Al mg mb G Gb (fun n v e=>by
    show mg (p.nm n)=some v∨(mg (p.nm n)=none∧mb (p.nm n)=some v)
    refine Am e fun o q e=>?_
    cases o with
    | some x=>rw[← oJ e];exact .inl (mg_of X G q)
    | none =>
      refine .inr ⟨mg_none_of X G q,?_⟩
      refine Am e fun o y e=>?_
      subst e
      refine BC (L4 L5 (Rk y) y) fun s h1 h2 h3=>?_
      rw[Qe hn n s h1,hb _ h3,h2]))
  inj n n' e:=Wt hn n n' e
  code sc x e:=by
    refine C0 e fun q h1 zz9c=>?_;obtain rfl:=zz9c
    exact hc q (List.mem_of_find?_eq_some h1)
  bm:=xEE bm fun b ob r=>(El mg b ob G r)
  fld k n e:=by
    have e:(Bx p.K (p.cl k)&&findIn p.K (.ref (p.cl k)) (p.nm n)==some none)=true:=e
    simp only[Bool.and_eq_true,beq_iff_eq] at e
    exact e
  meth k n f e:=by
    refine Am e fun f' q e=>?_
    obtain ⟨z,rfl⟩:=ce e
    have z:=Bool.and_eq_true_iff.mp z
    have z2:=Bool.and_eq_true_iff.mp z.2
    exact (L6 z.1 (KQ q) (eq_of_beq z2.1) z2.2)
  catt k n v e:=by
    refine Am e fun rv q e=>?_
    cases z:(Bx p.K (p.cl k)&&(specialIn p.K rv "__get__" == some none&&(!copiedNames.contains (p.nm n)&&handedIn rv))) with
    | false=>rw[z] at e;exact nn e
    | true =>
      rw[z] at e
      have z:=Bool.and_eq_true_iff.mp z
      have z2:=Bool.and_eq_true_iff.mp z.2
      have z3:=Bool.and_eq_true_iff.mp z2.2
      exact ⟨z.1,rv,Jf q,e,eq_of_beq z2.1,Bool.not_eq_true' _▸z3.1,z3.2⟩
  stat k n f e:=by
    refine Am e fun q hq e=>?_
    refine Am e fun f' hr e=>?_
    obtain ⟨z,rfl⟩:=ce e
    refine Am hr fun x hr hx=>?_
    refine Am hr fun l hr hl=>?_
    have z:=Bool.and_eq_true_iff.mp z
    have z2:=Bool.and_eq_true_iff.mp z.2
    have z3:=Bool.and_eq_true_iff.mp z2.2
    have z4:=Bool.and_eq_true_iff.mp z3.2
    have z5:=Bool.and_eq_true_iff.mp z4.2
    have z6:=Bool.and_eq_true_iff.mp z5.2
    have z7:=Bool.and_eq_true_iff.mp z6.2
    have z8:=Bool.and_eq_true_iff.mp z7.2
    refine ⟨z.1,z2.1,eq_of_beq z3.1,Bool.not_eq_true' _▸z4.1,.type "type",q,l.tail,z5.1,LX z6.1,?_,KQ hq,eq_of_beq z7.1,eq_of_beq z8.1,eq_of_beq z8.2⟩
    refine hr.trans ?_
    cases l with
    | nil=>exact nn hl
    | cons a r=>rw[oJ hl,Jn hx];rfl
  gi n i e:=W3 (List.all_eq_true.mp hgi (n,i) (B7 e))
end
section
noncomputable def names:List String:=["append", "extend", "pop", "index", "get", "items", "values", "update", "remove", "join", "len", "range", "sorted", "enumerate", "zip", "abs", "list", "dict", "set", "str", "int", "isinstance", "sum", "reversed", "tuple", "__init__", "k", "input_data", "self", "db", "_db", "task_id", "dependency", "value", "_wall", "files", "file_path", "file_stat", "state", "dep", "current_state", "timestamp", "size", "file_md5", "info", "md5", "get_log", "status", "reasons", "error_reason", "reason", "arg", "backend", "checker", "_closed", "in_", "dump", "result_hash", "task", "name", "_set", "result", "get_md5", "file_dep", "_get", "get_state", "task_name", "key_name", "msg", "_in", "get_values", "tasks_dict", "uptodate_result_list", "utd", "utd_args", "utd_kwargs", "uptodate_result", "targ", "previous", "checker_name", "previous_set", "added_files", "removed_files", "changed", "error_msg", "DependencyStatus", "dep_changed", "uptodate", "UptodateCalculator", "setup", "tell", "add_reason", "set_reason", "targets", "exists", "check_modified", "dep_manager", "not_found", "message", "kind", "task_dep", "calc_dep", "subtask_of", "has_subtask", "getargs", "actions", "options", "setup_tasks", "_init_deps", "_init_getargs", "value_savers", "_init_uptodate", "_init_targets", "executed", "_expand_file_dep", "wild_dep", "_expand_task_dep", "_expand_calc_dep", "target", "item", "result_dep", "configure_task", "bool", "deps", "dep_values", "_extend_uptodate", "args", "check_result", "arg_name", "desc", "parts", "t", "setup_dep", "dep_task", "result_name", "_get_dep_result", "stream", "word", "init_options", "TaskFailed", "TaskError", "dep_task_name", "dep_name", "get_val", "prefix", "sub_tasks", "sub", "startswith", "dep_result", "_result_single", "_result_group", "last_success", "pattern", "at", "part", "found", "last", "split", "find", "endswith", "task_list", "tasks", "_def_order", "selected_tasks", "Task", "_get_wild_tasks", "_check_dep_names", "set_implicit_deps", "setup_task", "TaskControl", "add_implicit_task_dep", "deps_list", "wild_list", "t_name", "matches", "task_selection", "filter_list", "add_filtered_task", "seq", "f_name", "selected_task", "filter_", "_process_filter", "_filter_tasks", "TaskDispatcher", "parent", "ancestors", "wait_select", "wait_run", "wait_run_calc", "waiting_me", "run_status", "bad_deps", "ignored_deps", "phase", "parent_node", "nodes", "waiting", "ready", "tasks_to_run", "node", "cycle", "ExecNode", "new_node", "_gen_node", "calc", "wait_for", "dep_node", "parent_status", "_process_calc_dep_results", "this_task", "calc_dep_list", "task_dep_list", "_add_ready", "_node_add_wait_run", "processed", "waiting_node", "is_ready", "len_task_deps", "old_calc_dep", "new_task_dep", "new_calc_dep", "update_deps", "next_step", "_update_waiting", "_get_next_node", "_add_task", "rows", "fail", "get_name", "continue_", "always_execute", "reporter", "SUCCESS", "final_result", "_stop_running", "base_fail", "BaseFail", "remove_success", "add_failure", "ERROR", "FAILURE", "get_value", "arg_value", "base_len", "sub_id", "bad_str", "res", "get_status", "status_is_ignore", "skip_ignore", "UnmetDependency", "_handle_task_error", "get_error_message", "format", "DependencyError", "skip_uptodate", "_get_task_args", "execute_task", "execute", "save_extra_values", "save_success", "add_success", "task_dispatcher", "send", "select_task", "process_task_result", "close", "complete_run", "run_tasks", "finish", "lists", "n", "which", "store", "JsonDB", "MD5Checker", "TimestampChecker", "Dependency", "script", "a", "b", "row", "held", "stores", "number", "times", "gone", "seen", "due", "old", "manager", "control", "told", "_law_tasks", "_law_manager", "RowsReporter", "process", "Runner", "run_all"]
noncomputable def Sp:Ak:=⟨[26],[],[26],[.whl .tt [.pass]]⟩
noncomputable def OB:Ak:=⟨[27],[],[27],[.ret (.loc 27)]⟩
noncomputable def Iw:Ak:=⟨[28,29],[],[28,29],[.asgA (.loc 28) 30 (.loc 29)]⟩
noncomputable def Iy:Ak:=⟨[28],[],[28],[.ret .none]⟩
noncomputable def JL:Ak:=⟨[28,31,32,33],[],[28,31,32,33],[.iff (.cmp .NotIn (.loc 31) (.attr (.loc 28) 30)) [.asgI (.attr (.loc 28) 30) (.loc 31) (.dict [] [])] [],.asgI (.sub (.attr (.loc 28) 30) (.loc 31)) (.loc 32) (.loc 33)]⟩
noncomputable def JD:Ak:=⟨[28,31,32],[],[28,31,32],[.iff (.cmp .In (.loc 31) (.attr (.loc 28) 30)) [.ret (.meth (.sub (.attr (.loc 28) 30) (.loc 31)) 4 [.loc 32,.none] [])] []]⟩
noncomputable def JZ:Ak:=⟨[28,31],[],[28,31],[.ret (.cmp .In (.loc 31) (.attr (.loc 28) 30))]⟩
noncomputable def GZ:Ak:=⟨[28,31],[],[28,31],[.iff (.cmp .In (.loc 31) (.attr (.loc 28) 30)) [.del (.attr (.loc 28) 30) (.loc 31)] []]⟩
noncomputable def EN:Ak:=⟨[28],[],[28],[.expr (.call 34 [.int 0] [])]⟩
noncomputable def CZ:Ak:=⟨[28,35],[],[28,35],[.asgA (.loc 28) 35 (.loc 35)]⟩
noncomputable def Cr:Ak:=⟨[28,36],[],[28,36],[.ret (.cmp .In (.loc 36) (.attr (.loc 28) 35))]⟩
noncomputable def CY:Ak:=⟨[28,36],[],[28,36],[.iff (.cmp .NotIn (.loc 36) (.attr (.loc 28) 35)) [.bad] [],.ret (.sub (.attr (.loc 28) 35) (.loc 36))]⟩
noncomputable def Bp:Ak:=⟨[28,36,37,38],[],[28,36,37,38],[.bad]⟩
noncomputable def BV:Ak:=⟨[28,39,40],[],[28,39,40],[.bad]⟩
noncomputable def Co:Ak:=⟨[28,36,37,38],[],[28,36,37,38,41,42,43],[.asgT [41,42,43] (.loc 38),.iff (.cmp .Eq (.sub (.loc 37) (.int 0)) (.loc 41)) [.ret .ff] [],.iff (.cmp .NotEq (.sub (.loc 37) (.int 1)) (.loc 42)) [.ret .tt] [],.ret (.cmp .NotEq (.loc 43) (.sub (.meth (.loc 28) 44 [.loc 36] []) (.int 2)))]⟩
noncomputable def DN:Ak:=⟨[28,39,40],[],[28,39,40,41,42,45],[.asg 41 (.sub (.meth (.loc 28) 44 [.loc 39] []) (.int 0)),.iff (.bop true [.loc 40,.cmp .Eq (.sub (.loc 40) (.int 0)) (.loc 41)]) [.ret .none] [],.asg 42 (.sub (.meth (.loc 28) 44 [.loc 39] []) (.int 1)),.asg 45 (.sub (.meth (.loc 28) 44 [.loc 39] []) (.int 2)),.ret (.tup [.loc 41,.loc 42,.loc 45])]⟩
noncomputable def BD:Ak:=⟨[28,36,37,38],[],[28,36,37,38],[.ret (.cmp .NotEq (.sub (.loc 37) (.int 0)) (.loc 38))]⟩
noncomputable def Cc:Ak:=⟨[28,39,40],[],[28,39,40],[.ret (.sub (.meth (.loc 28) 44 [.loc 39] []) (.int 0))]⟩
noncomputable def DD:Ak:=⟨[28,46],[],[28,46],[.asgA (.loc 28) 46 (.loc 46),.asgA (.loc 28) 47 (.str [117,112,45,116,111,45,100,97,116,101]),.asgA (.loc 28) 48 (.dict [] []),.asgA (.loc 28) 49 .none]⟩
noncomputable def Cb:Ak:=⟨[28,50,51],[(47,.str [114,117,110])],[28,50,51,47],[.asgA (.loc 28) 47 (.loc 47),.iff (.attr (.loc 28) 46) [.iff (.cmp .NotIn (.loc 50) (.attr (.loc 28) 48)) [.asgI (.attr (.loc 28) 48) (.loc 50) (.list [])] [],.expr (.meth (.sub (.attr (.loc 28) 48) (.loc 50)) 0 [.loc 51] [])] [],.ret (.not (.attr (.loc 28) 46))]⟩
noncomputable def B3:Ak:=⟨[28,50,51],[],[28,50,51],[.asgA (.loc 28) 47 (.str [114,117,110]),.iff (.attr (.loc 28) 46) [.asgI (.attr (.loc 28) 48) (.loc 50) (.loc 51)] [],.ret (.not (.attr (.loc 28) 46))]⟩
noncomputable def Bn:Ak:=⟨[28],[],[28],[.ret (.attr (.loc 28) 49)]⟩
noncomputable def FF:Ak:=⟨[28,52,53],[],[28,52,53],[.asgA (.loc 28) 54 .ff,.asgA (.loc 28) 53 (.loc 53),.asgA (.loc 28) 52 (.loc 52)]⟩
noncomputable def FN:Ak:=⟨[28,31,32,33],[],[28,31,32,33],[.expr (.meth (.attr (.loc 28) 52) 18 [.loc 31,.loc 32,.loc 33] [])]⟩
noncomputable def Fx:Ak:=⟨[28,31,32],[],[28,31,32],[.ret (.meth (.attr (.loc 28) 52) 4 [.loc 31,.loc 32] [])]⟩
noncomputable def EP:Ak:=⟨[28,31],[],[28,31],[.expr (.meth (.attr (.loc 28) 52) 8 [.loc 31] [])]⟩
noncomputable def Dn:Ak:=⟨[28],[],[28],[.expr (.call 34 [.int 1] [])]⟩
noncomputable def Gu:Ak:=⟨[28,31],[],[28,31],[.ret (.meth (.attr (.loc 28) 52) 55 [.loc 31] [])]⟩
noncomputable def Fk:Ak:=⟨[28],[],[28],[.iff (.not (.attr (.loc 28) 54)) [.expr (.meth (.attr (.loc 28) 52) 56 [] []),.asgA (.loc 28) 54 .tt] []]⟩
noncomputable def C5:Ak:=⟨[28,58],[(57,.none)],[28,58,57,39,38],[.expr (.meth (.loc 28) 60 [.attr (.loc 58) 59,.str [95,118,97,108,117,101,115,95,58],.attr (.loc 58) 6] []),.iff (.cmp .IsNot (.loc 57) .none) [.expr (.meth (.loc 28) 60 [.attr (.loc 58) 59,.str [114,101,115,117,108,116,58],.loc 57] [])] [.iff (.attr (.loc 58) 61) [.iff (.call 21 [.attr (.loc 58) 61,.gref 17] []) [.expr (.meth (.loc 28) 60 [.attr (.loc 58) 59,.str [114,101,115,117,108,116,58],.attr (.loc 58) 61] [])] [.expr (.meth (.loc 28) 60 [.attr (.loc 58) 59,.str [114,101,115,117,108,116,58],.call 62 [.attr (.loc 58) 61] []] [])]] []],.expr (.meth (.loc 28) 60 [.attr (.loc 58) 59,.str [99,104,101,99,107,101,114,58],.attr (.attr (.loc 28) 53) 59] []),.for1 39 (.attr (.loc 58) 63) [.asg 38 (.meth (.attr (.loc 28) 53) 65 [.loc 39,.meth (.loc 28) 64 [.attr (.loc 58) 59,.loc 39] []] []),.iff (.cmp .IsNot (.loc 38) .none) [.expr (.meth (.loc 28) 60 [.attr (.loc 58) 59,.loc 39,.loc 38] [])] []],.expr (.meth (.loc 28) 60 [.attr (.loc 58) 59,.str [100,101,112,115,58],.call 24 [.attr (.loc 58) 63] []] [])]⟩
noncomputable def Di:Ak:=⟨[28,66],[],[28,66,6],[.asg 6 (.meth (.loc 28) 64 [.loc 66,.str [95,118,97,108,117,101,115,95,58]] []),.ret (.bop false [.loc 6,.dict [] []])]⟩
noncomputable def DS:Ak:=⟨[28,31,67],[],[28,31,67,6,68],[.iff (.not (.meth (.loc 28) 69 [.loc 31] [])) [.bad] [],.asg 6 (.meth (.loc 28) 70 [.loc 31] []),.iff (.cmp .NotIn (.loc 67) (.loc 6)) [.asg 68 (.str [73,110,118,97,108,105,100,32,97,114,103,32,110,97,109,101,46,32,84,97,115,107,32,39,37,115,39,32,104,97,115,32,110,111,32,118,97,108,117,101,32,102,111,114,32,39,37,115,39,46]),.bad] [],.ret (.sub (.loc 6) (.loc 67))]⟩
noncomputable def Dg:Ak:=⟨[28,66],[],[28,66],[.expr (.call 34 [.int 2] [])]⟩
noncomputable def CC:Ak:=⟨[28,58],[],[28,58],[.expr (.meth (.loc 28) 8 [.attr (.loc 58) 59] [])]⟩
noncomputable def EK:Ak:=⟨[28,58],[],[28,58],[.expr (.meth (.loc 28) 60 [.attr (.loc 58) 59,.str [105,103,110,111,114,101,58],.str [49]] [])]⟩
noncomputable def B9:Ak:=⟨[28,58],[],[28,58],[.ret (.meth (.loc 28) 64 [.attr (.loc 58) 59,.str [105,103,110,111,114,101,58]] [])]⟩
noncomputable def Dr:Ak:=⟨[28,58,71],[(46,.bool false)],[28,58,71,46,61,72,73,74,75,76,77,78,79,80,81,82,83,39,38,37,84],[.asg 61 (.call 85 [.loc 46] []),.asgA (.loc 58) 86 (.list []),.asg 72 (.list []),.forT [73,74,75] (.attr (.loc 58) 87) [.iff (.call 21 [.loc 73,.gref 88] []) [.expr (.meth (.loc 73) 89 [.loc 28,.loc 71] []),.asg 76 (.meth (.loc 73) 90 [.loc 58,.meth (.loc 28) 70 [.attr (.loc 58) 59] []] [])] [.asg 76 (.loc 73)],.iff (.cmp .Is (.loc 76) .none) [.cont] [],.expr (.meth (.loc 72) 0 [.loc 76] []),.iff (.not (.loc 76)) [.expr (.meth (.loc 61) 91 [.str [117,112,116,111,100,97,116,101,95,102,97,108,115,101],.tup [.loc 73,.loc 74,.loc 75]] [])] []],.iff (.bop true [.not (.loc 46),.cmp .Eq (.attr (.loc 61) 47) (.str [114,117,110])]) [.ret (.loc 61)] [],.iff (.not (.bop false [.attr (.loc 58) 63,.loc 72])) [.iff (.meth (.loc 61) 92 [.str [104,97,115,95,110,111,95,100,101,112,101,110,100,101,110,99,105,101,115],.tt] []) [.ret (.loc 61)] []] [],.for1 77 (.attr (.loc 58) 93) [.iff (.not (.meth (.attr (.loc 28) 53) 94 [.loc 77] [])) [.asgA (.loc 58) 86 (.call 16 [.attr (.loc 58) 63] []),.iff (.meth (.loc 61) 91 [.str [109,105,115,115,105,110,103,95,116,97,114,103,101,116],.loc 77] []) [.ret (.loc 61)] []] []],.asg 78 (.meth (.loc 28) 64 [.attr (.loc 58) 59,.str [99,104,101,99,107,101,114,58]] []),.asg 79 (.attr (.attr (.loc 28) 53) 59),.iff (.bop true [.loc 78,.cmp .NotEq (.loc 78) (.loc 79)]) [.asgA (.loc 58) 86 (.call 16 [.attr (.loc 58) 63] []),.expr (.meth (.loc 28) 8 [.attr (.loc 58) 59] []),.iff (.meth (.loc 61) 92 [.str [99,104,101,99,107,101,114,95,99,104,97,110,103,101,100],.tup [.loc 78,.loc 79]] []) [.ret (.loc 61)] []] [],.asg 78 (.meth (.loc 28) 64 [.attr (.loc 58) 59,.str [100,101,112,115,58]] []),.asg 80 (.ite (.loc 78) (.call 18 [.loc 78] []) .none),.iff (.bop true [.loc 80,.cmp .NotEq (.loc 80) (.call 18 [.attr (.loc 58) 63] [])]) [.iff (.loc 46) [.asg 81 (.call 12 [.lcomp (.loc 39) [39] true (.attr (.loc 58) 63) [.cmp .NotIn (.loc 39) (.loc 80)] [39] [80]] []),.asg 82 (.call 12 [.lcomp (.loc 39) [39] true (.loc 78) [.cmp .NotIn (.loc 39) (.attr (.loc 58) 63)] [39] [58]] []),.expr (.meth (.loc 61) 92 [.str [97,100,100,101,100,95,102,105,108,101,95,100,101,112],.loc 81] []),.expr (.meth (.loc 61) 92 [.str [114,101,109,111,118,101,100,95,102,105,108,101,95,100,101,112],.loc 82] [])] [],.asgA (.loc 61) 47 (.str [114,117,110])] [],.asg 83 (.list []),.for1 39 (.attr (.loc 58) 63) [.asg 38 (.meth (.loc 28) 64 [.attr (.loc 58) 59,.loc 39] []),.try_ [.asg 37 (.meth (.attr (.loc 28) 53) 44 [.loc 39] [])] [.iff (.bop false [.cmp .Is (.loc 38) .none,.meth (.attr (.loc 28) 53) 95 [.loc 39,.loc 37,.loc 38] []]) [.expr (.meth (.loc 83) 0 [.loc 39] [])] []] []],.asgA (.loc 58) 86 (.loc 83),.iff (.cmp .Gt (.call 10 [.loc 83] []) (.int 0)) [.expr (.meth (.loc 61) 92 [.str [99,104,97,110,103,101,100,95,102,105,108,101,95,100,101,112],.loc 83] [])] [],.ret (.loc 61)]⟩
noncomputable def C2:Ak:=⟨[28],[],[28],[.asgA (.loc 28) 96 .none,.asgA (.loc 28) 71 .none]⟩
noncomputable def CW:Ak:=⟨[28,96,71],[],[28,96,71],[.asgA (.loc 28) 96 (.loc 96),.asgA (.loc 28) 71 (.loc 71)]⟩
noncomputable def Cj:Ak:=⟨[28,31,32],[],[28,31,32],[.ret (.meth (.attr (.loc 28) 96) 64 [.loc 31,.loc 32] [])]⟩
noncomputable def D8:Ak:=⟨[28],[(97,.none)],[28,97],[.asgA (.loc 28) 97 (.loc 97)]⟩
noncomputable def Dv:Ak:=⟨[28,68],[],[28,68],[.asgA (.loc 28) 98 (.loc 68)]⟩
noncomputable def Cw:Ak:=⟨[28],[],[28],[.ret (.attr (.loc 28) 99)]⟩
noncomputable def Kn:Ak:=⟨[28,59,105],[(63,.tup []),(93,.tup []),(100,.tup []),(87,.tup []),(101,.tup []),(89,.tup []),(102,.none),(103,.bool false),(104,.none)],[28,59,105,63,93,100,87,101,89,102,103,104],[.asg 104 (.bop false [.loc 104,.dict [] []]),.iff (.cmp .In (.str [61]) (.loc 59)) [.bad] [],.asgA (.loc 28) 59 (.loc 59),.asgA (.loc 28) 106 .none,.asgA (.loc 28) 107 (.call 16 [.loc 89] []),.iff (.cmp .Is (.loc 105) .none) [.asgA (.loc 28) 105 (.list [])] [.asgA (.loc 28) 105 (.call 16 [.slc (.loc 105) .none .none .none] [])],.expr (.meth (.loc 28) 108 [.loc 63,.loc 100,.loc 101] []),.asg 87 (.ite (.loc 87) (.loc 87) (.list [])),.asgA (.loc 28) 104 (.loc 104),.iff (.attr (.loc 28) 104) [.expr (.meth (.loc 87) 1 [.meth (.loc 28) 109 [] []] [])] [],.asgA (.loc 28) 110 (.list []),.asgA (.loc 28) 87 (.meth (.loc 28) 111 [.loc 87] []),.asgA (.loc 28) 93 (.meth (.loc 28) 112 [.loc 93] []),.asgA (.loc 28) 102 (.loc 102),.asgA (.loc 28) 103 (.loc 103),.asgA (.loc 28) 61 .none,.asgA (.loc 28) 6 (.dict [] []),.asgA (.loc 28) 113 .ff]⟩
noncomputable def FQ:Ak:=⟨[28,63,100,101],[],[28,63,100,101],[.asgA (.loc 28) 86 .none,.asgA (.loc 28) 63 (.list []),.expr (.meth (.loc 28) 114 [.loc 63] []),.asgA (.loc 28) 100 (.list []),.asgA (.loc 28) 115 (.list []),.iff (.loc 100) [.expr (.meth (.loc 28) 116 [.loc 100] [])] [],.asgA (.loc 28) 101 (.list []),.iff (.loc 101) [.expr (.meth (.loc 28) 117 [.loc 101] [])] []]⟩
noncomputable def Er:Ak:=⟨[28,5],[],[28,5,93,118],[.asg 93 (.list []),.for1 118 (.loc 5) [.iff (.call 21 [.loc 118,.gref 19] []) [.expr (.meth (.loc 93) 0 [.loc 118] [])] [.bad]],.ret (.loc 93)]⟩
noncomputable def D5:Ak:=⟨[28,5],[],[28,5,87,119],[.asg 87 (.list []),.for1 119 (.loc 5) [.iff (.call 21 [.loc 119,.gref 120] []) [.expr (.meth (.loc 119) 121 [.loc 28] [])] [],.iff (.bop false [.call 21 [.loc 119,.gref 122] [],.cmp .Is (.loc 119) .none]) [.expr (.meth (.loc 87) 0 [.tup [.loc 119,.none,.none]] [])] [.iff (.call 21 [.loc 119,.gref 120] []) [.expr (.meth (.loc 87) 0 [.tup [.loc 119,.list [],.dict [] []]] [])] [.bad]]],.ret (.loc 87)]⟩
noncomputable def Du:Ak:=⟨[28,63],[],[28,63,39],[.for1 39 (.loc 63) [.iff (.call 21 [.loc 39,.gref 19] []) [.iff (.cmp .NotIn (.loc 39) (.attr (.loc 28) 63)) [.expr (.meth (.attr (.loc 28) 63) 0 [.loc 39] [])] []] [.bad]]]⟩
noncomputable def DB:Ak:=⟨[28,100],[],[28,100,39],[.for1 39 (.loc 100) [.iff (.cmp .In (.str [42]) (.loc 39)) [.expr (.meth (.attr (.loc 28) 115) 0 [.loc 39] [])] [.expr (.meth (.attr (.loc 28) 100) 0 [.loc 39] [])]]]⟩
noncomputable def DC:Ak:=⟨[28,101],[],[28,101,39],[.for1 39 (.loc 101) [.iff (.cmp .NotIn (.loc 39) (.attr (.loc 28) 101)) [.expr (.meth (.attr (.loc 28) 101) 0 [.loc 39] [])] []]]⟩
noncomputable def Dp:Ak:=⟨[28,87],[],[28,87],[.expr (.meth (.attr (.loc 28) 87) 1 [.meth (.loc 28) 111 [.loc 87] []] [])]⟩
noncomputable def E8:Ak:=⟨[28,123],[],[28,123,39,124],[.forT [39,124] (.meth (.loc 123) 5 [] []) [.iff (.cmp .Eq (.loc 39) (.str [116,97,115,107,95,100,101,112])) [.expr (.meth (.loc 28) 116 [.loc 124] [])] [.iff (.cmp .Eq (.loc 39) (.str [102,105,108,101,95,100,101,112])) [.expr (.meth (.loc 28) 114 [.loc 124] [])] [.iff (.cmp .Eq (.loc 39) (.str [99,97,108,99,95,100,101,112])) [.expr (.meth (.loc 28) 117 [.loc 124] [])] [.iff (.cmp .Eq (.loc 39) (.str [117,112,116,111,100,97,116,101])) [.expr (.meth (.loc 28) 125 [.loc 124] [])] []]]]]]⟩
noncomputable def EQ:Ak:=⟨[28],[(126,.none)],[28,126],[.iff (.cmp .Is (.attr (.loc 28) 106) .none) [.asgA (.loc 28) 106 (.dict [] []),.ret (.loc 126)] []]⟩
noncomputable def Eg:Ak:=⟨[28],[],[28,127,128,129,130],[.asg 127 (.list []),.forT [128,129] (.meth (.attr (.loc 28) 104) 5 [] []) [.asg 130 (.loc 129),.iff (.bop false [.call 21 [.loc 130,.gref 19] [],.cmp .NotEq (.call 10 [.loc 130] []) (.int 2)]) [.bad] [],.iff (.bop true [.cmp .NotIn (.sub (.loc 130) (.int 0)) (.attr (.loc 28) 107),.cmp .NotIn (.sub (.loc 130) (.int 0)) (.loc 127)]) [.expr (.meth (.loc 127) 0 [.sub (.loc 130) (.int 0)] [])] []],.ret (.lcomp (.call 120 [.loc 131] [(132,.tt)]) [131] true (.loc 127) [] [131] [])]⟩
noncomputable def Da:Ak:=⟨[28],[],[28,39,133],[.forT [39,133] (.attr (.loc 28) 110) [.expr (.meth (.attr (.loc 28) 6) 7 [.dict [.attr (.loc 39) 134] [.meth (.loc 39) 135 [.loc 133] []]] [])]]⟩
noncomputable def Hy:Ak:=⟨[28,136],[],[28,136,137,61,6],[.asgA (.loc 28) 113 .tt,.expr (.meth (.loc 28) 138 [] []),.forT [137,61,6] (.attr (.loc 28) 105) [.iff (.cmp .Eq (.loc 137) (.str [102,97,105,108])) [.ret (.call 139 [.loc 61] [])] [],.iff (.cmp .Eq (.loc 137) (.str [101,114,114,111,114])) [.ret (.call 140 [.loc 61] [])] [],.asgA (.loc 28) 61 (.loc 61),.expr (.meth (.attr (.loc 28) 6) 7 [.loc 6] [])]]⟩
noncomputable def FR:Ak:=⟨[28,141],[(132,.bool false)],[28,141,132],[.asgA (.loc 28) 142 (.loc 141),.asgA (.loc 28) 132 (.loc 132),.asgA (.loc 28) 134 (.bin .Mod (.str [95,114,101,115,117,108,116,58,37,115]) (.attr (.loc 28) 142))]⟩
noncomputable def Cp:Ak:=⟨[28,58],[],[28,58],[.iff (.attr (.loc 28) 132) [.expr (.meth (.attr (.loc 58) 107) 0 [.attr (.loc 28) 142] [])] [.expr (.meth (.attr (.loc 58) 100) 0 [.attr (.loc 28) 142] [])]]⟩
noncomputable def CB:Ak:=⟨[28],[],[28],[.ret (.meth (.loc 28) 143 [.attr (.loc 28) 142,.str [114,101,115,117,108,116,58]] [])]⟩
noncomputable def CG:Ak:=⟨[28,133],[],[28,133,144,145,146],[.asg 144 (.bin .Add (.attr (.loc 133) 59) (.str [58])),.asg 145 (.dict [] []),.for1 146 (.attr (.loc 133) 100) [.iff (.meth (.loc 146) 147 [.loc 144] []) [.asgI (.loc 145) (.loc 146) (.meth (.loc 28) 143 [.loc 146,.str [114,101,115,117,108,116,58]] [])] []],.ret (.loc 145)]⟩
noncomputable def Cd:Ak:=⟨[28,133],[],[28,133,148],[.iff (.not (.attr (.loc 133) 103)) [.asg 148 (.meth (.loc 28) 149 [] [])] [.asg 148 (.meth (.loc 28) 150 [.loc 133] [])],.ret (.loc 148)]⟩
noncomputable def F7:Ak:=⟨[28,58,6],[],[28,58,6,133,148,151],[.asg 133 (.sub (.attr (.loc 28) 71) (.attr (.loc 28) 142)),.asg 148 (.meth (.loc 28) 135 [.loc 133] []),.expr (.meth (.attr (.loc 58) 110) 0 [.tup [.loc 28,.loc 133]] []),.asg 151 (.meth (.loc 6) 4 [.attr (.loc 28) 134] []),.iff (.cmp .Is (.loc 151) .none) [.ret .ff] [],.ret (.cmp .Eq (.loc 151) (.loc 148))]⟩
noncomputable def NW:Ak:=⟨[59,152],[],[59,152,130,153,154,155,156],[.asg 130 (.meth (.loc 152) 157 [.str [42]] []),.iff (.cmp .Eq (.call 10 [.loc 130] []) (.int 1)) [.ret (.cmp .Eq (.loc 59) (.loc 152))] [],.iff (.not (.meth (.loc 59) 147 [.sub (.loc 130) (.int 0)] [])) [.ret .ff] [],.asg 153 (.call 10 [.sub (.loc 130) (.int 0)] []),.for1 154 (.slc (.loc 130) (.int 1) (.bin .Sub (.call 10 [.loc 130] []) (.int 1)) .none) [.asg 155 (.meth (.loc 59) 158 [.loc 154,.loc 153] []),.iff (.cmp .Lt (.loc 155) (.int 0)) [.ret .ff] [],.asg 153 (.bin .Add (.loc 155) (.call 10 [.loc 154] []))],.asg 156 (.sub (.loc 130) (.bin .Sub (.call 10 [.loc 130] []) (.int 1))),.ret (.bop true [.cmp .GtE (.bin .Sub (.call 10 [.loc 59] []) (.loc 153)) (.call 10 [.loc 156] []),.meth (.loc 59) 159 [.loc 156] []])]⟩
noncomputable def E4:Ak:=⟨[28,160],[],[28,160,58,68,152],[.asgA (.loc 28) 161 (.dict [] []),.asgA (.loc 28) 93 (.dict [] []),.asgA (.loc 28) 162 (.list []),.asgA (.loc 28) 163 .none,.for1 58 (.loc 160) [.iff (.not (.call 21 [.loc 58,.gref 164] [])) [.asg 68 (.str [84,97,115,107,32,109,117,115,116,32,98,101,32,97,110,32,105,110,115,116,97,110,99,101,32,111,102,32,84,97,115,107,32,99,108,97,115,115,46]),.bad] [],.iff (.cmp .In (.attr (.loc 58) 59) (.attr (.loc 28) 161)) [.asg 68 (.str [84,97,115,107,32,110,97,109,101,115,32,109,117,115,116,32,98,101,32,117,110,105,113,117,101,46,32,37,115]),.bad] [],.asgI (.attr (.loc 28) 161) (.attr (.loc 58) 59) (.loc 58),.expr (.meth (.attr (.loc 28) 162) 0 [.attr (.loc 58) 59] [])],.for1 58 (.meth (.attr (.loc 28) 161) 6 [] []) [.for1 152 (.attr (.loc 58) 115) [.expr (.meth (.attr (.loc 58) 100) 1 [.meth (.loc 28) 165 [.loc 152] []] [])]],.expr (.meth (.loc 28) 166 [] []),.expr (.meth (.loc 28) 167 [.attr (.loc 28) 93,.loc 160] [])]⟩
noncomputable def BR:Ak:=⟨[28],[],[28,58,39,68,168],[.for1 58 (.meth (.attr (.loc 28) 161) 6 [] []) [.for1 39 (.attr (.loc 58) 100) [.iff (.cmp .NotIn (.loc 39) (.attr (.loc 28) 161)) [.bad,.bad] []],.for1 168 (.attr (.loc 58) 107) [.iff (.cmp .NotIn (.loc 168) (.attr (.loc 28) 161)) [.bad,.bad] []]]]⟩
noncomputable def BN:Ak:=⟨[93,160],[],[93,160,58,118,68],[.for1 58 (.loc 160) [.for1 118 (.attr (.loc 58) 93) [.iff (.cmp .In (.loc 118) (.loc 93)) [.asg 68 (.str [84,119,111,32,100,105,102,102,101,114,101,110,116,32,116,97,115,107,115,32,99,97,110,39,116,32,104,97,118,101,32,97,32,99,111,109,109,111,110,32,116,97,114,103,101,116,46,39,37,115,39,32,105,115,32,97,32,116,97,114,103,101,116,32,102,111,114,32,37,115,32,97,110,100,32,37,115,46]),.bad] [],.asgI (.loc 93) (.loc 118) (.attr (.loc 58) 59)]],.for1 58 (.loc 160) [.expr (.meth (.gref 169) 170 [.loc 93,.loc 58,.attr (.loc 58) 63] [])]]⟩
noncomputable def Bq:Ak:=⟨[93,58,171],[],[93,58,171,39],[.for1 39 (.loc 171) [.iff (.bop true [.cmp .In (.loc 39) (.loc 93),.cmp .NotIn (.sub (.loc 93) (.loc 39)) (.attr (.loc 58) 100)]) [.expr (.meth (.attr (.loc 58) 100) 0 [.sub (.loc 93) (.loc 39)] [])] []]]⟩
noncomputable def B6:Ak:=⟨[28,152],[],[28,152,172,173],[.asg 172 (.list []),.for1 173 (.attr (.loc 28) 162) [.iff (.call 174 [.loc 173,.loc 152] []) [.expr (.meth (.loc 172) 0 [.loc 173] [])] []],.ret (.loc 172)]⟩
noncomputable def B4:Ak:=⟨[28,175],[],[28,175,176,177,178,179,66],[.asg 176 (.list []),.def_ 177,.asg 178 (.slc (.loc 175) .none .none .none),.whl (.loc 178) [.asg 179 (.meth (.loc 178) 2 [.int 0] []),.iff (.cmp .In (.str [42]) (.loc 179)) [.for1 66 (.meth (.loc 28) 165 [.loc 179] []) [.expr (.lcall 177 [.tup [],.loc 66])]] [.asg 178 (.lcall 177 [.loc 178,.loc 179])]],.ret (.loc 176)]⟩
noncomputable def Cn:Ak:=⟨[28,175],[],[28,175,180,176,181],[.asg 180 (.list []),.asg 176 (.meth (.loc 28) 182 [.loc 175] []),.for1 181 (.loc 176) [.iff (.cmp .In (.loc 181) (.attr (.loc 28) 161)) [.expr (.meth (.loc 180) 0 [.loc 181] []),.cont] [],.iff (.cmp .In (.loc 181) (.attr (.loc 28) 93)) [.expr (.meth (.loc 180) 0 [.sub (.attr (.loc 28) 93) (.loc 181)] []),.cont] [],.bad],.ret (.loc 180)]⟩
noncomputable def D3:Ak:=⟨[28,175],[],[28,175],[.iff (.cmp .IsNot (.loc 175) .none) [.asgA (.loc 28) 163 (.meth (.loc 28) 183 [.loc 175] [])] [.asgA (.loc 28) 163 (.attr (.loc 28) 162)]]⟩
noncomputable def B8:Ak:=⟨[28],[],[28],[.assert (.cmp .IsNot (.attr (.loc 28) 163) .none),.ret (.call 184 [.attr (.loc 28) 161,.attr (.loc 28) 93,.attr (.loc 28) 163] [])]⟩
noncomputable def GW:Ak:=⟨[28,58,185],[],[28,58,185],[.asgA (.loc 28) 58 (.loc 58),.asgA (.loc 28) 100 (.slc (.attr (.loc 58) 100) .none .none .none),.asgA (.loc 28) 101 (.slc (.attr (.loc 58) 101) .none .none .none),.asgA (.loc 28) 186 (.list []),.iff (.loc 185) [.expr (.meth (.attr (.loc 28) 186) 1 [.attr (.loc 185) 186] [])] [],.expr (.meth (.attr (.loc 28) 186) 0 [.attr (.loc 58) 59] []),.asgA (.loc 28) 187 .ff,.asgA (.loc 28) 188 (.call 18 [] []),.asgA (.loc 28) 189 (.call 18 [] []),.asgA (.loc 28) 190 (.dict [] []),.asgA (.loc 28) 191 .none,.asgA (.loc 28) 192 (.list []),.asgA (.loc 28) 193 (.list []),.asgA (.loc 28) 194 (.int 0)]⟩
noncomputable def C9:Ak:=⟨[28,195],[],[28,195],[.iff (.cmp .Eq (.attr (.loc 195) 191) (.str [102,97,105,108,117,114,101])) [.expr (.meth (.attr (.loc 28) 192) 0 [.loc 195] [])] [.iff (.cmp .Eq (.attr (.loc 195) 191) (.str [105,103,110,111,114,101])) [.expr (.meth (.attr (.loc 28) 193) 0 [.loc 195] [])] []]]⟩
noncomputable def D7:Ak:=⟨[28,161,93,163],[],[28,161,93,163],[.asgA (.loc 28) 161 (.loc 161),.asgA (.loc 28) 93 (.loc 93),.asgA (.loc 28) 163 (.loc 163),.asgA (.loc 28) 196 (.dict [] []),.asgA (.loc 28) 197 (.dict [] []),.asgA (.loc 28) 198 (.list []),.asgA (.loc 28) 199 (.call 16 [.call 23 [.loc 163] []] []),.asgA (.loc 28) 200 .none]⟩
noncomputable def CU:Ak:=⟨[28,185,66],[],[28,185,66,200,68,201],[.asg 200 (.meth (.attr (.loc 28) 196) 4 [.loc 66,.none] []),.iff (.cmp .Is (.loc 200) .none) [.asg 200 (.call 202 [.sub (.attr (.loc 28) 161) (.loc 66),.loc 185] []),.asgI (.attr (.loc 28) 196) (.loc 66) (.loc 200),.ret (.loc 200)] [],.iff (.bop true [.loc 185,.cmp .In (.loc 66) (.attr (.loc 185) 186)]) [.asg 68 (.str [67,121,99,108,105,99,47,114,101,99,117,114,115,105,118,101,32,100,101,112,101,110,100,101,110,99,105,101,115,32,102,111,114,32,116,97,115,107,32,37,115,58,32,91,37,115,93]),.asg 201 (.meth (.str [32,45,62,32]) 9 [.bin .Add (.attr (.loc 185) 186) (.list [.loc 66])] []),.bad] [],.ret .none]⟩
noncomputable def Cv:Ak:=⟨[28,185,66],[],[28,185,66,203],[.asg 203 (.meth (.loc 28) 204 [.loc 185,.loc 66] []),.iff (.cmp .IsNot (.loc 203) .none) [.expr (.meth (.attr (.loc 28) 198) 0 [.loc 203] [])] []]⟩
noncomputable def Br:Ak:=⟨[28,200,160],[(205,.bool false)],[28,200,160,205,206,59,207],[.asg 206 (.list []),.for1 59 (.loc 160) [.asg 207 (.sub (.attr (.loc 28) 196) (.loc 59)),.iff (.bop false [.not (.loc 207),.cmp .In (.attr (.loc 207) 191) (.tup [.none,.str [114,117,110]])]) [.iff (.cmp .NotIn (.loc 59) (.loc 206)) [.expr (.meth (.loc 206) 0 [.loc 59] [])] []] [.expr (.meth (.loc 200) 208 [.loc 207] []),.iff (.loc 205) [.expr (.meth (.loc 28) 209 [.loc 207,.loc 200] [])] []]],.for1 59 (.loc 206) [.asgI (.attr (.sub (.attr (.loc 28) 196) (.loc 59)) 190) (.attr (.attr (.loc 200) 58) 59) (.loc 200)],.iff (.loc 205) [.expr (.meth (.attr (.loc 200) 189) 7 [.loc 206] [])] [.expr (.meth (.attr (.loc 200) 188) 7 [.loc 206] [])]]⟩
noncomputable def CK:Ak:=⟨[28,200],[],[28,200,210,211,212,101,100,168],[.asg 210 (.attr (.loc 200) 58),.whl (.cmp .Eq (.attr (.loc 200) 194) (.int 0)) [.asg 211 (.attr (.loc 200) 101),.asgA (.loc 200) 101 (.list []),.asg 212 (.slc (.attr (.loc 200) 100) .none .none .none),.asgA (.loc 200) 100 (.list []),.for1 101 (.loc 211) [.expr (.meth (.loc 28) 213 [.loc 200,.loc 101] [])],.expr (.meth (.loc 28) 214 [.loc 200,.loc 211] [(205,.tt)]),.for1 100 (.loc 212) [.expr (.meth (.loc 28) 213 [.loc 200,.loc 100] [])],.expr (.meth (.loc 28) 214 [.loc 200,.loc 212] []),.iff (.bop false [.attr (.loc 200) 101,.attr (.loc 200) 100]) [.cont] [.iff (.bop false [.attr (.loc 200) 188,.attr (.loc 200) 189]) [.ret (.str [119,97,105,116])] [.asgA (.loc 200) 194 (.int 1),.ret (.str [116,97,115,107])]]],.iff (.attr (.loc 210) 107) [.iff (.cmp .Eq (.attr (.loc 200) 194) (.int 1)) [.asgA (.loc 200) 194 (.int 2),.iff (.cmp .Is (.attr (.loc 200) 191) .none) [.asgA (.loc 200) 187 .tt,.ret (.str [119,97,105,116])] []] [],.iff (.bop true [.cmp .Eq (.attr (.loc 200) 194) (.int 2),.cmp .Eq (.attr (.loc 200) 191) (.str [114,117,110])]) [.for1 168 (.attr (.loc 210) 107) [.expr (.meth (.loc 28) 213 [.loc 200,.loc 168] [])],.expr (.meth (.loc 28) 214 [.loc 200,.attr (.loc 210) 107] []),.asgA (.loc 200) 194 (.int 3),.iff (.attr (.loc 200) 188) [.ret (.str [119,97,105,116])] []] [],.iff (.cmp .Eq (.attr (.loc 200) 194) (.int 3)) [.asgA (.loc 200) 194 (.int 4),.ret (.str [116,97,115,107])] []] [],.ret .none]⟩
noncomputable def BO:Ak:=⟨[28,198,199],[],[28,198,199,66,200],[.iff (.loc 198) [.ret (.meth (.loc 198) 2 [.int 0] [])] [],.whl (.loc 199) [.asg 66 (.meth (.loc 199) 2 [] []),.asg 200 (.meth (.loc 28) 204 [.none,.loc 66] []),.iff (.loc 200) [.ret (.loc 200)] []],.ret .none]⟩
noncomputable def BJ:Ak:=⟨[28,215],[],[28,215,200,216,66,217],[.iff (.cmp .Is (.loc 215) .none) [.ret .none] [],.asg 200 (.loc 215),.iff (.attr (.loc 200) 187) [.expr (.meth (.attr (.loc 28) 198) 0 [.loc 200] []),.del (.attr (.loc 28) 197) (.attr (.attr (.loc 200) 58) 59),.asgA (.loc 200) 187 .ff] [],.iff (.cmp .Eq (.attr (.loc 200) 191) (.str [114,117,110])) [.ret .none] [],.for1 216 (.call 16 [.meth (.attr (.loc 200) 190) 6 [] []] []) [.expr (.meth (.loc 216) 208 [.loc 200] []),.asg 66 (.attr (.attr (.loc 200) 58) 59),.iff (.cmp .In (.loc 66) (.attr (.loc 216) 188)) [.expr (.meth (.attr (.loc 216) 188) 8 [.loc 66] []),.asg 217 (.not (.bop false [.attr (.loc 216) 188,.attr (.loc 216) 189]))] [.assert (.cmp .In (.loc 66) (.attr (.loc 216) 189)),.expr (.meth (.attr (.loc 216) 189) 8 [.loc 66] []),.asg 217 .tt,.expr (.meth (.loc 28) 209 [.loc 200,.loc 216] [])],.iff (.bop true [.loc 217,.cmp .In (.attr (.attr (.loc 216) 58) 59) (.attr (.loc 28) 197)]) [.expr (.meth (.attr (.loc 28) 198) 0 [.loc 216] []),.del (.attr (.loc 28) 197) (.attr (.attr (.loc 216) 58) 59)] []]]⟩
noncomputable def A8:Ak:=⟨[28,200,216],[],[28,200,216,6,218,219,220,221],[.asg 6 (.attr (.attr (.loc 200) 58) 6),.asg 218 (.call 10 [.attr (.attr (.loc 216) 58) 100] []),.asg 219 (.slc (.attr (.attr (.loc 216) 58) 101) .none .none .none),.expr (.meth (.attr (.loc 216) 58) 222 [.loc 6] []),.expr (.meth (.gref 169) 170 [.attr (.loc 28) 93,.attr (.loc 216) 58,.meth (.loc 6) 4 [.str [102,105,108,101,95,100,101,112],.list []] []] []),.asg 220 (.slc (.attr (.attr (.loc 216) 58) 100) (.loc 218) .none .none),.expr (.meth (.attr (.loc 216) 100) 1 [.loc 220] []),.for1 221 (.attr (.attr (.loc 216) 58) 101) [.iff (.bop true [.cmp .NotIn (.loc 221) (.loc 219),.cmp .NotIn (.loc 221) (.attr (.loc 216) 101)]) [.expr (.meth (.attr (.loc 216) 101) 0 [.loc 221] [])] []]]⟩
noncomputable def D6:Ak:=⟨[28,215],[],[28,215,223],[.expr (.meth (.loc 28) 224 [.loc 215] []),.whl .tt [.iff (.not (.attr (.loc 28) 200)) [.asgA (.loc 28) 200 (.meth (.loc 28) 225 [.attr (.loc 28) 198,.attr (.loc 28) 199] []),.iff (.not (.attr (.loc 28) 200)) [.iff (.attr (.loc 28) 197) [.bad] [],.ret .none] []] [],.asg 223 (.meth (.loc 28) 226 [.attr (.loc 28) 200] []),.iff (.cmp .Is (.loc 223) .none) [.asgA (.loc 28) 200 .none,.cont] [],.iff (.cmp .Eq (.loc 223) (.str [116,97,115,107])) [.ret (.attr (.loc 28) 200)] [],.assert (.cmp .Eq (.loc 223) (.str [119,97,105,116])),.asgI (.attr (.loc 28) 197) (.attr (.attr (.attr (.loc 28) 200) 58) 59) (.attr (.loc 28) 200),.asgA (.loc 28) 200 .none]]⟩
noncomputable def EM:Ak:=⟨[28],[],[28],[.asgA (.loc 28) 227 (.list [])]⟩
noncomputable def C3:Ak:=⟨[28,58],[],[28,58],[.expr (.meth (.attr (.loc 28) 227) 0 [.tup [.str [115,116,97,116,117,115],.attr (.loc 58) 59,.str []]] [])]⟩
noncomputable def Cy:Ak:=⟨[28,58],[],[28,58],[.expr (.meth (.attr (.loc 28) 227) 0 [.tup [.str [101,120,101,99,117,116,101],.attr (.loc 58) 59,.str []]] [])]⟩
noncomputable def CX:Ak:=⟨[28,58,228],[],[28,58,228],[.expr (.meth (.attr (.loc 28) 227) 0 [.tup [.str [102,97,105,108,117,114,101],.attr (.loc 58) 59,.meth (.loc 228) 229 [] []]] [])]⟩
noncomputable def CV:Ak:=⟨[28,58],[],[28,58],[.expr (.meth (.attr (.loc 28) 227) 0 [.tup [.str [115,117,99,99,101,115,115],.attr (.loc 58) 59,.str []]] [])]⟩
noncomputable def Ck:Ak:=⟨[28,58],[],[28,58],[.expr (.meth (.attr (.loc 28) 227) 0 [.tup [.str [117,112,45,116,111,45,100,97,116,101],.attr (.loc 58) 59,.str []]] [])]⟩
noncomputable def CP:Ak:=⟨[28,58],[],[28,58],[.expr (.meth (.attr (.loc 28) 227) 0 [.tup [.str [105,103,110,111,114,101],.attr (.loc 58) 59,.str []]] [])]⟩
noncomputable def Cf:Ak:=⟨[28,68],[],[28,68],[.expr (.meth (.attr (.loc 28) 227) 0 [.tup [.str [101,114,114,111,114],.str [],.str []]] [])]⟩
noncomputable def Cm:Ak:=⟨[28],[],[28],[.expr (.meth (.attr (.loc 28) 227) 0 [.tup [.str [101,110,100],.str [],.str []]] [])]⟩
noncomputable def Ix:Ak:=⟨[28,96,232],[(230,.bool false),(231,.bool false)],[28,96,232,230,231],[.asgA (.loc 28) 96 (.loc 96),.asgA (.loc 28) 232 (.loc 232),.asgA (.loc 28) 230 (.loc 230),.asgA (.loc 28) 231 (.loc 231),.asgA (.loc 28) 234 (.gint 233 0),.asgA (.loc 28) 235 .ff]⟩
noncomputable def Cz:Ak:=⟨[28,200,236],[],[28,200,236],[.assert (.call 21 [.loc 236,.gref 237] []),.asgA (.loc 200) 191 (.str [102,97,105,108,117,114,101]),.expr (.meth (.attr (.loc 28) 96) 238 [.attr (.loc 200) 58] []),.expr (.meth (.attr (.loc 28) 232) 239 [.attr (.loc 200) 58,.loc 236] []),.iff (.bop true [.call 21 [.loc 236,.gref 139] [],.cmp .NotEq (.attr (.loc 28) 234) (.gint 240 2)]) [.asgA (.loc 28) 234 (.gint 241 1)] [.asgA (.loc 28) 234 (.gint 240 2)],.iff (.not (.attr (.loc 28) 230)) [.asgA (.loc 28) 235 .tt] []]⟩
noncomputable def Df:Ak:=⟨[28,58,71],[],[28,58,71,242,51,33,31,67,243,244,245,59],[.expr (.meth (.loc 58) 138 [] []),.def_ 242,.forT [51,33] (.meth (.attr (.loc 58) 104) 5 [] []) [.asgT [31,67] (.loc 33),.iff (.attr (.sub (.loc 71) (.loc 31)) 103) [.asg 243 (.dict [] []),.asg 244 (.bin .Add (.call 10 [.loc 31] []) (.int 1)),.for1 245 (.attr (.sub (.loc 71) (.loc 31)) 100) [.asg 59 (.slc (.loc 245) (.loc 244) .none .none),.asgI (.loc 243) (.loc 59) (.lcall 242 [.loc 245,.loc 67])]] [.asg 243 (.lcall 242 [.loc 31,.loc 67])],.asgI (.attr (.loc 58) 106) (.loc 51) (.loc 243)]]⟩
noncomputable def Em:Ak:=⟨[28,200,71],[],[28,200,71,58,246,247,68],[.asg 58 (.attr (.loc 200) 58),.iff (.cmp .Is (.attr (.loc 200) 191) .none) [.expr (.meth (.attr (.loc 28) 232) 248 [.loc 58] []),.iff (.bop false [.attr (.loc 200) 193,.meth (.attr (.loc 28) 96) 249 [.loc 58] []]) [.asgA (.loc 200) 191 (.str [105,103,110,111,114,101]),.expr (.meth (.attr (.loc 28) 232) 250 [.loc 58] []),.ret .ff] [],.iff (.attr (.loc 200) 192) [.bad,.expr (.meth (.loc 28) 252 [.loc 200,.call 251 [.loc 246] []] []),.ret .ff] [],.asg 247 (.meth (.attr (.loc 28) 96) 248 [.loc 58,.loc 71] []),.iff (.cmp .Eq (.attr (.loc 247) 47) (.str [101,114,114,111,114])) [.asg 68 (.meth (.str [69,82,82,79,82,58,32,84,97,115,107,32,39,123,125,39,32,99,104,101,99,107,105,110,103,32,100,101,112,101,110,100,101,110,99,105,101,115,58,32,123,125]) 254 [.attr (.loc 58) 59,.meth (.loc 247) 253 [] []] []),.expr (.meth (.loc 28) 252 [.loc 200,.call 255 [.loc 68] []] []),.ret .ff] [],.iff (.attr (.loc 28) 231) [.asgA (.loc 200) 191 (.str [114,117,110])] [.asgA (.loc 200) 191 (.attr (.loc 247) 47)],.iff (.cmp .Eq (.attr (.loc 200) 191) (.str [117,112,45,116,111,45,100,97,116,101])) [.expr (.meth (.attr (.loc 28) 232) 256 [.loc 58] []),.asgA (.loc 58) 6 (.meth (.attr (.loc 28) 96) 70 [.attr (.loc 58) 59] []),.ret .ff] [],.iff (.attr (.loc 58) 107) [.ret .ff] []] [.assert (.cmp .Eq (.attr (.loc 200) 191) (.str [114,117,110])),.assert (.attr (.loc 58) 107)],.try_ [.expr (.meth (.loc 28) 257 [.loc 58,.loc 71] [])] [] [],.ret .tt]⟩
noncomputable def D4:Ak:=⟨[28,58],[],[28,58],[.expr (.meth (.attr (.loc 28) 232) 258 [.loc 58] []),.ret (.meth (.loc 58) 259 [.none] [])]⟩
noncomputable def Cg:Ak:=⟨[28,200,236],[],[28,200,236,58,68],[.asg 58 (.attr (.loc 200) 58),.iff (.cmp .Is (.loc 236) .none) [.expr (.meth (.loc 58) 260 [] []),.try_ [.expr (.meth (.attr (.loc 28) 96) 261 [.loc 58] [])] [.asgA (.loc 200) 191 (.str [115,117,99,99,101,115,115,102,117,108]),.expr (.meth (.attr (.loc 28) 232) 262 [.loc 58] []),.ret .none] []] [],.expr (.meth (.loc 28) 252 [.loc 200,.loc 236] [])]⟩
noncomputable def Fb:Ak:=⟨[28,263],[],[28,263,200,236],[.asg 200 .none,.whl .tt [.iff (.attr (.loc 28) 235) [.brk] [],.asg 200 (.meth (.loc 263) 264 [.loc 200] []),.iff (.cmp .Is (.loc 200) .none) [.brk] [],.iff (.not (.meth (.loc 28) 265 [.loc 200,.attr (.loc 263) 161] [])) [.cont] [],.asg 236 (.meth (.loc 28) 258 [.attr (.loc 200) 58] []),.expr (.meth (.loc 28) 266 [.loc 200,.loc 236] [])]]⟩
noncomputable def GU:Ak:=⟨[28],[],[28],[.expr (.meth (.attr (.loc 28) 96) 267 [] []),.expr (.meth (.attr (.loc 28) 232) 268 [] []),.ret (.attr (.loc 28) 234)]⟩
noncomputable def Gp:Ak:=⟨[28,263],[],[28,263],[.try_ [.expr (.meth (.loc 28) 269 [.loc 263] [])] [] [.expr (.meth (.loc 28) 270 [] [])],.ret (.attr (.loc 28) 234)]⟩
noncomputable def JU:Ak:=⟨[271],[],[271],[.ret (.lcomp (.call 164 [.bin .Add (.str [116]) (.call 19 [.loc 26] []),.list [.tup [.str [111,107],.str [114],.dict [] []]]] [(63,.lcomp (.bin .Add (.str [102]) (.call 19 [.loc 272] [])) [272] true (.sub (.loc 271) (.loc 26)) [] [272] [])]) [26] true (.call 11 [.int 3] []) [] [26] [271])]⟩
noncomputable def Hv:Ak:=⟨[35,273,274],[],[35,273,274],[.ret (.call 278 [.call 275 [.loc 274] [],.ite (.cmp .Eq (.loc 273) (.int 0)) (.call 276 [.loc 35] []) (.call 277 [.loc 35] [])] [])]⟩
noncomputable def A3:Ak:=⟨[279],[],[279,280,281,271,26,282,283,284,156,285,286,35,287,273,288,289,290,291,58,47,232,292,293,59],[.asgT [280,281] (.slc (.bin .Add (.slc (.loc 279) .none (.int 2) .none) (.list [.int 0,.int 0])) .none (.int 2) .none),.asg 271 (.list []),.for1 26 (.call 11 [.int 3] []) [.asgC 282 (.lcomp (.loc 272) [272] true (.call 11 [.int 4] []) [.cmp .Eq (.bin .Mod (.bin .FloorDiv (.loc 280) (.bin .Pow (.int 2) (.bin .Add (.bin .Mult (.int 4) (.loc 26)) (.loc 272)))) (.int 2)) (.int 1)] [272] [280,26]),.expr (.meth (.loc 271) 0 [.ite (.cmp .NotEq (.loc 282) (.list [])) (.loc 282) (.list [.loc 26,.int 3])] [])],.asgC 283 (.lcomp (.lcomp (.bin .Mod (.bin .Add (.bin .Add (.bin .FloorDiv (.loc 281) (.bin .Pow (.int 3) (.bin .Add (.bin .Mult (.int 4) (.loc 272)) (.loc 131)))) (.loc 272)) (.loc 131)) (.int 3)) [131] true (.call 11 [.int 4] []) [] [131] [281,272]) [272] true (.call 11 [.int 4] []) [] [272] [281]),.asg 284 (.list [.dict [] [],.dict [] []]),.asg 156 (.list [.list [.none,.none,.none],.list [.none,.none,.none]]),.for1 285 (.slc (.bin .Add (.slc (.loc 279) (.int 2) (.int 5) .none) (.list [.bin .Add (.loc 280) (.int 27),.bin .Add (.loc 281) (.int 228),.bin .Add (.bin .Add (.loc 280) (.loc 281)) (.int 57)])) .none (.int 3) .none) [.asgC 286 (.lcomp (.bin .Mod (.bin .FloorDiv (.loc 285) (.bin .Pow (.int 4) (.loc 272))) (.int 4)) [272] true (.call 11 [.int 4] []) [] [272] [285]),.asgC 35 (.dcomp (.bin .Add (.str [102]) (.call 19 [.loc 272] [])) (.tup [.bin .Add (.int 10) (.sub (.loc 286) (.loc 272)),.bin .Mod (.sub (.sub (.loc 283) (.loc 272)) (.sub (.loc 286) (.loc 272))) (.int 2),.bin .Add (.str [100]) (.call 19 [.sub (.sub (.loc 283) (.loc 272)) (.sub (.loc 286) (.loc 272))] [])]) [272] true (.call 11 [.int 4] []) [272] [286,283]),.asg 287 (.bin .Sub (.bin .Mod (.bin .FloorDiv (.loc 285) (.int 256)) (.int 6)) (.int 3)),.for1 273 (.tup [.int 0,.int 1]) [.asgC 288 (.lcomp (.ite (.cmp .Eq (.loc 273) (.int 0)) (.sub (.sub (.loc 283) (.loc 272)) (.sub (.loc 286) (.loc 272))) (.sub (.loc 286) (.loc 272))) [272] true (.call 11 [.int 4] []) [] [272] [273,283,286]),.iff (.cmp .GtE (.loc 287) (.int 0)) [.asgI (.sub (.loc 156) (.loc 273)) (.loc 287) .none,.expr (.meth (.call 295 [.loc 35,.loc 273,.sub (.loc 284) (.loc 273)] []) 238 [.sub (.call 294 [.loc 271] []) (.loc 287)] [])] [],.asg 289 (.list []),.for1 26 (.call 11 [.int 3] []) [.asg 290 (.sub (.sub (.loc 156) (.loc 273)) (.loc 26)),.expr (.meth (.loc 289) 0 [.lcomp (.loc 272) [272] true (.sub (.loc 271) (.loc 26)) [.bop false [.cmp .Is (.loc 290) .none,.cmp .NotEq (.sub (.loc 290) (.loc 272)) (.sub (.loc 288) (.loc 272))]] [272] [290,288]] [])],.asg 291 (.call 295 [.loc 35,.loc 273,.sub (.loc 284) (.loc 273)] []),.forT [26,58] (.call 13 [.call 294 [.loc 271] []] []) [.asg 47 (.attr (.meth (.loc 291) 248 [.loc 58,.dict [] []] []) 47),.iff (.cmp .NotEq (.tup [.loc 47,.call 12 [.attr (.loc 58) 86] []]) (.tup [.ite (.cmp .NotEq (.sub (.loc 289) (.loc 26)) (.list [])) (.str [114,117,110]) (.str [117,112,45,116,111,45,100,97,116,101]),.lcomp (.bin .Add (.str [102]) (.call 19 [.loc 272] [])) [272] true (.sub (.loc 289) (.loc 26)) [] [272] []])) [.ret .ff] []],.asg 232 (.call 296 [] []),.asg 292 (.call 169 [.call 294 [.loc 271] []] []),.expr (.meth (.loc 292) 297 [.none] []),.iff (.cmp .NotEq (.meth (.call 298 [.loc 291,.loc 232] []) 299 [.meth (.loc 292) 263 [] []] []) (.int 0)) [.ret .ff] [],.asg 293 (.list []),.for1 26 (.call 11 [.int 3] []) [.asg 59 (.bin .Add (.str [116]) (.call 19 [.loc 26] [])),.asg 293 (.bin .Add (.bin .Add (.loc 293) (.list [.tup [.str [115,116,97,116,117,115],.loc 59,.str []]])) (.ite (.cmp .NotEq (.sub (.loc 289) (.loc 26)) (.list [])) (.list [.tup [.str [101,120,101,99,117,116,101],.loc 59,.str []],.tup [.str [115,117,99,99,101,115,115],.loc 59,.str []]]) (.list [.tup [.str [117,112,45,116,111,45,100,97,116,101],.loc 59,.str []]]))),.iff (.cmp .NotEq (.sub (.loc 289) (.loc 26)) (.list [])) [.asgI (.sub (.loc 156) (.loc 273)) (.loc 26) (.loc 288)] []],.iff (.cmp .NotEq (.attr (.loc 232) 227) (.bin .Add (.loc 293) (.list [.tup [.str [101,110,100],.str [],.str []]]))) [.ret .ff] [],.asg 291 (.call 295 [.loc 35,.loc 273,.sub (.loc 284) (.loc 273)] []),.iff (.cmp .NotEq (.lcomp (.attr (.loc 58) 59) [58] true (.call 294 [.loc 271] []) [.cmp .NotEq (.attr (.meth (.loc 291) 248 [.loc 58,.dict [] []] []) 47) (.str [117,112,45,116,111,45,100,97,116,101])] [58] [291]) (.list [])) [.ret .ff] []]],.ret .tt]⟩
noncomputable def JB:List Nat:=[31,44,113,162,190,216,257,376,411,433,446,459,472,499,513,525,537,549,561,670,727,815,843,921,998,1076]
noncomputable def OI:List Nat:=[0,0,1073741824,34359738368,34359738368,34359738368,1055531162664960,31525197391593472,79228164875447579028366557184,0,0,0,0,316912650057057350374175801344,316912650057057350374175801344,316912650057057350374175801344,316912650057057350374175801344,316912650057057350374175801344,316912650057057350374175801344,53544303838674265444546045800349760,5602408888986410090625874984335660199968768,20461022922632640854861491178342245317382248595456,50118734168478029223751381179726663341752220686758786891776,3113442460766408675235860583093049294234245413692919636819968,215679573337205118357336120696157045389097155380324579848828881993728,94899012268370252077227893106309099971202827595505329397822301621190656]
noncomputable def OY:List (List (Nat × Nat)):=[[],[],[(25,68),(56,75),(18,82),(4,89),(55,96),(8,103)],[(25,131),(94,138),(44,145),(95,152),(65,159)],[(95,180),(65,187),(25,131),(94,138),(44,145)],[(95,206),(65,213),(25,131),(94,138),(44,145)],[(25,232),(91,240),(92,247),(253,254)],[(25,275),(60,282),(64,289),(8,296),(69,310),(267,317),(261,325),(70,332),(242,339),(238,353),(249,367),(248,373)],[(25,394),(89,401),(143,408)],[],[],[],[],[(25,489),(229,496)],[(25,489),(229,496)],[(25,489),(229,496)],[(25,489),(229,496)],[(25,489),(229,496)],[(25,489),(229,496)],[(25,584),(108,591),(112,598),(111,605),(114,612),(116,619),(117,626),(125,633),(222,640),(138,648),(109,653),(260,660),(259,667)],[(25,689),(121,696),(149,703),(150,710),(135,717),(90,724),(89,401),(143,408)],[(25,750),(166,757),(165,784),(182,791),(183,798),(297,805),(263,812)],[(25,833),(208,840)],[(25,861),(204,868),(213,875),(214,883),(226,890),(225,897),(224,904),(209,911),(264,918)],[(25,939),(248,946),(258,953),(239,960),(262,967),(256,974),(250,981),(268,995)],[(25,1017),(252,1024),(257,1031),(265,1038),(258,1045),(266,1052),(269,1059),(270,1066),(299,1073)]]
noncomputable def PO:List (List (Nat × Nat)):=[[],[],[],[],[],[],[],[],[],[],[],[],[],[],[],[],[],[],[],[],[],[(167,764),(170,774)],[],[],[],[]]
noncomputable def PL:List (List (Nat × V)):=[[],[],[],[(59,.str [70,105,108,101,67,104,97,110,103,101,100,67,104,101,99,107,101,114])],[(59,.str [77,68,53,67,104,101,99,107,101,114])],[(59,.str [84,105,109,101,115,116,97,109,112,67,104,101,99,107,101,114])],[],[],[],[],[],[],[],[(99,.str [67,97,116,99,104,101,100,69,120,99,101,112,116,105,111,110])],[(99,.str [66,97,115,101,70,97,105,108])],[(99,.str [84,97,115,107,70,97,105,108,101,100])],[(99,.str [84,97,115,107,69,114,114,111,114])],[(99,.str [85,110,109,101,116,68,101,112,101,110,100,101,110,99,121])],[(99,.str [68,101,112,101,110,100,101,110,99,121,69,114,114,111,114])],[],[],[],[],[],[],[]]
inductive Bt3 where
  | nil
  | node (k:Nat) (D:Ak) (l r:Bt3)
noncomputable def Bt3.get (k:Nat) (t:Bt3):Option Ak:=@Bt3.rec (fun _=>Option Ak) none (fun j D _ _ il ir=>cond (Nat.beq k j) (some D) (cond (Nat.blt k j) il ir)) t
noncomputable def Bt3.all (p:Nat→Ak→Bool):Bt3→Bool
  | .nil=>true
  | .node j D l r=>p j D&&(l.all p&&r.all p)
noncomputable def fnB:Bt3:=(.node 648 EQ (.node 303 Dn (.node 159 BV (.node 96 JZ (.node 75 Iy (.node 54 OB (.node 21 Sp .nil .nil) (.node 68 Iw .nil .nil)) (.node 89 JD (.node 82 JL .nil .nil) .nil)) (.node 138 Cr (.node 110 EN (.node 103 GZ .nil .nil) (.node 131 CZ .nil .nil)) (.node 152 Bp (.node 145 CY .nil .nil) .nil))) (.node 247 B3 (.node 213 Cc (.node 187 DN (.node 180 Co .nil .nil) (.node 206 BD .nil .nil)) (.node 240 Cb (.node 232 DD .nil .nil) .nil)) (.node 282 FN (.node 275 FF (.node 254 Bn .nil .nil) .nil) (.node 296 EP (.node 289 Fx .nil .nil) .nil)))) (.node 408 Cj (.node 353 CC (.node 332 Di (.node 317 Fk (.node 310 Gu .nil .nil) (.node 325 C5 .nil .nil)) (.node 346 Dg (.node 339 DS .nil .nil) .nil)) (.node 373 Dr (.node 367 B9 (.node 360 EK .nil .nil) .nil) (.node 401 CW (.node 394 C2 .nil .nil) .nil))) (.node 605 D5 (.node 584 Kn (.node 489 Dv (.node 430 D8 .nil .nil) (.node 496 Cw .nil .nil)) (.node 598 Er (.node 591 FQ .nil .nil) .nil)) (.node 626 DC (.node 619 DB (.node 612 Du .nil .nil) .nil) (.node 640 E8 (.node 633 Dp .nil .nil) .nil))))) (.node 890 CK (.node 764 BN (.node 710 CG (.node 689 FR (.node 660 Da (.node 653 Eg .nil .nil) (.node 667 Hy .nil .nil)) (.node 703 CB (.node 696 Cp .nil .nil) .nil)) (.node 736 NW (.node 724 F7 (.node 717 Cd .nil .nil) .nil) (.node 757 BR (.node 750 E4 .nil .nil) .nil))) (.node 833 GW (.node 798 Cn (.node 784 B6 (.node 774 Bq .nil .nil) (.node 791 B4 .nil .nil)) (.node 812 B8 (.node 805 D3 .nil .nil) .nil)) (.node 868 CU (.node 861 D7 (.node 840 C9 .nil .nil) .nil) (.node 883 Br (.node 875 Cv .nil .nil) .nil)))) (.node 995 Cm (.node 953 Cy (.node 918 D6 (.node 904 BJ (.node 897 BO .nil .nil) (.node 911 A8 .nil .nil)) (.node 946 C3 (.node 939 EM .nil .nil) .nil)) (.node 974 Ck (.node 967 CV (.node 960 CX .nil .nil) .nil) (.node 988 Cf (.node 981 CP .nil .nil) .nil))) (.node 1059 Fb (.node 1038 Em (.node 1024 Cz (.node 1017 Ix .nil .nil) (.node 1031 Df .nil .nil)) (.node 1052 Cg (.node 1045 D4 .nil .nil) .nil)) (.node 1085 JU (.node 1073 Gp (.node 1066 GU .nil .nil) .nil) (.node 1097 A3 (.node 1092 Hv .nil .nil) .nil))))))
noncomputable def gL:List (Nat × Nat):=[(34,21),(62,54),(174,736),(294,1085),(295,1092),(275,113),(276,190),(277,216),(85,257),(278,376),(88,411),(237,513),(139,525),(140,537),(251,549),(255,561),(164,670),(120,727),(169,815),(202,843),(184,921),(296,998),(298,1076)]
noncomputable def G1:List (Nat × Nat):=[(275,2),(276,4),(277,5),(85,6),(278,7),(88,8),(237,14),(139,15),(140,16),(251,17),(255,18),(164,19),(120,20),(169,21),(202,22),(184,23),(296,24),(298,25)]
noncomputable def ckL:List Nat:=[2,3,4,5,6,7,8,13,14,15,16,17,18,19,20,21,22,23,24,25]
noncomputable def Ah {α:Type} (k:Nat) (l:List (Nat × α)):Option α:=@List.rec (Nat × α) (fun _=>Option α) none (fun p _ ih=>cond (Nat.beq k p.1) (some p.2) ih) l
noncomputable def Oz (k n:Nat):Bool:=Nat.testBit ((OI[k]?).getD 0) n
noncomputable def Hu (k n:Nat):Option Nat:=Ah n ((OY[k]?).getD [])
noncomputable def Eo (k n:Nat):Option Nat:=Ah n ((PO[k]?).getD [])
noncomputable def QP (k n:Nat):Option V:=Ah n ((PL[k]?).getD [])
structure Aq (c:Cx):Prop where
  ok:c.Ok
  fld:∀ k n,Oz k n=true→c.fld k n=true
  meth:∀ k n f,Hu k n=some f→c.meth k n=some f
  stat:∀ k n f,Eo k n=some f→c.stat k n=some f
  catt:∀ k n v,QP k n=some v→c.catt k n=some v
  fn:∃ KF:Frag,KF.In c.B∧∀ f D,fnB.get f=some D→Hr c.N KF f D=true
  gv:∀ n a,Ah n gL=some a→c.gv n=some (.ref a)
  kp:∀ n a,Ah n gL=some a→keepIn c.K (.ref a)=true
  cls:∀ k a,JB[k]?=some a→c.cls k=a
  ck:∀ k,ckL.contains k=true→Bx c.K (c.cls k)=true
  isIn:∀ k,JB[k]?.isSome=true→isIn c.K (.ref (c.cls k)) (c.cls k)=true
end
section
inductive W where
  | none
  | bool (b:Bool)
  | int (i:Int)
  | str (s:List Nat)
  | tup (xs:List W)
  | ref (k:Nat)
  | vals (k:Nat)
  | items (k:Nat)
  | rng (a:Int) (n:Nat)
  | gl (n:Nat)
  | sym (k:Nat)
inductive WO where
  | inst (k:Nat) (fs:List (Nat × W))
  | list (xs:List W)
  | dict (es:List (List Nat × W))
  | set (xs:List (List Nat))
  | lsym (j:Nat)
  | dsym (j:Nat)
  | psym (j:Nat)
set_option genCtorIdx true in
inductive Rs (α:Type) where
  | ok (a:α)
  | er (n:Nat)
noncomputable def bd {α β:Type} (x:Rs α) (f:α→Rs β):Rs β:=match x with
  | .ok a=>f a
  | .er n=>.er n
noncomputable def gd {α:Type} (n:Nat) (b:Bool) (x:Rs α):Rs α:=cond b x (.er n)
noncomputable def ob {α β:Type} (n:Nat) (x:Option α) (f:α→Rs β):Rs β:=match x with
  | some a=>f a
  | none=>.er n
inductive HT where
  | nil
  | node (v:Option WO) (l r:HT)
noncomputable def HT.v:HT→Option WO
  | .nil=>none
  | .node v _ _=>v
noncomputable def HT.l:HT→HT
  | .nil=>.nil
  | .node _ l _=>l
noncomputable def HT.r:HT→HT
  | .nil=>.nil
  | .node _ _ r=>r
noncomputable def lo (k:Nat) (t:HT):Option WO:=@HT.rec (fun _=>Nat→Option WO) (fun _=>none) (fun v _ _ il ir k=>cond (Nat.beq k 0) v (cond (Nat.beq (Nat.mod k 2) 1) (il (Nat.div k 2)) (ir (Nat.sub (Nat.div k 2) 1)))) t k
noncomputable def HT.ins (o:WO) (f:Nat):Nat→HT→HT:=@Nat.rec (fun _=>Nat→HT→HT) (fun _ t=>t) (fun _ ih k t=>cond (Nat.beq k 0) (.node (some o) t.l t.r) (cond (Nat.beq (Nat.mod k 2) 1) (.node t.v (ih (Nat.div k 2) t.l) t.r) (.node t.v t.l (ih (Nat.sub (Nat.div k 2) 1) t.r)))) f
noncomputable def DR (k:Nat) (o:WO) (t:HT):HT:=t.ins o (k+1) k
noncomputable def ofT:List (Nat × WO)→HT
  | []=>.nil
  | p::r=>DR p.1 p.2 (ofT r)
structure Sg where
  n:Nat
  z:List Nat
  L:HT
structure Mm where
  ro:List (Nat × W)
  rw:List (Nat × Option W)
structure Tb where
  eq:List ((Nat × Nat) × Bool)
  em:List (Nat × Bool)
  le:List ((Nat × Nat) × Bool)
  dl:List ((Nat × List Nat) × Option W)
  nn:List Nat
  ds:List ((Nat × List Nat) × (Option Nat × Nat))
structure Hk where
  n:Nat
  c:Nat→List W→List Nat→List W→Sg→Option (Rs (W × Sg))
  b:Nat→List W→Sg→Option (Rs (W × Sg))
  x:X→Mm→Sg→Option (Rs (W × Sg))
noncomputable def IT {α:Type} (k j:Nat) (l:List ((Nat × Nat) × α)):Option α:=@List.rec ((Nat × Nat) × α) (fun _=>Option α) none (fun p _ ih=>cond (Nat.beq k p.1.1&&Nat.beq j p.1.2) (some p.2) ih) l
noncomputable def seq (a:List Nat):List Nat→Bool:=@List.rec Nat (fun _=>List Nat→Bool) (fun b=>b.isEmpty) (fun x _ ih b=>match b with
    | []=>false
    | y::b=>cond (Nat.beq x y) (ih b) false) a
noncomputable def EW {α:Type} (k:List Nat) (l:List (List Nat × α)):Option α:=@List.rec (List Nat × α) (fun _=>Option α) none (fun p _ ih=>cond (seq k p.1) (some p.2) ih) l
noncomputable def Ea {α:Type} (j:Nat) (k:List Nat) (l:List ((Nat × List Nat) × α)):Option α:=@List.rec ((Nat × List Nat) × α) (fun _=>Option α) none (fun p _ ih=>cond (Nat.beq j p.1.1) (cond (seq k p.1.2) (some p.2) ih) ih) l
noncomputable def RE (k:List Nat) (l:List (List Nat)):Bool:=@List.rec (List Nat) (fun _=>Bool) false (fun x _ ih=>cond (seq k x) true ih) l
noncomputable def WP {α:Type} (k:Nat) (o:α) (l:List (Nat × α)):List (Nat × α):=@List.rec (Nat × α) (fun _=>List (Nat × α)) [(k,o)] (fun p r ih=>cond (Nat.beq k p.1) ((p.1,o)::r) (p::ih)) l
noncomputable def IJ (k:Nat) (o:W) (l:List (Nat × Option W)):List (Nat × Option W):=@List.rec (Nat × Option W) (fun _=>List (Nat × Option W)) [] (fun p r ih=>cond (Nat.beq k p.1) ((p.1,some o)::r) (p::ih)) l
noncomputable def Ts (k:Nat) (l:List (Nat × Option W)):List (Nat × Option W):=@List.rec (Nat × Option W) (fun _=>List (Nat × Option W)) [] (fun p r ih=>cond (Nat.beq k p.1) ((p.1,none)::r) (p::ih)) l
noncomputable def Wz (k:List Nat) (v:W) (l:List (List Nat × W)):List (List Nat × W):=@List.rec (List Nat × W) (fun _=>List (List Nat × W)) [] (fun p _ ih=>cond (seq k p.1) (p.1,v) p::ih) l
noncomputable def OP (k:List Nat) (v:W) (es:List (List Nat × W)):List (List Nat × W):=match EW k es with
  | some _=>Wz k v es
  | none=>es++[(k,v)]
noncomputable def small {α:Type} (xs:List α):Bool:=Nat.ble xs.length 900
noncomputable def put (σ:Sg) (k:Nat) (o:WO) (f:Sg→Rs α):Rs α:=gd 1 (!σ.z.contains k) (f ⟨σ.n,σ.z,DR k o σ.L⟩)
noncomputable def new (σ:Sg) (o:WO) (f:Nat→Sg→Rs α):Rs α:=f σ.n ⟨σ.n+1,σ.z,DR σ.n o σ.L⟩
noncomputable def AZ:W→Option Nat
  | .ref k=>some k
  | _=>none
noncomputable def BP:W→Option (List Nat)
  | .str k=>some k
  | _=>none
noncomputable def EY:W→Option Int
  | .int k=>some k
  | _=>none
noncomputable def Hz:W→Option (List W)
  | .tup k=>some k
  | _=>none
noncomputable def HQ:List W→Option (List (List Nat))
  | []=>some []
  | x::r=>match BP x with
    | some s=>(HQ r).map (s::·)
    | none=>none
noncomputable def Hs:WO→Option (Nat × List (Nat × W))
  | .inst k fs=>some (k,fs)
  | _=>none
noncomputable def G9:WO→Option (List W)
  | .list xs=>some xs
  | _=>none
noncomputable def JH:WO→Option (List (List Nat × W))
  | .dict xs=>some xs
  | _=>none
noncomputable def Kg:WO→Option (List (List Nat))
  | .set xs=>some xs
  | _=>none
variable {α:Type}
noncomputable def onI (n:Nat) (v:W) (σ:Sg) (f:Nat→Nat→List (Nat × W)→Rs α):Rs α:=ob n (AZ v) fun k=>ob n (lo k σ.L) fun o=>ob n (Hs o) fun p=>f k p.1 p.2
noncomputable def onL (n:Nat) (v:W) (σ:Sg) (f:Nat→List W→Rs α):Rs α:=ob n (AZ v) fun k=>ob n (lo k σ.L) fun o=>ob n (G9 o) (f k)
noncomputable def onD (n:Nat) (v:W) (σ:Sg) (f:Nat→List (List Nat × W)→Rs α):Rs α:=ob n (AZ v) fun k=>ob n (lo k σ.L) fun o=>ob n (JH o) (f k)
noncomputable def onS (n:Nat) (v:W) (σ:Sg) (f:Nat→List (List Nat)→Rs α):Rs α:=ob n (AZ v) fun k=>ob n (lo k σ.L) fun o=>ob n (Kg o) (f k)
noncomputable def NV:W→Bool
  | .none=>true
  | _=>false
noncomputable def WU:List (List Nat):=[[48],[49],[50],[51],[52],[53],[54],[55],[56],[57],[49,48],[49,49],[49,50],[49,51],[49,52],[49,53],[49,54],[49,55],[49,56],[49,57],[50,48],[50,49],[50,50]]
section
variable (T:Tb) (K:Hk)
noncomputable def XI:WO→Rs Bool
  | .list xs=>gd 2 (small xs) (.ok (!xs.isEmpty))
  | .dict xs=>gd 2 (small xs) (.ok (!xs.isEmpty))
  | .set xs=>gd 2 (small xs) (.ok (!xs.isEmpty))
  | .inst c _=>gd 2 (ckL.contains c) (.ok true)
  | .lsym j=>ob 3 (Ah j T.em) fun b=>.ok (!b)
  | _=>.er 3
noncomputable def tru (v:W) (σ:Sg):Rs Bool:=match v with
  | .none=>.ok false
  | .bool b=>.ok b
  | .str s=>gd 2 (small s) (.ok (!s.isEmpty))
  | .tup xs=>gd 2 (small xs) (.ok (!xs.isEmpty))
  | .ref k=>ob 4 (lo k σ.L) (XI T)
  | _=>.er 4
noncomputable def Oi (f:W→W→Option Bool):List W→List W→Option Bool
  | x::xs,ys=>match ys with
    | y::ys=>(f x y).bind fun a=>(Oi f xs ys).map (a&&·)
    | []=>some true
  | [],_=>some true
noncomputable def eqO (n:Nat) (f:W→W→Option Bool) (a b:WO):Option Bool:=match a with
  | .list xs=>(G9 b).bind fun ys=>cond (Nat.beq xs.length ys.length) (Oi f xs ys) (some false)
  | .lsym i=>match b with
    | .lsym j=>cond (Nat.ble 1 n) (IT i j T.le) none
    | .list []=>Ah i T.em
    | _=>none
  | _=>none
noncomputable def eqZ (σ:Sg):Nat→W→W→Option Bool
  | 0,_,_=>none
  | n+1,a,b=>match a with
    | .none=>match b with
      | .none=>some true
      | .str _=>some false
      | .int _=>some false
      | _=>none
    | .bool x=>match b with
      | .bool y=>some (x==y)
      | _=>none
    | .int x=>(EY b).map fun y=>x==y
    | .str x=>(BP b).map fun y=>seq x y
    | .tup xs=>(Hz b).bind fun ys=>(Oi (eqZ σ n) xs ys).map (·&&Nat.beq xs.length ys.length)
    | .ref i=>(AZ b).bind fun j=>(lo i σ.L).bind fun o=>(lo j σ.L).bind fun o'=>eqO T n (eqZ σ n) o o'
    | .sym i=>match b with
      | .sym j=>IT i j T.eq
      | _=>none
    | _=>none
noncomputable def inD (k:List Nat):WO→Rs Bool
  | .dict es=>.ok (EW k es).isSome
  | .list xs=>ob 7 (HQ xs) fun ss=>.ok (RE k ss)
  | .dsym i=>ob 7 (Ea i k T.dl) fun r=>.ok r.isSome
  | _=>.er 7
noncomputable def inO (k:List Nat):WO→Rs Bool
  | o=>inD T k o
noncomputable def inZ (a b:W) (σ:Sg):Rs Bool:=ob 6 (BP a) fun k=>match b with
  | .str x=>match k with
    | [c]=>.ok (x.contains c)
    | _=>.er 6
  | .ref j=>ob 7 (lo j σ.L) (inO T k)
  | _=>.er 7
noncomputable def AaZ (a b:W) (σ:Sg):Rs Bool:=ob 6 (BP a) fun k=>ob 7 (AZ b) fun j=>ob 7 (lo j σ.L) (inD T k)
noncomputable def O8 (xs ys:List (List Nat)):Bool:=xs.all fun x=>RE x ys
noncomputable def Ki (a b:W) (σ:Sg):Option (List (List Nat) × List (List Nat)):=(AZ a).bind fun i=>(AZ b).bind fun j=>(lo i σ.L).bind fun o=>(Kg o).bind fun xs=>(lo j σ.L).bind fun o'=>(Kg o').map fun ys=>(xs,ys)
noncomputable def isN:W→Option Bool
  | .none=>some true
  | .gl _=>none
  | .sym k=>cond (T.nn.contains k) (some false) none
  | _=>some false
noncomputable def Vt (op:CmpOp) (a b:W) (σ:Sg):Rs Bool:=match op with
  | .Is=>gd 8 (NV b) (ob 8 (isN T a) .ok)
  | .IsNot=>gd 8 (NV b) (ob 8 (isN T a) fun z=>.ok (!z))
  | .Eq=>ob 9 (eqZ T σ 9 a b) .ok
  | .NotEq=>match Ki a b σ with
    | some p=>.ok (!(Nat.beq p.1.length p.2.length&&O8 p.1 p.2))
    | none=>ob 9 (eqZ T σ 9 a b) fun z=>.ok (!z)
  | .In=>inZ T a b σ
  | .NotIn=>bd (AaZ T a b σ) fun z=>.ok (!z)
  | .Gt=>ob 10 (EY a) fun x=>ob 10 (EY b) fun y=>.ok (decide (y<x))
  | .GtE=>ob 10 (EY a) fun x=>ob 10 (EY b) fun y=>.ok (decide (y≤x))
  | _=>.er 10
noncomputable def Hc (a:Int):Bool:=Nat.blt a.natAbs (2^60)
noncomputable def Yr (op:Operator) (a b:W) (σ:Sg):Rs (W × Sg):=match a with
  | .int x=>ob 11 (EY b) fun y=>match op with
    | .Add=>.ok (.int (x+y),σ)
    | .Mult=>gd 11 (Hc x) (.ok (.int (x*y),σ))
    | .FloorDiv=>gd 11 (y != 0&&Hc y) (.ok (.int (Int.fdiv x y),σ))
    | .Mod=>gd 11 (y != 0) (.ok (.int (Int.fmod x y),σ))
    | .Pow=>gd 11 (Nat.ble y.toNat 64&&decide (0≤y)&&Hc x) (.ok (.int (x^y.toNat),σ))
    | _=>.er 11
  | .str x=>match op with
    | .Add=>ob 12 (BP b) fun y=>gd 12 (small x&&small y) (.ok (.str (x++y),σ))
    | _=>.er 12
  | .ref _=>match op with
    | .Add=>onL 13 a σ fun _ xs=>onL 13 b σ fun _ ys=>gd 13 (small xs&&small ys) (new σ (.list (xs++ys)) fun n σ=>.ok (.ref n,σ))
    | _=>.er 13
  | _=>.er 13
noncomputable def ix (k:Int):Bool:=decide (0≤k)&&decide (k<2^40)
noncomputable def Y2 (o i:W) (σ:Sg):Rs (W × Sg):=match i with
  | .int k=>gd 14 (ix k) (match o with
    | .tup xs=>ob 14 (xs[k.toNat]?) fun x=>.ok (x,σ)
    | _=>onL 14 o σ fun _ xs=>ob 14 (xs[k.toNat]?) fun x=>.ok (x,σ))
  | .str s=>ob 15 (AZ o) fun k=>ob 15 (lo k σ.L) fun d=>match d with
    | .dict es=>ob 15 (EW s es) fun x=>.ok (x,σ)
    | .dsym i=>ob 15 (Ea i s T.dl) fun r=>ob 15 r fun x=>.ok (x,σ)
    | _=>.er 15
  | _=>.er 15
noncomputable def Ya (o i v:W) (σ:Sg) (f:Sg→Rs α):Rs α:=match i with
  | .int k=>gd 16 (ix k) (onL 16 o σ fun j xs=>gd 16 (Nat.blt k.toNat xs.length) (put σ j (.list (xs.set k.toNat v)) f))
  | .str s=>ob 17 (AZ o) fun j=>ob 17 (lo j σ.L) fun d=>match d with
    | .dict es=>gd 17 (small es) (put σ j (.dict (OP s v es)) f)
    | .dsym i=>ob 17 (AZ v) fun r=>ob 17 (Ea i s T.ds) fun p=>ob 17 p.1 fun r'=>gd 17 (Nat.beq r' r) (put σ j (.dsym p.2) f)
    | _=>.er 17
  | _=>.er 17
noncomputable def Aaz {α:Type}:Option α→Bool
  | none=>true
  | some _=>false
noncomputable def ZQ (o i:W) (σ:Sg) (f:Sg→Rs α):Rs α:=ob 66 (BP i) fun s=>ob 66 (AZ o) fun j=>ob 66 (lo j σ.L) fun d=>match d with
  | .dsym i=>ob 66 (Ea i s T.ds) fun p=>gd 66 (Aaz p.1) (put σ j (.dsym p.2) f)
  | _=>.er 66
noncomputable def YB:V→Option W
  | .str s=>some (.str s)
  | _=>none
noncomputable def X9 (v:W) (n:Nat) (σ:Sg):Rs (W × Sg):=onI 18 v σ fun _ c fs=>match Ah n fs with
  | some w=>gd 18 (Oz c n) (.ok (w,σ))
  | none=>ob 19 (QP c n) fun x=>ob 19 (YB x) fun w=>.ok (w,σ)
inductive Mk where
  | usr (f:Nat) | stat (f:Nat) | lst | dct | st | bad
noncomputable def mkO (n:Nat):WO→Mk
  | .inst c fs=>match Ah n fs with
    | some _=>.bad
    | none=>match Hu c n with
      | some f=>.usr f
      | none=>match Eo c n with
        | some f=>.stat f
        | none=>.bad
  | .list _=>cond (Nat.blt n 3) .lst .bad
  | .dict _=>cond (Nat.ble 4 n&&Nat.ble n 7) .dct .bad
  | .dsym _=>cond (Nat.ble 4 n&&Nat.ble n 7) .dct .bad
  | .set _=>cond (Nat.beq n 7) .st .bad
  | _=>.bad
noncomputable def stO:Option Nat→Mk
  | some f=>.stat f
  | none=>.bad
noncomputable def mkZ (v:W) (n:Nat) (σ:Sg):Mk:=match v with
  | .ref k=>match lo k σ.L with
    | some o=>mkO n o
    | none=>.bad
  | .gl x=>stO ((Ah x G1).bind fun k=>Eo k n)
  | _=>.bad
noncomputable def okM:Mk→Bool
  | .bad=>false
  | _=>true
noncomputable def doL (n:Nat) (v:W) (vs:List W) (σ:Sg):Rs (W × Sg):=onL 21 v σ fun k xs=>gd 21 (small xs) (match vs with
  | []=>gd 21 (Nat.beq n 2) (ob 21 xs.getLast? fun x=>put σ k (.list xs.dropLast) fun σ=>.ok (x,σ))
  | [w]=>match n with
    | 0=>put σ k (.list (xs++[w])) fun σ=>.ok (.none,σ)
    | _=>.er 22
  | _=>.er 22)
noncomputable def doD (n:Nat) (v:W) (vs:List W) (σ:Sg):Rs (W × Sg):=match vs with
  | []=>onD 23 v σ fun k es=>match n with
    | 5=>.ok (.items k,σ)
    | 6=>.ok (.vals k,σ)
    | _=>.er 23
  | [s,w]=>gd 24 (Nat.beq n 4) (ob 24 (BP s) fun s=>ob 24 (AZ v) fun k=>ob 24 (lo k σ.L) fun d=>match d with
    | .dict es=>.ok ((EW s es).getD w,σ)
    | .dsym i=>ob 24 (Ea i s T.dl) fun r=>.ok (r.getD w,σ)
    | _=>.er 24)
  | [w]=>gd 25 (Nat.beq n 7) (onD 25 v σ fun k es=>onD 25 w σ fun j fs=>gd 25 (small es&&small fs&&!Nat.beq k j) (put σ k (.dict (fs.foldl (fun acc e=>OP e.1 e.2 acc) es)) fun σ=>.ok (.none,σ)))
  | _=>.er 25
noncomputable def doS (v:W) (vs:List W) (σ:Sg):Rs (W × Sg):=onS 26 v σ fun k ys=>gd 26 (small ys) (match vs with
  | [w]=>onL 26 w σ fun _ xs=>gd 26 (xs.isEmpty) (put σ k (.set ys) fun σ=>.ok (.none,σ))
  | _=>.er 26)
noncomputable def Re (xs:List W):List (List Nat)→Rs (List (List Nat)):=match xs with
  | []=>.ok
  | x::r=>fun acc=>ob 27 (BP x) fun s=>Re r (cond (RE s acc) acc (acc++[s]))
noncomputable def Ub (v:W) (σ:Sg):Rs (W × Sg):=match v with
  | .tup xs=>gd 29 (small xs) (new σ (.list xs) fun n σ=>.ok (.ref n,σ))
  | .vals k=>onD 29 (.ref k) σ fun _ es=>gd 29 (small es) (new σ (.list (es.map (·.2))) fun n σ=>.ok (.ref n,σ))
  | _=>onL 29 v σ fun _ xs=>gd 29 (small xs) (new σ (.list xs) fun n σ=>.ok (.ref n,σ))
noncomputable def XO (v:W) (σ:Sg):Rs (W × Sg):=match v with
  | .tup xs=>gd 30 (small xs) (bd (Re xs []) fun ys=>new σ (.set ys) fun n σ=>.ok (.ref n,σ))
  | _=>onL 30 v σ fun _ xs=>gd 30 (small xs) (bd (Re xs []) fun ys=>new σ (.set ys) fun n σ=>.ok (.ref n,σ))
noncomputable def Aai:Int→Option (List Nat)
  | .ofNat k=>WU[k]?
  | .negSucc _=>none
noncomputable def bIs (v:W) (n:Nat) (σ:Sg):Rs (W × Sg) :=
  cond (Nat.beq n 19) (ob 36 (BP v) fun _=>.ok (.bool true,σ))
  (cond (Nat.beq n 17) (ob 36 (BP v) fun _=>.ok (.bool false,σ))
  (ob 37 (Ah n G1) fun k=>onI 37 v σ fun _ k' _=>gd 37 (Nat.beq k' k) (.ok (.bool true,σ))))
noncomputable def Yc:W→Option Nat
  | .gl n=>some n
  | _=>none
noncomputable def Yw (f:Nat) (v:W) (σ:Sg):Rs (W × Sg) :=
  cond (Nat.beq f 16) (Ub v σ)
  (cond (Nat.beq f 18) (XO v σ)
  (cond (Nat.beq f 24) (onL 31 v σ fun _ xs=>gd 31 (small xs) (.ok (.tup xs,σ)))
  (cond (Nat.beq f 10) (onL 32 v σ fun _ xs=>gd 32 (small xs) (.ok (.int xs.length,σ)))
  (cond (Nat.beq f 11) (ob 33 (EY v) fun a=>gd 33 (ix a) (.ok (.rng 0 a.toNat,σ)))
  (gd 35 (Nat.beq f 19) (ob 34 (EY v) fun a=>ob 34 (Aai a) fun s=>.ok (.str s,σ)))))))
noncomputable def doB (f:Nat) (vs:List W) (σ:Sg):Rs (W × Sg):=match vs with
  | []=>gd 28 (Nat.beq f 18) (new σ (.set []) fun n σ=>.ok (.ref n,σ))
  | [v]=>Yw f v σ
  | [v,w]=>cond (Nat.beq f 21) (ob 37 (Yc w) fun n=>bIs v n σ)
    (.er 38)
  | _=>.er 39
noncomputable def okC (f:Nat):Bool:=cond (Nat.blt f 26) (match AR[f]? with
  | some (some v)=>Hg v
  | _=>false) ((Ah f G1).isSome || (Ah f gL).isSome)
noncomputable def Tq (a:Int):Nat→List W
  | 0=>[]
  | n+1=>.int a::Tq (a+1) n
inductive AU where
  | nx | br | ct
  | rt (w:W)
structure Ev where
  e:X→Mm→Sg→Rs (W × Sg)
  b:X→Mm→Sg→Rs (Bool × Sg)
  s:S→Mm→Sg→Rs (AU × Mm × Sg)
  c:Nat→List W→List Nat→List W→Sg→Rs (W × Sg)
variable (N:Nat) (r:Ev)
noncomputable def Qx (xs:List X) (m:Mm):Sg→Rs (List W × Sg):=@List.rec X (fun _=>Sg→Rs (List W × Sg)) (fun σ=>.ok ([],σ)) (fun x _ ih σ=>bd (r.e x m σ) fun p=>bd (ih p.2) fun q=>.ok (p.1::q.1,q.2)) xs
noncomputable def U4 (xs:List (Nat × X)) (m:Mm):Sg→Rs (List W × Sg):=@List.rec (Nat × X) (fun _=>Sg→Rs (List W × Sg)) (fun σ=>.ok ([],σ)) (fun x _ ih σ=>bd (r.e x.2 m σ) fun p=>bd (ih p.2) fun q=>.ok (p.1::q.1,q.2)) xs
noncomputable def evO (and:Bool):List X→Mm→Sg→Rs (W × Sg)
  | [],_,_=>.er 40
  | x::xs,m,σ=>bd (r.e x m σ) fun p=>match xs with
    | []=>.ok p
    | _::_=>bd (tru T p.1 p.2) fun b=>cond (b==and) (evO and xs m p.2) (.ok p)
noncomputable def evT (and:Bool) (xs:List X) (m:Mm):Sg→Rs (Bool × Sg):=@List.rec X (fun _=>Sg→Rs (Bool × Sg)) (fun σ=>.ok (and,σ)) (fun x _ ih σ=>bd (r.b x m σ) fun p=>cond (p.1==and) (ih p.2) (.ok (!and,p.2))) xs
noncomputable def evC (f:Nat) (vs:List W) (ns:List Nat) (ks:List W) (σ:Sg):Rs (W × Sg) :=
  cond (Nat.blt f 26) (gd 41 (ns.isEmpty&&ks.isEmpty) (match K.b f vs σ with
    | some x=>gd 41 (Nat.ble K.n N) x
    | none=>doB f vs σ))
    (match Ah f G1 with
    | some k=>ob 42 (Hu k 25) fun fI=>new σ (.inst k []) fun n σ=>bd (r.c fI (.ref n::vs) ns ks σ) fun p=>gd 42 (NV p.1) (ob 42 (lo n p.2.L) fun o=>ob 42 (Hs o) fun _=>.ok (.ref n,p.2))
    | none=>ob 43 (Ah f gL) fun fa=>r.c fa vs ns ks σ)
noncomputable def evM (n:Nat) (q:Mk) (v:W) (vs:List W) (ns:List Nat) (ks:List W) (σ:Sg):Rs (W × Sg):=match q with
  | .usr f=>r.c f (v::vs) ns ks σ
  | .stat f=>r.c f vs ns ks σ
  | .lst=>gd 44 (ns.isEmpty&&ks.isEmpty) (doL n v vs σ)
  | .dct=>gd 44 (ns.isEmpty&&ks.isEmpty) (doD T n v vs σ)
  | .st=>gd 44 (ns.isEmpty&&ks.isEmpty) (doS v vs σ)
  | .bad=>.er 44
noncomputable def OJ (n:Nat) (m:Mm):Rs W:=match Ah n m.rw with
  | some o=>ob (1000+n) o .ok
  | none=>ob (1000+n) (Ah n m.ro) .ok
noncomputable def YT:X→Option (Nat × List X × List (Nat × X))
  | .call f xs ks=>some (f,xs,ks)
  | _=>none
noncomputable def WG {β:Type}:List β→Option β
  | []=>none
  | x::r=>match r with
    | []=>some x
    | _::_=>none
noncomputable def Rj (k:Nat) (x:X):Option X:=(YT x).bind fun p=>cond (Nat.beq p.1 k&&p.2.2.isEmpty) (WG p.2.1) none
noncomputable def Ta (xs:List X):Option X:=(WG xs).bind (Rj 23)
noncomputable def glq (n:Nat):Option Value:=match AR[n]? with
  | some (some v)=>some v
  | _=>(Ah n gL).map Value.ref
noncomputable def FB (l:List (Nat × W)):Mm→Mm:=@List.rec (Nat × W) (fun _=>Mm→Mm) (fun m=>m) (fun p _ ih m=>ih ⟨m.ro,IJ p.1 p.2 m.rw⟩) l
noncomputable def PU (one:Bool) (ns:List Nat) (y:W) (m:Mm):Rs Mm:=gd 45 (ns.all fun n=>(Ah n m.rw).isSome) (match one with
  | true=>match ns with
    | [n]=>.ok ⟨m.ro,IJ n y m.rw⟩
    | _=>.er 45
  | false=>ob 45 (Hz y) fun ys=>gd 45 (Nat.beq ys.length ns.length) (.ok (FB (ns.zip ys) m)))
structure It where
  xs:List W
  z:List Nat
noncomputable def frz (σ:Sg) (k:Nat):Sg:=⟨σ.n,k::σ.z,σ.L⟩
noncomputable def itm (one:Bool) (v:W) (σ:Sg) (f:It→Sg→Rs α):Rs α:=match v with
  | .tup xs=>gd 46 (one || xs.all fun x=>(Hz x).isSome) (f ⟨xs,σ.z⟩ σ)
  | .rng a n=>gd 46 one (f ⟨Tq a n,σ.z⟩ σ)
  | .ref k=>onL 46 v σ fun _ xs=>gd 46 (one || xs.all fun x=>(Hz x).isSome) (f ⟨xs,k::σ.z⟩ (frz σ k))
  | .vals k=>gd 47 one (onD 47 (.ref k) σ fun _ es=>f ⟨es.map (·.2),k::σ.z⟩ (frz σ k))
  | .items k=>onD 47 (.ref k) σ fun _ es=>gd 47 (es.isEmpty&&!one) (f ⟨[],k::σ.z⟩ (frz σ k))
  | _=>.er 47
noncomputable def same (i:It) (σ:Sg) (x:Rs α):Rs α:=gd 48 (seq σ.z i.z) x
noncomputable def FV (one:Bool) (ns:List Nat) (a:Mm→Sg→Rs (AU × Mm × Sg)) (i:It):List W→Mm→Sg→Rs (AU × Mm × Sg)
  | [],m,σ=>same i σ (.ok (.nx,m,σ))
  | y::ys,m,σ=>same i σ (bd (PU one ns y m) fun m=>bd (a m σ) fun p=>match p.1 with
    | .nx=>FV one ns a i ys p.2.1 p.2.2
    | _=>.er 48)
noncomputable def HA (t:Mm→Sg→Rs (Bool × Sg)) (a:Mm→Sg→Rs (AU × Mm × Sg)):Nat→Mm→Sg→Rs (AU × Mm × Sg)
  | 0,_,_=>.er 49
  | n+1,m,σ=>bd (t m σ) fun p=>cond p.1 (bd (a m p.2) fun q=>match q.1 with
    | .nx=>HA t a n q.2.1 q.2.2
    | .ct=>HA t a n q.2.1 q.2.2
    | .br=>.ok (.nx,q.2)
    | .rt w=>.ok (.rt w,q.2)) (.ok (.nx,m,p.2))
noncomputable def NN (elt:X) (one:Bool) (ns:List Nat) (ifs:List X) (ro:List (Nat × W)) (z:List Nat) (j:Nat):List W→List W→Sg→Rs Sg
  | [],_,σ=>gd 48 (seq σ.z z) (.ok σ)
  | y::ys,acc,σ=>gd 48 (seq σ.z z) (bd (PU one ns y ⟨ro,ns.map (·,none)⟩) fun m=>bd (evT r true ifs m σ) fun p=>cond p.1
    (bd (r.e elt m p.2) fun q=>gd 48 (seq q.2.z z) (NN elt one ns ifs ro z j ys (acc++[q.1]) ⟨q.2.n,q.2.z,DR j (.list (acc++[q.1])) q.2.L⟩))
    (NN elt one ns ifs ro z j ys acc p.2))
noncomputable def Fy (m:Mm):List Nat→List (Nat × W)
  | []=>[]
  | n::ns=>match OJ n m with
    | .ok w=>(n,w)::Fy m ns
    | .er _=>Fy m ns
noncomputable def K0 (elt:X) (one:Bool) (ns:List Nat) (src:X) (ifs:List X) (ro:List Nat) (m:Mm) (σ:Sg):Rs (W × Sg) :=
  gd 51 (Bu ns) (bd (r.e src m σ) fun p=>itm one p.1 p.2 fun i σ₁=>gd 51 (small i.xs) (new σ₁ (.list []) fun j σ₂ =>
    bd (NN r elt one ns ifs (Fy m ro) (j::i.z) j i.xs [] (frz σ₂ j)) fun σ₃=>.ok (.ref j,⟨σ₃.n,p.2.z,σ₃.L⟩)))
noncomputable def Um (x:X) (m:Mm) (σ:Sg):Rs (W × Sg):=bd (r.e x m σ) fun p=>onL 58 p.1 p.2 fun _ xs=>gd 58 (small xs) (new p.2 (.list xs.reverse) fun n σ=>.ok (.ref n,σ))
noncomputable def PC (f:Nat) (args:List X) (kws:List (Nat × X)) (m:Mm) (σ:Sg):Rs (W × Sg):=gd 59 (okC f) (bd (Qx r args m σ) fun p=>bd (U4 r kws m p.2) fun q=>evC K N r f p.1 (kws.map (·.1)) q.1 q.2)
noncomputable def Ty (n:Nat) (σ:Sg):Rs (W × Sg):=gd 53 ((glq n).any handedIn) (.ok (.gl n,σ))
noncomputable def UY (op:Operator) (a:X) (b:X) (m:Mm) (σ:Sg):Rs (W × Sg):=bd (r.e a m σ) fun p=>bd (r.e b m p.2) fun q=>Yr op p.1 q.1 q.2
noncomputable def WS (op:CmpOp) (a:X) (b:X) (m:Mm) (σ:Sg):Rs (W × Sg):=bd (r.e a m σ) fun p=>bd (r.e b m p.2) fun q=>bd (Vt T op p.1 q.1 q.2) fun z=>.ok (.bool z,q.2)
noncomputable def VK (x:X) (m:Mm) (σ:Sg):Rs (W × Sg):=bd (r.e x m σ) fun p=>bd (tru T p.1 p.2) fun b=>.ok (.bool (!b),p.2)
noncomputable def VZ (t:X) (a:X) (b:X) (m:Mm) (σ:Sg):Rs (W × Sg):=bd (r.b t m σ) fun p=>cond p.1 (r.e a m p.2) (r.e b m p.2)
noncomputable def Xg (x:X) (i:X) (m:Mm) (σ:Sg):Rs (W × Sg):=bd (r.e x m σ) fun p=>bd (r.e i m p.2) fun q=>Y2 T p.1 q.1 q.2
noncomputable def Wm (x:X) (lo:X) (hi:X) (st:X) (m:Mm) (σ:Sg):Rs (W × Sg):=gd 54 (EL lo&&(EL hi&&EL st)) (bd (r.e x m σ) fun p=>onL 54 p.1 p.2 fun _ xs=>gd 54 (small xs) (new p.2 (.list xs) fun n σ=>.ok (.ref n,σ)))
noncomputable def TL (xs:List X) (m:Mm) (σ:Sg):Rs (W × Sg):=bd (Qx r xs m σ) fun p=>gd 55 (small p.1) (new p.2 (.list p.1) fun n σ=>.ok (.ref n,σ))
noncomputable def Vs (xs:List X) (m:Mm) (σ:Sg):Rs (W × Sg):=bd (Qx r xs m σ) fun p=>gd 55 (small p.1) (.ok (.tup p.1,p.2))
noncomputable def Tn (ks:List X) (vs:List X) (σ:Sg):Rs (W × Sg):=gd 56 (ks.isEmpty&&vs.isEmpty) (new σ (.dict []) fun n σ=>.ok (.ref n,σ))
noncomputable def O7 (elt:X) (tg:List Nat) (one:Bool) (src:X) (ifs:List X) (own:List Nat) (ro:List Nat) (m:Mm) (σ:Sg):Rs (W × Sg):=match K.x (.lcomp elt tg one src ifs own ro) m σ with
    | some x=>gd 57 (Nat.ble K.n N) x
    | none=>K0 r elt one tg src ifs ro m σ
noncomputable def SY (f:Nat) (args:List X) (kws:List (Nat × X)) (m:Mm) (σ:Sg):Rs (W × Sg):=match cond (Nat.beq f 16&&kws.isEmpty) (Ta args) none with
    | some x=>Um r x m σ
    | none=>PC K N r f args kws m σ
noncomputable def RS (x:X) (n:Nat) (args:List X) (kws:List (Nat × X)) (m:Mm) (σ:Sg):Rs (W × Sg):=bd (r.e x m σ) fun p=>gd (2000+n) (okM (mkZ p.1 n p.2)) (bd (Qx r args m p.2) fun q=>bd (U4 r kws m q.2) fun s=>evM T r n (mkZ p.1 n p.2) p.1 q.1 (kws.map (·.1)) s.1 s.2)
noncomputable def evE:X→Mm→Sg→Rs (W × Sg)
  | .none,_,σ=>.ok (.none,σ)
  | .tt,_,σ=>.ok (.bool true,σ)
  | .ff,_,σ=>.ok (.bool false,σ)
  | .int i,_,σ=>.ok (.int i,σ)
  | .str s,_,σ=>.ok (.str s,σ)
  | .loc n,m,σ=>bd (OJ n m) fun w=>.ok (w,σ)
  | .gint _ i,_,σ=>.ok (.int i,σ)
  | .gref n,_,σ=>Ty n σ
  | .attr x n,m,σ=>bd (r.e x m σ) fun p=>X9 p.1 n p.2
  | .bin op a b,m,σ=>UY r op a b m σ
  | .cmp op a b,m,σ=>WS T r op a b m σ
  | .bop and xs,m,σ=>evO T r and xs m σ
  | .not x,m,σ=>VK T r x m σ
  | .ite t a b,m,σ=>VZ r t a b m σ
  | .sub x i,m,σ=>Xg T r x i m σ
  | .slc x lo hi st,m,σ=>Wm r x lo hi st m σ
  | .list xs,m,σ=>TL r xs m σ
  | .tup xs,m,σ=>Vs r xs m σ
  | .dict ks vs,_,σ=>Tn ks vs σ
  | .lcomp elt tg one src ifs own ro,m,σ=>O7 K N r elt tg one src ifs own ro m σ
  | .call f args kws,m,σ=>SY K N r f args kws m σ
  | .meth x n args kws,m,σ=>RS T r x n args kws m σ
  | _,_,_=>.er 60
noncomputable def Xv:X→Bool
  | .loc _=>true
  | .attr ..=>true
  | .sub ..=>true
  | .call ..=>true
  | .meth ..=>true
  | _=>false
noncomputable def W8 (op:CmpOp) (a:X) (b:X) (m:Mm) (σ:Sg):Rs (Bool × Sg):=bd (r.e a m σ) fun p=>bd (r.e b m p.2) fun q=>bd (Vt T op p.1 q.1 q.2) fun z=>.ok (z,q.2)
noncomputable def evB:X→Mm→Sg→Rs (Bool × Sg)
  | .tt,_,σ=>.ok (true,σ)
  | .cmp op a b,m,σ=>W8 T r op a b m σ
  | .not x,m,σ=>bd (r.b x m σ) fun p=>.ok (!p.1,p.2)
  | .bop and xs,m,σ=>evT r and xs m σ
  | x,m,σ=>gd 61 (Xv x) (bd (r.e x m σ) fun p=>bd (tru T p.1 p.2) fun b=>.ok (b,p.2))
noncomputable def Uy (v:W) (σ:Sg) (f:List W→Rs α):Rs α:=match v with
  | .tup xs=>f xs
  | _=>onL 62 v σ fun _ xs=>f xs
noncomputable def HC:AU→Bool
  | .nx=>true
  | _=>false
noncomputable def BW (xs:List S):Mm→Sg→Rs (AU × Mm × Sg):=@List.rec S (fun _=>Mm→Sg→Rs (AU × Mm × Sg)) (fun m σ=>.ok (.nx,m,σ)) (fun x _ ih m σ=>bd (r.s x m σ) fun p=>cond (HC p.1) (ih p.2.1 p.2.2) (.ok p)) xs
noncomputable def has (n:Nat) (m:Mm):Bool:=(Ah n m.rw).isSome
noncomputable def MD (z:List Nat) (x:Rs (AU × Mm × Sg)):Rs (AU × Mm × Sg):=bd x fun p=>.ok (p.1,p.2.1,⟨p.2.2.n,z,p.2.2.L⟩)
noncomputable def IU (xs:List W):List W:=xs.zipIdx.map fun p=>.tup [.int p.2,p.1]
noncomputable def enX (x:X):Option X:=Rj 13 x
noncomputable def stM (n:Nat) (m:Mm) (p:W × Sg):Rs (AU × Mm × Sg):=gd 63 (has n m) (.ok (.nx,⟨m.ro,IJ n p.1 m.rw⟩,p.2))
noncomputable def V6 (n:Nat) (x:X) (m:Mm) (σ:Sg):Rs (AU × Mm × Sg):=bd (r.e x m σ) fun p=>gd 63 (has n m) (.ok (.nx,⟨m.ro,IJ n p.1 m.rw⟩,p.2))
noncomputable def Th (n:Nat) (x:X) (m:Mm) (σ:Sg):Rs (AU × Mm × Sg):=match x with
    | .lcomp elt tg one src ifs own ro=>match K.x (.lcomp elt tg one src ifs own ro) m σ with
      | some _=>.er 63
      | none=>bd (K0 r elt one tg src ifs ro m σ) (stM n m)
    | _=>.er 63
noncomputable def SO (o:X) (n:Nat) (x:X) (m:Mm) (σ:Sg):Rs (AU × Mm × Sg):=bd (r.e x m σ) fun p=>bd (r.e o m p.2) fun q=>onI 64 q.1 q.2 fun k c fs=>gd 64 (Oz c n&&Nat.ble fs.length 800) (put q.2 k (.inst c (WP n p.1 fs)) fun σ=>.ok (.nx,m,σ))
noncomputable def Sm (o:X) (i:X) (x:X) (m:Mm) (σ:Sg):Rs (AU × Mm × Sg):=bd (r.e x m σ) fun p=>bd (r.e o m p.2) fun q=>bd (r.e i m q.2) fun s=>Ya T q.1 s.1 p.1 s.2 fun σ=>.ok (.nx,m,σ)
noncomputable def S6 (ns:List Nat) (x:X) (m:Mm) (σ:Sg):Rs (AU × Mm × Sg):=gd 65 (ns.all fun n=>has n m) (bd (r.e x m σ) fun p=>Uy p.1 p.2 fun ys=>gd 65 (Nat.beq ys.length ns.length) (.ok (.nx,FB (ns.zip ys) m,p.2)))
noncomputable def Vk (o:X) (i:X) (m:Mm) (σ:Sg):Rs (AU × Mm × Sg):=bd (r.e o m σ) fun p=>bd (r.e i m p.2) fun q=>ZQ T p.1 q.1 q.2 fun σ=>.ok (.nx,m,σ)
noncomputable def U0 (x:X) (m:Mm) (σ:Sg):Rs (AU × Mm × Sg):=cond (EL x) (.ok (.rt .none,m,σ)) (bd (r.e x m σ) fun p=>.ok (.rt p.1,m,p.2))
noncomputable def Wj (t:X) (a:List S) (b:List S) (m:Mm) (σ:Sg):Rs (AU × Mm × Sg):=bd (r.b t m σ) fun p=>cond p.1 (BW r a m p.2) (BW r b m p.2)
noncomputable def SU (n:Nat) (x:X) (a:List S) (m:Mm) (σ:Sg):Rs (AU × Mm × Sg):=bd (r.e x m σ) fun p=>MD p.2.z (itm true p.1 p.2 fun i σ=>FV true [n] (BW r a) i i.xs m σ)
noncomputable def RY (ns:List Nat) (x:X) (a:List S) (m:Mm) (σ:Sg):Rs (AU × Mm × Sg):=match enX x with
    | some y=>bd (r.e y m σ) fun p=>MD p.2.z (onL 67 p.1 p.2 fun k xs=>FV false ns (BW r a) ⟨IU xs,k::p.2.z⟩ (IU xs) m (frz p.2 k))
    | none=>bd (r.e x m σ) fun p=>MD p.2.z (itm false p.1 p.2 fun i σ=>FV false ns (BW r a) i i.xs m σ)
noncomputable def Oe (t:X) (m:Mm) (σ:Sg):Rs (AU × Mm × Sg):=bd (r.b t m σ) fun p=>gd 68 p.1 (.ok (.nx,m,p.2))
noncomputable def W0 (a:List S) (b:List S) (z:List S) (m:Mm) (σ:Sg):Rs (AU × Mm × Sg):=bd (BW r a m σ) fun p=>match z with
    | []=>cond (HC p.1) (BW r b p.2.1 p.2.2) (.ok p)
    | _::_=>gd 69 (b.isEmpty&&HC p.1) (bd (BW r z p.2.1 p.2.2) fun q=>gd 69 (HC q.1) (.ok (.nx,q.2)))
noncomputable def Wb (n:Nat) (m:Mm) (σ:Sg):Rs (AU × Mm × Sg):=gd 70 (has n m) (.ok (.nx,⟨m.ro,Ts n m.rw⟩,σ))
noncomputable def evS:S→Mm→Sg→Rs (AU × Mm × Sg)
  | .expr x,m,σ=>bd (r.e x m σ) fun p=>.ok (.nx,m,p.2)
  | .asg n x,m,σ=>V6 r n x m σ
  | .asgC n x,m,σ=>Th K r n x m σ
  | .asgA o n x,m,σ=>SO r o n x m σ
  | .asgI o i x,m,σ=>Sm T r o i x m σ
  | .asgT ns x,m,σ=>S6 r ns x m σ
  | .del o i,m,σ=>Vk T r o i m σ
  | .ret x,m,σ=>U0 r x m σ
  | .iff t a b,m,σ=>Wj r t a b m σ
  | .whl t a,m,σ=>HA (r.b t) (BW r a) 30 m σ
  | .for1 n x a,m,σ=>SU r n x a m σ
  | .forT ns x a,m,σ=>RY r ns x a m σ
  | .assert t,m,σ=>Oe r t m σ
  | .brk,m,σ=>.ok (.br,m,σ)
  | .cont,m,σ=>.ok (.ct,m,σ)
  | .try_ a b z,m,σ=>W0 r a b z m σ
  | .def_ n,m,σ=>Wb n m σ
  | _,_,_=>.er 71
noncomputable def Oa:V→Option W
  | .none=>some .none
  | .bool b=>some (.bool b)
  | .int i=>some (.int i)
  | .str s=>some (.str s)
  | .tup []=>some (.tup [])
  | _=>none
noncomputable def MJ (D:Ak) (vs:List W) (ns:List Nat) (ks:List W):List (Nat × W) :=
  D.ps.filterMap fun n=>match Ah n (D.ps.zip vs++ns.zip ks) with
    | some w=>some (n,w)
    | none=>(Ah n D.opt).bind fun v=>(Oa v).map (n,·)
noncomputable def Vg:AU→W
  | .rt v=>v
  | _=>.none
noncomputable def KR:List (Nat × V)→Bool
  | []=>true
  | p::r=>(Oa p.2).isSome&&KR r
noncomputable def evF (f:Nat) (vs:List W) (ns:List Nat) (ks:List W) (σ:Sg):Rs (W × Sg):=match K.c f vs ns ks σ with
  | some x=>gd 72 (Nat.ble K.n N) x
  | none=>ob (3000+f) (fnB.get f) fun D=>gd 73 (LH D vs.length ns&&Nat.beq ns.length ks.length&&KR D.opt)
      (bd (BW r D.body (FB (MJ D vs ns ks) ⟨[],D.locs.map (·,none)⟩) σ) fun p=>.ok (Vg p.1,p.2.2))
end
section
variable (T:Tb) (K:Hk)
noncomputable def ev (n:Nat):Ev:=@Nat.rec (fun _=>Ev) ⟨fun _ _ _=>.er 99,fun _ _ _=>.er 99,fun _ _ _=>.er 99,fun _ _ _ _ _=>.er 99⟩ (fun n r=>⟨evE T K n r,evB T r,evS T K r,evF K n r⟩) n
end
end
section
structure Vl where
  s:Nat→V
  l:Nat→List V
  d:Nat→List (List Nat × V)
  p:Nat→Option O→Prop
  ν:Nat→Id
  h:H
noncomputable def glV (n:Nat):V:=.raw ((glq n).getD .none)
mutual
noncomputable def den (v:Vl):W→V
  | .none=>.none
  | .bool b=>.bool b
  | .int i=>.int i
  | .str s=>.str s
  | .tup xs=>.tup (Ap v xs)
  | .ref k=>.ref (v.ν k)
  | .vals k=>.vw "dict_values" (v.ν k)
  | .items k=>.vw "dict_items" (v.ν k)
  | .rng a n=>.rng a 1 n
  | .gl n=>glV n
  | .sym k=>v.s k
termination_by structural x=>x
noncomputable def Ap (v:Vl):List W→List V
  | []=>[]
  | x::xs=>den v x::Ap v xs
termination_by structural x=>x
end
noncomputable def AE {α:Type} (v:Vl) (fs:List (α × W)):List (α × V):=fs.map fun p=>(p.1,den v p.2)
noncomputable def OR (v:Vl):WO→Option O→Prop
  | .inst k fs,o=>o=some (.inst k (AE v fs))
  | .list xs,o=>o=some (.list (Ap v xs))
  | .dict es,o=>∃ ep,o=some (.dict ep (AE v es))
  | .set xs,o=>o=some (.set xs)
  | .lsym j,o=>o=some (.list (v.l j))
  | .dsym j,o=>∃ ep,o=some (.dict ep (v.d j))
  | .psym j,o=>v.p j o
structure AO (c:Cx) (v:Vl) (T:Tb):Prop where
  inj:∀ a b,v.ν a=v.ν b→a=b
  tab:∀ sc x,c.code sc=some x→(∀ k,v.ν k≠x.2.2)∧v.h x.2.2=some (.tab x.2.1)
  eq:∀ i j b,IT i j T.eq=some b→∀ h n,eqD h (n+1) (v.s i) (v.s j)=some b
  em:∀ j b,Ah j T.em=some b→(v.l j).isEmpty=b∧(v.l j).length≤900
  le:∀ i j b,IT i j T.le=some b→∀ h n,(if (v.l i).length=(v.l j).length then BA (eqD h (n+1)) (v.l i) (v.l j) else some false)=some b
  dl:∀ i k r,Ea i k T.dl=some r→(v.d i).lookup k=r.map (den v)
  nn:∀ k,T.nn.contains k=true→B0 (v.s k)=false∧∀ x,v.s k≠.raw x
  ds:∀ i k r j,Ea i k T.ds=some (some r,j)→(v.d i).length≤900∧v.d j=Dy k (.ref (v.ν r)) (v.d i)
  dd:∀ i k j,Ea i k T.ds=some (none,j)→(v.d i).length≤900∧((v.d i).lookup k).isSome=true∧v.d j=JK k (v.d i)
structure HR (v:Vl) (zf:Nat→O) (σ:Sg) (h:H):Prop where
  ats:∀ k o,lo k σ.L=some o→OR v o (h (v.ν k))
  fr:∀ k,σ.n≤k→h (v.ν k)=none
  old:∀ i,(∀ k,v.ν k≠i)→h i=v.h i
  fz:∀ k,σ.z.contains k=true→h (v.ν k)=some (zf k)
  lt:∀ k o,lo k σ.L=some o→k<σ.n
theorem no {α:Type} {n:Nat} {a:α} {p:Prop} (h:Rs.er n=Rs.ok a):p:=by cases h
theorem Fj {α:Type} {n:Nat} {x:Rs α} {a:α}:∀ {b:Bool},gd n b x=.ok a→b=true∧x=.ok a
  | true,h=>⟨rfl,h⟩
theorem FU {α β:Type} {n:Nat} {f:α→Rs β} {b:β}:∀ {x:Option α},ob n x f=.ok b→∃ a,x=some a∧f a=.ok b
  | some a,h=>(iEA a rfl h)
theorem AM {α:Type} {a b:α} (h:Rs.ok a=Rs.ok b):a=b:=by cases h;rfl
theorem AQ {n k:Nat} (e:n≠k):Nat.beq n k=false:=Bool.eq_false_iff.mpr fun z=>e (eN z)
theorem DI (n k:Nat):(n==k)=Nat.beq n k:=by
  by_cases z:n=k
  · rw[z,Nat.beq_refl,beq_self_eq_true]
  · rw[AQ z];exact beq_eq_false_iff_ne.mpr z
theorem G7 {α:Type} {k:Nat}:∀ {l:List (Nat × α)},Ah k l=l.lookup k:=by
  intro zl;induction zl with
  | nil =>
    exact rfl
  | cons zq r ih =>
    obtain ⟨a,x⟩:=zq
    show cond (Nat.beq k a) (some x) (Ah k r)=_
    rw[List.lookup_cons,ih,DI]
    cases Nat.beq k a<;>rfl
theorem Fl:∀ {a b:List Nat},seq a b=(a==b)
  | [],[]=>rfl
  | [],_::_=>rfl
  | _::_,[]=>rfl
  | x::a,y::b=>by
    show cond (Nat.beq x y) (seq a b) false=_
    refine (Fl (a:=a) ..).symm▸(DI ..)▸?_
    show _=(x==y&&a==b)
    cases x==y<;>rfl
theorem Dq {a b:List Nat} (h:seq a b=true):a=b:=eq_of_beq (Fl.symm.trans h)
theorem HL {α:Type} {k:List Nat}:∀ {l:List (List Nat × α)},EW k l=l.lookup k:=by
  intro zl;induction zl with
  | nil =>
    exact rfl
  | cons zq r ih =>
    obtain ⟨a,x⟩:=zq
    show cond (seq k a) (some x) (EW k r)=_
    rw[List.lookup_cons,ih,Fl]
    cases k==a<;>rfl
theorem J6 {k:List Nat}:∀ {l:List (List Nat)},RE k l=l.contains k:=by
  intro zl;induction zl with
  | nil =>
    exact rfl
  | cons a r ih =>
    show cond (seq k a) true (RE k r)=_
    rw[List.contains_cons,ih,Fl]
    cases k==a<;>rfl
section
variable {v:Vl}
theorem AX:∀ {xs:List W},Ap v xs=xs.map (den v):=by
  intro zl;induction zl with
  | nil =>
    exact rfl
  | cons x xs ih =>
    exact congrArg (den v x::·) ih
theorem Ax {xs:List W}:(Ap v xs).length=xs.length:=by rw[AX,List.length_map]
theorem Dw {α:Type} {xs:List (α × W)}:(AE v xs).length=xs.length:=List.length_map ..
theorem Lr:∀ {xs:List W},(Ap v xs).isEmpty=xs.isEmpty
  | []=>rfl
  | _::_=>rfl
theorem Pf {α:Type}:∀ {xs:List (α × W)},(AE v xs).isEmpty=xs.isEmpty
  | []=>rfl
  | _::_=>rfl
theorem FZ {xs ys:List W}:Ap v (xs++ys)=Ap v xs++Ap v ys:=by simp only[AX,AX,AX,List.map_append]
theorem DA {α:Type} [BEq α] {k:α}:∀ {fs:List (α × W)},(AE v fs).lookup k=(fs.lookup k).map (den v):=by
  intro zl;induction zl with
  | nil =>
    exact rfl
  | cons zq r ih =>
    obtain ⟨a,x⟩:=zq
    show ((a,den v x)::AE v r).lookup k=_
    rw[List.lookup_cons,List.lookup_cons,ih]
    cases k==a<;>rfl
theorem dF {n:Nat} {fs:List (Nat × W)} {w:W} (e:Ah n fs=some w):(AE v fs).lookup n=some (den v w):=by rw[DA,← G7,e];rfl
theorem dF0 {n:Nat} {fs:List (Nat × W)} (e:Ah n fs=none):(AE v fs).lookup n=none:=by rw[DA,← G7,e];rfl
theorem dS {k:List Nat} {es:List (List Nat × W)}:(AE v es).lookup k=(EW k es).map (den v):=by rw[DA,HL]
theorem N9 {n:Nat} {w:W}:∀ {fs:List (Nat × W)},AE v (WP n w fs)=Gw n (den v w) (AE v fs):=by
  intro zl;induction zl with
  | nil =>
    exact rfl
  | cons zq r ih =>
    obtain ⟨a,x⟩:=zq
    show AE v (cond (Nat.beq n a) ((a,w)::r) ((a,x)::WP n w r))=if (a==n)=true then (a,den v w)::AE v r else (a,den v x)::Gw n (den v w) (AE v r)
    refine ih▸?_
    by_cases z:n=a
    · subst z;rw[Nat.beq_refl,if_pos (beq_self_eq_true n)];rfl
    · rw[AQ z,if_neg fun y=>z (eq_of_beq y).symm];rfl
theorem NZ {k:List Nat} {w:W}:∀ {es:List (List Nat × W)},AE v (Wz k w es)=(AE v es).map fun e=>if e.1==k then (e.1,den v w) else e:=by
  intro zl;induction zl with
  | nil =>
    exact rfl
  | cons zq r ih =>
    obtain ⟨a,x⟩:=zq
    show AE v (cond (seq k a) (a,w) (a,x)::Wz k w r)=(if (a==k)=true then (a,den v w) else (a,den v x))::(AE v r).map _
    refine ih▸Fl.symm▸(BEq.comm (a:=a)).symm▸?_
    cases k==a<;>rfl
theorem Ru {α:Type} {k:List Nat}:∀ {es:List (List Nat × α)},(es.any fun e=>e.1==k)=(EW k es).isSome:=by
  intro zl;induction zl with
  | nil =>
    exact rfl
  | cons zq r ih =>
    obtain ⟨a,x⟩:=zq
    show (a==k || _)=(cond (seq k a) (some x) (EW k r)).isSome
    refine ih.symm▸Fl.symm▸(BEq.comm (a:=a)).symm▸?_
    cases k==a<;>rfl
theorem IQ {k:List Nat} {w:W} {es:List (List Nat × W)}:AE v (OP k w es)=Dy k (den v w) (AE v es):=by
  unfold OP Dy
  rw[Ru,HL (l:=AE v es),DA,← HL]
  cases EW k es with
  | none=>exact List.map_append
  | some _=>exact NZ
theorem LK {fs:List (List Nat × W)}:∀ {es:List (List Nat × W)},AE v (fs.foldl (fun acc e=>OP e.1 e.2 acc) es)=JY (AE v es) (AE v fs):=by
  induction fs with
  | nil=>intro es;rfl
  | cons x r ih=>intro es;exact (ih (es:=OP x.1 x.2 es)).trans (by rw[IQ];rfl)
theorem AF {α:Type} {xs:List α} (e:small xs=true):xs.length≤900:=lB e
theorem Ec {n:Nat} (e:n≤900):n≤2^20:=Nat.le_trans e (by decide)
theorem NY {n:Nat} (e:n≤900):n<2^40:=Nat.lt_of_le_of_lt e (by decide)
theorem BQ {w:W} {k:Nat} (e:AZ w=some k):w=.ref k:=by cases w<;>first | exact congrArg W.ref (oJ e) | exact nn e
theorem Et {w:W} {k:List Nat} (e:BP w=some k):w=.str k:=by cases w<;>first | exact congrArg W.str (oJ e) | exact nn e
theorem FW {w:W} {k:Int} (e:EY w=some k):w=.int k:=by cases w<;>first | exact congrArg W.int (oJ e) | exact nn e
theorem Ng {w:W} {k:List W} (e:Hz w=some k):w=.tup k:=by cases w<;>first | exact congrArg W.tup (oJ e) | exact nn e
theorem Jv {o:WO} {p:Nat × List (Nat × W)} (e:Hs o=some p):o=.inst p.1 p.2:=by cases o<;>first | (exact (oJ e)▸rfl) | exact nn e
theorem Mj {o:WO} {p:List W} (e:G9 o=some p):o=.list p:=by cases o<;>first | exact congrArg WO.list (oJ e) | exact nn e
theorem QB {o:WO} {p:List (List Nat × W)} (e:JH o=some p):o=.dict p:=by cases o<;>first | exact congrArg WO.dict (oJ e) | exact nn e
theorem O1 {o:WO} {p:List (List Nat)} (e:Kg o=some p):o=.set p:=by cases o<;>first | exact congrArg WO.set (oJ e) | exact nn e
theorem JM {w:W} (e:NV w=true):w=.none:=by cases w<;>first | rfl | exact absurd e fT
theorem WV:∀ {xs:List W} {ss:List (List Nat)},HQ xs=some ss→Ap v xs=ss.map .str:=by
  intro zl;induction zl with
  | nil =>
    intro _ e
    refine (oJ e)▸?_;rfl
  | cons x r ih =>
    intro ss e
    have e:(match BP x with
      | some s=>(HQ r).map (s::·)
      | none=>none)=some ss:=e
    cases q:BP x with
    | none=>rw[q] at e;exact nn e
    | some s =>
      rw[q] at e
      cases q2:HQ r with
      | none=>rw[q2] at e;exact nn e
      | some t=>rw[q2] at e;refine (oJ e)▸(Et q).symm▸?_;exact congrArg (V.str s::·) (ih q2)
variable {c:Cx} {d:Nat} {zf:Nat→O} {σ σ':Sg} {h h':H} {w:W} {T:Tb}
theorem Dm {α:Type} {x:Option α} {a:α} (e:x=some a):x.isSome=true:=by rw[e];rfl
theorem Ys {j:Nat}:∀ {t:HT},lo j t=cond (Nat.beq j 0) t.v (cond (Nat.beq (j % 2) 1) (lo (j / 2) t.l) (lo (j / 2 - 1) t.r))
  | .nil=>by
    show none=cond (Nat.beq j 0) none (cond (Nat.beq (j % 2) 1) none none)
    cases Nat.beq j 0<;>cases Nat.beq (j % 2) 1<;>rfl
  | .node _ _ _=>rfl
theorem M7 {j k:Nat} (e:j / 2=k / 2) (m:j % 2=k % 2):j=k:=by rw[← Nat.div_add_mod j 2,← Nat.div_add_mod k 2,e,m]
theorem Nn {f k:Nat} (hf:k<f+1) (k0:k≠0):k / 2<f:=Nat.lt_of_lt_of_le (Nat.div_lt_self (Nat.pos_of_ne_zero k0) (by decide)) (Nat.le_of_lt_succ hf)
theorem Lx {k:Nat} (k0:k≠0) (k1:¬ k % 2=1):0<k / 2:=Nat.div_pos (Nat.lt_of_le_of_ne (Nat.pos_of_ne_zero k0) fun e=>k1 (by exact e▸rfl)) (by decide)
theorem P6 {k:Nat} (k1:¬ k % 2=1):k % 2=0:=(Nat.mod_two_eq_zero_or_one k).resolve_right k1
theorem LY {o:WO} {j:Nat}:∀ {f k:Nat} {t:HT},k<f→lo j (t.ins o f k)=cond (Nat.beq j k) (some o) (lo j t)
  | f+1,k,t,hf=>by
    have e:t.ins o (f+1) k=cond (Nat.beq k 0) (.node (some o) t.l t.r) (cond (Nat.beq (k % 2) 1) (.node t.v (t.l.ins o f (k / 2)) t.r) (.node t.v t.l (t.r.ins o f (k / 2 - 1)))):=rfl
    rw[e,Ys (t:=t)]
    by_cases k0:k=0
    · subst k0
      show cond (Nat.beq j 0) (some o) (cond (Nat.beq (j % 2) 1) (lo (j / 2) t.l) (lo (j / 2 - 1) t.r))=_
      cases Nat.beq j 0<;>rfl
    refine (AQ k0).symm▸?_
    by_cases k1:k % 2=1
    · refine k1.symm▸?_
      show cond (Nat.beq j 0) t.v (cond (Nat.beq (j % 2) 1) (lo (j / 2) (t.l.ins o f (k / 2))) (lo (j / 2 - 1) t.r))=_
      rw[LY (Nn hf k0)]
      by_cases z:j=k
      · refine (z ..).symm▸(Nat.beq_refl ..).symm▸(Nat.beq_refl ..).symm▸(AQ k0 ..).symm▸(k1 ..).symm▸?_;rfl
      · rw[AQ z]
        by_cases j1:j % 2=1
        · refine (AQ fun e=>z (M7 e (j1.trans k1.symm))).symm▸?_;rfl
        · refine (AQ j1).symm▸?_;rfl
    · refine (AQ k1).symm▸?_
      show cond (Nat.beq j 0) t.v (cond (Nat.beq (j % 2) 1) (lo (j / 2) t.l) (lo (j / 2 - 1) (t.r.ins o f (k / 2 - 1))))=_
      rw[LY (Nat.lt_of_le_of_lt (Nat.sub_le ..) (Nn hf k0))]
      by_cases z:j=k
      · refine (z ..).symm▸(Nat.beq_refl ..).symm▸(Nat.beq_refl ..).symm▸(AQ k0 ..).symm▸(AQ k1 ..).symm▸?_;rfl
      · rw[AQ z]
        by_cases j0:j=0
        · refine j0.symm▸?_;rfl
        · by_cases j1:j % 2=1
          · refine j1.symm▸?_;rfl
          · rw[AQ (show j / 2 - 1≠k / 2 - 1 from fun e=>z (M7 (Nat.pred_inj (Lx j0 j1) (Lx k0 k1) e) ((P6 j1).trans (P6 k1).symm)))];rfl
theorem Ci {o:WO} {k j:Nat} {t:HT}:lo j (DR k o t)=cond (Nat.beq j k) (some o) (lo j t):=LY (Nat.lt_succ_self k)
theorem HR.put (VO:AO c v T) (R:HR v zf σ h) {k:Nat} {o:WO} {o' x:O} (e:h (v.ν k)=some x) (hz:(!σ.z.contains k)=true) (q:OR v o (some o')):HR v zf ⟨σ.n,σ.z,DR k o σ.L⟩ (upd h (v.ν k) o'):=by
  have ne:∀ {j},j≠k→v.ν j≠v.ν k:=fun z y=>z (VO.inj _ _ y)
  refine ⟨fun j x hx=>?_,fun j hj=>?_,fun i hi=>?_,fun j hj=>?_,fun j x hx=>?_⟩
  · rw[Ci] at hx
    by_cases z:j=k
    · subst z;rw[Nat.beq_refl] at hx;rw[← oJ hx,Aj];exact q
    · rw[AQ z] at hx;rw[Ae (ne z)];exact R.ats j x hx
  · refine (Ae (ne fun z=>?_)).trans (R.fr j hj)
    rw[← z,R.fr _ hj] at e;exact nn e
  · exact (Ae (Ne.symm (hi k))).trans (R.old i hi)
  · exact (Ae (ne fun z=>by rw[← z] at hz;rw[show σ.z.contains j=true from hj] at hz;exact Bool.noConfusion hz)).trans (R.fz j hj)
  · rw[Ci] at hx
    by_cases z:j=k
    · exact Nat.lt_of_not_le fun y=>by rw[← z,R.fr j y] at e;exact nn e
    · rw[AQ z] at hx;exact R.lt j x hx
theorem HR.new (VO:AO c v T) (R:HR v zf σ h) {o:WO} {o':O} (q:OR v o (some o')):h (v.ν σ.n)=none∧HR v zf ⟨σ.n+1,σ.z,DR σ.n o σ.L⟩ (upd h (v.ν σ.n) o'):=by
  have ne:∀ {j},j≠σ.n→v.ν j≠v.ν σ.n:=fun z y=>z (VO.inj _ _ y)
  refine ⟨R.fr _ (Nat.le_refl _),fun j x hx=>?_,fun j hj=>?_,fun i hi=>?_,fun j hj=>?_,fun j x hx=>?_⟩
  · rw[Ci] at hx
    by_cases z:j=σ.n
    · subst z;rw[Nat.beq_refl] at hx;rw[← oJ hx,Aj];exact q
    · rw[AQ z] at hx;rw[Ae (ne z)];exact R.ats j x hx
  · exact (Ae (ne (Nat.ne_of_gt hj))).trans (R.fr j (Nat.le_of_succ_le hj))
  · exact (Ae (Ne.symm (hi σ.n))).trans (R.old i hi)
  · refine (Ae (ne fun z=>?_)).trans (R.fz j hj)
    have:=R.fz j hj
    rw[z,R.fr _ (Nat.le_refl _)] at this;exact nn this
  · rw[Ci] at hx
    by_cases z:j=σ.n
    · rw[z];exact Nat.lt_succ_self _
    · rw[AQ z] at hx;exact Nat.lt_succ_of_lt (R.lt j x hx)
theorem Uh {α:Type} {n:Nat} {r:α} {f:Nat→Nat→List (Nat × W)→Rs α} (R:HR v zf σ h) (p:onI n w σ f=.ok r):∃ k cl fs,w=.ref k∧h (v.ν k)=some (.inst cl (AE v fs))∧f k cl fs=.ok r:=by
  obtain ⟨k,e1,p⟩:=FU p
  obtain ⟨o,e2,p⟩:=FU p
  obtain ⟨q,e3,p⟩:=FU p
  have b:=R.ats _ _ e2
  rw[Jv e3] at b
  exact (DM k q.1 q.2 (BQ e1) b p)
theorem Yj {α:Type} {n:Nat} {r:α} {f:Nat→List W→Rs α} (R:HR v zf σ h) (p:onL n w σ f=.ok r):∃ k xs,w=.ref k∧h (v.ν k)=some (.list (Ap v xs))∧f k xs=.ok r:=by
  obtain ⟨k,e1,p⟩:=FU p
  obtain ⟨o,e2,p⟩:=FU p
  obtain ⟨q,e3,p⟩:=FU p
  have b:=R.ats _ _ e2
  rw[Mj e3] at b
  exact (Al k q (BQ e1) b p)
theorem CL {α:Type} {n:Nat} {r:α} {f:Nat→List W→Rs α} {q:Prop} (R:HR v zf σ h) (p:onL n w σ f=.ok r) (k:∀ i xs,w=.ref i→h (v.ν i)=some (.list (Ap v xs))→f i xs=.ok r→q):q:=Au (Yj R p) k
theorem Y1 {α:Type} {n:Nat} {r:α} {f:Nat→List (List Nat × W)→Rs α} (R:HR v zf σ h) (p:onD n w σ f=.ok r):∃ k ep es,w=.ref k∧h (v.ν k)=some (.dict ep (AE v es))∧f k es=.ok r:=by
  obtain ⟨k,e1,p⟩:=FU p
  obtain ⟨o,e2,p⟩:=FU p
  obtain ⟨q,e3,p⟩:=FU p
  have b:=R.ats _ _ e2
  rw[QB e3] at b
  refine xE b fun ep b=>?_
  exact (DM k ep q (BQ e1) b p)
theorem IS {α:Type} {n:Nat} {r:α} {f:Nat→List (List Nat × W)→Rs α} {q:Prop} (R:HR v zf σ h) (p:onD n w σ f=.ok r) (k:∀ i ep es,w=.ref i→h (v.ν i)=some (.dict ep (AE v es))→f i es=.ok r→q):q:=Be (Y1 R p) k
theorem YV {α:Type} {n:Nat} {r:α} {f:Nat→List (List Nat)→Rs α} (R:HR v zf σ h) (p:onS n w σ f=.ok r):∃ k xs,w=.ref k∧h (v.ν k)=some (.set xs)∧f k xs=.ok r:=by
  obtain ⟨k,e1,p⟩:=FU p
  obtain ⟨o,e2,p⟩:=FU p
  obtain ⟨q,e3,p⟩:=FU p
  have b:=R.ats _ _ e2
  rw[O1 e3] at b
  exact (Al k q (BQ e1) b p)
noncomputable def PV (v:Vl) (zf:Nat→O) (w:W) (σ':Sg):V→H→Prop:=fun x h'=>x=den v w∧HR v zf σ' h'
theorem pv {r:W × Sg} (e:(Rs.ok (w,σ):Rs (W × Sg))=.ok r) (R:HR v zf σ h):PV v zf r.1 r.2 (den v w) h:=by refine (AM e)▸?_;exact ⟨rfl,R⟩
theorem SB (VO:AO c v T) (F:Aq c) {k:Nat} {o:WO} {b:Bool} (q:OR v o (h (v.ν k))) (p:XI T o=.ok b) {P:Bool→H→Prop} (z:P b h):TrW c (.ref (v.ν k)) h P:=by
  cases o with
  | list xs=>obtain ⟨e,p⟩:=Fj p;exact Ld q (by rw[Ax];exact NY (AF e)) (by rw[Lr,AM p];exact z)
  | dict es=>obtain ⟨e,p⟩:=Fj p;obtain ⟨ep,q⟩:=q;exact PJ F.ok q (by rw[Dw];exact NY (AF e)) (by rw[Pf,AM p];exact z)
  | set xs=>obtain ⟨e,p⟩:=Fj p;exact SA q (NY (AF e)) (by rw[AM p];exact z)
  | inst cl fs=>obtain ⟨e,p⟩:=Fj p;exact Rf F.ok q (F.ck _ e) (by rw[AM p];exact z)
  | lsym j=>obtain ⟨y,e,p⟩:=FU p;obtain ⟨a,l⟩:=VO.em _ _ e;exact Ld q (NY l) (by rw[a,AM p];exact z)
  | _=>exact no p
theorem Mi (VO:AO c v T) (F:Aq c) (R:HR v zf σ h) {b:Bool} (p:tru T w σ=.ok b) {P:Bool→H→Prop} (z:P b h):TrW c (den v w) h P:=by
  cases w with
  | none=>exact RD (by rw[AM p];exact z)
  | bool x=>exact Dl (by rw[AM p];exact z)
  | str s=>obtain ⟨e,p⟩:=Fj p;exact Tf (NY (AF e)) (by rw[AM p];exact z)
  | tup xs=>obtain ⟨e,p⟩:=Fj p;exact SF (by rw[Ax];exact NY (AF e)) (by rw[Lr,AM p];exact z)
  | ref k=>obtain ⟨o,e,p⟩:=FU p;exact SB VO F (R.ats _ _ e) p z
  | _=>exact no p
theorem Jo {f:W→W→Option Bool} {g:V→V→Option Bool} (hf:∀ a b k,f a b=some k→g (den v a) (den v b)=some k):∀ {xs ys:List W} {k:Bool},Oi f xs ys=some k→BA g (Ap v xs) (Ap v ys)=some k
  | [],ys,k,e=>by cases ys<;>exact e
  | x::xs,[],k,e=>e
  | x::xs,y::ys,k,e=>by
    have e:(f x y).bind (fun a=>(Oi f xs ys).map (a&&·))=some k:=e
    show Qk (g (den v x) (den v y)) (BA g (Ap v xs) (Ap v ys))=some k
    cases q:f x y with
    | none=>rw[q] at e;exact nn e
    | some a =>
      rw[q] at e
      cases q2:Oi f xs ys with
      | none=>rw[q2] at e;exact nn e
      | some b=>rw[q2] at e;refine (hf _ _ _ q).symm▸(Jo hf q2).symm▸?_;exact e
theorem R9 {xs ys:List W}:((Ap v xs).length==(Ap v ys).length)=Nat.beq xs.length ys.length:=by rw[Ax,Ax,DI]
noncomputable def eqL (n:Nat) (h:H) (xs ys:List V):Option Bool:=if xs.length=ys.length then BA (eqD h n) xs ys else some false
theorem Wk (VO:AO c v T) {n:Nat} {f:W→W→Option Bool} (hf:∀ a b k,f a b=some k→eqD h n (den v a) (den v b)=some k) {a b:WO} {oa ob:Option O} {k:Bool} (e:eqO T n f a b=some k) (qa:OR v a oa) (qb:OR v b ob) :
    ∃ xs ys,oa=some (.list xs)∧ob=some (.list ys)∧eqL n h xs ys=some k:=by
  cases a with
  | list xs =>
    refine Am e fun ys e1 e=>?_
    rw[Mj e1] at qb
    refine (Al _ _ qa qb ?_)
    unfold eqL
    refine Ax.symm▸Ax.symm▸?_
    by_cases z:xs.length=ys.length
    · rw[z,Nat.beq_refl] at e;rw[if_pos z];exact Jo hf e
    · rw[AQ z] at e;rw[if_neg z];exact e
  | lsym i =>
    cases b with
    | lsym j =>
      cases n with
      | zero=>exact nn e
      | succ n=>exact ⟨_,_,qa,qb,VO.le i j k e h n⟩
    | list ys =>
      cases ys with
      | nil =>
        refine (Al _ _ qa qb ?_)
        have:=(VO.em _ _ e).1
        cases q:v.l i with
        | nil=>rw[q] at this;refine this▸?_;rfl
        | cons x r=>rw[q] at this;refine this▸?_;rfl
      | cons _ _=>exact nn e
    | _=>exact nn e
  | _=>exact nn e
theorem Rb (VO:AO c v T) (R:HR v zf σ h):∀ {n:Nat} {a b:W} {k:Bool},eqZ T σ n a b=some k→eqD h n (den v a) (den v b)=some k:=by
  intro zl;induction zl with
  | zero =>
    intro _ _ _ e
    exact nn e
  | succ n ih =>
    intro a b k e
    cases a with
    | none=>cases b<;>first | exact e | exact nn e
    | bool x=>cases b<;>first | exact e | exact nn e
    | int x=>refine C0 e fun y q e=>?_;rw[FW q];exact congrArg some e
    | str x=>refine C0 e fun y q e=>?_;rw[Et q];rw[Fl] at e;exact congrArg some e
    | tup xs =>
      refine Am e fun ys q e=>?_
      refine C0 e fun z q2 e=>?_
      rw[Ng q]
      show (BA (eqD h n) (Ap v xs) (Ap v ys)).map (fun b=>b&&(Ap v xs).length==(Ap v ys).length)=some k
      refine (Jo (fun _ _ _=>ih) q2).symm▸R9.symm▸?_;exact congrArg some e
    | ref i =>
      refine Am e fun j q e=>?_
      refine Am e fun o q1 e=>?_
      refine Am e fun o' q2 e=>?_
      refine Au (Wk VO (fun _ _ _=>ih) e (R.ats _ _ q1) (R.ats _ _ q2)) fun xs ys a1 a2 e=>?_
      rw[BQ q]
      show ((h (v.ν i)).bind LR).bind (fun xs=>((h (v.ν j)).bind LR).bind fun ys=>if xs.length=ys.length then BA (eqD h n) xs ys else some false)=some k
      refine a1.symm▸a2.symm▸?_;exact e
    | sym i=>cases b<;>first | exact VO.eq _ _ _ e h n | exact nn e
    | _=>exact nn e
end
end
section
theorem bdK {α β:Type} {f:α→Rs β} {b:β} {G:Prop}:∀ {x:Rs α},bd x f=.ok b→(∀ a,x=.ok a→f a=.ok b→G)→G
  | .ok a,h,k=>k a rfl h
theorem gdK {α:Type} {n:Nat} {x:Rs α} {a:α} {G:Prop}:∀ {b:Bool},gd n b x=.ok a→(b=true→x=.ok a→G)→G
  | true,h,k=>k rfl h
theorem obK {α β:Type} {n:Nat} {f:α→Rs β} {b:β} {G:Prop}:∀ {x:Option α},ob n x f=.ok b→(∀ a,x=some a→f a=.ok b→G)→G
  | some a,h,k=>k a rfl h
end
section
section
variable {v:Vl} {c:Cx} {d:Nat} {zf:Nat→O} {σ σ':Sg} {h h':H} {w:W} {T:Tb}
theorem Q3 (VO:AO c v T) (F:Aq c) {k:List Nat} {j:Nat} {o:WO} {z:Bool} (q:OR v o (h (v.ν j))) (p:inD T k o=.ok z) {P P':V→H→Prop} (a:P (.bool z) h) (b:P' (.bool (!z)) h) :
    OpW c (compareOp .In) (.str k) (.ref (v.ν j)) h P∧OpW c (compareOp .NotIn) (.str k) (.ref (v.ν j)) h P':=by
  cases o with
  | dict es =>
    refine xE q fun ep hi=>?_
    have e:z=((AE v es).lookup k).isSome:=by rw[dS,Option.isSome_map];exact (AM p).symm
    rw[e] at a b;exact ⟨HP F.ok hi a,ET F.ok hi b⟩
  | list xs =>
    refine obK p fun ss e p=>?_
    have hi:h (v.ν j)=some (.list (Ap v xs)):=q
    rw[WV e] at hi
    have e:z=ss.contains k:=(AM p).symm.trans J6
    rw[e] at a b;exact ⟨LM hi a,Iz hi b⟩
  | dsym i =>
    refine obK p fun r e p=>?_
    refine xE q fun ep hi=>?_
    have e:z=((v.d i).lookup k).isSome:=by rw[VO.dl _ _ _ e,Option.isSome_map];exact (AM p).symm
    rw[e] at a b;exact ⟨HP F.ok hi a,ET F.ok hi b⟩
  | _=>exact no p
theorem Vu (VO:AO c v T) (F:Aq c) (R:HR v zf σ h) {a b:W} {z:Bool} (p:inZ T a b σ=.ok z) {P:V→H→Prop} (q:P (.bool z) h):OpW c (compareOp .In) (den v a) (den v b) h P:=by
  refine obK p fun k e p=>?_
  rw[Et e]
  cases b with
  | str x=>cases k with
    | nil=>exact no p
    | cons y r=>cases r with
      | nil=>exact LU (by rw[AM p];exact q)
      | cons _ _=>exact no p
  | ref j =>
    refine obK p fun o e1 p=>?_
    exact (Q3 (P':=fun _ _=>True) VO F (R.ats _ _ e1) p q trivial).1
  | _=>exact no p
noncomputable def Zp:V→Bool
  | .raw _=>true
  | _=>false
theorem WM {y:V} (e:Zp y=false):∀ x,y≠.raw x:=fun x z=>by rw[z] at e;exact Bool.noConfusion e
theorem RH (VO:AO c v T) {a:W} {z:Bool} (p:isN T a=some z):B0 (den v a)=z∧∀ x,den v a≠.raw x:=by
  cases a with
  | sym k =>
    have p:cond (T.nn.contains k) (some false) none=some z:=p
    cases e:T.nn.contains k with
    | true=>rw[e] at p;refine (oJ p)▸?_;exact VO.nn _ e
    | false=>rw[e] at p;exact nn p
  | gl _=>exact nn p
  | _=>refine (oJ p)▸?_;exact ⟨rfl,WM rfl⟩
theorem RV {xs ys:List (List Nat)}:O8 xs ys=xs.all (ys.contains ·):=congrArg (xs.all ·) (funext fun _=>J6)
theorem M5 (VO:AO c v T) (F:Aq c) (R:HR v zf σ h) {op:CmpOp} {a b:W} {z:Bool} (p:Vt T op a b σ=.ok z) {P:V→H→Prop} (q:P (.bool z) h):OpW c (compareOp op) (den v a) (den v b) h P:=by
  cases op with
  | Is =>
    refine gdK p fun e p=>?_;refine obK p fun y e1 p=>?_;refine xA (RH (v:=v) VO e1) fun e2 e3=>?_
    rw[JM e];exact E5 e3 (by rw[e2,AM p];exact q)
  | IsNot =>
    refine gdK p fun e p=>?_;refine obK p fun y e1 p=>?_;refine xA (RH (v:=v) VO e1) fun e2 e3=>?_
    rw[JM e];exact Iv e3 (by rw[e2,AM p];exact q)
  | Eq=>refine obK p fun y e p=>?_;exact Qn 9 (Rb VO R e) (by decide) (by rw[AM p];exact q)
  | NotEq =>
    have p:(match Ki a b σ with
      | some p=>Rs.ok (!(Nat.beq p.1.length p.2.length&&O8 p.1 p.2))
      | none=>ob 9 (eqZ T σ 9 a b) fun z=>.ok (!z))=.ok z:=p
    cases e:Ki a b σ with
    | none=>rw[e] at p;refine obK p fun y e p=>?_;exact MY 9 (Rb VO R e) (by decide) (by rw[AM p];exact q)
    | some y =>
      rw[e] at p
      refine Am e fun i e1 e=>?_
      refine Am e fun j e2 e=>?_
      refine Am e fun o e3 e=>?_
      refine Am e fun xs e4 e=>?_
      refine Am e fun o' e5 e=>?_
      refine C0 e fun ys e6 e=>?_
      have hi:=R.ats _ _ e3
      have hj:=R.ats _ _ e5
      rw[O1 e4] at hi
      rw[O1 e6] at hj
      refine (BQ e1).symm▸(BQ e2).symm▸?_
      refine NR hi hj ?_
      rw[← AM p,← e,RV] at q
      have:decide (xs.length=ys.length)=Nat.beq xs.length ys.length:=DI _ _
      refine this.symm▸?_;exact q
  | In=>exact Vu VO F R p q
  | NotIn =>
    refine bdK p fun y p p2=>?_
    refine obK p fun k e p=>?_
    refine obK p fun j e1 p=>?_
    refine obK p fun o e2 p=>?_
    rw[Et e,BQ e1]
    rw[← AM p2] at q
    exact (Q3 (P:=fun _ _=>True) VO F (R.ats _ _ e2) p trivial q).2
  | Gt=>refine obK p fun x e1 p=>?_;refine obK p fun y e2 p=>?_;rw[FW e1,FW e2];exact X8 (by rw[AM p];exact q)
  | GtE=>refine obK p fun x e1 p=>?_;refine obK p fun y e2 p=>?_;rw[FW e1,FW e2];exact Uj (by rw[AM p];exact q)
  | _=>exact no p
theorem s60 {a:Int} (e:Hc a=true):a.natAbs<2^60:=lB e
theorem ne0 {a:Int} (e:(a != 0)=true):a≠0:=bne_iff_ne.mp e
theorem TD (VO:AO c v T) (R:HR v zf σ h) {op:Operator} {a b:W} {r:W × Sg} (p:Yr op a b σ=.ok r):OpW c (binaryOp op) (den v a) (den v b) h (PV v zf r.1 r.2):=by
  cases a with
  | int x =>
    refine obK p fun y e p=>?_
    rw[FW e]
    cases op with
    | Add=>exact Qu (pv p R)
    | Mult=>refine gdK p fun e p=>?_;exact QZ (.inl (s60 e)) (pv p R)
    | FloorDiv=>refine gdK p fun e p=>?_;exact M9 (ne0 (Aa e).1) (s60 (Aa e).2) (pv p R)
    | Mod=>refine gdK p fun e p=>?_;exact PQ (ne0 e) (pv p R)
    | Pow =>
      refine gdK p fun e p=>?_
      have e0:=of_decide_eq_true (Aa (Aa e).1).2
      have e1:=lB (Aa (Aa e).1).1
      exact O3 e0 (Int.le_trans (by rw[← Int.toNat_of_nonneg e0];exact Int.ofNat_le.mpr e1) (by decide)) (s60 (Aa e).2) (pv p R)
    | _=>exact no p
  | str x=>cases op with
    | Add =>
      refine obK p fun y e p=>?_;refine gdK p fun z p=>?_
      rw[Et e];exact HO (Nat.le_trans (Nat.add_le_add (AF (Aa z).1) (AF (Aa z).2)) (by decide)) (pv p R)
    | _=>exact no p
  | ref k=>cases op with
    | Add =>
      refine CL R p fun j xs e e1 p=>?_
      refine CL R p fun j' ys e' e2 p=>?_
      refine gdK p fun z p=>?_
      refine xA (R.new VO (o:=.list (xs++ys)) rfl) fun n1 n2=>?_
      rw[e,e']
      exact Ey e1 e2 n1 (by rw[Ax,Ax];exact Nat.le_trans (Nat.add_le_add (AF (Aa z).1) (AF (Aa z).2)) (by decide)) (by refine FZ▸?_;exact pv p n2)
    | _=>exact no p
  | _=>exact no p
theorem Kr {xs:List W} {k:Nat} {x:W} (e:xs[k]?=some x):(Ap v xs)[k]?=some (den v x):=by rw[AX,List.getElem?_map,e];rfl
theorem Sq {k:Int} (e:ix k=true):0≤k∧k<2^40:=⟨of_decide_eq_true (Aa e).1,of_decide_eq_true (Aa e).2⟩
theorem Tj (VO:AO c v T) (R:HR v zf σ h) {o i:W} {r:W × Sg} (p:Y2 T o i σ=.ok r):Mp c (den v o) (den v i) h (PV v zf r.1 r.2):=by
  cases i with
  | int k =>
    refine gdK p fun z p=>?_;refine xA (Sq z) fun z1 z2=>?_
    have l:∀ {o:W},(onL 14 o σ fun _ xs=>ob 14 (xs[k.toNat]?) fun x=>.ok (x,σ))=.ok r→Mp c (den v o) (.int k) h (PV v zf r.1 r.2):=fun p=>by
      refine CL R p fun j xs e e1 p=>?_
      refine obK p fun x e2 p=>?_
      rw[e];exact KM e1 z1 z2 (Kr e2) (pv p R)
    cases o with
    | tup xs=>refine obK p fun x e p=>?_;exact Sv z1 z2 (Kr e) (pv p R)
    | _=>exact l p
  | str s =>
    refine obK p fun k e p=>?_;refine obK p fun o' e1 p=>?_
    have y:=R.ats _ _ e1
    rw[BQ e]
    cases o' with
    | dict es=>refine obK p fun x e p=>?_;refine xE y fun ep hi=>?_;exact Kz hi (by rw[dS,e];rfl) (pv p R)
    | dsym i=>refine obK p fun x e p=>?_;refine obK p fun u e2 p=>?_;refine xE y fun ep hi=>?_;exact Kz hi (by rw[VO.dl _ _ _ e,e2];rfl) (pv p R)
    | _=>exact no p
  | _=>exact no p
theorem UC {α:Type} {k:Nat} {o:WO} {f:Sg→Rs α} {r:α} (p:put σ k o f=.ok r):(!σ.z.contains k)=true∧f ⟨σ.n,σ.z,DR k o σ.L⟩=.ok r:=Fj p
theorem FX {α:Type} {k:Nat} {o:WO} {f:Sg→Rs α} {r:α} {q:Prop} (p:put σ k o f=.ok r) (j:(!σ.z.contains k)=true→f ⟨σ.n,σ.z,DR k o σ.L⟩=.ok r→q):q:=j (UC p).1 (UC p).2
theorem PR {x:W} {xs:List W} {k:Nat}:Ap v (xs.set k x)=(Ap v xs).set k (den v x):=by rw[AX,AX,List.map_set]
theorem Tp {α:Type} (VO:AO c v T) (R:HR v zf σ h) {o i x:W} {f:Sg→Rs α} {r:α} (p:Ya T o i x σ f=.ok r):Ti c (den v o) (den v i) (den v x) h fun h'=>∃ σ',HR v zf σ' h'∧f σ'=.ok r:=by
  cases i with
  | int k =>
    refine gdK p fun z p=>?_;refine xA (Sq z) fun z1 z2=>?_
    refine CL R p fun j xs e e1 p=>?_
    refine gdK p fun z p=>?_
    refine FX p fun y p=>?_
    rw[e];exact Rq e1 z1 z2 (by rw[Ax];exact lB z) ⟨_,R.put VO (o:=.list _) e1 y (congrArg (some∘O.list) PR.symm),p⟩
  | str s =>
    refine obK p fun j e p=>?_;refine obK p fun o' e1 p=>?_
    have y:=R.ats _ _ e1
    refine (BQ e).symm▸?_
    cases o' with
    | dict es =>
      refine gdK p fun z p=>?_
      refine FX p fun z2 p=>?_
      refine xE y fun ep y=>?_
      exact Kq y (by rw[Dw];exact Ec (AF z)) fun ep'=>⟨_,R.put VO (o:=.dict _) y z2 ⟨ep',by rw[IQ]⟩,p⟩
    | dsym i =>
      refine obK p fun n e2 p=>?_
      refine obK p fun zz63a e3 p=>?_;obtain ⟨q1,q2⟩:=zz63a
      refine obK p fun n' e4 p=>?_
      refine gdK p fun z p=>?_
      refine FX p fun z2 p=>?_
      refine xE y fun ep y=>?_
      have e4:q1=some n':=e4
      refine xA (VO.ds _ _ _ _ (by rw[e3,e4,eN z])) fun l w=>?_
      rw[BQ e2]
      exact Kq y (Ec l) fun ep'=>⟨_,R.put VO (o:=.dsym _) y z2 ⟨ep',congrArg (fun z=>some (O.dict ep' z)) w.symm⟩,p⟩
    | _=>exact no p
  | _=>exact no p
theorem RO (F:Aq c) {x:X} {n:Nat} {m:Loc} {h₀:H} {r:W × Sg} (p:X9 w n σ=.ok r) (q:E c d x m h₀ (PV v zf w σ)):E c d (.attr x n) m h₀ (PV v zf r.1 r.2):=by
  refine obK p fun k e1 p=>?_
  refine obK p fun o e2 p=>?_
  refine obK p fun s e3 p=>?_
  have at_:∀ {h},HR v zf σ h→h (v.ν k)=some (.inst s.1 (AE v s.2)):=fun R=>by
    have b:=R.ats _ _ e2
    rw[Jv e3] at b;exact b
  have p:(match Ah n s.2 with
    | some w=>gd 18 (Oz s.1 n) (Rs.ok (w,σ))
    | none=>ob 19 (QP s.1 n) fun x=>ob 19 (YB x) fun w=>.ok (w,σ))=.ok r:=p
  cases z:Ah n s.2 with
  | some y =>
    rw[z] at p
    refine gdK p fun z1 p=>?_
    exact UQ F.ok (q.mono fun a h' zy73a=>zy73a.elim fun b1 R=>(An _ _ _ _ (by rw[b1,BQ e1];rfl) (at_ R) (F.fld _ _ z1) (dF z) (pv p R)))
  | none =>
    rw[z] at p
    refine obK p fun y z1 p=>?_
    refine obK p fun y' z2 p=>?_
    have e:y=den v y':=by cases y<;>first | exact congrArg (den v) (oJ z2) | exact nn z2
    exact RP F.ok (q.mono fun a h' zy76a=>zy76a.elim fun b1 R=>(An _ _ _ _ (by rw[b1,BQ e1];rfl) (at_ R) (F.catt _ _ _ z1) (dF0 z) (by rw[e];exact pv p R)))
end
end
section
section
variable {v:Vl} {c:Cx} {d:Nat} {zf:Nat→O} {σ σ':Sg} {h h':H} {w:W} {T:Tb}
noncomputable def lnm:Nat→String
  | 0=> "list.append"
  | 1=> "list.extend"
  | _=> "list.pop"
noncomputable def dnm:Nat→String
  | 4=> "dict.get"
  | 5=> "dict.items"
  | 6=> "dict.values"
  | _=> "dict.update"
noncomputable def MR (c:Cx) (d n:Nat) (x:V) (ns:List Nat) (vs ks:List V) (h:H) (P:V→H→Prop):Mk→Prop
  | .usr f=>A0 c d f (x::vs) ns ks h P
  | .stat f=>A0 c d f vs ns ks h P
  | .lst=>Av c d (.builtin (lnm n)) (x::vs) ns ks h P
  | .dct=>Av c d (.builtin (dnm n)) (x::vs) ns ks h P
  | .st=>Av c d (.builtin "set.update") (x::vs) ns ks h P
  | .bad=>False
theorem Ur (F:Aq c) {i:Id} {ep n:Nat} {es:List (List Nat × V)} {args:List X} {kws:List (Nat × X)} {m:Loc} {P:V→H→Prop} (hi:h i=some (.dict ep es))
    (p:Es c d args m h fun vs h₁=>Ks c d kws m h₁ fun ks h₂=>MR c d n (.ref i) (kws.map (·.1)) vs ks h₂ P (cond (Nat.ble 4 n&&Nat.ble n 7) .dct .bad)) (g:okM (cond (Nat.ble 4 n&&Nat.ble n 7) .dct .bad)=true):DW c d (.ref i) n args kws m h P:=by
  have z:(Nat.ble 4 n&&Nat.ble n 7)=true:=by
    cases e:(Nat.ble 4 n&&Nat.ble n 7) with
    | true=>rfl
    | false=>rw[e] at g;exact ff g
  have hn:n<8:=Nat.lt_succ_of_le (lB (Aa z).2)
  cases n,hn using n8
  · exact ff z
  · exact ff z
  · exact ff z
  · exact ff z
  · exact J4 F.ok hi (n:=4) rfl rfl PySem.F.slot_dict_get PySem.F.type_dict_get p
  · exact J4 F.ok hi (n:=5) rfl rfl PySem.F.slot_dict_items PySem.F.type_dict_items p
  · exact J4 F.ok hi (n:=6) rfl rfl PySem.F.slot_dict_values PySem.F.type_dict_values p
  · exact J4 F.ok hi (n:=7) rfl rfl PySem.F.slot_dict_update PySem.F.type_dict_update p
theorem W4 (F:Aq c) {k n:Nat} {o:WO} (hi:OR v o (h (v.ν k))) {args:List X} {kws:List (Nat × X)} {m:Loc} {P:V→H→Prop} (g:okM (mkO n o)=true)
    (p:Es c d args m h fun vs h₁=>Ks c d kws m h₁ fun ks h₂=>MR c d n (.ref (v.ν k)) (kws.map (·.1)) vs ks h₂ P (mkO n o)):DW c d (.ref (v.ν k)) n args kws m h P:=by
  cases o with
  | inst cl fs =>
    have e:mkO n (.inst cl fs)=match Ah n fs with
      | some _=>.bad
      | none=>match Hu cl n with
        | some f=>.usr f
        | none=>match Eo cl n with
          | some f=>.stat f
          | none=>.bad:=rfl
    rw[e] at g p
    cases z:Ah n fs with
    | some _=>rw[z] at g;exact absurd g fT
    | none =>
      rw[z] at g p
      cases y:Hu cl n with
      | some f=>rw[y] at p;exact Xz F.ok hi (F.meth _ _ _ y) (dF0 z) p
      | none =>
        rw[y] at g p
        cases y2:Eo cl n with
        | some f=>rw[y2] at p;exact SH F.ok hi (F.stat _ _ _ y2) (dF0 z) p
        | none=>rw[y2] at g;exact absurd g fT
  | list xs =>
    rcases n with _ | _ | _ | n
    · exact Ka F.ok hi (n:=0) rfl rfl PySem.F.slot_list_append PySem.F.type_list_append p
    · exact Ka F.ok hi (n:=1) rfl rfl PySem.F.slot_list_extend PySem.F.type_list_extend p
    · exact Ka F.ok hi (n:=2) rfl rfl PySem.F.slot_list_pop PySem.F.type_list_pop p
    · exact absurd g fT
  | dict es=>refine xE hi fun ep hi=>?_;exact Ur F hi p g
  | dsym j=>refine xE hi fun ep hi=>?_;exact Ur F hi p g
  | set xs =>
    by_cases z:n=7
    · subst z;exact XX F.ok hi (n:=7) rfl rfl PySem.F.slot_set_update PySem.F.type_set_update p
    · have e:mkO n (.set xs)=.bad:=by show cond (Nat.beq n 7) Mk.st Mk.bad=_;refine (AQ z).symm▸?_;rfl
      rw[e] at g;exact absurd g fT
  | _=>exact absurd g fT
theorem Sd:(G1.all fun p=>(Ah p.1 gL).isSome&&(Ah p.1 gL==JB[p.2]?&&Nat.ble 26 p.1))=true:=by decide +kernel
theorem Ar {β:Type} {k:Nat} {b:β}:∀ {l:List (Nat × β)},Ah k l=some b→(k,b)∈l
  | (a,x)::r,e=>by
    have e:cond (Nat.beq k a) (some x) (Ah k r)=some b:=e
    cases z:Nat.beq k a with
    | true=>rw[z] at e;refine (eN z).symm▸(oJ e)▸?_;exact .head _
    | false=>rw[z] at e;exact .tail _ (Ar e)
theorem LW {f k:Nat} (e:Ah f G1=some k):∃ fa,glq f=some (.ref fa)∧Ah f gL=some fa∧JB[k]?=some fa:=by
  refine Ad (List.all_eq_true.mp Sd _ (Ar e)) fun z1 z=>?_
  refine Ad z fun z2 z3=>?_
  refine isK z1 fun fa z1=>?_
  refine (Bj fa ?_ z1 ((eq_of_beq z2).symm.trans z1))
  have:AR[f]?=none:=List.getElem?_eq_none_iff.mpr (lB z3)
  unfold glq;refine this.symm▸z1.symm▸?_;rfl
theorem Ws (F:Aq c) {n:Nat} {x:Value} (e:glq n=some x):c.gv n=some x:=by
  unfold glq at e
  have g:(Ah n gL).map Value.ref=some x→c.gv n=some x:=fun e=>by
    refine C0 e fun a y e=>?_
    refine e▸?_;exact F.gv _ _ y
  cases z:AR[n]? with
  | none=>rw[z] at e;exact g e
  | some o =>
    rw[z] at e
    cases o with
    | none=>exact g e
    | some y=>refine (oJ e)▸?_;exact F.ok.stdv _ _ z
theorem Xt (F:Aq c) (R:HR v zf σ h) {n:Nat} {args:List X} {kws:List (Nat × X)} {m:Loc} {P:V→H→Prop} (g:okM (mkZ w n σ)=true)
    (p:Es c d args m h fun vs h₁=>Ks c d kws m h₁ fun ks h₂=>MR c d n (den v w) (kws.map (·.1)) vs ks h₂ P (mkZ w n σ)):DW c d (den v w) n args kws m h P:=by
  cases w with
  | ref k =>
    have e0:mkZ (.ref k) n σ=match lo k σ.L with
      | some o=>mkO n o
      | none=>.bad:=rfl
    rw[e0] at g p
    cases e:lo k σ.L with
    | none=>rw[e] at g;exact absurd g fT
    | some o =>
      rw[e] at g p
      exact W4 F (R.ats _ _ e) g p
  | gl x =>
    have e0:mkZ (.gl x) n σ=stO ((Ah x G1).bind fun k=>Eo k n):=rfl
    rw[e0] at g p
    cases e:(Ah x G1).bind fun k=>Eo k n with
    | none=>rw[e] at g;exact absurd g fT
    | some f =>
      rw[e] at p
      refine Am e fun k e y=>?_
      refine BC (LW e) fun fa e1 e2 e3=>?_
      show DW c d (.raw ((glq x).getD .none)) n args kws m h P
      refine e1.symm▸?_
      refine (F.cls _ _ e3)▸?_
      exact Vj F.ok (F.stat _ _ _ y) p
  | _=>exact absurd g fT
theorem A4 {α:Type} {xs:List α} (e:xs.isEmpty=true):xs=[]:=GI e
theorem Pb:∀ {xs:List W} {x:W},xs.getLast?=some x→Ap v xs=Ap v xs.dropLast++[den v x]
  | [],_,e=>nomatch e
  | [y],x,e=>by rw[show y=x from oJ e];rfl
  | y::z::r,x,e=>by
    rw[List.getLast?_cons_cons] at e
    show den v y::Ap v (z::r)=den v y::(Ap v (z::r).dropLast++[den v x])
    rw[Pb e]
theorem Xx (VO:AO c v T) (R:HR v zf σ h) {n:Nat} {vs:List W} {r:W × Sg} (p:doL n w vs σ=.ok r) (hn:n<3):Av c d (.builtin (lnm n)) (den v w::Ap v vs) [] [] h (PV v zf r.1 r.2):=by
  refine CL R p fun k xs e e1 p=>?_
  refine gdK p fun z p=>?_
  have hl:=AF z
  refine e.symm▸?_
  cases vs with
  | nil =>
    refine gdK p fun z p=>?_
    refine obK p fun x ex p=>?_
    refine FX p fun y p=>?_
    refine (eN z).symm▸?_
    rw[Pb ex] at e1
    exact XC e1 (by rw[Ax,List.length_dropLast];exact Ec (Nat.le_trans (Nat.sub_le _ _) hl)) (pv p (R.put VO (o:=.list xs.dropLast) e1 y rfl))
  | cons a t =>
    cases t with
    | cons _ _=>exact no p
    | nil =>
      cases n with
      | zero =>
        refine FX p fun y p=>?_
        exact KE e1 (by rw[Ax];exact Ec hl) (pv p (R.put VO (o:=.list (xs++[a])) e1 y (by show some (O.list _)=some (O.list _);rw[FZ];rfl)))
      | succ n=>exact no p
theorem KJ {o:Option W} {a:W}:(o.map (den v)).getD (den v a)=den v (o.getD a):=by cases o<;>rfl
theorem Xi (VO:AO c v T) (F:Aq c) (R:HR v zf σ h) {n:Nat} {vs:List W} {r:W × Sg} (p:doD T n w vs σ=.ok r):Av c d (.builtin (dnm n)) (den v w::Ap v vs) [] [] h (PV v zf r.1 r.2):=by
  cases vs with
  | nil =>
    refine IS R p fun k ep es e e1 p=>?_
    refine e.symm▸?_
    by_cases z:n=5
    · subst z;exact Sa F.ok e1 (pv p R)
    · by_cases z':n=6
      · subst z';exact RA F.ok e1 (pv p R)
      · rcases n with _ | _ | _ | _ | _ | _ | _ | n
        · exact no p
        · exact no p
        · exact no p
        · exact no p
        · exact no p
        · exact absurd rfl z
        · exact absurd rfl z'
        · exact no p
  | cons a t =>
    cases t with
    | nil =>
      refine gdK p fun z p=>?_
      refine IS R p fun k ep es e e1 p=>?_
      refine IS R p fun j ep' fs e' e2 p=>?_
      refine gdK p fun z' p=>?_
      refine FX p fun y p=>?_
      refine (eN z).symm▸e.symm▸e'.symm▸?_
      refine II F.ok e1 e2 (fun q=>?_) (by rw[Dw,Dw];exact Nat.le_trans (Nat.add_le_add (AF (Aa (Aa z').1).1) (AF (Aa (Aa z').1).2)) (by decide)) fun ep''=>pv p (R.put VO (o:=.dict _) e1 y ⟨ep'',by exact LK▸rfl⟩)
      have:=VO.inj _ _ q;subst this
      have z2:=A9 (Aa z').2
      rw[Nat.beq_refl] at z2;exact Bool.noConfusion z2
    | cons a2 t =>
      cases t with
      | nil =>
        refine gdK p fun z p=>?_
        refine obK p fun s e p=>?_
        refine obK p fun k e' p=>?_
        refine obK p fun o e1 p=>?_
        have q:=R.ats _ _ e1
        refine (eN z).symm▸(Et e).symm▸(BQ e').symm▸?_
        cases o with
        | dict es =>
          refine xE q fun ep hi=>?_
          refine Us F.ok hi ?_
          rw[dS,KJ];exact pv p R
        | dsym i =>
          refine obK p fun u e2 p=>?_
          refine xE q fun ep hi=>?_
          refine Us F.ok hi ?_
          rw[VO.dl _ _ _ e2,KJ];exact pv p R
        | _=>exact no p
      | cons _ _=>exact no p
theorem Wc (VO:AO c v T) (R:HR v zf σ h) {vs:List W} {r:W × Sg} (p:doS w vs σ=.ok r):Av c d (.builtin "set.update") (den v w::Ap v vs) [] [] h (PV v zf r.1 r.2):=by
  refine Au (YV R p) fun k ys e e1 p=>?_
  refine gdK p fun z p=>?_
  refine e.symm▸?_
  cases vs with
  | nil=>exact no p
  | cons a t =>
    cases t with
    | cons _ _=>exact no p
    | nil =>
      refine CL R p fun j xs e' e2 p=>?_
      refine gdK p fun z' p=>?_
      refine FX p fun y p=>?_
      rw[A4 z'] at e2
      refine e'.symm▸?_
      exact Js (xs:=[]) e1 e2 (Nat.lt_of_le_of_lt (AF z) (by decide)) (pv p (R.put VO (o:=.set ys) e1 y rfl))
theorem Nw:∀ {xs:List W} {acc ys:List (List Nat)},Re xs acc=.ok ys→∃ ss,Ap v xs=ss.map .str∧ys=AN acc ss:=by
  intro zl;induction zl with
  | nil =>
    intro acc ys p
    exact ⟨[],rfl,(AM p).symm⟩
  | cons x xs ih =>
    intro acc ys p
    refine obK p fun s e p=>?_
    refine xEA (ih p) fun ss a b=>?_
    refine (iEA (s::ss) (by rw[Et e];exact congrArg (V.str s::·) a) (b.trans ?_))
    show AN _ ss=AN (G0 acc s) ss
    unfold G0
    refine J6.symm▸?_
    cases acc.contains s<;>rfl
theorem IZ {xs:List W} {ss:List (List Nat)} (e:Ap v xs=ss.map .str) (z:small xs=true):ss.length<4000:=by
  have:ss.length=xs.length:=by exact (Ax (v:=v) ..)▸(e ..).symm▸(List.length_map ..).symm▸rfl
  rw[this];exact Nat.lt_of_le_of_lt (AF z) (by decide)
theorem SW:(List.range 23).all (fun k=>WU[k]?==some (ON k))=true:=by decide +kernel
theorem ZC {k:Nat} {s:List Nat} (e:WU[k]?=some s):ON k=s∧k<23:=by
  have hk:k<23:=(List.getElem?_eq_some_iff.mp e).1
  exact ⟨oJ ((eq_of_beq (List.all_eq_true.mp SW k (List.mem_range.mpr hk))).symm.trans e),hk⟩
end
end
section
section
variable {v:Vl} {c:Cx} {d:Nat} {zf:Nat→O} {σ σ':Sg} {h h':H} {w:W} {T:Tb}
theorem Af {α:Type} {x y r:α}:∀ {b:Bool},cond b x y=r→(b=true∧x=r)∨(b=false∧y=r)
  | true,h=>.inl ⟨rfl,h⟩
  | false,h=>.inr ⟨rfl,h⟩
theorem RI (VO:AO c v T) (R:HR v zf σ h) {r:W × Sg} (p:Ub w σ=.ok r):Av c d (.type "list") [den v w] [] [] h (PV v zf r.1 r.2):=by
  have l:(onL 29 w σ fun _ xs=>gd 29 (small xs) (new σ (.list xs) fun n σ=>Rs.ok (W.ref n,σ)))=.ok r→Av c d (.type "list") [den v w] [] [] h (PV v zf r.1 r.2):=fun p=>by
    refine CL R p fun k xs e e1 p=>?_
    refine gdK p fun z p=>?_
    refine xA (R.new VO (o:=.list xs) rfl) fun n1 n2=>?_
    refine e.symm▸?_;exact KO e1 n1 (by rw[Ax];exact Ec (AF z)) (pv p n2)
  cases w with
  | tup xs =>
    refine gdK p fun z p=>?_
    refine xA (R.new VO (o:=.list xs) rfl) fun n1 n2=>?_
    exact L9 n1 (by rw[Ax];exact Ec (AF z)) (pv p n2)
  | vals k =>
    refine IS R p fun j ep es e e1 p=>?_
    refine gdK p fun z p=>?_
    refine xA (R.new VO (o:=.list (es.map (·.2))) (o':=.list ((AE v es).map (·.2))) (by show some (O.list _)=some (O.list _);rw[AX];unfold AE;rw[List.map_map,List.map_map];rfl)) fun n1 n2=>?_
    have:k=j:=by injection e
    rw[← this] at e1
    exact KP e1 (by rw[Dw];exact Ec (AF z)) n1 (pv p n2)
  | _=>exact l p
theorem SD (VO:AO c v T) (R:HR v zf σ h) {r:W × Sg} (p:XO w σ=.ok r):Av c d (.type "set") [den v w] [] [] h (PV v zf r.1 r.2):=by
  have l:(onL 30 w σ fun _ xs=>gd 30 (small xs) (bd (Re xs []) fun ys=>new σ (.set ys) fun n σ=>Rs.ok (W.ref n,σ)))=.ok r→Av c d (.type "set") [den v w] [] [] h (PV v zf r.1 r.2):=fun p=>by
    refine CL R p fun k xs e e1 p=>?_
    refine gdK p fun z p=>?_
    refine bdK p fun ys y p=>?_
    refine xEA (Nw (v:=v) y) fun ss a b=>?_
    refine xA (R.new VO (o:=.set ys) rfl) fun n1 n2=>?_
    rw[a] at e1
    refine e.symm▸?_;exact LQ e1 (IZ a z) n1 (by refine b▸?_;exact pv p n2)
  cases w with
  | tup xs =>
    refine gdK p fun z p=>?_
    refine bdK p fun ys y p=>?_
    refine xEA (Nw (v:=v) y) fun ss a b=>?_
    refine xA (R.new VO (o:=.set ys) rfl) fun n1 n2=>?_
    show Av c d (.type "set") [.tup (Ap v xs)] [] [] h _
    refine a.symm▸?_;exact OS (IZ a z) n1 (by refine b▸?_;exact pv p n2)
  | _=>exact l p
theorem W7 (F:Aq c) (R:HR v zf σ h) {n:Nat} {r:W × Sg} (p:bIs w n σ=.ok r):Av c d (.builtin "isinstance") [den v w,den v (.gl n)] [] [] h (PV v zf r.1 r.2):=by
  rcases Af p with ⟨z,p⟩ | ⟨z,p⟩
  · refine obK p fun s e p=>?_
    refine (eN z).symm▸(Et e).symm▸?_;exact OU (pv p R)
  rcases Af p with ⟨z,p⟩ | ⟨z,p⟩
  · refine obK p fun s e p=>?_
    refine (eN z).symm▸(Et e).symm▸?_;exact Hl (pv p R)
  refine obK p fun k e p=>?_
  refine Be (Uh R p) fun j k' fs e' e1 p=>?_
  refine gdK p fun y p=>?_
  refine BC (LW e) fun fa q1 q2 q3=>?_
  refine e'.symm▸?_
  show Av c d _ [.ref (v.ν j),.raw ((glq n).getD .none)] [] [] h _
  refine q1.symm▸?_
  refine (F.cls _ _ q3)▸?_
  rw[eN y] at e1
  exact Ml F.ok e1 (F.isIn _ (Dm q3)) (pv p R)
theorem GH {f k:Nat} {fv gv:Value} (z:Nat.beq f k=true) (hf:AR[f]?=some (some fv)) (e:AR[k]?=some (some gv)):fv=gv:=by
  rw[eN z,e] at hf;exact (oJ (oJ hf)).symm
theorem TU (VO:AO c v T) (R:HR v zf σ h) {f:Nat} {fv:Value} {r:W × Sg} (hf:AR[f]?=some (some fv)) (p:Yw f w σ=.ok r):Av c d fv [den v w] [] [] h (PV v zf r.1 r.2):=by
  rcases Af p with ⟨z,p⟩ | ⟨_,p⟩
  · rw[GH z hf rfl];exact RI VO R p
  rcases Af p with ⟨z,p⟩ | ⟨_,p⟩
  · rw[GH z hf rfl];exact SD VO R p
  rcases Af p with ⟨z,p⟩ | ⟨_,p⟩
  · rw[GH z hf rfl]
    refine CL R p fun k xs e e1 p=>?_
    refine gdK p fun z p=>?_
    refine e.symm▸?_;exact Jl e1 (by rw[Ax];exact Ec (AF z)) (pv p R)
  rcases Af p with ⟨z,p⟩ | ⟨_,p⟩
  · rw[GH z hf rfl]
    refine CL R p fun k xs e e1 p=>?_
    refine gdK p fun z p=>?_
    refine e.symm▸?_;exact Mx e1 (by rw[Ax];exact Ec (AF z)) (by rw[Ax];exact pv p R)
  rcases Af p with ⟨z,p⟩ | ⟨_,p⟩
  · rw[GH z hf rfl]
    refine obK p fun a e p=>?_
    refine gdK p fun z p=>?_
    refine (FW e).symm▸?_;exact Kp (Sq z).1 (Int.le_of_lt (Sq z).2) (pv p R)
  refine gdK p fun z p=>?_
  rw[GH z hf rfl]
  refine obK p fun a e p=>?_
  refine obK p fun s e1 y=>?_
  refine (FW e).symm▸?_
  cases a with
  | ofNat k =>
    refine xA (ZC e1) fun e2 e3=>?_
    refine IL (a:=(k:Int)) (Nat.lt_trans e3 (by decide)) ?_
    rw[e2];exact pv y R
  | negSucc k=>exact nn e1
theorem UF (VO:AO c v T) (F:Aq c) (R:HR v zf σ h) {f:Nat} {fv:Value} {vs:List W} {r:W × Sg} (hf:AR[f]?=some (some fv)) (p:doB f vs σ=.ok r):Av c d fv (Ap v vs) [] [] h (PV v zf r.1 r.2):=by
  cases vs with
  | nil =>
    refine gdK p fun z p=>?_
    rw[GH z hf rfl]
    refine xA (R.new VO (o:=.set []) rfl) fun n1 n2=>?_
    exact V8 n1 (pv p n2)
  | cons a t =>
    cases t with
    | nil=>exact TU VO R hf p
    | cons b t =>
      cases t with
      | cons _ _=>exact no p
      | nil =>
        rcases Af p with ⟨z,p⟩ | ⟨_,p⟩
        · rw[GH z hf rfl]
          refine obK p fun n e p=>?_
          have:b=.gl n:=by cases b<;>first | exact congrArg W.gl (oJ e) | exact nn e
          refine this.symm▸?_;exact W7 F R p
        · exact no p
noncomputable def Ef (zf:Nat→O) (k:Nat) (o:O):Nat→O:=fun j=>cond (Nat.beq j k) o (zf j)
theorem contains_cons {k j:Nat} {z:List Nat}:(k::z).contains j=cond (Nat.beq j k) true (z.contains j):=by rw[List.contains_cons,DI];cases Nat.beq j k<;>rfl
theorem HR.frz (R:HR v zf σ h) {k:Nat} {o:O} (e:h (v.ν k)=some o):HR v (Ef zf k o) (frz σ k) h :=
  ⟨R.ats,R.fr,R.old,fun j hj=>by
    have hj:(k::σ.z).contains j=true:=hj
    rw[contains_cons] at hj
    unfold Ef
    cases q:Nat.beq j k with
    | true=>refine (eN q).symm▸?_;exact e
    | false=>rw[q] at hj;exact R.fz j hj,R.lt⟩
theorem HR.unf {k:Nat} {o:O} {z:List Nat} (R:HR v (Ef zf k o) σ h) (e:σ.z=k::z) (q:z.contains k=true→zf k=o):HR v zf ⟨σ.n,z,σ.L⟩ h :=
  ⟨R.ats,R.fr,R.old,fun j hj=>by
    have hj:z.contains j=true:=hj
    have y:=R.fz j (by rw[e,contains_cons,hj];cases Nat.beq j k<;>rfl)
    unfold Ef at y
    cases q':Nat.beq j k with
    | true =>
      rw[q'] at y
      rw[eN q'] at hj y ⊢
      rw[q hj];exact y
    | false=>rw[q'] at y;exact y,R.lt⟩
theorem HR.fzk {k:Nat} {o:O} {z:List Nat} (R:HR v (Ef zf k o) σ h) (e:σ.z=k::z):h (v.ν k)=some o:=by
  have y:=R.fz k (by refine (e ..).symm▸(contains_cons ..).symm▸(Nat.beq_refl ..).symm▸?_;rfl)
  unfold Ef at y
  rw[Nat.beq_refl] at y;exact y
theorem HR.same (R:HR v zf σ h) {z:List Nat} (e:σ.z=z):HR v zf ⟨σ.n,z,σ.L⟩ h:=by refine e▸?_;exact R
theorem Tz:∀ {n:Nat} {a:Int},Ap v (Tq a n)=E6 a 1 n:=by
  intro zl;induction zl with
  | zero =>
    intro _
    exact rfl
  | succ n ih =>
    intro a
    show V.int a::Ap v (Tq (a+1) n)=_
    rw[ih]
    unfold E6
    rw[List.range_succ_eq_map,List.map_cons,List.map_map,show a+((0:Nat):Int)*1=a by simp]
    refine congrArg (V.int a::·) (List.map_congr_left fun k _=>congrArg V.int ?_)
    exact Z6
theorem Q2 {xs:List W} {one:Bool} (e:(one || xs.all fun x=>(Hz x).isSome)=true) (ht:(!one)=true):∀ x∈Ap v xs,∃ ys,x=V.tup ys:=by
  intro x hx
  rw[A9 ht] at e
  rw[AX] at hx
  refine Dt hx fun y hy q=>?_
  refine isK (List.all_eq_true.mp e y hy) fun t z=>?_
  exact ⟨Ap v t,by refine q▸(Ng z).symm▸?_;rfl⟩
theorem P2 {α:Type} {one:Bool} {f:It→Sg→Rs α} {r:α} (R:HR v zf σ h) (p:itm one w σ f=.ok r):∃ (i:It) (okH:H→Prop) (zf':Nat→O) (σ₁:Sg),DV c (den v w) h (!one) (Ap v i.xs) okH∧HR v zf' σ₁ h∧σ₁.n=σ.n∧σ₁.z=i.z∧f i σ₁=.ok r ∧
    (∀ σ' h',HR v zf' σ' h'→σ'.z=i.z→okH h'∧HR v zf ⟨σ'.n,σ.z,σ'.L⟩ h'):=by
  have fin:∀ {k o} {okH:H→Prop},h (v.ν k)=some o→(∀ h',h' (v.ν k)=some o→okH h')→∀ σ' h',HR v (Ef zf k o) σ' h'→σ'.z=k::σ.z→okH h'∧HR v zf ⟨σ'.n,σ.z,σ'.L⟩ h':=fun e q σ' h' R' z =>
    ⟨q _ (R'.fzk z),R'.unf z fun y=>oJ ((R.fz _ y).symm.trans e)⟩
  cases w with
  | tup xs =>
    refine gdK p fun e p=>?_
    exact ⟨_,_,zf,σ,La (Q2 e),R,rfl,rfl,p,fun σ' h' R' z=>⟨trivial,R'.same z⟩⟩
  | rng a n =>
    refine gdK p fun e p=>?_
    exact ⟨_,_,zf,σ,by refine Tz.symm▸e.symm▸?_;exact CH,R,rfl,rfl,p,fun σ' h' R' z=>⟨trivial,R'.same z⟩⟩
  | ref k =>
    refine CL R p fun j xs e e1 p=>?_
    refine gdK p fun e2 p=>?_
    have:k=j:=by injection e
    subst this
    exact ⟨_,_,_,_,EH e1 (Q2 e2),R.frz e1,rfl,rfl,p,fin e1 fun _ q=>q⟩
  | vals k =>
    refine gdK p fun e2 p=>?_
    refine IS R p fun j ep es e e1 p=>?_
    have:k=j:=by injection e
    subst this
    refine ⟨_,_,_,_,?_,R.frz e1,rfl,rfl,p,fin e1 fun _ q=>q⟩
    rw[e2,show Ap v (es.map (·.2))=(AE v es).map (·.2) by rw[AX];unfold AE;rw[List.map_map,List.map_map];rfl]
    exact N6 e1
  | items k =>
    refine IS R p fun j ep es e e1 p=>?_
    refine gdK p fun e2 p=>?_
    have:k=j:=by injection e
    subst this
    rw[A4 (Aa e2).1] at e1
    exact ⟨_,_,_,_,Ly e1,R.frz e1,rfl,rfl,p,fin e1 fun _ q=>q⟩
  | _=>exact no p
end
end
section
section
variable {v:Vl} {c:Cx} {d:Nat} {zf:Nat→O} {σ σ':Sg} {h h':H} {w:W} {T:Tb} {m:Mm} {ml:Loc}
structure MRl (v:Vl) (m:Mm) (ml:Loc):Prop where
  rw:∀ n w,Ah n m.rw=some (some w)→ml.rw.lookup n=some (some (den v w))
  has:∀ n,(Ah n m.rw).isSome=true→(ml.rw.lookup n).isSome=true
  ro:∀ n w,Ah n m.rw=none→Ah n m.ro=some w→ml.get n=some (den v w)
theorem NJ (M:MRl v m ml) {n:Nat} (p:OJ n m=.ok w):ml.get n=some (den v w):=by
  have p:(match Ah n m.rw with
    | some o=>ob (1000+n) o Rs.ok
    | none=>ob (1000+n) (Ah n m.ro) .ok)=.ok w:=p
  cases e:Ah n m.rw with
  | some o =>
    rw[e] at p
    refine obK p fun x e1 p=>?_
    rw[e1] at e
    unfold Loc.get;exact (M.rw _ _ e).symm▸(AM p).symm▸rfl
  | none =>
    rw[e] at p
    refine obK p fun x e1 p=>?_
    refine (AM p)▸?_;exact M.ro _ _ e e1
theorem I6 {k j:Nat} {o:W}:∀ {l:List (Nat × Option W)},Ah j (IJ k o l)=cond (Nat.beq j k) ((Ah j l).map fun _=>some o) (Ah j l):=by
  intro zl;induction zl with
  | nil =>
    cases Nat.beq j k<;>rfl
  | cons zq r ih =>
    obtain ⟨a,x⟩:=zq
    show Ah j (cond (Nat.beq k a) ((a,some o)::r) ((a,x)::IJ k o r))=cond (Nat.beq j k) ((cond (Nat.beq j a) (some x) (Ah j r)).map fun _=>some o) (cond (Nat.beq j a) (some x) (Ah j r))
    cases e:Nat.beq k a with
    | true =>
      refine (eN e).symm▸?_
      show cond (Nat.beq j a) (some (some o)) (Ah j r)=_
      cases Nat.beq j a<;>rfl
    | false =>
      show cond (Nat.beq j a) (some x) (Ah j (IJ k o r))=_
      rw[ih]
      cases e1:Nat.beq j a with
      | false=>rfl
      | true =>
        cases e2:Nat.beq j k with
        | false=>rfl
        | true =>
          rw[← eN e1,← eN e2] at e
          rw[Nat.beq_refl] at e;cases e
theorem OL {k j:Nat}:∀ {l:List (Nat × Option W)},Ah j (Ts k l)=cond (Nat.beq j k) ((Ah j l).map fun _=>none) (Ah j l):=by
  intro zl;induction zl with
  | nil =>
    cases Nat.beq j k<;>rfl
  | cons zq r ih =>
    obtain ⟨a,x⟩:=zq
    show Ah j (cond (Nat.beq k a) ((a,none)::r) ((a,x)::Ts k r))=cond (Nat.beq j k) ((cond (Nat.beq j a) (some x) (Ah j r)).map fun _=>none) (cond (Nat.beq j a) (some x) (Ah j r))
    cases e:Nat.beq k a with
    | true =>
      refine (eN e).symm▸?_
      show cond (Nat.beq j a) (some none) (Ah j r)=_
      cases Nat.beq j a<;>rfl
    | false =>
      show cond (Nat.beq j a) (some x) (Ah j (Ts k r))=_
      rw[ih]
      cases e1:Nat.beq j a with
      | false=>rfl
      | true =>
        cases e2:Nat.beq j k with
        | false=>rfl
        | true =>
          rw[← eN e1,← eN e2] at e
          rw[Nat.beq_refl] at e;cases e
theorem Ds {n k:Nat} {x:V}:(ml.set n x).rw.lookup k=if k=n then (ml.rw.lookup n).map (fun _=>some x) else ml.rw.lookup k:=E0 k
theorem MRl.upd (M:MRl v m ml) {n:Nat} {x:V} {l:List (Nat × Option W)} (o:Option W) (hl:∀ j,Ah j l=cond (Nat.beq j n) ((Ah j m.rw).map fun _=>o) (Ah j m.rw)) (ho:∀ w,o=some w→x=den v w)
    (q:Ah n m.rw=none→Ah n m.ro=none):MRl v ⟨m.ro,l⟩ (ml.set n x):=by
  refine ⟨fun j w e=>?_,fun j e=>?_,fun j w e e2=>?_⟩
  · rw[hl] at e
    rw[Ds]
    by_cases z:j=n
    · subst z
      rw[Nat.beq_refl] at e
      refine C0 e fun y e1 e2=>?_
      rw[if_pos rfl]
      refine isK (M.has j (Dm e1)) fun u hu=>?_
      rw[hu,ho w e2];rfl
    · rw[AQ z] at e;rw[if_neg z];exact M.rw _ _ e
  · rw[hl] at e
    rw[Ds]
    by_cases z:j=n
    · subst z;rw[Nat.beq_refl,cond_true,Option.isSome_map] at e;rw[if_pos rfl,Option.isSome_map];exact M.has j e
    · rw[AQ z] at e;rw[if_neg z];exact M.has j e
  · rw[hl] at e
    by_cases z:j=n
    · subst z;rw[Nat.beq_refl] at e;rw[q (Option.map_eq_none_iff.mp e)] at e2;exact nn e2
    · rw[AQ z] at e
      have y:=M.ro j w e e2
      unfold Loc.get at y ⊢
      refine Ds.symm▸(if_neg z).symm▸?_;exact y
theorem MRl.set (M:MRl v m ml) {n:Nat} (q:Ah n m.rw=none→Ah n m.ro=none):MRl v ⟨m.ro,IJ n w m.rw⟩ (ml.set n (den v w)):=M.upd (some w) (fun _=>I6) (fun _ e=>by rw[oJ e]) q
theorem isS {α:Type} {o:Option α} {p:Prop} (e:o.isSome=true) (e':o=none):p:=by rw[e'] at e;exact Bool.noConfusion e
theorem MRl.setAll:∀ {l:List (Nat × W)} {m:Mm} {ml:Loc},MRl v m ml→(∀ p∈l,Ah p.1 m.rw=none→Ah p.1 m.ro=none)→MRl v (FB l m) (setAll (AE v l) ml):=by
  intro zl;induction zl with
  | nil =>
    intro _ _ M _
    exact M
  | cons zq r ih =>
    obtain ⟨n,w⟩:=zq
    intro m ml M q
    have M':MRl v ⟨m.ro,IJ n w m.rw⟩ (ml.set n (den v w)):=M.set (q (n,w) (.head _))
    refine ih M' fun p hp e=>q p (.tail _ hp) ?_
    have e:Ah p.1 (IJ n w m.rw)=none:=e
    rw[I6] at e
    cases z:Nat.beq p.1 n with
    | true=>rw[z] at e;exact Option.map_eq_none_iff.mp e
    | false=>rw[z] at e;exact e
theorem FK {ns:List Nat}:∀ {ys:List W},ns.zip (Ap v ys)=AE v (ns.zip ys):=by
  induction ns with
  | nil=>intro ys;rfl
  | cons n r ih=>intro ys;cases ys with
    | nil=>rfl
    | cons y ys=>exact congrArg ((n,den v y)::·) ih
theorem H8 (M:MRl v m ml) {one:Bool} {ns:List Nat} {y:W} {m':Mm} (p:PU one ns y m=.ok m'):(∀ n∈ns,(ml.rw.lookup n).isSome=true)∧FY one ns (den v y)∧MRl v m' (Bm one ns (den v y) ml):=by
  refine gdK p fun e p=>?_
  have e:=List.all_eq_true.mp e
  refine ⟨fun n hn=>M.has n (e n hn),?_⟩
  cases one with
  | true =>
    match ns,p,e with
    | [n],p,e=>exact ⟨trivial,by refine (AM p)▸?_;exact M.set fun z=>isS (e n (.head _)) z⟩
    | [],p,_=>exact no p
    | _::_::_,p,_=>exact no p
  | false =>
    refine obK p fun ys e1 p=>?_
    refine gdK p fun e2 p=>?_
    refine (Ng e1).symm▸?_
    refine ⟨by show (Ap v ys).length=ns.length;rw[Ax];exact eN e2,?_⟩
    show MRl v m' (setAll (ns.zip (Ap v ys)) ml)
    refine FK.symm▸(AM p)▸?_
    exact M.setAll fun q hq z=>isS (e q.1 (List.of_mem_zip hq).1) z
noncomputable def PB (v:Vl) (zf:Nat→O) (b:Bool) (σ':Sg):Bool→H→Prop:=fun x h'=>x=b∧HR v zf σ' h'
noncomputable def PE (v:Vl) (zf:Nat→O) (ws:List W) (σ':Sg):List V→H→Prop:=fun x h'=>x=Ap v ws∧HR v zf σ' h'
noncomputable def Qw (v:Vl):AU→Out
  | .nx=>.nx
  | .br=>.br
  | .ct=>.ct
  | .rt w=>.rt (den v w)
noncomputable def PZ (v:Vl) (zf:Nat→O) (p:AU × Mm × Sg):Out→Loc→H→Prop:=fun o m' h'=>o=Qw v p.1∧MRl v p.2.1 m'∧HR v zf p.2.2 h'
structure C4 (c:Cx) (v:Vl) (d:Nat) (r:Ev):Prop where
  e:∀ {x m σ p zf ml h},r.e x m σ=.ok p→MRl v m ml→HR v zf σ h→E c d x ml h (PV v zf p.1 p.2)
  b:∀ {x m σ p zf ml h},r.b x m σ=.ok p→MRl v m ml→HR v zf σ h→Bt c d x ml h (PB v zf p.1 p.2)
  s:∀ {x m σ p zf ml h},r.s x m σ=.ok p→MRl v m ml→HR v zf σ h→St c d x ml h (PZ v zf p)
  ca:∀ {f vs ns ks σ p zf h},r.c f vs ns ks σ=.ok p→HR v zf σ h→A0 c d f (Ap v vs) ns (Ap v ks) h (PV v zf p.1 p.2)
structure IH (c:Cx) (v:Vl) (K:Hk):Prop where
  ca:∀ {d f vs ns ks σ p zf h},K.n≤d→K.c f vs ns ks σ=some (.ok p)→HR v zf σ h→A0 c d f (Ap v vs) ns (Ap v ks) h (PV v zf p.1 p.2)
  b:∀ {d f fv vs σ p zf h},K.n≤d→K.b f vs σ=some (.ok p)→AR[f]?=some (some fv)→HR v zf σ h→Av c d fv (Ap v vs) [] [] h (PV v zf p.1 p.2)
  x:∀ {d x m σ p zf ml h},K.n≤d→K.x x m σ=some (.ok p)→MRl v m ml→HR v zf σ h→E c d x ml h (PV v zf p.1 p.2)
theorem C4.up {r:Ev} (I:C4 c v d r):C4 c v (d+1) r :=
  ⟨fun p M R sc e ck A env F g s hA=>I.e p M R sc e ck A env F g s (hA.down (Nat.le_succ d)),fun p M R sc e ck A env F g s hA=>I.b p M R sc e ck A env F g s (hA.down (Nat.le_succ d)),
   fun p M R sc e ck A env F g s hA=>I.s p M R sc e ck A env F g s (hA.down (Nat.le_succ d)),fun p R A g s rvs rks hA=>I.ca p R A g s rvs rks (hA.down (Nat.le_succ d))⟩
variable {r:Ev}
theorem G4 (I:C4 c v d r):∀ {xs:List X} {σ:Sg} {h:H} {p:List W × Sg},Qx r xs m σ=.ok p→MRl v m ml→HR v zf σ h→Es c d xs ml h (PE v zf p.1 p.2):=by
  intro zl;induction zl with
  | nil =>
    intro _ _ p e _ R
    exact BT (by refine (AM e)▸?_;exact ⟨rfl,R⟩)
  | cons x xs ih =>
    intro _ _ p e M R
    refine bdK e fun a e1 e=>?_
    refine bdK e fun b e2 e=>?_
    exact A2 ((I.e e1 M R).mono fun _ _ zy10a=>zy10a.elim fun y1 R1=>(ih e2 M R1).mono fun _ _ zy11a=>zy11a.elim fun y2 R2=>by refine (AM e)▸y1.symm▸y2.symm▸?_;exact ⟨rfl,R2⟩)
theorem MH (I:C4 c v d r):∀ {xs:List (Nat × X)} {σ:Sg} {h:H} {p:List W × Sg},U4 r xs m σ=.ok p→MRl v m ml→HR v zf σ h→Ks c d xs ml h (PE v zf p.1 p.2):=by
  intro zl;induction zl with
  | nil =>
    intro _ _ p e _ R
    exact Ke (by refine (AM e)▸?_;exact ⟨rfl,R⟩)
  | cons zq xs ih =>
    intro _ _ p e M R
    refine bdK e fun a e1 e=>?_
    refine bdK e fun b e2 e=>?_
    exact TY ((I.e e1 M R).mono fun _ _ zy14a=>zy14a.elim fun y1 R1=>(ih e2 M R1).mono fun _ _ zy15a=>zy15a.elim fun y2 R2=>by refine (AM e)▸y1.symm▸y2.symm▸?_;exact ⟨rfl,R2⟩)
theorem Yg {b k:Bool} {P Q:Prop} (e:(b==k)=true) (p:P):if b=k then P else Q:=by rw[if_pos (eq_of_beq e)];exact p
theorem XG {b k:Bool} {P Q:Prop} (e:(b==k)=false) (p:Q):if b=k then P else Q:=by rw[if_neg (fun z=>by rw[z,beq_self_eq_true] at e;exact Bool.noConfusion e)];exact p
theorem Qt (VO:AO c v T) (F:Aq c) (I:C4 c v d r) {and:Bool}:∀ {xs:List X} {σ:Sg} {h:H} {p:W × Sg},evO T r and xs m σ=.ok p→MRl v m ml→HR v zf σ h→Ebs c d and ml xs h (PV v zf p.1 p.2)
  | [],_,_,_,e,_,_=>no e
  | [x],_,_,p,e,M,R=>by
    refine bdK e fun a e1 e=>?_
    refine (AM e)▸?_;exact I.e e1 M R
  | x::y::xs,_,_,p,e,M,R=>by
    refine bdK e fun a e1 e=>?_
    refine bdK e fun b e2 e=>?_
    refine (I.e e1 M R).mono fun _ _ zy19a=>zy19a.elim fun y1 R1=>?_
    refine y1.symm▸?_
    refine Mi VO F R1 e2 ?_
    rcases Af e with ⟨z,e⟩ | ⟨z,e⟩
    · exact Yg z (Qt VO F I e M R1)
    · exact XG z (by refine (AM e)▸?_;exact ⟨rfl,R1⟩)
theorem OW (I:C4 c v d r) {and:Bool}:∀ {xs:List X} {σ:Sg} {h:H} {p:Bool × Sg},evT r and xs m σ=.ok p→MRl v m ml→HR v zf σ h→Bts c d and ml xs h (PB v zf p.1 p.2):=by
  intro zl;induction zl with
  | nil =>
    intro _ _ p e _ R
    refine (AM e)▸?_;exact ⟨rfl,R⟩
  | cons x xs ih =>
    intro _ _ p e M R
    refine bdK e fun a e1 e=>?_
    refine (I.b e1 M R).mono fun _ _ zy21a=>zy21a.elim fun y1 R1=>?_
    refine y1.symm▸?_
    rcases Af e with ⟨z,e⟩ | ⟨z,e⟩
    · exact Yg z (ih e M R1)
    · exact XG z (by refine (AM e)▸?_;exact ⟨rfl,R1⟩)
theorem BZ (I:C4 c v d r):∀ {xs:List S} {m:Mm} {ml:Loc} {σ:Sg} {h:H} {p:AU × Mm × Sg},BW r xs m σ=.ok p→MRl v m ml→HR v zf σ h→Sts c d xs ml h (PZ v zf p):=by
  intro zl;induction zl with
  | nil =>
    intro _ _ _ _ p e M R
    exact EE (by refine (AM e)▸?_;exact (iAA rfl M R))
  | cons x xs ih =>
    intro _ _ _ _ p e M R
    refine bdK e fun a e1 e=>?_
    refine AD ((I.s e1 M R).mono fun o m' h' zy23a=>xAA zy23a fun y1 M1 R1=>?_)
    rw[y1]
    rcases Af e with ⟨z,e⟩ | ⟨z,e⟩
    · cases q:a.1<;>rw[q] at z<;>first | exact ih e M1 R1 | exact absurd z fT
    · refine (AM e)▸?_
      cases q:a.1<;>rw[q] at z<;>first | exact absurd z.symm fT | exact (iAA (congrArg (Qw v) q.symm) M1 R1)
end
end
section
section
variable {v:Vl} {c:Cx} {d N:Nat} {zf:Nat→O} {σ σ':Sg} {h h':H} {w:W} {T:Tb} {K:Hk} {m:Mm} {ml:Loc} {r:Ev}
theorem K9 {xs:List W} (e:xs.isEmpty=true):Ap v xs=[]:=by rw[A4 e];rfl
theorem nle (hN:Nat.ble K.n N=true):K.n≤N+1:=Nat.le_succ_of_le (lB hN)
theorem UJ (VO:AO c v T) (F:Aq c) (I:C4 c v N r) (HK:IH c v K) {f:Nat} {args:List X} {kws:List (Nat × X)} {ws us:List W} {q:W × Sg} (g:okC f=true)
    (p:Es c (N+1) args ml h fun vs h₁=>Ks c (N+1) kws ml h₁ fun ks h₂=>vs=Ap v ws∧ks=Ap v us∧HR v zf σ h₂) (e:evC K N r f ws (kws.map (·.1)) us σ=.ok q):E c (N+1) (.call f args kws) ml h (PV v zf q.1 q.2):=by
  rcases Af e with ⟨bl,e⟩ | ⟨bl,e⟩
  · have g:cond (Nat.blt f 26) (match AR[f]? with
      | some (some v)=>Hg v
      | _=>false) ((Ah f G1).isSome || (Ah f gL).isSome)=true:=g
    rw[bl] at g
    refine gdK e fun z e=>?_
    refine Ad z fun z1 z2=>?_
    cases e1:AR[f]? with
    | none=>rw[e1] at g;exact absurd g fT
    | some o =>
      rw[e1] at g
      cases o with
      | none=>exact absurd g fT
      | some fv =>
        refine Kd F.ok (F.ok.stdv f fv e1) g (p.mono fun vs h₁ q'=>q'.mono fun ks h₂ zy3a=>xAA zy3a fun a1 a2 R=>?_)
        refine a1.symm▸a2.symm▸(A4 z1).symm▸(K9 z2).symm▸?_
        cases e2:K.b f ws σ with
        | none=>rw[e2] at e;exact UF VO F R e1 e
        | some x =>
          rw[e2] at e
          refine gdK e fun hN e=>?_
          exact HK.b (nle hN) (e2.trans (congrArg some e)) e1 R
  · cases e1:Ah f G1 with
    | none =>
      rw[e1] at e
      refine obK e fun fa e2 e=>?_
      refine QW F.ok (F.gv _ _ e2) (F.kp _ _ e2) (p.mono fun vs h₁ q'=>q'.mono fun ks h₂ zy6a=>xAA zy6a fun a1 a2 R=>?_)
      rw[a1,a2];exact I.up.ca e R
    | some k =>
      rw[e1] at e
      refine obK e fun fI e2 e=>?_
      refine bdK e fun a e3 e=>?_
      refine gdK e fun z e=>?_
      refine obK e fun o e4 e=>?_
      refine obK e fun y e6 e=>?_
      refine BC (LW e1) fun fa q1 q2 q3=>?_
      refine QW F.ok (F.gv _ _ q2) (F.kp _ _ q2) (p.mono fun vs h₁ q'=>q'.mono fun ks h₂ zy13a=>xAA zy13a fun a1 a2 R=>?_)
      refine (F.cls _ _ q3)▸a1.symm▸a2.symm▸?_
      obtain ⟨n1,n2⟩:=R.new VO (o:=.inst k []) (o':=.inst k []) rfl
      refine Q4 F.ok (F.meth _ _ _ e2) n1 ((I.ca e3 n2).mono fun x h' zy15a=>zy15a.elim fun b1 R'=>?_)
      have e5:=R'.ats _ _ e4
      rw[Jv e6] at e5
      exact (iAA (by rw[b1,JM z];rfl) (Dm e5) (by refine (AM e)▸?_;exact ⟨rfl,R'⟩))
theorem VL (VO:AO c v T) (F:Aq c) (I:C4 c v d r) (R:HR v zf σ h) {n:Nat} {vs ks:List W} {ns:List Nat} {p:W × Sg} {q:Mk} (hn:q=.lst→n<3) (e:evM T r n q w vs ns ks σ=.ok p):MR c d n (den v w) ns (Ap v vs) (Ap v ks) h (PV v zf p.1 p.2) q:=by
  cases q with
  | usr f=>exact I.ca (vs:=w::vs) e R
  | stat f=>exact I.ca e R
  | lst=>refine gdK e fun z e=>?_;refine Ad z fun z1 z2=>?_;refine (A4 z1).symm▸(K9 z2).symm▸?_;exact Xx VO R e (hn rfl)
  | dct=>refine gdK e fun z e=>?_;refine Ad z fun z1 z2=>?_;refine (A4 z1).symm▸(K9 z2).symm▸?_;exact Xi VO F R e
  | st=>refine gdK e fun z e=>?_;refine Ad z fun z1 z2=>?_;refine (A4 z1).symm▸(K9 z2).symm▸?_;exact Wc VO R e
  | bad=>exact no e
theorem HN {b:Bool} {x:Mk} (hx:x≠.lst) (e:cond b x .bad=.lst):False:=by cases b with
  | true=>exact hx e
  | false=>exact Mk.noConfusion e
theorem RW {n:Nat} (e:mkZ w n σ=.lst):n<3:=by
  cases w with
  | ref k =>
    have e:(match lo k σ.L with
      | some o=>mkO n o
      | none=>.bad)=Mk.lst:=e
    cases z:lo k σ.L with
    | none=>rw[z] at e;exact Mk.noConfusion e
    | some o =>
      rw[z] at e
      cases o with
      | inst cl fs =>
        have e:(match Ah n fs with
          | some _=>Mk.bad
          | none=>match Hu cl n with
            | some f=>.usr f
            | none=>match Eo cl n with
              | some f=>.stat f
              | none=>.bad)=.lst:=e
        cases y:Ah n fs<;>rw[y] at e
        · cases y:Hu cl n<;>rw[y] at e
          · cases y:Eo cl n<;>rw[y] at e<;>exact Mk.noConfusion e
          · exact Mk.noConfusion e
        · exact Mk.noConfusion e
      | list xs =>
        have e:cond (Nat.blt n 3) Mk.lst Mk.bad=.lst:=e
        cases y:Nat.blt n 3 with
        | true=>exact lB y
        | false=>rw[y] at e;exact Mk.noConfusion e
      | dict xs=>exact (HN (by intro z;exact Mk.noConfusion z) e).elim
      | dsym xs=>exact (HN (by intro z;exact Mk.noConfusion z) e).elim
      | set xs=>exact (HN (by intro z;exact Mk.noConfusion z) e).elim
      | _=>exact Mk.noConfusion e
  | gl x =>
    have e:stO ((Ah x G1).bind fun k=>Eo k n)=.lst:=e
    cases y:(Ah x G1).bind fun k=>Eo k n<;>rw[y] at e<;>exact Mk.noConfusion e
  | _=>exact Mk.noConfusion e
theorem KY {one:Bool} {ns:List Nat} {a:List S} {i:It} {zf':Nat→O} {okH:H→Prop} {z:List Nat} {p:AU × Mm × Sg} (I:C4 c v d r) (rel:∀ σ' h',HR v zf' σ' h'→σ'.z=i.z→okH h'∧HR v zf ⟨σ'.n,z,σ'.L⟩ h')
    {ys:List W} (e:FV one ns (BW r a) i ys m σ=.ok p) (M:MRl v m ml) (R:HR v zf' σ h) :
    ∃ J:List V→Loc→H→Prop,(∀ r m h,J r m h→okH h)∧J (Ap v ys) ml h ∧
      (∀ y r m h,J (y::r) m h→(∀ n∈ns,(m.rw.lookup n).isSome=true)∧FY one ns y∧Sts c d a (Bm one ns y m) h (Lv (J r) (PZ v zf (p.1,p.2.1,⟨p.2.2.n,z,p.2.2.L⟩)))) ∧
      ∀ m h,J [] m h→PZ v zf (p.1,p.2.1,⟨p.2.2.n,z,p.2.2.L⟩) .nx m h:=by
  have same_e:∀ {β:Type} {σ:Sg} {x:Rs β} {b:β},same i σ x=.ok b→σ.z=i.z∧x=.ok b:=fun e=>⟨Dq (Fj e).1,(Fj e).2⟩
  refine ⟨fun rs m h=>∃ ys mm σ,rs=Ap v ys∧MRl v mm m∧HR v zf' σ h∧FV one ns (BW r a) i ys mm σ=.ok p,?_,(Ab ys m σ rfl M R e),?_,?_⟩
  · rintro rs m h ⟨ys,mm,σ,_,M,R,e⟩
    cases ys with
    | nil=>exact (rel _ _ R (same_e e).1).1
    | cons y ys=>exact (rel _ _ R (same_e e).1).1
  · rintro y rs m h ⟨ys,mm,σ,q,M,R,e⟩
    cases ys with
    | nil=>injection q
    | cons x ys =>
      injection q with q1 q2
      obtain ⟨_,e⟩:=same_e e
      refine bdK e fun mm' e1 e=>?_
      refine bdK e fun s e2 e=>?_
      refine xAA (H8 M e1) fun b1 b2 b3=>?_
      refine q1.symm▸?_
      refine (iAA b1 b2 ((BZ I e2 b3 R).mono fun o m' h' zy26a=>xAA zy26a fun y1 M1 R1=>?_))
      rw[y1]
      obtain ⟨s1,s2,s3⟩:=s
      cases s1 with
      | nx=>exact ⟨ys,s2,s3,q2,M1,R1,e⟩
      | _=>exact no e
  · rintro m h ⟨ys,mm,σ,q,M,R,e⟩
    cases ys with
    | nil=>obtain ⟨z1,e⟩:=same_e e;refine (AM e)▸?_;exact ⟨rfl,M,(rel _ _ R z1).2⟩
    | cons x ys=>injection q
theorem Xl (I:C4 c v d r) {t:X} {a:List S} {k:Nat} {p:AU × Mm × Sg} (e:HA (r.b t) (BW r a) k m σ=.ok p) (M:MRl v m ml) (R:HR v zf σ h):St c d (.whl t a) ml h (PZ v zf p):=by
  refine UK (fun k m h=>∃ mm σ,MRl v mm m∧HR v zf σ h∧HA (r.b t) (BW r a) k mm σ=.ok p) ?_ k (Al m σ M R e)
  rintro k m h ⟨mm,σ,M,R,e⟩
  cases k with
  | zero=>exact no e
  | succ k =>
    refine bdK e fun b e1 e=>?_
    refine (I.b e1 M R).mono fun x h₁ zy30a=>zy30a.elim fun y1 R1=>?_
    refine y1.symm▸?_
    rcases Af e with ⟨z,e⟩ | ⟨z,e⟩
    · rw[if_pos z]
      refine bdK e fun s e2 e=>?_
      refine (BZ I e2 M R1).mono fun o m' h' zy32a=>xAA zy32a fun y1 M1 R1=>?_
      rw[y1]
      obtain ⟨s1,s2,s3⟩:=s
      cases s1 with
      | nx=>exact ⟨k,Nat.lt_succ_self k,s2,s3,M1,R1,e⟩
      | ct=>exact ⟨k,Nat.lt_succ_self k,s2,s3,M1,R1,e⟩
      | br=>refine (AM e)▸?_;exact ⟨rfl,M1,R1⟩
      | rt w=>refine (AM e)▸?_;exact (iAA rfl M1 R1)
    · rw[if_neg (fun q=>by rw[z] at q;exact Bool.noConfusion q),← AM e];exact (iAA rfl M R1)
theorem Qr {z:List Nat} {x:Rs (AU × Mm × Sg)} {p:AU × Mm × Sg} (e:MD z x=.ok p):∃ q,x=.ok q∧p=(q.1,q.2.1,⟨q.2.2.n,z,q.2.2.L⟩):=by
  refine bdK e fun q e1 e=>?_
  exact (iEA q e1 ((AM e).symm))
theorem Nk {one:Bool} {ns:List Nat} {x:X} {a:List S} {p:AU × Mm × Sg} {q:W × Sg} (I:C4 c v d r) (e1:r.e x m σ=.ok q) (e:MD q.2.z (itm one q.1 q.2 fun i σ=>FV one ns (BW r a) i i.xs m σ)=.ok p) (M:MRl v m ml) (R:HR v zf σ h) :
    SL c d one ns x a ml h (PZ v zf p):=by
  obtain ⟨s,e,ep⟩:=Qr e
  refine (I.e e1 M R).mono fun y h₁ zy36a=>zy36a.elim fun y1 R1=>?_
  obtain ⟨i,okH,zf',σ₁,it,R2,_,z,e,rel⟩:=P2 R1 e
  refine y1.symm▸ep.symm▸?_
  refine Dh (KY I rel e M R2) fun J j1 j2 j3 j4=>?_
  exact ⟨_,okH,it,J,j1,j2,j3,j4⟩
theorem Op {xs:List W}:GA (Ap v xs)=Ap v (IU xs):=by
  unfold GA IU
  simp only[AX,AX,List.map_map,List.zipIdx_map,List.map_map]
  rfl
theorem Ue {α:Type} {l:List α} {x:α} (e:WG l=some x):l=[x]:=by
  cases l with
  | nil=>exact nn e
  | cons a r=>cases r with
    | nil=>exact (oJ e)▸rfl
    | cons _ _=>exact nn e
theorem MT {k:Nat} {x y:X} (e:Rj k x=some y):x=.call k [y] []:=by
  refine Am e fun p e1 e=>?_
  have e1:x=.call p.1 p.2.1 p.2.2:=by cases x<;>first | exact nn e1 | (exact (oJ e1)▸rfl)
  rcases Af e with ⟨z,e⟩ | ⟨_,e⟩
  · simp only[e1,eN (Aa z).1,A4 (Aa z).2,Ue e]
  · exact nn e
theorem YW {x y:X} (e:enX x=some y):x=.call 13 [y] []:=MT e
theorem WE {xs:List X} {y:X} (e:Ta xs=some y):xs=[.call 23 [y] []]:=by
  refine Am e fun x e1 e=>?_
  rw[Ue e1,MT e]
theorem U9 {n:Nat}:∀ {ns:List Nat},Ah n (Fy m ns)=some w→n∈ns∧OJ n m=.ok w:=by
  intro zl;induction zl with
  | nil =>
    intro e
    exact nn e
  | cons a ns ih =>
    intro e
    have e:Ah n (match OJ a m with
      | .ok w=>(a,w)::Fy m ns
      | .er _=>Fy m ns)=some w:=e
    cases q:OJ a m with
    | er k=>rw[q] at e;exact ⟨.tail _ (ih e).1,(ih e).2⟩
    | ok x =>
      rw[q] at e
      have e:cond (Nat.beq n a) (some x) (Ah n (Fy m ns))=some w:=e
      rcases Af e with ⟨z,e⟩ | ⟨_,e⟩
      · refine (eN z).symm▸(oJ e)▸?_;exact ⟨.head _,q⟩
      · exact ⟨.tail _ (ih e).1,(ih e).2⟩
theorem Jy {n:Nat} {x:V} (e:ml.get n=some x):∀ {ns:List Nat},n∈ns→(ns.filterMap fun n=>(ml.get n).map (n,·)).lookup n=some x
  | a::ns,hn=>by
    rw[List.filterMap_cons]
    by_cases z:n=a
    · subst z;refine e.symm▸?_;show ((n,x)::_).lookup n=_;simp only[List.lookup_cons,beq_self_eq_true]
    · have ih:=Jy e (ns:=ns) ((List.mem_cons.mp hn).resolve_left z)
      cases ml.get a with
      | none=>exact ih
      | some y=>show ((a,y)::_).lookup n=_;rw[List.lookup_cons,beq_eq_false_iff_ne.mpr z];exact ih
theorem CS {n:Nat}:∀ {ns:List Nat},Ah n (ns.map fun k=>(k,(none:Option W)))=cond (ns.contains n) (some none) none:=by
  intro zl;induction zl with
  | nil =>
    exact rfl
  | cons a ns ih =>
    show cond (Nat.beq n a) (some none) (Ah n (ns.map _))=_
    rw[ih,List.contains_cons,DI]
    cases Nat.beq n a<;>rfl
theorem D9 {n:Nat}:∀ {ns:List Nat},(ns.map fun k=>(k,(none:Option V))).lookup n=cond (ns.contains n) (some none) none:=by
  intro zl;induction zl with
  | nil =>
    exact rfl
  | cons a ns ih =>
    rw[List.map_cons,List.lookup_cons,ih,List.contains_cons]
    cases n==a<;>rfl
theorem Pt (M:MRl v m ml) {ns ro:List Nat}:MRl v ⟨Fy m ro,ns.map (·,none)⟩ ⟨(Bf ml ns ro).ro,ns.map (·,none)⟩:=by
  refine ⟨fun n w e=>?_,fun n e=>?_,fun n w e e2=>?_⟩
  · rw[CS] at e;cases z:ns.contains n<;>rw[z] at e<;>cases e
  · rw[CS] at e;refine D9.symm▸?_;cases z:ns.contains n<;>rw[z] at e<;>first | rfl | exact absurd e fT
  · obtain ⟨h1,h2⟩:=U9 e2
    unfold Loc.get
    show (match (ns.map fun k=>(k,none)).lookup n with
      | some o=>o
      | none=>(ro.filterMap fun n=>(ml.get n).map (n,·)).lookup n)=_
    rw[D9]
    rw[CS] at e
    cases z:ns.contains n<;>rw[z] at e
    · exact Jy (NJ M h2) h1
    · exact nn e.symm
theorem HR.upz {k:Nat} {a:O} {o:WO} {z:List Nat} (VO:AO c v T) (R:HR v (Ef zf k a) σ h) (e:σ.z=k::z) {o':O} (q:OR v o (some o')):HR v (Ef zf k o') ⟨σ.n,σ.z,DR k o σ.L⟩ (upd h (v.ν k) o'):=by
  have ne:∀ {j},j≠k→v.ν j≠v.ν k:=fun z y=>z (VO.inj _ _ y)
  have hk:=R.fzk e
  refine ⟨fun j x hx=>?_,fun j hj=>?_,fun i hi=>?_,fun j hj=>?_,fun j x hx=>?_⟩
  · rw[Ci] at hx
    by_cases z:j=k
    · subst z;rw[Nat.beq_refl] at hx;rw[← oJ hx,Aj];exact q
    · rw[AQ z] at hx;rw[Ae (ne z)];exact R.ats j x hx
  · refine (Ae (ne fun z=>?_)).trans (R.fr j hj)
    rw[← z,R.fr _ hj] at hk;exact nn hk
  · exact (Ae (Ne.symm (hi k))).trans (R.old i hi)
  · by_cases z:j=k
    · subst z;unfold Ef;rw[Nat.beq_refl];exact Aj
    · have y:=R.fz j hj
      unfold Ef at y ⊢
      rw[AQ z] at y ⊢
      exact (Ae (ne z)).trans y
  · rw[Ci] at hx
    by_cases z:j=k
    · exact Nat.lt_of_not_le fun y=>by rw[← z,R.fr j y] at hk;exact nn hk
    · rw[AQ z] at hx;exact R.lt j x hx
theorem Bts.mono {and:Bool}:∀ {xs:List X} {h:H} {Q Q':Bool→H→Prop},Bts c d and ml xs h Q→(∀ b h',Q b h'→Q' b h')→Bts c d and ml xs h Q':=by
  intro zl;induction zl with
  | nil =>
    intro _ _ _ p k
    exact k _ _ p
  | cons x xs ih =>
    intro _ _ _ p k
    exact Bt.mono p fun b h' q=>by
      by_cases z:b=and
      · rw[if_pos z] at q ⊢;exact ih q k
      · rw[if_neg z] at q ⊢;exact k _ _ q
theorem Ko (VO:AO c v T) (I:C4 c v d r) {elt src:X} {one:Bool} {ns ro:List Nat} {ifs:List X} {p:W × Sg} (e:K0 r elt one ns src ifs ro m σ=.ok p) (M:MRl v m ml) (R:HR v zf σ h) :
    Bu ns=true∧∃ j,LcQ c d elt one ns src ifs ro ml h j (PV v zf p.1 p.2):=by
  refine gdK e fun hnd e=>?_
  refine bdK e fun q e1 e=>?_
  refine (iAE hnd (v.ν q.2.n) ((I.e e1 M R).mono fun y h₁ zy44a=>zy44a.elim fun y1 R1=>?_))
  obtain ⟨i,okH,zf',σ₁,it,R2,hn,hz,e,rel⟩:=P2 R1 e
  refine gdK e fun hl e=>?_
  refine bdK e fun σ₃ e ep=>?_
  rw[hn] at e ep
  obtain ⟨n1,n2⟩:=R2.new VO (o:=.list []) (o':=.list []) rfl
  rw[hn] at n1 n2
  refine y1.symm▸?_
  have un:∀ {acc σ' h'},HR v (Ef zf' q.2.n (.list acc)) σ' h'→σ'.z=q.2.n::i.z→okH h'∧h' (v.ν q.2.n)=some (.list acc)∧HR v zf ⟨σ'.n,q.2.z,σ'.L⟩ h':=fun R' z=>by
    have a:=R'.unf z fun y=>by
      have:=R2.fz q.2.n (by rw[hz];exact y)
      rw[n1] at this;exact nn this
    exact (iAA ((rel _ _ a rfl).1) (R'.fzk z) ((rel _ _ a rfl).2))
  refine ⟨_,okH,it,by rw[Ax];exact Ec (AF hl),n1,fun rs acc h=>∃ ys ac σ,rs=Ap v ys∧acc=Ap v ac∧HR v (Ef zf' q.2.n (.list acc)) σ h∧NN r elt one ns ifs (Fy m ro) (q.2.n::i.z) q.2.n ys ac σ=.ok σ₃,?_,(Ab i.xs ([]) _ rfl rfl (n2.frz Aj) e),?_,?_⟩
  · rintro rs acc h ⟨ys,ac,σ,_,_,R,e⟩
    have z:σ.z=q.2.n::i.z:=by cases ys<;>exact Dq (Fj e).1
    exact ⟨(un R z).1,(un R z).2.1⟩
  · rintro y rs acc h ⟨ys,ac,σ,q1,q2,R,e⟩
    cases ys with
    | nil=>injection q1
    | cons x ys =>
      injection q1 with q1 q3
      refine gdK e fun z e=>?_
      refine bdK e fun mm e1 e=>?_
      refine bdK e fun b e2 e=>?_
      refine xAA (H8 (Pt M) e1) fun _ b2 b3=>?_
      refine q1.symm▸?_
      refine ⟨b2,(OW I e2 b3 R).mono fun x h₂ zy53a=>zy53a.elim fun y1 R1=>?_⟩
      refine y1.symm▸?_
      rcases Af e with ⟨z,e⟩ | ⟨z,e⟩
      · rw[if_pos z]
        refine bdK e fun s e3 e=>?_
        refine gdK e fun z1 e=>?_
        refine (I.e e3 b3 R1).mono fun x h₃ zy56a=>zy56a.elim fun y2 R3=>(K7 ((un R3 (Dq z1)).2.1) ys _ _ q3 ?_ (R3.upz VO (Dq z1) (o:=.list (ac++[s.1])) ?_) e)
        · rw[y2,q2,FZ];rfl
        · show some (O.list _)=some (O.list _)
          refine y2.symm▸q2.symm▸FZ.symm▸?_;rfl
      · rw[if_neg (fun q=>by rw[z] at q;exact Bool.noConfusion q)]
        exact (Ab ys ac _ q3 q2 R1 e)
  · rintro acc h ⟨ys,ac,σ,q1,_,R,e⟩
    cases ys with
    | cons _ _=>injection q1
    | nil =>
      refine gdK e fun z e=>?_
      refine (AM ep)▸(AM e)▸?_
      exact ⟨rfl,(un R (Dq z)).2.2⟩
end
end
section
section
variable {v:Vl} {c:Cx} {d N:Nat} {zf:Nat→O} {σ σ':Sg} {h h':H} {w:W} {T:Tb} {K:Hk} {m:Mm} {ml:Loc} {r:Ev}
theorem Ma {α:Type}:∀ xs:List α,(List.range xs.length).filterMap (xs[·]?)=xs:=by
  intro zl;induction zl with
  | nil =>
    exact rfl
  | cons x xs ih =>
    rw[List.length_cons,List.range_succ_eq_map,List.filterMap_cons,List.filterMap_map]
    show x::List.filterMap (fun k=>(x::xs)[k+1]?) _=_
    simp only[List.getElem?_cons_succ]
    rw[ih]
theorem Qs (xs:List V):Cl xs none none none=xs:=by
  have e:sliceRange 0 (xs.length:Int) 1=List.range xs.length:=by
    unfold sliceRange
    simp only[Int.lt_add_one_iff,Int.one_pos,if_true,gt_iff_lt]
    have:(if (0:Int)<(xs.length:Int) then ((xs.length:Int) - 0+1 - 1) / 1 else 0).toNat=xs.length:=by
      split<;>lia
    rw[this]
    have:(fun k:Nat=>(0+1*(k:Int)).toNat)=fun k=>k:=by funext k;simp
    rw[this,List.map_id']
  show (sliceRange 0 (xs.length:Int) 1).filterMap _=_
  rw[e,Ma]
theorem Tl {x:X} (e:EL x=true):x=.none:=Rv e
theorem Vc (VO:AO c v T) (F:Aq c) (I0:C4 c v N r) (HK:IH c v K) {x:X} {p:W × Sg} (e:evE T K N r x m σ=.ok p) (M:MRl v m ml) (R:HR v zf σ h):E c (N+1) x ml h (PV v zf p.1 p.2):=by
  have I:=I0.up
  cases x with
  | none=>exact BU (pv e R)
  | tt=>exact UU (pv e R)
  | ff=>exact AaM (pv e R)
  | int i=>exact En (pv e R)
  | str s=>exact Uf (pv e R)
  | loc n=>refine bdK e fun w e1 e=>?_;exact GM (NJ M e1) (pv e R)
  | gint n i=>exact Vm F.ok (pv e R)
  | gref n =>
    refine gdK e fun g e=>?_
    cases q:glq n with
    | none=>rw[q] at g;exact absurd g fT
    | some x =>
      rw[q] at g
      refine UZ F.ok (Ws F q) g ?_
      have:=pv e R
      rw[show den v (.gl n)=V.raw x by show V.raw ((glq n).getD .none)=_;rw[q];rfl] at this
      exact this
  | attr x n=>refine bdK e fun a e1 e=>?_;exact RO F e (I.e e1 M R)
  | bin op a b =>
    refine bdK e fun p1 e1 e=>?_
    refine bdK e fun p2 e2 e=>?_
    exact NL ((I.e e1 M R).mono fun _ _ zy6a=>zy6a.elim fun y1 R1=>(I.e e2 M R1).mono fun _ _ zy7a=>zy7a.elim fun y2 R2=>by rw[y1,y2];exact TD VO R2 e)
  | cmp op a b =>
    refine bdK e fun p1 e1 e=>?_
    refine bdK e fun p2 e2 e=>?_
    refine bdK e fun z e3 e=>?_
    exact Zs ((I.e e1 M R).mono fun _ _ zy11a=>zy11a.elim fun y1 R1=>(I.e e2 M R1).mono fun _ _ zy12a=>zy12a.elim fun y2 R2=>by rw[y1,y2];exact M5 VO F R2 e3 (pv e R2))
  | bop and xs=>exact ZA (Qt VO F I e M R)
  | not x =>
    refine bdK e fun p1 e1 e=>?_
    refine bdK e fun z e3 e=>?_
    exact Zi ((I.e e1 M R).mono fun _ _ zy15a=>zy15a.elim fun y1 R1=>by rw[y1];exact Mi VO F R1 e3 (pv e R1))
  | ite t a b =>
    refine bdK e fun p1 e1 e=>?_
    refine MF ((I.b e1 M R).mono fun b _ zy17a=>zy17a.elim fun y1 R1=>?_)
    rcases Af e with ⟨z,e⟩ | ⟨z,e⟩
    · rw[y1,if_pos z];exact I.e e M R1
    · rw[y1,z];exact I.e e M R1
  | sub x i =>
    refine bdK e fun p1 e1 e=>?_
    refine bdK e fun p2 e2 e=>?_
    exact Up ((I.e e1 M R).mono fun _ _ zy20a=>zy20a.elim fun y1 R1=>(I.e e2 M R1).mono fun _ _ zy21a=>zy21a.elim fun y2 R2=>by rw[y1,y2];exact Tj VO R2 e)
  | slc x lo hi st =>
    refine gdK e fun g e=>?_
    refine Ad g fun g1 g=>?_
    refine bdK e fun p1 e1 e=>?_
    rw[Tl g1,Tl (Aa g).1,Tl (Aa g).2]
    refine KT (v.ν p1.2.n) ((I.e e1 M R).mono fun _ _ zy25a=>zy25a.elim fun y1 R1=>BU (BU (BU ?_)))
    refine CL R1 e fun k xs e2 e3 e=>?_
    refine gdK e fun z e=>?_
    refine xA (R1.new VO (o:=.list xs) rfl) fun n1 n2=>?_
    exact ⟨_,none,none,none,.inl (iEA _ (by rw[y1,e2];rfl) e3),by rw[Ax];exact Ec (AF z),rfl,rfl,rfl,nofun,n1,by rw[Qs];exact pv e n2⟩
  | list xs =>
    refine bdK e fun p1 e1 e=>?_
    refine gdK e fun z e=>?_
    refine Ee (v.ν p1.2.n) ((G4 I e1 M R).mono fun _ _ zy31a=>zy31a.elim fun y1 R1=>?_)
    refine xA (R1.new VO (o:=.list p1.1) rfl) fun n1 n2=>?_
    rw[y1];exact ⟨n1,by rw[Ax];exact Ec (AF z),pv e n2⟩
  | tup xs =>
    refine bdK e fun p1 e1 e=>?_
    refine gdK e fun z e=>?_
    exact Qd ((G4 I e1 M R).mono fun _ _ zy35a=>zy35a.elim fun y1 R1=>by rw[y1];exact ⟨by rw[Ax];exact Ec (AF z),pv e R1⟩)
  | dict ks vs =>
    refine gdK e fun g e=>?_
    rw[A4 (Aa g).1,A4 (Aa g).2]
    refine xA (R.new VO (o:=.dict []) (o':=.dict 0 []) ⟨0,rfl⟩) fun n1 n2=>?_
    exact Sh _ n1 (pv e n2)
  | lcomp elt tg one src ifs own ro =>
    have e:(match K.x (.lcomp elt tg one src ifs own ro) m σ with
      | some x=>gd 57 (Nat.ble K.n N) x
      | none=>K0 r elt one tg src ifs ro m σ)=.ok p:=e
    cases q:K.x (.lcomp elt tg one src ifs own ro) m σ with
    | some x=>rw[q] at e;refine gdK e fun hN e=>?_;exact HK.x (nle hN) (q.trans (congrArg some e)) M R
    | none=>rw[q] at e;obtain ⟨hn,j,q⟩:=Ko VO I e M R;exact Ha F.ok j hn q
  | call f args kws =>
    have e:(match cond (Nat.beq f 16&&kws.isEmpty) (Ta args) none with
      | some x=>Um r x m σ
      | none=>PC K N r f args kws m σ)=.ok p:=e
    cases q:cond (Nat.beq f 16&&kws.isEmpty) (Ta args) none with
    | some x =>
      rw[q] at e
      rcases Af q with ⟨z,q⟩ | ⟨_,q⟩
      · refine bdK e fun p1 e1 e=>?_
        rw[eN (Aa z).1,A4 (Aa z).2,WE q]
        refine Oc F.ok ((I.e e1 M R).mono fun _ _ zy41a=>zy41a.elim fun y1 R1=>?_)
        refine CL R1 e fun k xs e2 e3 e=>?_
        refine gdK e fun z e=>?_
        refine xA (R1.new VO (o:=.list xs.reverse) (o':=.list (Ap v xs).reverse) (by show some (O.list _)=some (O.list _);rw[AX,AX,List.map_reverse])) fun n1 n2=>?_
        exact (Ek _ _ _ (by rw[y1,e2];rfl) e3 (by rw[Ax];exact Ec (AF z)) n1 (pv e n2))
      · exact nn q
    | none =>
      rw[q] at e
      refine gdK e fun g e=>?_
      refine bdK e fun p1 e1 e=>?_
      refine bdK e fun p2 e2 e=>?_
      exact UJ VO F I0 HK g ((G4 I e1 M R).mono fun _ _ zy48a=>zy48a.elim fun y1 R1=>(MH I e2 M R1).mono fun _ _ zy49a=>zy49a.elim fun y2 R2=>(iAA y1 y2 R2)) e
  | meth x n args kws =>
    refine bdK e fun p1 e1 e=>?_
    refine gdK e fun g e=>?_
    refine bdK e fun p2 e2 e=>?_
    refine bdK e fun p3 e3 e=>?_
    refine Ry ((I.e e1 M R).mono fun _ _ zy54a=>zy54a.elim fun y1 R1=>?_)
    rw[y1]
    exact Xt F R1 g ((G4 I e2 M R1).mono fun _ _ zy55a=>zy55a.elim fun y2 R2=>(MH I e3 M R2).mono fun _ _ zy56a=>zy56a.elim fun y3 R3=>by rw[y2,y3];exact VL VO F I R3 RW e)
  | _=>exact no e
theorem U7 (VO:AO c v T) (F:Aq c) (I:C4 c v d r) {x:X} {p:Bool × Sg} (e:evB T r x m σ=.ok p) (M:MRl v m ml) (R:HR v zf σ h):Bt c d x ml h (PB v zf p.1 p.2):=by
  have pl:(bd (r.e x m σ) fun p=>bd (tru T p.1 p.2) fun b=>Rs.ok (b,p.2))=.ok p→E c d x ml h fun v h₁=>TrW c v h₁ (PB _ zf p.1 p.2):=fun e=>by
    refine bdK e fun p1 e1 e=>?_
    refine bdK e fun z e3 e=>?_
    exact (I.e e1 M R).mono fun _ _ zy59a=>zy59a.elim fun y1 R1=>by rw[y1];exact Mi VO F R1 e3 (by rw[← AM e];exact ⟨rfl,R1⟩)
  cases x with
  | tt=>exact YO (by rw[← AM e];exact ⟨rfl,R⟩)
  | cmp op a b =>
    refine bdK e fun p1 e1 e=>?_
    refine bdK e fun p2 e2 e=>?_
    refine bdK e fun z e3 e=>?_
    exact JR ((I.e e1 M R).mono fun _ _ zy63a=>zy63a.elim fun y1 R1=>(I.e e2 M R1).mono fun _ _ zy64a=>zy64a.elim fun y2 R2=>by rw[y1,y2];exact M5 VO F R2 e3 (Dl (by rw[← AM e];exact ⟨rfl,R2⟩)))
  | not x=>refine bdK e fun p1 e1 e=>?_;exact Wq ((I.b e1 M R).mono fun _ _ zy66a=>zy66a.elim fun y1 R1=>by rw[y1,← AM e];exact ⟨rfl,R1⟩)
  | bop and xs=>exact Mb (OW I e M R)
  | loc n=>exact Xk (pl (Fj e).2)
  | attr x n=>exact TM (pl (Fj e).2)
  | sub x i=>exact Xe (pl (Fj e).2)
  | call f as ks=>exact T6 (pl (Fj e).2)
  | meth x n as ks=>exact SE (pl (Fj e).2)
  | _=>exact no e
end
end
section
section
variable {v:Vl} {c:Cx} {d N:Nat} {zf:Nat→O} {σ σ':Sg} {h h':H} {w:W} {T:Tb} {K:Hk} {m:Mm} {ml:Loc} {r:Ev}
theorem pz {q:AU × Mm × Sg} {o:AU} {m:Mm} {ml:Loc} (e:(Rs.ok (o,m,σ):Rs (AU × Mm × Sg))=.ok q) (M:MRl v m ml) (R:HR v zf σ h):PZ v zf q (Qw v o) ml h:=by refine (AM e)▸?_;exact (iAA rfl M R)
theorem YH (I:C4 c v d r) {xs:List S} {q p:AU × Mm × Sg} {o:Out} {m':Loc} {h:H} (y:PZ v zf q o m' h) (e:cond (HC q.1) (BW r xs q.2.1 q.2.2) (.ok q)=.ok p):Vq c d xs (PZ v zf p) o m' h:=by
  refine xAA y fun y1 M1 R1=>?_
  rw[y1]
  rcases Af e with ⟨z,e⟩ | ⟨z,e⟩
  · cases q':q.1<;>rw[q'] at z<;>first | exact BZ I e M1 R1 | exact absurd z fT
  · refine (AM e)▸?_
    cases q':q.1<;>rw[q'] at z<;>first | exact absurd z.symm fT | exact (iAA (congrArg (Qw v) q'.symm) M1 R1)
theorem N0 {o:AU} (e:HC o=true):o=.nx:=by cases o<;>first | rfl | exact absurd e fT
theorem QU {α:Type} {f:List W→Rs α} {a:α} (R:HR v zf σ h) (e:Uy w σ f=.ok a):∃ ys,Ud (den v w) h (Ap v ys)∧f ys=.ok a:=by
  cases w with
  | tup xs=>exact ⟨xs,.inl rfl,e⟩
  | ref k=>refine CL R e fun j xs q e1 e=>?_;exact ⟨xs,.inr (iEA _ (by rw[q];rfl) e1),e⟩
  | _=>exact no e
theorem Wr (VO:AO c v T) (F:Aq c) (I:C4 c v d r) {x:S} {p:AU × Mm × Sg} (e:evS T K r x m σ=.ok p) (M:MRl v m ml) (R:HR v zf σ h):St c d x ml h (PZ v zf p):=by
  cases x with
  | expr x=>refine bdK e fun a e1 e=>?_;exact G2 ((I.e e1 M R).mono fun _ _ zy4a=>zy4a.elim fun _ R1=>pz e M R1)
  | asg n x =>
    refine bdK e fun a e1 e=>?_
    refine gdK e fun g e=>?_
    exact Hw F.ok (M.has n g) ((I.e e1 M R).mono fun _ _ zy7a=>zy7a.elim fun y1 R1=>by rw[y1];exact pz e (M.set fun z=>isS g z) R1)
  | asgC n x=>cases x with
    | lcomp elt tg one src ifs own ro =>
      have e:(match K.x (.lcomp elt tg one src ifs own ro) m σ with
        | some _=>Rs.er 63
        | none=>bd (K0 r elt one tg src ifs ro m σ) (stM n m))=.ok p:=e
      cases q:K.x (.lcomp elt tg one src ifs own ro) m σ with
      | some _=>rw[q] at e;exact no e
      | none =>
        rw[q] at e
        refine bdK e fun a e1 e=>?_
        refine gdK e fun g e=>?_
        obtain ⟨hn,j,xs⟩:=Ko VO I e1 M R
        refine G3 F.ok j (M.has n g) hn ?_
        refine xs.mono fun x h₁ zy11a=>Fu zy11a fun xs ok i1 i2 i3 J j1 j2 j3 j4=>⟨xs,ok,i1,i2,i3,J,j1,j2,j3,fun acc h q=>?_⟩
        refine xA (j4 acc h q) fun y1 R1=>?_
        rw[y1];exact pz e (M.set fun z=>isS g z) R1
    | _=>exact no e
  | asgA o n x =>
    refine bdK e fun a e1 e=>?_
    refine bdK e fun b e2 e=>?_
    refine TC F.ok ((I.e e1 M R).mono fun _ _ zy15a=>zy15a.elim fun y1 R1=>(I.e e2 M R1).mono fun _ _ zy16a=>zy16a.elim fun y2 R2=>?_)
    refine Be (Uh R2 e) fun k cl fs q e3 e=>?_
    refine gdK e fun g e=>?_
    refine FX e fun z e=>?_
    exact ⟨_,_,_,by rw[y2,q];rfl,e3,F.fld _ _ (Aa g).1,by rw[Dw];exact Nat.lt_of_le_of_lt (lB (Aa g).2) (by decide),by refine y1.symm▸N9▸?_;exact pz e M (R2.put VO (o:=.inst cl _) e3 z rfl)⟩
  | asgI o i x =>
    refine bdK e fun a e1 e=>?_
    refine bdK e fun b e2 e=>?_
    refine bdK e fun s e3 e=>?_
    exact So ((I.e e1 M R).mono fun _ _ zy23a=>zy23a.elim fun y1 R1=>(I.e e2 M R1).mono fun _ _ zy24a=>zy24a.elim fun y2 R2=>(I.e e3 M R2).mono fun _ _ zy25a=>zy25a.elim fun y3 R3=>by
      refine y1.symm▸y2.symm▸y3.symm▸?_
      intro d A g s ro ri rv hA R r1 r2 r3
      refine wpAny_mono (Tp VO R3 e d A g s ro ri rv hA R r1 r2 r3) (fun _ s' zz=>Tg zz fun g' h' a1 a2 σ' a3 a4=>(Al g' h' a1 a2 (pz a4 M a3))) fun _ _ z=>z)
  | asgT ns x =>
    refine gdK e fun g e=>?_
    have g:=List.all_eq_true.mp g
    refine bdK e fun a e1 e=>?_
    refine Nb F.ok (fun n hn=>M.has n (g n hn)) ((I.e e1 M R).mono fun _ _ zy29a=>zy29a.elim fun y1 R1=>?_)
    refine xEA (QU R1 e) fun ys q e=>?_
    refine gdK e fun z e=>?_
    refine y1.symm▸?_
    refine (Bj _ q (by rw[Ax];exact eN z) ?_)
    rw[FK];exact pz e (M.setAll fun q hq z=>isS (g q.1 (List.of_mem_zip hq).1) z) R1
  | del o i =>
    refine bdK e fun a e1 e=>?_
    refine bdK e fun b e2 e=>?_
    refine VH F.ok ((I.e e1 M R).mono fun _ _ zy34a=>zy34a.elim fun y1 R1=>(I.e e2 M R1).mono fun _ _ zy35a=>zy35a.elim fun y2 R2=>?_)
    refine obK e fun s q2 e=>?_;refine obK e fun k q e=>?_;refine obK e fun o' e3 e=>?_
    have y:=R2.ats _ _ e3
    cases o' with
    | dsym j =>
      refine obK e fun zz39a e4 e=>?_;obtain ⟨p1,p2⟩:=zz39a
      refine gdK e fun g e=>?_
      refine FX e fun z e=>?_
      refine xE y fun ep y=>?_
      have g:p1=none:=by cases p1<;>first | rfl | exact absurd g fT
      refine xAA (VO.dd _ _ _ (by rw[e4,g])) fun l w1 w2=>?_
      exact ⟨_,_,_,s,by rw[y1,BQ q];rfl,by rw[y2,Et q2];rfl,y,Ec l,w1,fun ep'=>pz e M (R2.put VO (o:=.dsym _) y z ⟨ep',congrArg (fun z=>some (O.dict ep' z)) w2.symm⟩)⟩
    | _=>exact no e
  | ret x =>
    rcases Af e with ⟨z,e⟩ | ⟨z,e⟩
    · rw[Tl z];exact KC (pz e M R)
    · refine bdK e fun a e1 e=>?_
      exact PF z ((I.e e1 M R).mono fun _ _ zy45a=>zy45a.elim fun y1 R1=>by rw[y1];exact pz e M R1)
  | iff t a b =>
    refine bdK e fun q e1 e=>?_
    refine O6 ((I.b e1 M R).mono fun b _ zy47a=>zy47a.elim fun y1 R1=>?_)
    rcases Af e with ⟨z,e⟩ | ⟨z,e⟩
    · rw[y1,if_pos z];exact BZ I e M R1
    · refine y1.symm▸z.symm▸?_;exact BZ I e M R1
  | whl t a=>exact Xl I e M R
  | for1 n x a=>refine bdK e fun q e1 e=>?_;exact MU F.ok (Nk I e1 e M R)
  | forT ns x a =>
    have e:(match enX x with
      | some y=>bd (r.e y m σ) fun p=>MD p.2.z (onL 67 p.1 p.2 fun k xs=>FV false ns (BW r a) ⟨IU xs,k::p.2.z⟩ (IU xs) m (frz p.2 k))
      | none=>bd (r.e x m σ) fun p=>MD p.2.z (itm false p.1 p.2 fun i σ=>FV false ns (BW r a) i i.xs m σ))=.ok p:=e
    cases q:enX x with
    | none=>rw[q] at e;refine bdK e fun q e1 e=>?_;exact T3 F.ok (Nk I e1 e M R)
    | some y =>
      rw[q] at e
      refine bdK e fun q' e1 e=>?_
      refine xEA (Qr e) fun s e ep=>?_
      refine (YW q).symm▸?_
      refine Rm F.ok ((I.e e1 M R).mono fun _ h₁ zy52a=>zy52a.elim fun y1 R1=>?_)
      refine CL R1 e fun k xs e2 e3 e=>?_
      refine Dh (KY (okH:=fun h'=>h' (v.ν k)=some (.list (Ap v xs))) I (fun σ' h' R' z=>⟨R'.fzk z,R'.unf z fun y=>oJ ((R1.fz _ y).symm.trans e3)⟩) e M (R1.frz e3)) fun J j1 j2 j3 j4=>?_
      refine ep.symm▸?_
      exact ⟨_,_,by rw[y1,e2];rfl,e3,J,j1,by rw[Op];exact j2,j3,j4⟩
  | assert t=>refine bdK e fun q e1 e=>?_;refine gdK e fun g e=>?_;exact NP ((I.b e1 M R).mono fun b _ zy57a=>zy57a.elim fun y1 R1=>⟨y1.trans g,pz e M R1⟩)
  | brk=>exact WX (pz e M R)
  | cont=>exact Sn (pz e M R)
  | try_ a b z =>
    refine bdK e fun q e1 e=>?_
    cases z with
    | nil=>exact Vv ((BZ I e1 M R).mono fun o m' h' y=>YH I y e)
    | cons s z =>
      refine gdK e fun g e=>?_
      refine bdK e fun q2 e2 e=>?_
      refine gdK e fun g2 e=>?_
      rw[A4 (Aa g).1]
      refine LZ ((BZ I e1 M R).mono fun o m' h' zy62a=>xAA zy62a fun y1 M1 R1=>⟨by rw[y1,N0 (Aa g).2];rfl,(BZ I e2 M1 R1).mono fun o m' h' zy63a=>xAA zy63a fun y1 M1 R1=>⟨by rw[y1,N0 g2];rfl,pz e M1 R1⟩⟩)
  | def_ n =>
    refine gdK e fun g e=>?_
    exact VJ F.ok (M.has n g) (fun sc x q=>(R.old _ (VO.tab sc x q).1).trans (VO.tab sc x q).2) fun f=>pz e (M.upd none (fun _=>OL) (fun _ z=>nn z) fun z=>isS g z) R
  | _=>exact no e
theorem Yp {x:V} {w:W} (e:Oa x=some w):den v w=x:=by
  cases x with
  | tup xs=>cases xs with
    | nil=>refine (oJ e)▸?_;rfl
    | cons _ _=>exact nn e
  | none=>refine (oJ e)▸?_;rfl
  | bool b=>refine (oJ e)▸?_;rfl
  | int b=>refine (oJ e)▸?_;rfl
  | str b=>refine (oJ e)▸?_;rfl
  | _=>exact nn e
theorem Ny {n:Nat} {x:V}:∀ {l:List (Nat × V)},KR l=true→Ah n l=some x→∃ w,Oa x=some w
  | p::r,e,q=>by
    refine Ad e fun e1 e2=>?_
    have q:cond (Nat.beq n p.1) (some p.2) (Ah n r)=some x:=q
    rcases Af q with ⟨_,q⟩ | ⟨_,q⟩
    · refine (oJ q)▸?_;exact Option.isSome_iff_exists.mp e1
    · exact Ny e2 q
theorem KI {α:Type} {a b:List (α × W)}:AE v (a++b)=AE v a++AE v b:=List.map_append
theorem Oq {D:Ak} {vs ks:List W} {ns:List Nat} (e:KR D.opt=true):GS D (Ap v vs) ns (Ap v ks)=AE v (MJ D vs ns ks):=by
  unfold GS MJ
  refine FK.symm▸FK.symm▸KI▸?_
  unfold AE
  rw[List.map_filterMap]
  congr 1
  funext n
  show (((AE v (D.ps.zip vs++ns.zip ks)).lookup n).or (D.opt.lookup n)).map (n,·)=_
  rw[DA,← G7,← G7]
  cases Ah n (D.ps.zip vs++ns.zip ks) with
  | some x=>rfl
  | none =>
    show (Ah n D.opt).map (n,·)=((Ah n D.opt).bind fun v=>(Oa v).map (n,·)).map fun p=>(p.1,den v p.2)
    cases q:Ah n D.opt with
    | none=>rfl
    | some x =>
      refine xE (Ny e q) fun y q2=>?_
      show some (n,x)=((Oa x).map (n,·)).map _
      rw[q2]
      show some (n,x)=some (n,den v y)
      rw[Yp q2]
theorem Qq {o:AU}:Yl (Qw v o)=den v (Vg o):=by cases o<;>rfl
theorem U3 (F:Aq c) (I:C4 c v N r) (HK:IH c v K) {f:Nat} {vs ks:List W} {ns:List Nat} {p:W × Sg} (e:evF K N r f vs ns ks σ=.ok p) (R:HR v zf σ h):A0 c (N+1) f (Ap v vs) ns (Ap v ks) h (PV v zf p.1 p.2):=by
  have e:(match K.c f vs ns ks σ with
    | some x=>gd 72 (Nat.ble K.n N) x
    | none=>ob (3000+f) (fnB.get f) fun D=>gd 73 (LH D vs.length ns&&Nat.beq ns.length ks.length&&KR D.opt)
      (bd (BW r D.body (FB (MJ D vs ns ks) ⟨[],D.locs.map (·,none)⟩) σ) fun p=>.ok (Vg p.1,p.2.2)))=.ok p:=e
  cases q:K.c f vs ns ks σ with
  | some x=>rw[q] at e;refine gdK e fun hN e=>?_;exact HK.ca (nle hN) (q.trans (congrArg some e)) R
  | none =>
    rw[q] at e
    refine obK e fun D e1 e=>?_
    refine gdK e fun g e=>?_
    refine bdK e fun s e2 e=>?_
    refine Ad g fun g1 g3=>?_
    refine Ad g1 fun g1 g2=>?_
    refine F.fn.elim fun KF y=>?_
    refine MW F.ok y.1 (y.2 _ _ e1) (by rw[Ax];exact g1) (by rw[Ax];exact eN g2) ?_
    have M0:MRl v ⟨[],D.locs.map (·,none)⟩ ⟨[],D.locs.map (·,none)⟩:=by
      refine ⟨fun n w e=>?_,fun n e=>?_,fun n w e e2=>nn e2⟩
      · rw[CS] at e;cases z:D.locs.contains n<;>rw[z] at e<;>cases e
      · rw[CS] at e;refine D9.symm▸?_;cases z:D.locs.contains n<;>rw[z] at e<;>first | rfl | exact absurd e fT
    rw[Oq g3]
    refine (BZ I e2 (M0.setAll fun _ _ _=>rfl) R).mono fun o m' h' zy73a=>xAA zy73a fun y1 M1 R1=>?_
    rw[y1,Qq];exact pv e R1
end
theorem Lg {c:Cx} {v:Vl} {T:Tb} {K:Hk} (VO:AO c v T) (F:Aq c) (HK:IH c v K):∀ n,C4 c v n (ev T K n):=by
  intro zl;induction zl with
  | zero =>
    exact ⟨fun e _ _=>no e,fun e _ _=>no e,fun e _ _=>no e,fun e _=>no e⟩
  | succ n ih =>
    exact ⟨fun e M R=>Vc VO F (ih) HK e M R,fun e M R=>U7 VO F (ih).up e M R,fun e M R=>Wr VO F (ih).up e M R,fun e R=>U3 F (ih) HK e R⟩
end
section
noncomputable def WH:W→Option Bool
  | .bool b=>some b
  | _=>none
noncomputable def YS:W→Option Nat
  | .sym k=>some k
  | _=>none
noncomputable def ifS {α:Type} (o:Option α) (f:α→Bool):Bool:=match o with
  | some y=>f y
  | none=>false
mutual
noncomputable def My:W→W→Bool
  | .none,b=>NV b
  | .bool x,b=>ifS (WH b) fun y=>x==y
  | .int x,b=>ifS (EY b) fun y=>x==y
  | .str x,b=>ifS (BP b) fun y=>seq x y
  | .tup xs,b=>ifS (Hz b) fun ys=>Ln xs ys
  | .ref x,b=>ifS (AZ b) fun y=>Nat.beq x y
  | .gl x,b=>ifS (Yc b) fun y=>Nat.beq x y
  | .sym x,b=>ifS (YS b) fun y=>Nat.beq x y
  | _,_=>false
termination_by structural x=>x
noncomputable def Ln:List W→List W→Bool
  | [],b=>b.isEmpty
  | x::xs,b=>match b with
    | y::ys=>My x y&&Ln xs ys
    | []=>false
termination_by structural x=>x
end
noncomputable def U5:List (Nat × W)→List (Nat × W)→Bool
  | [],b=>b.isEmpty
  | x::xs,b=>match b with
    | y::ys=>Nat.beq x.1 y.1&&(My x.2 y.2&&U5 xs ys)
    | []=>false
noncomputable def Wp:List (List Nat × W)→List (List Nat × W)→Bool
  | [],b=>b.isEmpty
  | x::xs,b=>match b with
    | y::ys=>seq x.1 y.1&&(My x.2 y.2&&Wp xs ys)
    | []=>false
noncomputable def OK:WO→Nat × Nat
  | .lsym j=>(1,j)
  | .dsym j=>(2,j)
  | .psym j=>(3,j)
  | _=>(0,0)
noncomputable def SS:WO→WO→Bool
  | .inst k fs,b=>ifS (Hs b) fun p=>Nat.beq k p.1&&U5 fs p.2
  | .list xs,b=>ifS (G9 b) fun ys=>Ln xs ys
  | .dict xs,b=>ifS (JH b) fun ys=>Wp xs ys
  | .set _,_=>false
  | .lsym j,b=>Nat.beq 1 (OK b).1&&Nat.beq j (OK b).2
  | .dsym j,b=>Nat.beq 2 (OK b).1&&Nat.beq j (OK b).2
  | .psym j,b=>Nat.beq 3 (OK b).1&&Nat.beq j (OK b).2
theorem Yo {α:Type} {f:α→Bool}:∀ {o:Option α},ifS o f=true→∃ y,o=some y∧f y=true
  | some y,h=>(iEA y rfl h)
theorem BE {α:Type} {f:α→Bool} {o:Option α} {p:Prop} (e:ifS o f=true) (k:∀ y,o=some y→f y=true→p):p:=xEA (Yo e) k
mutual
theorem Gg:∀ {a b:W},My a b=true→a=b
  | .none,b,h=>(JM h).symm
  | .bool x,b,h=>by
    refine BE h fun y e h=>?_
    have e':b=.bool y:=by cases b<;>first | exact congrArg W.bool (oJ e) | exact nn e
    rw[e',show x=y from eq_of_beq h]
  | .int x,b,h=>by refine BE h fun y e h=>?_;rw[FW e,eq_of_beq h]
  | .str x,b,h=>by refine BE h fun y e h=>?_;rw[Et e,Dq h]
  | .tup x,b,h=>by refine BE h fun y e h=>?_;rw[Ng e,Hj h]
  | .ref x,b,h=>by refine BE h fun y e h=>?_;rw[BQ e,eN h]
  | .gl x,b,h=>by
    refine BE h fun y e h=>?_
    have e':b=.gl y:=by cases b<;>first | exact congrArg W.gl (oJ e) | exact nn e
    rw[e',show x=y from eN h]
  | .sym x,b,h=>by
    refine BE h fun y e h=>?_
    have e':b=.sym y:=by cases b<;>first | exact congrArg W.sym (oJ e) | exact nn e
    rw[e',show x=y from eN h]
  | .vals _,_,h=>absurd h fT
  | .items _,_,h=>absurd h fT
  | .rng _ _,_,h=>absurd h fT
theorem Hj:∀ {a b:List W},Ln a b=true→a=b
  | [],b,h=>(A4 h).symm
  | x::xs,b,h=>by
    cases b with
    | nil=>exact absurd h fT
    | cons y ys=>rw[Gg (Aa h).1,Hj (Aa h).2]
end
theorem VA:∀ {a b:List (Nat × W)},U5 a b=true→a=b:=by
  intro zl;induction zl with
  | nil =>
    intro b h
    exact (A4 h).symm
  | cons zq xs ih =>
    obtain ⟨n,x⟩:=zq
    intro b h
    cases b with
    | nil=>exact absurd h fT
    | cons y ys =>
      refine Ad h fun h1 h=>?_
      refine Ad h fun h2 h3=>?_
      rw[show n=y.1 from eN h1,show x=y.2 from Gg h2,ih h3]
theorem Vp:∀ {a b:List (List Nat × W)},Wp a b=true→a=b:=by
  intro zl;induction zl with
  | nil =>
    intro b h
    exact (A4 h).symm
  | cons zq xs ih =>
    obtain ⟨n,x⟩:=zq
    intro b h
    cases b with
    | nil=>exact absurd h fT
    | cons y ys =>
      refine Ad h fun h1 h=>?_
      refine Ad h fun h2 h3=>?_
      rw[show n=y.1 from Dq h1,show x=y.2 from Gg h2,ih h3]
theorem Me:∀ {a b:WO},SS a b=true→a=b
  | .inst k fs,b,h=>by
    refine BE h fun y e h=>?_
    rw[Jv e,show k=y.1 from eN (Aa h).1,VA (Aa h).2]
  | .list xs,b,h=>by refine BE h fun y e h=>?_;rw[Mj e,Hj h]
  | .dict xs,b,h=>by refine BE h fun y e h=>?_;rw[QB e,Vp h]
  | .set _,_,h=>absurd h fT
  | .lsym j,b,h=>by
    refine Ad h fun h1 h2=>?_
    cases b<;>first | exact congrArg WO.lsym (eN h2) | exact absurd h1 fT
  | .dsym j,b,h=>by
    refine Ad h fun h1 h2=>?_
    cases b<;>first | exact congrArg WO.dsym (eN h2) | exact absurd h1 fT
  | .psym j,b,h=>by
    refine Ad h fun h1 h2=>?_
    cases b<;>first | exact congrArg WO.psym (eN h2) | exact absurd h1 fT
structure Sb where
  e:List Nat
  s:List (Nat × W)
  N:Nat
noncomputable def Sb.ν (S:Sb) (k:Nat):Nat:=match S.e[k]? with
  | some j=>j
  | none=>S.N+(k - S.e.length)
noncomputable def Su (S:Sb) (k:Nat):W:=match Ah k S.s with
  | some w=>w
  | none=>.sym k
mutual
noncomputable def OO (S:Sb):W→W
  | .ref k=>.ref (S.ν k)
  | .vals k=>.vals (S.ν k)
  | .items k=>.items (S.ν k)
  | .sym k=>Su S k
  | .tup xs=>.tup (HV S xs)
  | w=>w
termination_by structural x=>x
noncomputable def HV (S:Sb):List W→List W
  | []=>[]
  | x::xs=>OO S x::HV S xs
termination_by structural x=>x
end
noncomputable def Ox {α:Type} (S:Sb) (fs:List (α × W)):List (α × W):=fs.map fun p=>(p.1,OO S p.2)
noncomputable def Pr (S:Sb):WO→WO
  | .inst k fs=>.inst k (Ox S fs)
  | .list xs=>.list (HV S xs)
  | .dict es=>.dict (Ox S es)
  | o=>o
noncomputable def Vl.sub (v:Vl) (S:Sb) (h:H):Vl:=⟨fun k=>den v (Su S k),v.l,v.d,v.p,fun k=>v.ν (S.ν k),h⟩
section
variable {v:Vl} {S:Sb} {h:H}
mutual
theorem JI:∀ (w:W),den (v.sub S h) w=den v (OO S w)
  | .none=>rfl
  | .bool _=>rfl
  | .int _=>rfl
  | .str _=>rfl
  | .tup xs=>congrArg V.tup (FA xs)
  | .ref _=>rfl
  | .vals _=>rfl
  | .items _=>rfl
  | .rng _ _=>rfl
  | .gl _=>rfl
  | .sym _=>rfl
theorem FA:∀ (xs:List W),Ap (v.sub S h) xs=Ap v (HV S xs)
  | []=>rfl
  | x::xs=>by
    show den _ x::Ap _ xs=den v (OO S x)::Ap v (HV S xs)
    rw[JI x,FA xs]
end
theorem KZ {α:Type}:∀ (fs:List (α × W)),AE (v.sub S h) fs=AE v (Ox S fs):=by
  intro zl;induction zl with
  | nil =>
    exact rfl
  | cons zq r ih =>
    obtain ⟨a,x⟩:=zq
    show (a,den _ x)::AE _ r=(a,den v (OO S x))::AE v (Ox S r)
    rw[JI,ih]
theorem PD {o:WO} {x:Option O}:OR (v.sub S h) o x=OR v (Pr S o) x:=by
  cases o with
  | inst k fs=>show (x=some (.inst k (AE _ fs)))=(x=some (.inst k (AE v (Ox S fs))));rw[KZ]
  | list xs=>show (x=some (.list (Ap _ xs)))=(x=some (.list (Ap v (HV S xs))));rw[FA]
  | dict es=>show (∃ ep,x=some (.dict ep (AE _ es)))=(∃ ep,x=some (.dict ep (AE v (Ox S es))));rw[KZ]
  | _=>rfl
end
end
section
structure Ct where
  f:Nat
  vs:List W
  n:Nat
  L:List (Nat × WO)
  fx:List (Nat × Nat)
  w:W
  n':Nat
  L':List (Nat × WO)
structure Agr (c:Cx) (v u:Vl):Prop where
  l:u.l=v.l
  d:u.d=v.d
  p:u.p=v.p
  s:∀ j,j<100→u.s j=v.s j
  inj:∀ a b,u.ν a=u.ν b→a=b
  tab:∀ sc x,c.code sc=some x→(∀ k,u.ν k≠x.2.2)∧u.h x.2.2=some (.tab x.2.1)
noncomputable def Db (c:Cx) (v:Vl) (D:Nat) (C:Ct):Prop :=
  ∀ u d zf h,Agr c v u→(∀ p∈C.fx,u.ν p.1=v.ν p.2)→D≤d→HR u zf ⟨C.n,[],ofT C.L⟩ h→A0 c d C.f (Ap u C.vs) [] [] h (PV u zf C.w ⟨C.n',[],ofT C.L'⟩)
noncomputable def Te (S:Sb):List (Nat × WO)→HT→HT
  | [],t=>t
  | p::r,t=>DR (S.ν p.1) (Pr S p.2) (Te S r t)
noncomputable def Vo (C:Ct) (S:Sb) (vs:List W) (σ:Sg):Bool :=
  Nat.beq S.e.length C.n&&(Nat.beq S.N σ.n&&(Ln (HV S C.vs) vs&&(Bu S.e&&(S.e.all (fun j=>Nat.blt j σ.n&&!σ.z.contains j)&&(S.s.all (fun p=>Nat.ble 100 p.1) &&
  (C.L.all (fun p=>Nat.blt p.1 C.n&&ifS (lo (S.ν p.1) σ.L) (SS (Pr S p.2)))&&(C.fx.all (fun p=>Nat.beq (S.ν p.1) p.2)&&(Nat.ble C.n C.n'&&(List.range C.n).all fun k=>(Ah k C.L').isSome))))))))
noncomputable def Sw (C:Ct) (S:Sb) (σ:Sg):W × Sg:=(OO S C.w,⟨σ.n+(C.n' - C.n),σ.z,Te S C.L' σ.L⟩)
theorem AG {k:Nat}:∀ {L:List (Nat × WO)},lo k (ofT L)=Ah k L:=by
  intro zl;induction zl with
  | nil =>
    exact rfl
  | cons p r ih =>
    show lo k (DR p.1 p.2 (ofT r))=cond (Nat.beq k p.1) (some p.2) (Ah k r)
    rw[Ci,ih]
theorem NI {S:Sb} {j:Nat} {o:WO} {t:HT}:∀ {L:List (Nat × WO)},lo j (Te S L t)=some o→(∃ k o',Ah k L=some o'∧j=S.ν k∧o=Pr S o')∨((∀ k,(Ah k L).isSome=true→S.ν k≠j)∧lo j t=some o):=by
  intro zl;induction zl with
  | nil =>
    intro e
    exact .inr ⟨fun _ h=>absurd h fT,e⟩
  | cons p r ih =>
    intro e
    have e:lo j (DR (S.ν p.1) (Pr S p.2) (Te S r t))=some o:=e
    rw[Ci] at e
    have lk:∀ k,Ah k (p::r)=cond (Nat.beq k p.1) (some p.2) (Ah k r):=fun _=>rfl
    by_cases z:j=S.ν p.1
    · rw[z,Nat.beq_refl] at e
      exact .inl (Al p.1 p.2 (by rw[lk,Nat.beq_refl];rfl) z ((oJ e).symm))
    · rw[AQ z] at e
      have ne:∀ {k},j=S.ν k→k≠p.1:=fun a b=>z (by rw[a,b])
      rcases ih e with ⟨k,o',a,b,d⟩ | ⟨a,b⟩
      · exact .inl (Al k o' (by rw[lk,AQ (ne b)];exact a) b d)
      · refine .inr ⟨fun k hk y=>?_,b⟩
        rw[lk,AQ (ne y.symm)] at hk
        exact a k hk y
theorem H3 {α:Type} {l:List α} {k:Nat} {x:α} (e:l[k]?=some x):x∈l:=List.mem_of_getElem? e
theorem Ij:∀ {l:List Nat} {a b x:Nat},Bu l=true→l[a]?=some x→l[b]?=some x→a=b
  | y::l,a,b,x,h,ea,eb=>by
    refine Ad h fun h1 h2=>?_
    have h1:=A9 h1
    have no:∀ {k},l[k]?=some y→False:=fun e=>by
      rw[List.contains_iff_mem.mpr (H3 e)] at h1;exact Bool.noConfusion h1
    cases a with
    | zero=>cases b with
      | zero=>rfl
      | succ b=>rw[← oJ ea] at eb;exact (no eb).elim
    | succ a=>cases b with
      | zero=>rw[← oJ eb] at ea;exact (no ea).elim
      | succ b=>exact congrArg (·+1) (Ij h2 ea eb)
theorem Ao {α:Type} {p:α→Bool} {l:List α} (h:l.all p=true):∀ x∈l,p x=true:=List.all_eq_true.mp h
section
variable {c:Cx} {v:Vl} {zf:Nat→O} {σ:Sg} {h:H} {T:Tb}
theorem Zq (VO:AO c v T) (R:HR v zf σ h) {C:Ct} {S:Sb} {vs:List W} {d:Nat} {D:Nat} (hC:Db c v D C) (hd:D≤d) (e:Vo C S vs σ=true):A0 c d C.f (Ap v vs) [] [] h (PV v zf (Sw C S σ).1 (Sw C S σ).2):=by
  refine Ad e fun e1 e=>?_
  refine Ad e fun e2 e=>?_
  refine Ad e fun e3 e=>?_
  refine Ad e fun e4 e=>?_
  refine Ad e fun e5 e=>?_
  refine Ad e fun e6 e=>?_
  refine Ad e fun e7 e=>?_
  refine Ad e fun e8 e=>?_
  refine Ad e fun e9 e0=>?_
  have e1:S.e.length=C.n:=eN e1
  have e2:S.N=σ.n:=eN e2
  have e9:C.n≤C.n':=lB e9
  have hi:∀ {k},C.n≤k→S.ν k=σ.n+(k - C.n):=fun {k} hk=>by
    unfold Sb.ν
    rw[List.getElem?_eq_none (by rw[e1];exact hk),e1,e2]
  have lw:∀ {k},k<C.n→∃ j,S.e[k]?=some j∧S.ν k=j∧j<σ.n∧σ.z.contains j=false:=fun {k} hk=>by
    have hl:k<S.e.length:=by rw[e1];exact hk
    have e':S.e[k]?=some S.e[k]:=List.getElem?_eq_getElem hl
    refine Ad (Ao e5 _ (H3 e')) fun a b=>?_
    exact (QD _ e' (by unfold Sb.ν;rw[e']) (lB a) (A9 b))
  have inj:∀ a b,S.ν a=S.ν b→a=b:=fun a b z=>by
    by_cases ha:a<C.n
    · refine Dh (lw ha) fun j a1 a2 a3 _=>?_
      by_cases hb:b<C.n
      · refine Dh (lw hb) fun j' b1 b2 _ _=>?_
        rw[a2,b2] at z;rw[← z] at b1;exact Ij e4 a1 b1
      · rw[a2,hi (Nat.le_of_not_lt hb)] at z;exact q66 z a3
    · by_cases hb:b<C.n
      · refine Dh (lw hb) fun j' b1 b2 b3 _=>?_
        rw[b2,hi (Nat.le_of_not_lt ha)] at z;exact q67 z b3
      · rw[hi (Nat.le_of_not_lt ha),hi (Nat.le_of_not_lt hb)] at z;exact q68 z ha hb
  have A:Agr c v (v.sub S h):=⟨rfl,rfl,rfl,fun j hj=>by
      show den v (Su S j)=v.s j
      unfold Su
      cases q:Ah j S.s with
      | none=>rfl
      | some w =>
        have:=lB (Ao e6 _ (Ar q))
        exact absurd hj (Nat.not_lt_of_le this),fun a b z=>inj a b (VO.inj _ _ z),fun sc x q=>⟨fun k=>(VO.tab sc x q).1 _,(R.old _ (VO.tab sc x q).1).trans (VO.tab sc x q).2⟩⟩
  have R0:HR (v.sub S h) zf ⟨C.n,[],ofT C.L⟩ h:=by
    refine ⟨fun k o q=>?_,fun k hk=>?_,fun i _=>rfl,fun k q=>absurd q fT,fun k o q=>?_⟩
    · rw[AG] at q
      refine Ad (Ao e7 _ (Ar q)) fun _ q=>?_
      refine BE q fun o' q1 q2=>?_
      rw[PD,Me q2];exact R.ats _ _ q1
    · show h (v.ν (S.ν k))=none
      rw[hi hk];exact R.fr _ (Nat.le_add_right _ _)
    · rw[AG] at q
      exact lB (Aa (Ao e7 _ (Ar q))).1
  have W:=hC (v.sub S h) d zf h A (fun p hp=>congrArg v.ν (eN (Ao e8 p hp))) hd R0
  rw[FA,Hj e3] at W
  refine W.mono fun x h' zy17a=>zy17a.elim fun y1 R1=>⟨y1.trans (JI _),?_⟩
  have un:∀ {j},(∀ k,S.ν k≠j)→h' (v.ν j)=h (v.ν j):=fun q=>R1.old _ fun k z=>q k (VO.inj _ _ z)
  refine ⟨fun j o q=>?_,fun k hk=>?_,fun i q=>(R1.old i fun k=>q _).trans (R.old i q),fun k hk=>?_,fun j o q=>?_⟩
  · rcases NI q with ⟨k,o',q1,q2,q3⟩ | ⟨q1,q2⟩
    · have:=R1.ats k o' (by rw[← q1];exact AG)
      rw[PD] at this
      rw[q2,q3];exact this
    · rw[un fun k z=>?_]
      · exact R.ats _ _ q2
      · by_cases hk:k<C.n
        · exact q1 k (Ao e0 k (List.mem_range.mpr hk)) z
        · have:=R.lt _ _ q2
          rw[← z,hi (Nat.le_of_not_lt hk)] at this;exact q69 this
  · have hk:σ.n+(C.n' - C.n)≤k:=hk
    have:=R1.fr (C.n+(k - σ.n)) (by lia)
    have q:S.ν (C.n+(k - σ.n))=k:=by rw[hi (Nat.le_add_right _ _)];exact q71 hk
    have this:h' (v.ν (S.ν (C.n+(k - σ.n))))=none:=this
    rw[q] at this;exact this
  · have hz:=R.fz k hk
    rw[un fun j z=>?_]
    · exact hz
    · by_cases hj:j<C.n
      · refine Dh (lw hj) fun i _ b2 _ b4=>?_
        rw[← b2,z] at b4
        have hk:σ.z.contains k=true:=hk
        rw[hk] at b4;exact Bool.noConfusion b4
      · rw[← z,hi (Nat.le_of_not_lt hj),R.fr _ (Nat.le_add_right _ _)] at hz;exact nn hz
  · show j<σ.n+(C.n' - C.n)
    rcases NI q with ⟨k,o',q1,q2,q3⟩ | ⟨_,q2⟩
    · have:=R1.lt k o' (by rw[← q1];exact AG)
      by_cases hk:k<C.n
      · refine Dh (lw hk) fun i _ b2 b3 _=>?_
        rw[q2,b2];exact q72 b3
      · rw[q2,hi (Nat.le_of_not_lt hk)];lia
    · have:=R.lt _ _ q2;exact q72 this
end
noncomputable def Aa2 (o o':WO):List (W × W):=match o with
  | .inst _ fs=>match o' with
    | .inst _ gs=>(fs.map (·.2)).zip (gs.map (·.2))
    | _=>[]
  | .list xs=>match o' with
    | .list ys=>xs.zip ys
    | _=>[]
  | .dict fs=>match o' with
    | .dict gs=>(fs.map (·.2)).zip (gs.map (·.2))
    | _=>[]
  | _=>[]
noncomputable def Aar (L:List (Nat × WO)) (σ:Sg) (n:Nat):List (W × W)→List (Nat × Nat)→List (Nat × W)→List (Nat × Nat) × List (Nat × W):=@Nat.rec (fun _=>List (W × W)→List (Nat × Nat)→List (Nat × W)→List (Nat × Nat) × List (Nat × W)) (fun _ e s=>(e,s)) (fun _ ih l e s=>match l with
  | []=>(e,s)
  | p::r=>match p.1 with
    | .sym j=>cond (Nat.ble 100 j) (ih r e ((j,p.2)::s)) (ih r e s)
    | .ref k=>match AZ p.2 with
      | some j=>match Ah k e with
        | some _=>ih r e s
        | none=>match Ah k L with
          | some o=>match lo j σ.L with
            | some o'=>ih (Aa2 o o'++r) ((k,j)::e) s
            | none=>ih r ((k,j)::e) s
          | none=>ih r ((k,j)::e) s
      | none=>ih r e s
    | .tup xs=>match p.2 with
      | .tup ys=>ih (xs.zip ys++r) e s
      | _=>ih r e s
    | _=>ih r e s) n
noncomputable def Nx (C:Ct) (vs:List W) (σ:Sg):Sb :=
  (fun p=>⟨(List.range C.n).map fun k=>(Ah k p.1).getD 0,p.2,σ.n⟩) (Aar C.L σ 200 (C.vs.zip vs) C.fx [])
noncomputable def hkc (Cs:Nat→List W→Sg→Option Ct) (f:Nat) (vs:List W) (ns:List Nat) (ks:List W) (σ:Sg):Option (Rs (W × Sg)):=match Cs f vs σ with
  | some C=>some (gd 80 (ns.isEmpty&&(ks.isEmpty&&(Nat.beq C.f f&&Vo C (Nx C vs σ) vs σ))) (.ok (Sw C (Nx C vs σ) σ)))
  | none=>none
theorem Kh {c:Cx} {v:Vl} {T:Tb} {zf:Nat→O} {σ:Sg} {h:H} (VO:AO c v T) {D:Nat} {Cs:Nat→List W→Sg→Option Ct} (hC:∀ f vs σ C,Cs f vs σ=some C→Db c v D C) {d f:Nat} {vs ks:List W} {ns:List Nat} {p:W × Sg} (hd:D≤d)
    (e:hkc Cs f vs ns ks σ=some (.ok p)) (R:HR v zf σ h):A0 c d f (Ap v vs) ns (Ap v ks) h (PV v zf p.1 p.2):=by
  have e:(match Cs f vs σ with
    | some C=>some (gd 80 (ns.isEmpty&&(ks.isEmpty&&(Nat.beq C.f f&&Vo C (Nx C vs σ) vs σ))) (Rs.ok (Sw C (Nx C vs σ) σ)))
    | none=>none)=some (.ok p):=e
  cases q:Cs f vs σ with
  | none=>rw[q] at e;exact nn e
  | some C =>
    rw[q] at e
    refine gdK (oJ e) fun g e=>?_
    refine Ad g fun g1 g=>?_
    refine Ad g fun g2 g=>?_
    refine Ad g fun g3 g=>?_
    rw[A4 g1,K9 g2,← eN g3,← AM e]
    exact Zq VO R (hC _ _ _ _ q) hd g
end
section
noncomputable def E9 (x:Rs (W × Sg)) (w:W) (L:List (Nat × WO)) (n:Nat):Bool:=match x with
  | .ok p=>My p.1 w&&(Nat.ble p.2.n n&&(p.2.z.isEmpty&&L.all fun q=>ifS (lo q.1 p.2.L) (SS q.2)))
  | .er _=>false
theorem UD {x:Rs (W × Sg)} {w:W} {L:List (Nat × WO)} {n:Nat} (h:E9 x w L n=true):∃ σ,x=.ok (w,σ)∧σ.n≤n∧σ.z=[]∧∀ q∈L,lo q.1 σ.L=some q.2:=by
  cases x with
  | er _=>exact absurd h fT
  | ok p =>
    refine Ad h fun h1 h=>?_
    refine Ad h fun h2 h=>?_
    refine Ad h fun h3 h=>?_
    refine (QD p.2 (by exact (Gg h1)▸rfl) (lB h2) (A4 h3) (fun q hq=>?_))
    refine BE (Ao h q hq) fun o e h=>?_
    rw[e,Me h]
noncomputable def swp (a b k:Nat):Nat:=cond (Nat.beq k a) b (cond (Nat.beq k b) a k)
theorem JF {a b k:Nat}:swp a b (swp a b k)=k:=by
  unfold swp
  by_cases ha:k=a
  · subst ha
    refine (Nat.beq_refl ..).symm▸?_
    show cond (Nat.beq b k) b (cond (Nat.beq b b) k b)=k
    by_cases hb:b=k
    · subst hb;rw[Nat.beq_refl];rfl
    · refine (AQ hb ..).symm▸(Nat.beq_refl ..).symm▸?_;rfl
  · refine (AQ ha).symm▸?_
    by_cases hb:k=b
    · subst hb;refine (Nat.beq_refl ..).symm▸?_;show cond (Nat.beq a a) k _=k;rw[Nat.beq_refl];rfl
    · refine (AQ hb).symm▸?_;show cond (Nat.beq k a) b (cond (Nat.beq k b) a k)=k;refine (AQ ha).symm▸(AQ hb).symm▸?_;rfl
theorem TQ {a b k n:Nat} (ha:a<n) (hb:b<n) (hk:n≤k):swp a b k=k:=by
  unfold swp;refine (AQ (show k≠a by exact Ze ha hk)).symm▸(AQ (show k≠b by exact Ze hb hk)).symm▸?_;rfl
section
variable {c:Cx} {v u u':Vl} {zf:Nat→O} {h:H} {T:Tb} {K:Hk}
theorem A0.upn {d d' f:Nat} {vs ks:List V} {ns:List Nat} {Q:V→H→Prop} (p:A0 c d' f vs ns ks h Q) (hd:d'≤d):A0 c d f vs ns ks h Q:=fun A g s rvs rks hA=>p A g s rvs rks (hA.down hd)
theorem BY (F:Aq c) {C:Ct} {a b n₂ d D:Nat} {vs':List W} {w':W} {LC L2:List (Nat × WO)} (VO:AO c u' T) (HK:IH c u' K) (R:HR u zf ⟨C.n,[],ofT C.L⟩ h) (hd:D≤d)
    (hν:∀ k,u'.ν k=u.ν (swp a b k)) (hh:u'.h=u.h)
    (run:E9 ((ev T K D).c C.f vs' [] [] ⟨C.n,[],ofT LC⟩) w' L2 n₂=true)
    (bL:(LC.all fun q=>Nat.blt q.1 C.n)=true) (bL':(C.L'.all fun q=>Nat.blt q.1 C.n')=true) (pre:∀ q∈LC,OR u' q.2 (h (u'.ν q.1))) (free:∀ k,C.n≤k→h (u'.ν k)=none)
    (ev:Ap u' vs'=Ap u C.vs) (ew:den u' w'=den u C.w) (ha:a<C.n') (hb:b<C.n') (hn:n₂≤C.n')
    (post:∀ h':H,(∀ q∈L2,OR u' q.2 (h' (u'.ν q.1)))→∀ q∈C.L',OR u q.2 (h' (u.ν q.1))) :
    A0 c d C.f (Ap u C.vs) [] [] h (PV u zf C.w ⟨C.n',[],ofT C.L'⟩):=by
  refine Dh (UD run) fun σ e e1 e2 e3=>?_
  have R':HR u' zf ⟨C.n,[],ofT LC⟩ h:=by
    refine ⟨fun k o q=>?_,free,fun i hi=>?_,fun k q=>absurd q fT,fun k o q=>?_⟩
    · rw[AG] at q;exact pre _ (Ar q)
    · rw[hh];exact R.old i fun k z=>hi (swp a b k) (by rw[hν,JF];exact z)
    · rw[AG] at q;exact lB (Ao bL _ (Ar q))
  have W:=((Lg VO F HK D).ca (ks:=[]) e R').upn hd
  rw[ev] at W
  refine W.mono fun x h' zy6a=>zy6a.elim fun y1 R1=>⟨y1.trans ew,?_⟩
  have P:=post h' fun q hq=>R1.ats _ _ (e3 q hq)
  refine ⟨fun k o q=>?_,fun k hk=>?_,fun i hi=>?_,fun k q=>absurd q fT,fun k o q=>?_⟩
  · rw[AG] at q;exact P _ (Ar q)
  · have:=R1.fr k (Nat.le_trans e1 (Nat.le_trans hn hk))
    rw[hν,TQ ha hb hk] at this;exact this
  · refine hh▸?_;exact R1.old i fun k z=>hi (swp a b k) (by refine (hν ..)▸?_;exact z)
  · rw[AG] at q;exact lB (Ao bL' _ (Ar q))
end
noncomputable def AB (f:Nat):List Nat:=[102,48+f]
noncomputable def AY (k:Nat):List Nat:=[116,48+k]
noncomputable def CR:WO:=.dict [(AB 0,.sym 20),(AB 1,.sym 21),(AB 2,.sym 22),(AB 3,.sym 23)]
noncomputable def cmA (ck:Nat):Nat:=cond (Nat.beq ck 4) 180 206
noncomputable def CM (ck f s:Nat) (b:Bool):Ct:=⟨cmA ck,[.ref 0,.str (AB f),.sym (20+f),.sym s],2,[(0,.inst ck [(35,.ref 1)]),(1,CR)],[],.bool b,2,[(0,.inst ck [(35,.ref 1)]),(1,CR)]⟩
noncomputable def KN:Hk:=⟨0,fun _ _ _ _ _=>none,fun _ _ _=>none,fun _ _ _=>none⟩
theorem GQ {c:Cx} {v:Vl}:IH c v KN:=⟨fun _ e=>nn e,fun _ e=>nn e,fun _ e=>nn e⟩
noncomputable def CJ (f:Nat):WO:=.dict [(AB 0,cond (Nat.beq f 0) (.tup [.sym 1,.sym 2,.sym 3]) (.sym 20)),(AB 1,cond (Nat.beq f 1) (.tup [.sym 1,.sym 2,.sym 3]) (.sym 21)),
  (AB 2,cond (Nat.beq f 2) (.tup [.sym 1,.sym 2,.sym 3]) (.sym 22)),(AB 3,cond (Nat.beq f 3) (.tup [.sym 1,.sym 2,.sym 3]) (.sym 23))]
noncomputable def AaP (b1 b2 b3:Bool):Tb:=⟨[((1,11),b1),((2,12),b2),((13,3),b3)],[],[],[],[],[]⟩
noncomputable def Ja:List Bool:=[true,false]
noncomputable def Aap (f:Nat) (b1 b2 b3:Bool):Bool:=E9 ((ev (AaP b1 b2 b3) KN 20).c 180 [.ref 0,.str (AB f),.tup [.sym 1,.sym 2,.sym 3],.tup [.sym 11,.sym 12,.sym 13]] [] [] ⟨2,[],ofT [(0,.inst 4 [(35,.ref 1)]),(1,CJ f)]⟩) (.bool (!b1&&!(b2&&b3))) [(0,.inst 4 [(35,.ref 1)]),(1,CJ f)] 2
noncomputable def AaG (f:Nat) (b1:Bool):Bool:=E9 ((ev ⟨[((1,11),b1)],[],[],[],[],[]⟩ KN 20).c 206 [.ref 0,.str (AB f),.tup [.sym 1,.sym 2,.sym 3],.sym 11] [] [] ⟨2,[],ofT [(0,.inst 5 [(35,.ref 1)]),(1,CJ f)]⟩) (.bool !b1) [(0,.inst 5 [(35,.ref 1)]),(1,CJ f)] 2
theorem Si:((List.range 4).all fun f=>Ja.all fun b1=>Ja.all fun b2=>Ja.all fun b3=>Aap f b1 b2 b3)=true:=by decide +kernel
theorem T5:((List.range 4).all fun f=>Ja.all fun b1=>AaG f b1)=true:=by decide +kernel
end
section
noncomputable abbrev Tr:=Int × Int × List Nat
noncomputable def trV (x:Tr):V:=.tup [.int x.1,.int x.2.1,.str x.2.2]
noncomputable def stV (ck:Nat) (x:Tr):V:=cond (Nat.beq ck 4) (trV x) (.int x.1)
noncomputable def md (ck:Nat) (x y:Tr):Bool:=cond (Nat.beq ck 4) (!(x.1==y.1)&&!(x.2.1==y.2.1&&y.2.2==x.2.2)) (!(x.1==y.1))
noncomputable def ovr (l:List (Nat × V)) (s:Nat→V) (j:Nat):V:=match Ah j l with
  | some x=>x
  | none=>s j
theorem IP {α:Type} {i j:Nat} {b:α}:∀ {l:List ((Nat × Nat) × α)},IT i j l=some b→((i,j),b)∈l
  | ((x,y),a)::r,e=>by
    have e:cond (Nat.beq i x&&Nat.beq j y) (some a) (IT i j r)=some b:=e
    rcases Af e with ⟨z,e⟩ | ⟨_,e⟩
    · refine (eN (Aa z).1).symm▸(eN (Aa z).2).symm▸(oJ e)▸?_;exact .head _
    · exact .tail _ (IP e)
theorem Dz (b:Bool):b∈Ja:=by cases b<;>decide
theorem IX {k:Nat}:swp 0 0 k=k:=by unfold swp;cases e:Nat.beq k 0 with
  | true=>exact (eN e).symm
  | false=>rfl
section
variable {c:Cx} {v u u':Vl} {zf:Nat→O} {h:H} {T:Tb} {K:Hk}
theorem Agr.ok (A:Agr c v u) {eq:List ((Nat × Nat) × Bool)} {s:Nat→V} (he:∀ p∈eq,∀ h n,eqD h (n+1) (s p.1.1) (s p.1.2)=some p.2):AO c ⟨s,u.l,u.d,u.p,fun k=>u.ν (swp 0 0 k),u.h⟩ ⟨eq,[],[],[],[],[]⟩:=by
  refine ⟨fun a b z=>?_,fun sc x q=>⟨fun k=>(A.tab sc x q).1 _,(A.tab sc x q).2⟩,fun i j b q=>he _ (IP q),nofun,nofun,nofun,nofun,nofun,nofun⟩
  have:=A.inj _ _ z
  rw[IX,IX] at this;exact this
theorem Go {f:Nat} {s:Nat→V} {l:Nat→List V} {dd p ν h0} (hx:u.s (20+f)=.tup [s 1,s 2,s 3]) (ho:∀ g,g<4→s (20+g)=u.s (20+g)) {x:Option O}:OR ⟨s,l,dd,p,ν,h0⟩ (CJ f) x↔OR u CR x:=by
  have e:∀ g,g<4→den ⟨s,l,dd,p,ν,h0⟩ (cond (Nat.beq f g) (.tup [.sym 1,.sym 2,.sym 3]) (.sym (20+g)))=u.s (20+g):=fun g hg=>by
    cases z:Nat.beq f g with
    | true=>refine (eN z)▸?_;exact hx.symm
    | false=>exact ho g hg
  have q:AE ⟨s,l,dd,p,ν,h0⟩ [(AB 0,cond (Nat.beq f 0) (.tup [.sym 1,.sym 2,.sym 3]) (.sym 20)),(AB 1,cond (Nat.beq f 1) (.tup [.sym 1,.sym 2,.sym 3]) (.sym 21)),
      (AB 2,cond (Nat.beq f 2) (.tup [.sym 1,.sym 2,.sym 3]) (.sym 22)),(AB 3,cond (Nat.beq f 3) (.tup [.sym 1,.sym 2,.sym 3]) (.sym 23))]=AE u [(AB 0,.sym 20),(AB 1,.sym 21),(AB 2,.sym 22),(AB 3,.sym 23)]:=by
    show [(AB 0,den _ _),(AB 1,den _ _),(AB 2,den _ _),(AB 3,den _ _)]=[(AB 0,u.s 20),(AB 1,u.s 21),(AB 2,u.s 22),(AB 3,u.s 23)]
    exact (e 0 (by decide)).symm▸(e 1 (by decide)).symm▸(e 2 (by decide)).symm▸(e 3 (by decide)).symm▸rfl
  show (∃ ep,x=some (.dict ep (AE _ _)))↔(∃ ep,x=some (.dict ep (AE u _)))
  rw[q]
theorem OG {α:Type} {p:α→Prop} {a b:α} (ha:p a) (hb:p b):∀ q∈[a,b],p q:=fun q hq=>by
  rcases List.mem_cons.mp hq with z | hq
  · rw[z];exact ha
  · rw[List.mem_singleton.mp hq];exact hb
theorem Yq (F:Aq c) {ck f s:Nat} {x y:Tr} (hck:ck=4∨ck=5) (hf:f<4) (hs:s<100) (hx:v.s (20+f)=trV x) (hy:v.s s=stV ck y):Db c v 20 (CM ck f s (md ck x y)):=by
  intro u d zf h A fx hd R
  have hx':u.s (20+f)=trV x:=(A.s _ (by exact Qa hf)).trans hx
  have hy':u.s s=stV ck y:=(A.s _ hs).trans hy
  have r0:=R.ats 0 (.inst ck [(35,.ref 1)]) rfl
  have r1:=R.ats 1 CR rfl
  have fr:∀ k,2≤k→h (u.ν (swp 0 0 k))=none:=fun k hk=>by rw[IX];exact R.fr k hk
  rcases hck with rfl | rfl
  · have run:=Ao (Ao (Ao (Ao Si f (List.mem_range.mpr hf)) (x.1==y.1) (Dz _)) (x.2.1==y.2.1) (Dz _)) (y.2.2==x.2.2) (Dz _)
    have fd:=fun {z}=>Go (u:=u) (s:=ovr [(1,.int x.1),(2,.int x.2.1),(3,.str x.2.2),(11,.int y.1),(12,.int y.2.1),(13,.str y.2.2)] u.s) (l:=u.l) (dd:=u.d) (p:=u.p) (ν:=fun k=>u.ν (swp 0 0 k)) (h0:=u.h) (x:=z) hx' fun g hg=>by
      cases g,hg using n4<;>rfl
    exact BY F (a:=0) (b:=0) (u':=⟨ovr [(1,.int x.1),(2,.int x.2.1),(3,.str x.2.2),(11,.int y.1),(12,.int y.2.1),(13,.str y.2.2)] u.s,u.l,u.d,u.p,fun k=>u.ν (swp 0 0 k),u.h⟩)
      (A.ok fun p hp=>by
        rcases List.mem_cons.mp hp with rfl | hp
        · exact fun _ _=>rfl
        · rcases List.mem_cons.mp hp with rfl | hp
          · exact fun _ _=>rfl
          · refine (List.mem_singleton.mp hp).symm▸?_;exact fun _ _=>rfl) GQ R hd (fun _=>rfl) rfl run
      rfl rfl (OG r0 (fd.mpr r1)) fr (by show [V.ref _,_,_,trV y]=[V.ref _,_,u.s (20+f),u.s s];refine hx'.symm▸hy'.symm▸?_;rfl) rfl (Nat.zero_lt_succ 1) (Nat.zero_lt_succ 1) (Nat.le_refl 2)
      fun h' P=>OG (P _ (.head _)) (fd.mp (P _ (.tail _ (.head _))))
  · have run:=Ao (Ao T5 f (List.mem_range.mpr hf)) (x.1==y.1) (Dz _)
    have fd:=fun {z}=>Go (u:=u) (s:=ovr [(1,.int x.1),(2,.int x.2.1),(3,.str x.2.2),(11,.int y.1)] u.s) (l:=u.l) (dd:=u.d) (p:=u.p) (ν:=fun k=>u.ν (swp 0 0 k)) (h0:=u.h) (x:=z) hx' fun g hg=>by
      cases g,hg using n4<;>rfl
    exact BY F (a:=0) (b:=0) (u':=⟨ovr [(1,.int x.1),(2,.int x.2.1),(3,.str x.2.2),(11,.int y.1)] u.s,u.l,u.d,u.p,fun k=>u.ν (swp 0 0 k),u.h⟩)
      (A.ok fun p hp=>by
        refine (List.mem_singleton.mp hp).symm▸?_;exact fun _ _=>rfl) GQ R hd (fun _=>rfl) rfl run
      rfl rfl (OG r0 (fd.mpr r1)) fr (by show [V.ref _,_,_,V.int y.1]=[V.ref _,_,u.s (20+f),u.s s];refine hx'.symm▸hy'.symm▸?_;rfl) rfl (Nat.zero_lt_succ 1) (Nat.zero_lt_succ 1) (Nat.le_refl 2)
      fun h' P=>OG (P _ (.head _)) (fd.mp (P _ (.tail _ (.head _))))
end
end
section
noncomputable def YF:W→Option Nat
  | .sym k=>some k
  | _=>none
noncomputable def csM (ck base:Nat) (r:List Nat) (b:Nat) (f:Nat) (vs:List W) (_:Sg):Option Ct:=cond (Nat.beq f (cmA ck)) ((YF (vs.getD 2 .none)).bind fun a=>(YF (vs.getD 3 .none)).bind fun s=>cond (Nat.ble 20 a&&(r.contains (a - 20)&&Nat.beq s (base+(a - 20)))) (some (CM ck (a - 20) s (Nat.testBit b (a - 20)))) none) none
noncomputable def IY (k cd:W):WO:=.inst 19 [(59,k),(106,.sym 100),(107,.sym 101),(105,.sym 102),(86,cd),(63,.ref 6),(100,.sym 104),(115,.sym 105),(101,.sym 106),(104,.sym 107),(110,.sym 108),(87,.ref 7),(93,.ref 8),(102,.sym 109),(103,.sym 110),(61,.sym 111),(6,.sym 112),(113,.sym 113)]
noncomputable def Pl:List Nat:=[99,104,101,99,107,101,114,58]
noncomputable def M8:List Nat:=[100,101,112,115,58]
noncomputable def Gn:List Nat:=[95,118,97,108,117,101,115,95,58]
noncomputable def MB:List Nat:=[114,101,115,117,108,116,58]
noncomputable def Xf (ck:Nat):List Nat:=cond (Nat.beq ck 4) [77,68,53,67,104,101,99,107,101,114] [84,105,109,101,115,116,97,109,112,67,104,101,99,107,101,114]
noncomputable def sUp:List Nat:=[117,112,45,116,111,45,100,97,116,101]
noncomputable def Qz:List Nat:=[114,117,110]
noncomputable def LL (ck:Nat) (vd:W) (r:List Nat) (st:Nat→W):List (List Nat × W):=(Gn,vd)::(MB,.str [114])::(Pl,.str (Xf ck))::((r.map fun f=>(AB f,st f))++[(M8,.tup (r.map fun f=>.str (AB f)))])
noncomputable def Ep (r:List Nat):WO:=.list (r.map fun f=>.str (AB f))
noncomputable def mgO:List (Nat × WO):=[(0,.inst 7 [(54,.bool false),(53,.ref 1),(52,.ref 2)]),(2,.inst 2 [(30,.ref 3)]),(4,CR),(7,.list []),(8,.list [])]
noncomputable def VE (ck k base:Nat) (r:List Nat) (o:Bool):List (Nat × WO):=(1,.inst ck [(35,.ref 4)])::(3,.dsym 50)::(5,IY (.str (AY k)) (.sym 103))::(6,Ep r)::(9,cond o (.dict (LL ck (.sym 80) r fun f=>.sym (base+f))) (.psym (10+k)))::mgO
noncomputable def gsT (k base:Nat) (o:Bool):Tb:=⟨[],[],[],[((50,AY k),cond o (some (.ref 9)) none)],[base,base+1,base+2,base+3],[]⟩
noncomputable def RC (s:List Nat):WO:=.inst 6 [(46,.bool false),(47,.str s),(48,.ref 11),(49,.none)]
noncomputable def RF (ck k base c:Nat) (r r':List Nat) (o:Bool):List (Nat × WO):=(1,.inst ck [(35,.ref 4)])::(3,.dsym 50)::(5,IY (.str (AY k)) (.ref c))::(6,Ep r)::(10,RC (cond r'.isEmpty sUp Qz))::(9,cond o (.dict (LL ck (.sym 80) r fun f=>.sym (base+f))) (.psym (10+k)))::(mgO++[(c,Ep r')])
noncomputable def JE (ck k base:Nat) (r:List Nat) (b:Nat):Bool:=E9 ((ev (gsT k base true) ⟨20,hkc (csM ck base r b),fun _ _ _=>none,fun _ _ _=>none⟩ 50).c 373 [.ref 0,.ref 5,.sym 114] [] [] ⟨10,[],ofT (VE ck k base r true)⟩) (.ref 10) (RF ck k base 16 r (r.filter (Nat.testBit b)) true) 30
noncomputable def LG (ck k base:Nat) (r:List Nat):Bool:=E9 ((ev (gsT k base false) KN 50).c 373 [.ref 0,.ref 5,.sym 114] [] [] ⟨10,[],ofT (VE ck k base r false)⟩) (.ref 10) (RF ck k base 14 r r false) 30
noncomputable def A5:List (List Nat):=[[0],[1],[0,1],[2],[0,2],[1,2],[0,1,2],[3],[0,3],[1,3],[0,1,3],[2,3],[0,2,3],[1,2,3],[0,1,2,3]]
noncomputable def MA (r:List Nat):List Nat:=(List.range 16).filter fun b=>(List.range 4).all fun f=>r.contains f || !Nat.testBit b f
noncomputable def BF (ck k:Nat) (rs:List (List Nat)):Bool:=rs.all fun r=>(MA r).all fun b=>JE ck k (60+4*k) r b
noncomputable def Pw (ck:Nat):Bool:=(List.range 3).all fun k=>A5.all fun r=>LG ck k (60+4*k) r
theorem ZN:Pw 4=true:=by decide +kernel
theorem AaC:Pw 5=true:=by decide +kernel
theorem Xo:BF 4 0 (A5.take 10)=true:=by decide +kernel
theorem Wl:BF 4 0 (A5.drop 10)=true:=by decide +kernel
theorem WQ:BF 4 1 (A5.take 10)=true:=by decide +kernel
theorem V0:BF 4 1 (A5.drop 10)=true:=by decide +kernel
theorem VR:BF 4 2 (A5.take 10)=true:=by decide +kernel
theorem WA:BF 4 2 (A5.drop 10)=true:=by decide +kernel
theorem WI:BF 5 0 (A5.take 10)=true:=by decide +kernel
theorem VC:BF 5 0 (A5.drop 10)=true:=by decide +kernel
theorem Wx:BF 5 1 (A5.take 10)=true:=by decide +kernel
theorem UM:BF 5 1 (A5.drop 10)=true:=by decide +kernel
theorem Vx:BF 5 2 (A5.take 10)=true:=by decide +kernel
theorem WZ:BF 5 2 (A5.drop 10)=true:=by decide +kernel
theorem EG {ck k:Nat} (a:BF ck k (A5.take 10)=true) (b:BF ck k (A5.drop 10)=true) {r:List Nat} (hr:r∈A5) {n:Nat} (hn:n∈MA r):JE ck k (60+4*k) r n=true:=by
  rw[← List.take_append_drop 10 A5] at hr
  rcases List.mem_append.mp hr with h | h
  · exact Ao (Ao a r h) n hn
  · exact Ao (Ao b r h) n hn
theorem Ow {ck k:Nat} (hck:ck=4∨ck=5) (hk:k<3) {r:List Nat} (hr:r∈A5) {n:Nat} (hn:n∈MA r):JE ck k (60+4*k) r n=true:=by
  rcases hck with rfl | rfl
  · cases k,hk using n3;exact EG Xo Wl hr hn;exact EG WQ V0 hr hn;exact EG VR WA hr hn
  · cases k,hk using n3;exact EG WI VC hr hn;exact EG Wx UM hr hn;exact EG Vx WZ hr hn
theorem NX {ck k:Nat} (hck:ck=4∨ck=5) (hk:k<3) {r:List Nat} (hr:r∈A5):LG ck k (60+4*k) r=true:=by
  rcases hck with rfl | rfl
  · exact Ao (Ao ZN k (List.mem_range.mpr hk)) r hr
  · exact Ao (Ao AaC k (List.mem_range.mpr hk)) r hr
end
section
structure Bd where
  ck:Nat
  cur:Nat→Tr
  row:Nat→List Nat
  old:Nat→Option (Nat→Tr)
  len:Nat
noncomputable def chg (B:Bd) (k f:Nat):Bool:=match B.old k with
  | none=>true
  | some o=>md B.ck (B.cur f) (o f)
noncomputable def due (B:Bd) (k:Nat):List Nat:=(B.row k).filter (chg B k)
noncomputable def CN (B:Bd) (m k:Nat):Bool:=(B.old k).isSome || Nat.testBit m k
noncomputable def Ei (ck:Nat) (vd:V) (r:List Nat) (st:Nat→V):List (List Nat × V):=(Gn,vd)::(MB,.str [114])::(Pl,.str (Xf ck))::((r.map fun f=>(AB f,st f))++[(M8,.tup (r.map fun f=>V.str (AB f)))])
noncomputable def nms (r:List Nat):List V:=r.map fun f=>V.str (AB f)
structure BS (v:Vl) (B:Bd):Prop where
  ck:B.ck=4∨B.ck=5
  row:∀ k,k<3→B.row k∈A5
  s2:∀ f,f<4→v.s (20+f)=trV (B.cur f)
  s4:∀ f,f<4→v.s (40+f)=stV B.ck (B.cur f)
  l0:∀ k,k<3→v.l k=nms (B.row k)
  l3:∀ k,k<3→v.l (3+k)=nms (due B k)
  len:B.len≤700
  same:∀ k o,k<3→B.old k=some o→∀ f,f<4→(o f).1=(B.cur f).1→o f=B.cur f
  pS:∀ m x,m<8→(v.p m x↔∃ ep es,x=some (.dict ep es)∧es.length≤B.len+m∧∀ k,k<3→es.lookup (AY k)=cond (CN B m k) (some (.ref (v.ν (10+k)))) none)
  pB:∀ k x,k<3→(v.p (10+k) x↔match B.old k with
    | none=>x=none
    | some o=>∃ ep,x=some (.dict ep (Ei B.ck (.ref (v.ν (17+k))) (B.row k) fun f=>stV B.ck (o f))))
  pA:∀ k q x,k<3→(v.p (1000+8*q+k) x↔∃ ep,x=some (.dict ep (Ei B.ck (.ref (v.ν q)) (B.row k) fun f=>stV B.ck (B.cur f))))
section
variable {c:Cx} {v u:Vl} {zf:Nat→O} {h:H} {B:Bd}
theorem FI {u:Vl}:∀ {r:List Nat},Ap u (r.map fun f=>W.str (AB f))=nms r:=by
  intro zl;induction zl with
  | nil =>
    exact rfl
  | cons f r ih =>
    exact congrArg (V.str (AB f)::·) ih
theorem QC {α:Type} {u:Vl} {g:Nat→α} {st:Nat→W}:∀ {r:List Nat},AE u (r.map fun f=>(g f,st f))=r.map fun f=>(g f,den u (st f)):=by
  intro zl;induction zl with
  | nil =>
    exact rfl
  | cons f r ih =>
    exact congrArg ((g f,den u (st f))::·) ih
theorem H4 {u:Vl} {ck:Nat} {vd:W} {r:List Nat} {st:Nat→W}:AE u (LL ck vd r st)=Ei ck (den u vd) r fun f=>den u (st f):=by
  show (Gn,den u vd)::(MB,V.str [114])::(Pl,V.str (Xf ck))::AE u ((r.map fun f=>(AB f,st f))++[(M8,.tup (r.map fun f=>.str (AB f)))])=_
  rw[KI,QC]
  show _::_::_::(_++[(M8,V.tup (Ap u _))])=_
  rw[FI];rfl
theorem Fg {ck:Nat} {vd:V} {r:List Nat} {s t:Nat→V} (e:∀ f∈r,s f=t f):Ei ck vd r s=Ei ck vd r t:=by
  unfold Ei
  rw[List.map_congr_left fun f hf=>congrArg (AB f,·) (e f hf)]
theorem Bk {r:List Nat} (hr:r∈A5):∀ f∈r,f<4:=fun f hf=>by
  have:(A5.all fun r=>r.all fun f=>Nat.blt f 4)=true:=by decide
  exact lB (Ao (Ao this r hr) f hf)
theorem Ju {r:List Nat} (hr:r∈A5):r≠[]:=fun e=>by
  have:(A5.all fun r=>!r.isEmpty)=true:=by decide
  have:=Ao this r hr
  rw[e] at this;exact Bool.noConfusion this
noncomputable def ES (p:Nat→Bool):Nat:=cond (p 0) 1 0+cond (p 1) 2 0+cond (p 2) 4 0+cond (p 3) 8 0
theorem Gf (p:Nat→Bool):∀ f,f<4→Nat.testBit (ES p) f=p f:=by
  have k:∀ a b c d:Bool,∀ f,f<4→Nat.testBit (cond a 1 0+cond b 2 0+cond c 4 0+cond d 8 0) f=(match f with | 0=>a | 1=>b | 2=>c | _=>d):=by decide
  intro f hf
  unfold ES
  rw[k _ _ _ _ f hf]
  cases f,hf using n4<;>rfl
theorem PG (p:Nat→Bool):ES p<16:=by
  have k:∀ a b c d:Bool,cond a 1 0+cond b 2 0+cond c 4 0+cond d 8 0<16:=by decide
  exact k _ _ _ _
theorem M3 {r:List Nat} {p:Nat→Bool} (h:∀ f,f<4→r.contains f=false→p f=false):ES p∈MA r:=by
  refine List.mem_filter.mpr ⟨List.mem_range.mpr (PG p),List.all_eq_true.mpr fun f hf=>?_⟩
  have hf:=List.mem_range.mp hf
  rw[Gf p f hf]
  cases q:r.contains f with
  | true=>rfl
  | false=>rw[h f hf q];rfl
noncomputable def swI (a b:Nat) {u:Vl} (hi:∀ a b,u.ν a=u.ν b→a=b):∀ x y,u.ν (swp a b x)=u.ν (swp a b y)→x=y:=fun x y z=>by
  have:=congrArg (swp a b) (hi _ _ z)
  rw[JF,JF] at this;exact this
noncomputable def gsL (ck k s r:Nat) (cd:W):List (Nat × WO):=(1,.inst ck [(35,.ref 4)])::(3,.psym s)::(5,IY (.str (AY k)) cd)::(6,.lsym k)::(9,.psym r)::mgO
noncomputable def gsC (ck k s r:Nat) (st:List Nat) (l:WO):Ct:=⟨373,[.ref 0,.ref 5,.sym 114],10,gsL ck k s r (.sym 103),[(9,10+k)],.ref 10,30,(10,RC st)::(12,l)::gsL ck k s r (.ref 12)⟩
end
end
section
mutual
noncomputable def clW (p q:Nat→Bool):W→Bool
  | .tup xs=>TR p q xs
  | .ref k=>q k
  | .vals k=>q k
  | .items k=>q k
  | .sym k=>p k
  | _=>true
termination_by structural x=>x
noncomputable def TR (p q:Nat→Bool):List W→Bool
  | []=>true
  | x::xs=>clW p q x&&TR p q xs
termination_by structural x=>x
end
noncomputable def clF {α:Type} (p q:Nat→Bool) (fs:List (α × W)):Bool:=fs.all fun x=>clW p q x.2
noncomputable def clO (p q:Nat→Bool):WO→Bool
  | .inst _ fs=>clF p q fs
  | .list xs=>TR p q xs
  | .dict es=>clF p q es
  | .dsym _=>false
  | _=>true
structure Ag2 (p q:Nat→Bool) (u u':Vl):Prop where
  s:∀ j,p j=true→u'.s j=u.s j
  ν:∀ k,q k=true→u'.ν k=u.ν k
  l:u'.l=u.l
  p:u'.p=u.p
section
variable {p q:Nat→Bool} {u u':Vl}
mutual
theorem LF (A:Ag2 p q u u'):∀ {w:W},clW p q w=true→den u' w=den u w
  | .none,_=>rfl
  | .bool _,_=>rfl
  | .int _,_=>rfl
  | .str _,_=>rfl
  | .tup _,e=>congrArg V.tup (FC A e)
  | .ref k,e=>congrArg V.ref (A.ν k e)
  | .vals k,e=>congrArg (V.vw "dict_values") (A.ν k e)
  | .items k,e=>congrArg (V.vw "dict_items") (A.ν k e)
  | .rng _ _,_=>rfl
  | .gl _,_=>rfl
  | .sym k,e=>A.s k e
theorem FC (A:Ag2 p q u u'):∀ {xs:List W},TR p q xs=true→Ap u' xs=Ap u xs
  | [],_=>rfl
  | x::xs,e=>by
    show den u' x::Ap u' xs=den u x::Ap u xs
    rw[LF A (Aa e).1,FC A (Aa e).2]
end
theorem Hb {α:Type} (A:Ag2 p q u u') {fs:List (α × W)} (e:clF p q fs=true):AE u' fs=AE u fs :=
  List.map_congr_left fun x hx=>congrArg (x.1,·) (LF A (Ao e x hx))
theorem Pq (A:Ag2 p q u u') {o:WO} {x:Option O} (e:clO p q o=true):OR u' o x=OR u o x:=by
  cases o with
  | inst k fs=>show (x=some (.inst k _))=_;rw[Hb A e];rfl
  | list xs=>show (x=some (.list _))=_;rw[FC A e];rfl
  | dict es=>show (∃ ep,x=some (.dict ep _))=_;rw[Hb A e];rfl
  | set xs=>rfl
  | lsym j=>show (x=some (.list (u'.l j)))=_;rw[A.l];rfl
  | dsym j=>exact absurd e fT
  | psym j=>show u'.p j x=u.p j x;rw[A.p]
end
theorem Bl {α:Type} {i:Nat} {j:List Nat} {b:α}:∀ {l:List ((Nat × List Nat) × α)},Ea i j l=some b→((i,j),b)∈l
  | ((x,y),a)::r,e=>by
    have e:cond (Nat.beq i x) (cond (seq j y) (some a) (Ea i j r)) (Ea i j r)=some b:=e
    rcases Af e with ⟨z,e⟩ | ⟨_,e⟩
    · rcases Af e with ⟨z2,e⟩ | ⟨_,e⟩
      · rw[eN z,Dq z2,← oJ e];exact .head _
      · exact .tail _ (Bl e)
    · exact .tail _ (Bl e)
theorem Y7 {ck base:Nat} {r:List Nat} {b f:Nat} {vs:List W} {σ:Sg} {C:Ct} (e:csM ck base r b f vs σ=some C):∃ g,g∈r∧C=CM ck g (base+g) (Nat.testBit b g):=by
  rcases Af e with ⟨_,e⟩ | ⟨_,e⟩
  · refine Am e fun a _ e=>?_;refine Am e fun _ _ e=>?_
    rcases Af e with ⟨z,e⟩ | ⟨_,e⟩
    · have z:=Aa (Aa z).2
      exact (iEA (a - 20) (List.contains_iff_mem.mp z.1) (by rw[← oJ e,eN z.2]))
    · exact nn e
  · exact nn e
theorem Ag {α:Type} {p:α→Prop} {a:α} {l:List α} (h:p a) (t:∀ x∈l,p x):∀ x∈a::l,p x:=fun x hx=>by
  rcases List.mem_cons.mp hx with z | z
  · rw[z];exact h
  · exact t x z
theorem Ca {α:Type} {p:α→Prop}:∀ x∈([]:List α),p x:=fun _ h=>nomatch h
noncomputable def pG (j:Nat):Bool:=Nat.blt j 60 || Nat.ble 100 j
noncomputable def qG (k:Nat):Bool:=Nat.blt k 12
section
variable {c:Cx} {v u:Vl} {zf:Nat→O} {h:H} {B:Bd}
theorem QJ {ck:Nat} {x:Tr}:B0 (stV ck x)=false∧∀ y,stV ck x≠.raw y:=by
  unfold stV
  cases Nat.beq ck 4<;>exact ⟨rfl,fun _=>nofun⟩
noncomputable def uG (u:Vl) (k a b:Nat) (vd:V) (st:Nat→V) (es e2:List (List Nat × V)):Vl :=
  ⟨fun j=>cond (Nat.beq j 80) vd (cond (Nat.ble (60+4*k) j&&Nat.blt j (64+4*k)) (st (j - (60+4*k))) (u.s j)),u.l,fun j=>cond (Nat.beq j 50) es (cond (Nat.beq j 51) e2 (u.d j)),u.p,fun k=>u.ν (swp a b k),u.h⟩
theorem Os {k a b:Nat} {vd:V} {st:Nat→V} {es e2:List (List Nat × V)} (hk:k<3) {f:Nat} (hf:f<4):(uG u k a b vd st es e2).s (60+4*k+f)=st f:=by
  show cond (Nat.beq _ 80) _ (cond (Nat.ble _ _&&Nat.ble (60+4*k+f+1) (64+4*k)) _ _)=_
  rw[AQ (by exact Z1 hk hf),Nat.ble_eq_true_of_le (by exact Nat.le_add_right _ _),Nat.ble_eq_true_of_le (by lia)]
  show st (60+4*k+f - (60+4*k))=_
  rw[Nat.add_sub_cancel_left]
theorem OE {k a b:Nat} {vd:V} {st:Nat→V} {es e2:List (List Nat × V)} (hk:k<3) {q:Nat→Bool} (hq:∀ j,q j=true→j≠a∧j≠b):Ag2 pG q u (uG u k a b vd st es e2):=by
  refine ⟨fun j hj=>?_,fun j hj=>?_,rfl,rfl⟩
  · have hj:j<60∨100≤j:=by
      rcases Bool.or_eq_true_iff.mp hj with z | z
      · exact .inl (lB z)
      · exact .inr (lB z)
    show cond (Nat.beq j 80) _ (cond (Nat.ble _ _&&Nat.ble _ _) _ _)=_
    rw[AQ (by exact Aak hj)]
    rcases hj with z | z
    · rw[Bool.eq_false_iff.mpr fun y=>absurd (lB y) (by lia)];rfl
    · rw[Bool.eq_false_iff.mpr fun y=>absurd (lB (n:=j+1) (m:=64+4*k) y) (by lia),Bool.and_false];rfl
  · obtain ⟨h1,h2⟩:=hq j hj
    show u.ν (swp a b j)=_
    unfold swp;rw[AQ h1,AQ h2];rfl
theorem Yy {b j:Nat} (hb:12≤b) (e:qG j=true):j≠12∧j≠b:=by
  have e:j<12:=lB e
  exact ⟨by exact Nat.ne_of_lt e,by exact ZM hb e⟩
end
end
section
section
variable {c:Cx} {v u:Vl} {zf:Nat→O} {h:H} {B:Bd}
theorem Uc (A:Agr c v u) {k b:Nat} {vd:V} {st:Nat→V} {es:List (List Nat × V)} {o:Bool} (hk:k<3) (hb:b≠9) (hst:∀ f,f<4→B0 (st f)=false∧∀ y,st f≠.raw y)
    (he:es.lookup (AY k)=cond o (some (.ref (u.ν 9))) none):AO c (uG u k 12 b vd st es []) (gsT k (60+4*k) o):=by
  refine ⟨swI 12 b A.inj,fun sc x q=>⟨fun k=>(A.tab sc x q).1 _,(A.tab sc x q).2⟩,nofun,nofun,nofun,fun i k' r e=>?_,fun j e=>?_,nofun,nofun⟩
  · have:=List.mem_singleton.mp (Bl e)
    have i1:i=50:=congrArg (·.1.1) this
    have i2:k'=AY k:=congrArg (·.1.2) this
    have i3:r=cond o (some (.ref 9)) none:=congrArg (·.2) this
    refine i1.symm▸i2.symm▸i3.symm▸?_
    refine he.trans ?_
    cases o with
    | false=>rfl
    | true =>
      show _=some (V.ref (u.ν (swp 12 b 9)))
      unfold swp;refine (AQ (Ne.symm hb)).symm▸?_;rfl
  · have e:=List.contains_iff_mem.mp e
    have k:∀ f,f<4→j=60+4*k+f→B0 ((uG u k 12 b vd st es []).s j)=false∧∀ x,(uG u k 12 b vd st es []).s j≠.raw x:=fun f hf z=>by refine z.symm▸(Os hk hf).symm▸?_;exact hst f hf
    rcases List.mem_cons.mp e with z | e
    · exact k 0 (by decide) z
    rcases List.mem_cons.mp e with z | e
    · exact k 1 (by decide) z
    rcases List.mem_cons.mp e with z | e
    · exact k 2 (by decide) z
    · exact k 3 (by decide) (List.mem_singleton.mp e)
noncomputable def VN (k:W):List (Nat × W):=[(59,k),(106,.sym 100),(107,.sym 101),(105,.sym 102)]
noncomputable def UP:List (Nat × W):=[(63,.ref 6),(100,.sym 104),(115,.sym 105),(101,.sym 106),(104,.sym 107),(110,.sym 108),(87,.ref 7),(93,.ref 8),(102,.sym 109),(103,.sym 110),(61,.sym 111),(6,.sym 112),(113,.sym 113)]
theorem Qy {u':Vl} {k:List Nat} {a b:Nat} {x:Option O} (A:Ag2 pG qG u u') (e:u'.ν a=u.ν b):OR u' (IY (.str k) (.ref a)) x↔OR u (IY (.str k) (.ref b)) x:=by
  show (x=some (.inst 19 (AE u' (VN (.str k))++(86,V.ref (u'.ν a))::AE u' UP)))↔(x=some (.inst 19 (AE u (VN (.str k))++(86,V.ref (u.ν b))::AE u UP)))
  rw[Hb A (fs:=VN (.str k)) rfl,Hb A (fs:=UP) rfl,e]
theorem Nc (F:Aq c) (HB:BS v B) {k m r:Nat} (hk:k<3) (hm:m<8) {vd:V} {st:List Nat} {so:Nat→V} {l:WO} {zs:List Nat} {b:Nat} {o:Bool} {K:Hk} {d ep:Nat} {es:List (List Nat × V)}
    (hl:(zs.isEmpty=true∧st=sUp∧l=.list [])∨(zs.isEmpty=false∧st=Qz∧l=.lsym (3+k)∧v.l (3+k)=nms zs)) (A:Agr c v u) (hd:50≤d) (R:HR u zf ⟨10,[],ofT (gsL B.ck k m r (.sym 103))⟩ h)
    (e3:h (u.ν 3)=some (.dict ep es)) (hb:12≤b) (hb':b<30) (VO:AO c (uG u k 12 b vd so es []) (gsT k (60+4*k) o)) (HK:IH c (uG u k 12 b vd so es []) K)
    (run:E9 ((ev (gsT k (60+4*k) o) K 50).c 373 [.ref 0,.ref 5,.sym 114] [] [] ⟨10,[],ofT (VE B.ck k (60+4*k) (B.row k) o)⟩) (.ref 10) (RF B.ck k (60+4*k) b (B.row k) zs o) 30=true)
    (rec':∀ {x},OR (uG u k 12 b vd so es []) (cond o (.dict (LL B.ck (.sym 80) (B.row k) fun f=>.sym (60+4*k+f))) (.psym (10+k))) x↔u.p r x) :
    A0 c d 373 (Ap u [.ref 0,.ref 5,.sym 114]) [] [] h (PV u zf (.ref 10) ⟨30,[],ofT ((10,RC st)::(12,l)::gsL B.ck k m r (.ref 12))⟩):=by
  have AA:Ag2 pG qG u (uG u k 12 b vd so es []):=OE hk fun _=>Yy hb
  have cl:∀ {w x},clO pG qG w=true→OR (uG u k 12 b vd so es []) w x=OR u w x:=fun e=>Pq AA e
  have sm:∀ {k' w},Ah k' (gsL B.ck k m r (.sym 103))=some w→clO pG qG w=true→qG k'=true→OR (uG u k 12 b vd so es []) w (h ((uG u k 12 b vd so es []).ν k')):=fun {k' w} e1 e2 e3=>by
    rw[AA.ν _ e3,cl e2];exact R.ats _ _ (AG.trans e1)
  have lk:u.l k=nms (B.row k):=by rw[A.l];exact HB.l0 k hk
  have row':∀ {rr x},OR (uG u k 12 b vd so es []) (Ep rr) x↔x=some (.list (nms rr)):=fun {rr x}=>by
    show x=some (.list (Ap _ _))↔_
    rw[FI]
  refine BY (C:=gsC B.ck k m r st l) F VO HK R hd (fun _=>rfl) rfl run rfl rfl
    (Ag (sm rfl rfl rfl) (Ag ⟨ep,by rw[AA.ν _ rfl];exact e3⟩ (Ag (sm rfl rfl rfl) (Ag (row'.mpr ?_) (Ag (rec'.mpr ?_) (Ag (sm rfl rfl rfl) (Ag (sm rfl rfl rfl) (Ag (sm rfl rfl rfl) (Ag (sm rfl rfl rfl) (Ag (sm rfl rfl rfl) Ca))))))))))
    (fun k' hk'=>?_) (FC AA rfl) (LF (w:=.ref 10) AA rfl) (show 12<30 by decide) hb' (Nat.le_refl 30) fun h' P=>?_
  · rw[← lk,AA.ν _ rfl];exact R.ats 6 (.lsym k) (AG.trans rfl)
  · rw[AA.ν _ rfl];exact R.ats 9 (.psym r) (AG.trans rfl)
  · refine R.fr _ ?_
    show 10≤cond (Nat.beq k' 12) b (cond (Nat.beq k' b) 12 k')
    cases Nat.beq k' 12 with
    | true=>exact Nat.le_trans (by decide) hb
    | false=>cases Nat.beq k' b with
      | true=>exact (by decide:10≤12)
      | false=>exact hk'
  · have ps:∀ {k' w w'},Ah k' (RF B.ck k (60+4*k) b (B.row k) zs o)=some w'→w'=w→clO pG qG w=true→qG k'=true→OR u w (h' (u.ν k')):=fun {k' w w'} e1 e e2 e3=>by
      refine (AA.ν _ e3)▸(cl e2)▸e▸?_;exact P _ (Ar e1)
    have pn:∀ {k' w},Ah k' (RF B.ck k (60+4*k) b (B.row k) zs o)=some w→qG k'=true→OR (uG u k 12 b vd so es []) w (h' (u.ν k')):=fun {k' w} e1 e3=>by
      refine (AA.ν _ e3)▸?_;exact P _ (Ar e1)
    have nb:(uG u k 12 b vd so es []).ν b=u.ν 12:=by
      show u.ν (cond (Nat.beq b 12) b (cond (Nat.beq b b) 12 b))=_
      by_cases z:b=12
      · refine z.symm▸?_;rfl
      · refine (AQ z ..).symm▸(Nat.beq_refl ..).symm▸?_;rfl
    refine Ag (ps rfl ?_ rfl rfl) (Ag ?_ (Ag (ps rfl rfl rfl rfl) (Ag ?_ (Ag ?_ (Ag ?_ (Ag ?_ (Ag (ps rfl rfl rfl rfl) (Ag (ps rfl rfl rfl rfl) (Ag (ps rfl rfl rfl rfl) (Ag (ps rfl rfl rfl rfl) (Ag (ps rfl rfl rfl rfl) Ca)))))))))))
    · show RC _=RC st
      rcases hl with ⟨e,y,_⟩ | ⟨e,y,_⟩<;>refine e.symm▸y.symm▸?_<;>rfl
    · have q:=row'.mp (P (b,Ep zs) (.tail _ (.tail _ (.tail _ (.tail _ (.tail _ (.tail _ (List.mem_append_right _ (.head _)))))))))
      rw[nb] at q
      show OR u l (h' (u.ν 12))
      rw[q]
      rcases hl with ⟨e,_,y⟩ | ⟨_,_,y,e⟩
      · rw[y,A4 e];rfl
      · rw[y]
        show _=some (O.list (u.l (3+k)))
        rw[A.l,e]
    · refine xE (pn (k':=3) (w:=.dsym 50) rfl rfl) fun ep' q=>?_
      have q2:=R.ats 3 (.psym m) (AG.trans rfl)
      have q2:u.p m (h (u.ν 3)):=q2
      show u.p m (h' (u.ν 3))
      rw[A.p] at q2 ⊢
      refine Au ((HB.pS m _ hm).mp q2) fun ep2 es2 e4 el eh=>?_
      rw[e3] at e4
      cases e4
      exact (HB.pS m _ hm).mpr (Al ep' es q el eh)
    · exact (Qy AA nb).mp (pn (k':=5) (w:=IY (.str (AY k)) (.ref b)) rfl rfl)
    · show h' (u.ν 6)=some (.list (u.l k))
      rw[lk];exact row'.mp (pn (k':=6) (w:=Ep (B.row k)) rfl rfl)
    · exact rec'.mp (pn (k':=9) rfl rfl)
theorem J5 (F:Aq c) (HB:BS v B) {k m r:Nat} (hk:k<3) (hm:m<8) (hM:CN B m k=true) {o:Nat→Tr} {vd:V} {st:List Nat} {l:WO}
    (hr:∀ x,v.p r x↔∃ ep,x=some (.dict ep (Ei B.ck vd (B.row k) fun f=>stV B.ck (o f))))
    (hl:(((B.row k).filter fun f=>md B.ck (B.cur f) (o f)).isEmpty=true∧st=sUp∧l=.list [])∨(((B.row k).filter fun f=>md B.ck (B.cur f) (o f)).isEmpty=false∧st=Qz∧l=.lsym (3+k)∧v.l (3+k)=nms ((B.row k).filter fun f=>md B.ck (B.cur f) (o f)))) :
    Db c v 50 (gsC B.ck k m r st l):=by
  intro u d zf h A fx hd R
  have n9:u.ν 9=v.ν (10+k):=fx _ (.head _)
  have r3:u.p m (h (u.ν 3)):=R.ats 3 (.psym m) (AG.trans rfl)
  rw[A.p] at r3
  refine Au ((HB.pS m _ hm).mp r3) fun ep es e3 el eh=>?_
  have he:=eh k hk
  rw[hM,← n9] at he
  let p:Nat→Bool:=fun f=>(B.row k).contains f&&md B.ck (B.cur f) (o f)
  have hP:∀ f∈B.row k,Nat.testBit (ES p) f=md B.ck (B.cur f) (o f):=fun f hf=>by
    rw[Gf p f (Bk (HB.row k hk) f hf)]
    show ((B.row k).contains f&&_)=_
    rw[List.contains_iff_mem.mpr hf];rfl
  have run:=Ow HB.ck hk (HB.row k hk) (M3 (r:=B.row k) (p:=p) fun f _ z=>by show ((B.row k).contains f&&_)=false;rw[z];rfl)
  unfold JE at run
  rw[List.filter_congr hP] at run
  have VO:AO c (uG u k 12 16 vd (fun f=>stV B.ck (o f)) es []) (gsT k (60+4*k) true):=Uc A hk (by decide) (fun f _=>QJ) he
  refine Nc F HB hk hm hl A hd R e3 (by decide) (by decide) VO ⟨fun {d f vs ns ks σ p zf h} hd e R=>Kh VO (fun f vs σ C e=>?_) hd e R,fun _ e=>nn e,fun _ e=>nn e⟩ run fun {x}=>?_
  · refine xEA (Y7 e) fun g hg zz4c=>?_;obtain rfl:=zz4c
    rw[hP g hg]
    have hg4:=Bk (HB.row k hk) g hg
    exact Yq F HB.ck hg4 (by exact AaQ hk hg4) (((OE (q:=qG) hk fun _=>Yy (by decide)).s _ (by show (Nat.ble _ _ || _)=true;rw[Nat.ble_eq_true_of_le (by lia)];rfl)).trans ((A.s _ (by exact Qa hg4)).trans (HB.s2 g hg4))) (Os hk hg4)
  · rw[A.p]
    refine Iff.trans ?_ (hr x).symm
    show (∃ ep,x=some (.dict ep (AE _ _)))↔_
    rw[H4,Fg (t:=fun f=>stV B.ck (o f)) fun f hf=>Os hk (Bk (HB.row k hk) f hf)];rfl
theorem Xb (F:Aq c) (HB:BS v B) {k m:Nat} (hk:k<3) (hm:m<8) (hM:CN B m k=false) (hl:v.l (3+k)=nms (B.row k)):Db c v 50 (gsC B.ck k m (10+k) Qz (.lsym (3+k))):=by
  intro u d zf h A fx hd R
  have r3:u.p m (h (u.ν 3)):=R.ats 3 (.psym m) (AG.trans rfl)
  rw[A.p] at r3
  refine Au ((HB.pS m _ hm).mp r3) fun ep es e3 el eh=>?_
  have he:=eh k hk
  rw[hM] at he
  have run:=NX HB.ck hk (HB.row k hk)
  unfold LG at run
  exact Nc (so:=fun _=>.bool true) (vd:=.none) F HB hk hm (.inr (L6 (Bool.eq_false_iff.mpr fun e=>Ju (HB.row k hk) (A4 e)) rfl rfl hl)) A hd R e3 (by decide) (by decide) (Uc A hk (by decide) (fun f _=>⟨rfl,fun _=>nofun⟩) he) GQ run Iff.rfl
end
end
section
noncomputable def gtA (ck:Nat):Nat:=cond (Nat.beq ck 4) 187 213
noncomputable def ckO (ck:Nat):List (Nat × WO):=[(0,.inst ck [(35,.ref 1)]),(1,CR)]
noncomputable def GT (ck f:Nat) (w r:W):Ct:=⟨gtA ck,[.ref 0,.str (AB f),w],2,ckO ck,[],r,2,ckO ck⟩
noncomputable def Zl (f:Nat) (w:W) (eq:List ((Nat × Nat) × Bool)) (r:W):Bool:=E9 ((ev ⟨eq,[],[],[],[],[]⟩ KN 20).c 187 [.ref 0,.str (AB f),w] [] [] ⟨2,[],ofT [(0,.inst 4 [(35,.ref 1)]),(1,CJ f)]⟩) r [(0,.inst 4 [(35,.ref 1)]),(1,CJ f)] 2
noncomputable def AaD (f:Nat):Bool:=E9 ((ev ⟨[],[],[],[],[],[]⟩ KN 20).c 213 [.ref 0,.str (AB f),.sym 101] [] [] ⟨2,[],ofT [(0,.inst 5 [(35,.ref 1)]),(1,CJ f)]⟩) (.sym 1) [(0,.inst 5 [(35,.ref 1)]),(1,CJ f)] 2
theorem Y4:((List.range 4).all fun f=>Zl f .none [] (.tup [.sym 1,.sym 2,.sym 3]))=true:=by decide +kernel
theorem YU:((List.range 4).all fun f=>Ja.all fun b=>Zl f (.tup [.sym 11,.sym 12,.sym 13]) [((11,1),b)] (cond b .none (.tup [.sym 1,.sym 2,.sym 3])))=true:=by decide +kernel
theorem YC:((List.range 4).all fun f=>AaD f)=true:=by decide +kernel
section
variable {c:Cx} {v u:Vl} {zf:Nat→O} {h:H}
noncomputable def uT (u:Vl) (x y:Tr):Vl:=⟨ovr [(1,.int x.1),(2,.int x.2.1),(3,.str x.2.2),(11,.int y.1),(12,.int y.2.1),(13,.str y.2.2)] u.s,u.l,u.d,u.p,fun k=>u.ν (swp 0 0 k),u.h⟩
theorem Jt (F:Aq c) {ck f d:Nat} {w w0 r r0:W} {x y:Tr} {eq:List ((Nat × Nat) × Bool)} (hx:u.s (20+f)=trV x) (A:Agr c v u) (R:HR u zf ⟨2,[],ofT (ckO ck)⟩ h) (hd:20≤d)
    (he:∀ p∈eq,∀ h n,eqD h (n+1) ((uT u x y).s p.1.1) ((uT u x y).s p.1.2)=some p.2)
    (run:E9 ((ev ⟨eq,[],[],[],[],[]⟩ KN 20).c (gtA ck) [.ref 0,.str (AB f),w0] [] [] ⟨2,[],ofT [(0,.inst ck [(35,.ref 1)]),(1,CJ f)]⟩) r0 [(0,.inst ck [(35,.ref 1)]),(1,CJ f)] 2=true)
    (ew:den (uT u x y) w0=den u w) (er:den (uT u x y) r0=den u r):A0 c d (gtA ck) (Ap u [.ref 0,.str (AB f),w]) [] [] h (PV u zf r ⟨2,[],ofT (ckO ck)⟩):=by
  have fd:=fun {z}=>Go (u:=u) (s:=(uT u x y).s) (l:=u.l) (dd:=u.d) (p:=u.p) (ν:=fun k=>u.ν (swp 0 0 k)) (h0:=u.h) (x:=z) hx fun g hg=>by
    cases g,hg using n4<;>rfl
  exact BY (C:=GT ck f w r) F (a:=0) (b:=0) (u':=uT u x y) (A.ok he) GQ R hd (fun _=>rfl) rfl run rfl rfl
    (OG (R.ats 0 (.inst ck [(35,.ref 1)]) rfl) (fd.mpr (R.ats 1 CR rfl))) (fun k hk=>by show h (u.ν (swp 0 0 k))=none;rw[IX];exact R.fr k hk) (by show [V.ref _,_,_]=[V.ref _,_,_];rw[ew];rfl) er (by decide:0<2) (by decide:0<2) (Nat.le_refl 2)
    fun h' P=>OG (P _ (.head _)) (fd.mp (P _ (.tail _ (.head _))))
theorem TJ (F:Aq c) {f:Nat} {x:Tr} (hf:f<4) (hx:v.s (20+f)=trV x) (h4:v.s (40+f)=trV x):Db c v 20 (GT 4 f .none (.sym (40+f))):=by
  intro u d zf h A fx hd R
  exact Jt F (y:=x) ((A.s _ (by exact Qa hf)).trans hx) A R hd Ca (Ao Y4 f (List.mem_range.mpr hf)) rfl (h4.symm.trans (A.s _ (by exact US hf)).symm)
theorem Vz (F:Aq c) {f s:Nat} {x y:Tr} (hf:f<4) (hs:s<100) (hx:v.s (20+f)=trV x) (h4:v.s (40+f)=trV x) (hy:v.s s=trV y):Db c v 20 (GT 4 f (.sym s) (cond (y.1==x.1) .none (.sym (40+f)))):=by
  intro u d zf h A fx hd R
  exact Jt F (y:=y) ((A.s _ (by exact Qa hf)).trans hx) A R hd (fun p hp=>by rw[List.mem_singleton.mp hp];exact fun _ _=>rfl) (Ao (Ao YU f (List.mem_range.mpr hf)) (y.1==x.1) (Dz _)) ((A.s _ hs).trans hy).symm
    (by cases y.1==x.1<;>first | rfl | exact h4.symm.trans (A.s _ (by exact US hf)).symm)
theorem TI (F:Aq c) {f:Nat} {x:Tr} (hf:f<4) (hx:v.s (20+f)=trV x) (h4:v.s (40+f)=.int x.1):Db c v 20 (GT 5 f (.sym 101) (.sym (40+f))):=by
  intro u d zf h A fx hd R
  exact Jt F (y:=x) ((A.s _ (by exact Qa hf)).trans hx) A R hd Ca (Ao YC f (List.mem_range.mpr hf)) rfl (h4.symm.trans (A.s _ (by exact US hf)).symm)
end
end
section
noncomputable def csG (ck base:Nat) (r:List Nat) (b:Nat) (f:Nat) (vs:List W) (_:Sg):Option Ct:=cond (Nat.beq f (gtA ck)) ((BP (vs.getD 1 .none)).bind fun s=>cond (r.contains (s.getD 1 0 - 48)) (cond (Nat.beq ck 4)
    (cond (NV (vs.getD 2 .none)) (some (GT 4 (s.getD 1 0 - 48) .none (.sym (40+(s.getD 1 0 - 48))))) (some (GT 4 (s.getD 1 0 - 48) (.sym (base+(s.getD 1 0 - 48))) (cond (Nat.testBit b (s.getD 1 0 - 48)) .none (.sym (40+(s.getD 1 0 - 48)))))))
    (some (GT 5 (s.getD 1 0 - 48) (.sym 101) (.sym (40+(s.getD 1 0 - 48)))))) none) none
noncomputable def Rl (k:W):WO:=.inst 19 [(59,k),(106,.sym 100),(107,.sym 101),(105,.sym 102),(86,.sym 103),(63,.ref 6),(100,.sym 104),(115,.sym 105),(101,.sym 106),(104,.sym 107),(110,.sym 108),(87,.sym 109),(93,.ref 8),(102,.sym 111),(103,.sym 112),(61,.str [114]),(6,.ref 7),(113,.sym 113)]
noncomputable def mgS:List (Nat × WO):=[(0,.inst 7 [(54,.bool false),(53,.ref 1),(52,.ref 2)]),(2,.inst 2 [(30,.ref 3)]),(4,CR),(7,.dict []),(8,.list [])]
noncomputable def Aa1 (ck k:Nat) (r:List Nat) (x:List (Nat × WO)):List (Nat × WO):=(1,.inst ck [(35,.ref 4)])::(3,.dsym 50)::(5,Rl (.str (AY k)))::(6,Ep r)::(mgS++x)
noncomputable def VP (ck k:Nat) (r:List Nat) (j n:Nat) (st:Nat→W):List (Nat × WO):=(1,.inst ck [(35,.ref 4)])::(3,.dsym j)::(5,Rl (.str (AY k)))::(6,Ep r)::(mgS++[(n,.dict (LL ck (.ref 7) r st))])
noncomputable def YK (k:Nat):Tb:=⟨[],[],[],[((50,AY k),none),((51,AY k),some (.ref 10))],[40,41,42,43],[((50,AY k),(some 10,51))]⟩
noncomputable def XA (k:Nat):Tb:=⟨[],[],[],[((50,AY k),some (.ref 9))],[40,41,42,43],[]⟩
noncomputable def KG (ck base:Nat) (r:List Nat) (b:Nat):Hk:=⟨20,hkc (csG ck base r b),fun _ _ _=>none,fun _ _ _=>none⟩
noncomputable def Yz (ck base:Nat) (r:List Nat):List (Nat × WO):=[(9,.dict (LL ck (.sym 80) r fun f=>.sym (base+f)))]
noncomputable def Y6 (ck base b f:Nat):W:=cond (Nat.beq ck 4&&Nat.testBit b f) (.sym (base+f)) (.sym (40+f))
noncomputable def QS (T:Tb) (ck k:Nat) (r:List Nat) (b:Nat) (x:List (Nat × WO)) (j n:Nat) (st:Nat→W):Bool:=E9 ((ev T (KG ck (60+4*k) r b) 50).c 325 [.ref 0,.ref 5] [] [] ⟨10,[],ofT (Aa1 ck k r x)⟩) .none (VP ck k r j n st) 20
noncomputable def Q1 (ck k:Nat) (r:List Nat):Bool:=QS (YK k) ck k r 0 [] 51 10 fun f=>.sym (40+f)
noncomputable def Q7 (ck k:Nat) (r:List Nat) (b:Nat):Bool:=QS (XA k) ck k r b (Yz ck (60+4*k) r) 50 9 (Y6 ck (60+4*k) b)
noncomputable def QG (ck:Nat):Bool:=(List.range 3).all fun k=>A5.all fun r=>Q1 ck k r
noncomputable def Fc (ck k:Nat):Bool:=A5.all fun r=>(cond (Nat.beq ck 4) (MA r) [0]).all fun b=>Q7 ck k r b
theorem Aau:QG 4=true:=by decide +kernel
theorem Z7:QG 5=true:=by decide +kernel
theorem YI:Fc 4 0=true:=by decide +kernel
theorem XP:Fc 4 1=true:=by decide +kernel
theorem YY:Fc 4 2=true:=by decide +kernel
theorem YL:Fc 5 0=true:=by decide +kernel
theorem Za:Fc 5 1=true:=by decide +kernel
theorem ZB:Fc 5 2=true:=by decide +kernel
theorem NS {ck k:Nat} (hck:ck=4∨ck=5) (hk:k<3) {r:List Nat} (hr:r∈A5):Q1 ck k r=true:=by
  rcases hck with rfl | rfl
  · exact Ao (Ao Aau k (List.mem_range.mpr hk)) r hr
  · exact Ao (Ao Z7 k (List.mem_range.mpr hk)) r hr
theorem Og {ck k:Nat} (hck:ck=4∨ck=5) (hk:k<3) {r:List Nat} (hr:r∈A5) {n:Nat} (hn:n∈cond (Nat.beq ck 4) (MA r) [0]):Q7 ck k r n=true:=by
  have q:Fc ck k=true:=by
    rcases hck with rfl | rfl
    · cases k,hk using n3;exact YI;exact XP;exact YY
    · cases k,hk using n3;exact YL;exact Za;exact ZB
  exact Ao (Ao q r hr) n hn
end
section
theorem H1 {k k':List Nat} {v:V} {es:List (List Nat × V)}:(Dy k v es).lookup k'=if k'=k then some v else es.lookup k':=by
  have hm:∀ es:List (List Nat × V),(es.map fun e=>if e.1==k then (e.1,v) else e).lookup k'=if k'=k∧(es.any fun e=>e.1==k)=true then some v else es.lookup k':=by
    intro es
    induction es with
    | nil=>simp
    | cons x r ih =>
      obtain ⟨a,b⟩:=x
      refine List.map_cons.symm▸List.any_cons.symm▸?_
      by_cases q:a=k
      · subst q
        simp only[beq_self_eq_true,if_true,List.lookup_cons,Bool.true_or,and_true]
        by_cases z:k'=a
        · subst z;simp
        · have:(k'==a)=false:=by simpa using z
          rw[this,if_neg z,ih,if_neg (fun y=>z y.1)]
      · have:(a==k)=false:=by simpa using q
        simp only[this,Bool.false_eq_true,if_false,List.lookup_cons,Bool.false_or]
        by_cases z:k'=a
        · subst z;simp[q]
        · have:(k'==a)=false:=by simpa using z
          exact this.symm▸ih.symm▸rfl
  have hn:∀ es:List (List Nat × V),(es.any fun e=>e.1==k)=false→(es++[(k,v)]).lookup k'=if k'=k then some v else es.lookup k':=by
    intro es
    induction es with
    | nil =>
      intro _
      by_cases z:k'=k
      · subst z;simp
      · have:(k'==k)=false:=by simpa using z
        simp only[List.nil_append,List.lookup_cons,this,if_neg z]
    | cons x r ih =>
      obtain ⟨a,b⟩:=x
      intro e
      rw[List.any_cons,Bool.or_eq_false_iff] at e
      simp only[List.cons_append,List.lookup_cons,List.lookup_cons,ih e.2]
      by_cases z:k'=a
      · have:k'≠k:=fun y=>by rw[← z,y] at e;simp at e
        rw[if_neg this,if_neg this]
      · have:(k'==a)=false:=by simpa using z
        exact this.symm▸rfl
  unfold Dy
  cases q:es.any fun e=>e.1==k with
  | true=>refine (if_pos rfl ..).symm▸(hm ..).symm▸(q ..).symm▸?_;simp
  | false=>exact hn es q
theorem Io {k k':List Nat}:∀ {es:List (List Nat × V)},(JK k es).lookup k'=if k'=k then none else es.lookup k'
  | []=>by split<;>rfl
  | (a,b)::r=>by
    have ih:=Io (k:=k) (k':=k') (es:=r)
    unfold JK at ih ⊢
    rw[List.filter_cons]
    by_cases q:a=k
    · subst q
      simp only[beq_self_eq_true,Bool.not_true,Bool.false_eq_true,if_false,ih,List.lookup_cons]
      by_cases z:k'=a
      · rw[if_pos z,if_pos z]
      · have:(k'==a)=false:=by simpa using z
        exact (if_neg z).symm▸(if_neg z).symm▸this.symm▸rfl
    · have:(!(a==k))=true:=by simpa using q
      rw[this,if_pos rfl,List.lookup_cons,List.lookup_cons,ih]
      by_cases z:k'=a
      · have:k'≠k:=fun y=>q (z▸y)
        simp only[if_neg this]
      · have:(k'==a)=false:=by simpa using z
        exact this.symm▸rfl
theorem orB:∀ m,m<8→∀ k,k<3→(m ||| 2^k)<8∧m≤(m ||| 2^k)∧(Nat.testBit m k=false→m+1≤(m ||| 2^k))∧∀ i,i<3→Nat.testBit (m ||| 2^k) i=(Nat.testBit m i || Nat.beq i k):=by decide
noncomputable def svB (ck k s r:Nat):List (Nat × WO):=(1,.inst ck [(35,.ref 4)])::(3,.psym s)::(5,Rl (.str (AY k)))::(6,.lsym k)::(9,.psym r)::mgS
noncomputable def svC (ck k m q:Nat):Ct:=⟨325,[.ref 0,.ref 5],10,svB ck k m (10+k),[(9,10+k),(7,q)],.none,20,svB ck k (m ||| 2^k) (1000+8*q+k)⟩
noncomputable def qS (k:Nat):Bool:=Nat.blt k 9
theorem XT {ck base:Nat} {r:List Nat} {b f:Nat} {vs:List W} {σ:Sg} {C:Ct} (e:csG ck base r b f vs σ=some C):∃ g,g∈r∧((ck=4∧(C=GT 4 g .none (.sym (40+g))∨C=GT 4 g (.sym (base+g)) (cond (Nat.testBit b g) .none (.sym (40+g)))))∨(Nat.beq ck 4=false∧C=GT 5 g (.sym 101) (.sym (40+g)))):=by
  rcases Af e with ⟨_,e⟩ | ⟨_,e⟩
  · refine Am e fun s _ e=>?_
    rcases Af e with ⟨z,e⟩ | ⟨_,e⟩
    · refine (iEA (s.getD 1 0 - 48) (List.contains_iff_mem.mp z) ?_)
      rcases Af e with ⟨z,e⟩ | ⟨z,e⟩
      · refine .inl ⟨eN z,?_⟩
        rcases Af e with ⟨_,e⟩ | ⟨_,e⟩
        · exact .inl (oJ e).symm
        · exact .inr (oJ e).symm
      · exact .inr ⟨z,(oJ e).symm⟩
    · exact nn e
  · exact nn e
section
variable {c:Cx} {v u:Vl} {zf:Nat→O} {h:H} {B:Bd}
theorem M2 (F:Aq c) (HB:BS v B) {k m q:Nat} (hk:k<3) {vd:V} {so:Nat→V} {a b n j pb:Nat} {T:Tb} {x:List (Nat × WO)} {st:Nat→W} {d ep:Nat} {es e2:List (List Nat × V)}
    (A:Agr c v u) (hd:50≤d) (R:HR u zf ⟨10,[],ofT (svB B.ck k m (10+k))⟩ h) (e3:h (u.ν 3)=some (.dict ep es)) (hq:∀ j,qS j=true→j≠a∧j≠b) (ha:a<20) (hb:b<20)
    (VO:AO c (uG u k a b vd so es e2) T) (hso:B.ck=4→∀ f,f<4→∃ y,so f=trV y∧(f∈B.row k→Nat.testBit pb f=(y.1==(B.cur f).1)))
    (run:QS T B.ck k (B.row k) pb x j n st=true) (bx:(x.all fun p=>Nat.blt p.1 10)=true) (hx:∀ p∈x,OR (uG u k a b vd so es e2) p.2 (h ((uG u k a b vd so es e2).ν p.1)))
    (free:∀ k',10≤k'→h ((uG u k a b vd so es e2).ν k')=none) (nN:(uG u k a b vd so es e2).ν n=u.ν 9) (h3:∀ x,OR (uG u k a b vd so es e2) (.dsym j) x→u.p (m ||| 2^k) x)
    (hst:∀ f,f∈B.row k→den (uG u k a b vd so es e2) (st f)=stV B.ck (B.cur f)) (n7:u.ν 7=v.ν q) :
    A0 c d 325 (Ap u [.ref 0,.ref 5]) [] [] h (PV u zf .none ⟨20,[],ofT (svB B.ck k (m ||| 2^k) (1000+8*q+k))⟩):=by
  have AA:Ag2 pG qS u (uG u k a b vd so es e2):=OE hk hq
  have cl:∀ {w x},clO pG qS w=true→OR (uG u k a b vd so es e2) w x=OR u w x:=fun e=>Pq AA e
  have sm:∀ {k' w},Ah k' (svB B.ck k m (10+k))=some w→clO pG qS w=true→qS k'=true→OR (uG u k a b vd so es e2) w (h ((uG u k a b vd so es e2).ν k')):=fun {k' w} e1 e2 e3=>by
    rw[AA.ν _ e3,cl e2];exact R.ats _ _ (AG.trans e1)
  have lk:u.l k=nms (B.row k):=by rw[A.l];exact HB.l0 k hk
  have row':∀ {rr x},OR (uG u k a b vd so es e2) (Ep rr) x↔x=some (.list (nms rr)):=fun {rr x}=>by
    show x=some (.list (Ap _ _))↔_
    rw[FI]
  have us:∀ {j},j<60→(uG u k a b vd so es e2).s j=v.s j:=fun {j} hj=>(AA.s j (by show (Nat.ble _ _ || _)=true;rw[Nat.ble_eq_true_of_le hj];rfl)).trans (A.s _ (by lia))
  have HK:IH c (uG u k a b vd so es e2) (KG B.ck (60+4*k) (B.row k) pb):=⟨fun {d f vs ns ks σ p zf h} hd e R=>Kh VO (fun f vs σ C e=>by
    refine xEA (XT e) fun g hg hC=>?_
    have hg4:=Bk (HB.row k hk) g hg
    have x2:=(us (j:=20+g) (by lia)).trans (HB.s2 g hg4)
    have x4:=(us (j:=40+g) (by lia)).trans (HB.s4 g hg4)
    rcases hC with ⟨ec,hC⟩ | ⟨ec,hC⟩
    · rw[ec] at x4
      rcases hC with hC | hC
      · rw[hC];exact TJ F hg4 x2 x4
      · refine xEA (hso ec g hg4) fun y y1 y2=>?_
        rw[hC,y2 hg];exact Vz F hg4 (by lia) x2 x4 ((Os hk hg4).trans y1)
    · have:B.ck=5:=HB.ck.resolve_left fun z=>by rw[z] at ec;exact Bool.noConfusion ec
      rw[this] at x4
      rw[hC];exact TI F hg4 x2 x4) hd e R,fun _ e=>nn e,fun _ e=>nn e⟩
  refine BY (C:=svC B.ck k m q) F VO HK R hd (fun _=>rfl) rfl run ?_ rfl
    (Ag (sm rfl rfl rfl) (Ag ⟨ep,by rw[AA.ν _ rfl];exact e3⟩ (Ag (sm rfl rfl rfl) (Ag (row'.mpr ?_) (Ag (sm rfl rfl rfl) (Ag (sm rfl rfl rfl) (Ag (sm rfl rfl rfl) (Ag (sm rfl rfl rfl) (Ag (sm rfl rfl rfl) hx)))))))))
    free (FC AA rfl) rfl ha hb (Nat.le_refl 20) fun h' P=>?_
  · show (true&&(true&&(true&&(true&&(true&&(true&&(true&&(true&&(true&&x.all fun p=>Nat.blt p.1 10)))))))))=true
    refine bx.symm▸?_;rfl
  · rw[← lk,AA.ν _ rfl];exact R.ats 6 (.lsym k) (AG.trans rfl)
  · have ps:∀ {k' w},Ah k' (VP B.ck k (B.row k) j n st)=some w→clO pG qS w=true→qS k'=true→OR u w (h' (u.ν k')):=fun {k' w} e1 e2 e3=>by
      refine (AA.ν _ e3)▸(cl e2)▸?_;exact P _ (Ar e1)
    have pn:∀ {k' w},Ah k' (VP B.ck k (B.row k) j n st)=some w→qS k'=true→OR (uG u k a b vd so es e2) w (h' (u.ν k')):=fun {k' w} e1 e3=>by
      refine (AA.ν _ e3)▸?_;exact P _ (Ar e1)
    refine Ag (ps rfl rfl rfl) (Ag (h3 _ (pn (k':=3) rfl rfl)) (Ag (ps rfl rfl rfl) (Ag ?_ (Ag ?_ (Ag (ps rfl rfl rfl) (Ag (ps rfl rfl rfl) (Ag (ps rfl rfl rfl) (Ag (ps rfl rfl rfl) (Ag (ps rfl rfl rfl) Ca)))))))))
    · show h' (u.ν 6)=some (.list (u.l k))
      rw[lk];exact row'.mp (pn (k':=6) (w:=Ep (B.row k)) rfl rfl)
    · refine xE (P (n,.dict _) (.tail _ (.tail _ (.tail _ (.tail _ (List.mem_append_right _ (.head _))))))) fun ep' z=>?_
      have z:h' ((uG u k a b vd so es e2).ν n)=some (.dict ep' (AE (uG u k a b vd so es e2) (LL B.ck (.ref 7) (B.row k) st))):=z
      rw[H4,Fg hst,nN] at z
      show u.p _ (h' (u.ν 9))
      rw[A.p]
      refine (HB.pA k q _ hk).mpr ⟨ep',?_⟩
      refine z.symm▸n7▸?_
      show some (O.dict ep' (Ei B.ck (.ref ((uG u k a b vd so es e2).ν 7)) _ _))=_
      rw[AA.ν 7 rfl]
theorem Nl {m k i:Nat} (hm:m<8) (hk:k<3) (hi:i<3):CN B (m ||| 2^k) i=(CN B m i || Nat.beq i k):=by
  unfold CN
  rw[(orB m hm k hk).2.2.2 i hi,Bool.or_assoc]
theorem Uv {T:Tb} {st:Nat→V} (hs:∀ f,f<4→∃ y,u.s (40+f)=stV B.ck y) {k a b:Nat} (hk:k<3) (hq:∀ j,qS j=true→j≠a∧j≠b) {vd:V} {es e2:List (List Nat × V)} (hT:T.nn=[40,41,42,43]) :
    ∀ j,T.nn.contains j=true→B0 ((uG u k a b vd st es e2).s j)=false∧∀ x,(uG u k a b vd st es e2).s j≠.raw x:=fun j e=>by
  have z:∀ f,f<4→j=40+f→B0 ((uG u k a b vd st es e2).s j)=false∧∀ x,(uG u k a b vd st es e2).s j≠.raw x:=fun f hf y=>by
    rw[y,(OE hk hq).s _ (by show (Nat.ble _ _ || _)=true;rw[Nat.ble_eq_true_of_le (by lia)];rfl)]
    refine xE (hs f hf) fun y hy=>?_
    refine hy.symm▸?_;exact QJ
  rw[hT] at e
  have e:=List.contains_iff_mem.mp e
  rcases List.mem_cons.mp e with y | e
  · exact z 0 (by decide) y
  rcases List.mem_cons.mp e with y | e
  · exact z 1 (by decide) y
  rcases List.mem_cons.mp e with y | e
  · exact z 2 (by decide) y
  · exact z 3 (by decide) (List.mem_singleton.mp e)
theorem u40 (HB:BS v B) (A:Agr c v u):∀ f,f<4→∃ y,u.s (40+f)=stV B.ck y:=fun f hf=>⟨_,(A.s _ (by lia)).trans (HB.s4 f hf)⟩
theorem Tv (F:Aq c) (HB:BS v B) {k m q:Nat} (hk:k<3) (hm:m<8) (hM:CN B m k=true) {o:Nat→Tr} (ho:B.old k=some o):Db c v 50 (svC B.ck k m q):=by
  intro u d zf h A fx hd R
  have n9:u.ν 9=v.ν (10+k):=fx _ (.head _)
  have r3:u.p m (h (u.ν 3)):=R.ats 3 (.psym m) (AG.trans rfl)
  rw[A.p] at r3
  refine Au ((HB.pS m _ hm).mp r3) fun ep es e3 el eh=>?_
  have he:=eh k hk
  rw[hM,← n9] at he
  have r9:u.p (10+k) (h (u.ν 9)):=R.ats 9 (.psym (10+k)) (AG.trans rfl)
  rw[A.p] at r9
  have r9:=(HB.pB k _ hk).mp r9
  rw[ho] at r9
  refine xE r9 fun ep9 r9=>?_
  refine JP (orB m hm k hk) fun o1 o2 _ o4=>?_
  let p:Nat→Bool:=fun f=>Nat.beq B.ck 4&&((B.row k).contains f&&(o f).1==(B.cur f).1)
  have hp:∀ f∈B.row k,Nat.testBit (ES p) f=(Nat.beq B.ck 4&&(o f).1==(B.cur f).1):=fun f hf=>by
    rw[Gf p f (Bk (HB.row k hk) f hf)]
    show (_&&((B.row k).contains f&&_))=_
    rw[List.contains_iff_mem.mpr hf];rfl
  have hpat:ES p∈cond (Nat.beq B.ck 4) (MA (B.row k)) [0]:=by
    cases z:Nat.beq B.ck 4 with
    | true=>exact M3 fun f _ y=>by show (_&&((B.row k).contains f&&_))=false;exact (y ..).symm▸(Bool.false_and ..).symm▸(Bool.and_false ..).symm▸rfl
    | false =>
      have:p=fun _=>false:=funext fun f=>by show (Nat.beq B.ck 4&&_)=false;rw[z];rfl
      rw[this];exact .head _
  have hq:∀ j,qS j=true→j≠0+9∧j≠0+9:=fun j e=>by
    have e:j<9:=lB e
    exact ⟨by exact Nat.ne_of_lt e,by exact Nat.ne_of_lt e⟩
  have sw:∀ {k},swp 9 9 k=k:=fun {k}=>by
    unfold swp;cases e:Nat.beq k 9 with
    | true=>exact (eN e).symm
    | false=>rfl
  have VO:AO c (uG u k 9 9 (.ref (v.ν (17+k))) (fun f=>stV B.ck (o f)) es []) (XA k) :=
    ⟨swI 9 9 A.inj,fun sc x q=>⟨fun k=>(A.tab sc x q).1 _,(A.tab sc x q).2⟩,nofun,nofun,nofun,fun i k' r e=>by
      have:=List.mem_singleton.mp (Bl e)
      have i1:i=50:=congrArg (·.1.1) this
      have i2:k'=AY k:=congrArg (·.1.2) this
      have i3:r=some (.ref 9):=congrArg (·.2) this
      refine i1.symm▸i2.symm▸i3.symm▸?_;exact he,Uv (B:=B) (u40 HB A) hk hq rfl,nofun,nofun⟩
  refine M2 F HB hk (st:=Y6 B.ck (60+4*k) (ES p)) A hd R e3 hq (by decide) (by decide) VO (fun ec f hf=>(iEA (o f) (by rw[ec];rfl) (fun hf=>by rw[hp f hf,ec];rfl))) (Og HB.ck hk (HB.row k hk) hpat) rfl (Ag ⟨ep9,?_⟩ Ca) (fun k' hk'=>?_) ?_ (fun x hx=>?_) (fun f hf=>?_) (fx _ (.tail _ (.head _)))
  · show h (u.ν (swp 9 9 9))=some (.dict ep9 (AE _ _))
    rw[sw,H4,Fg (t:=fun f=>stV B.ck (o f)) fun f hf=>Os hk (Bk (HB.row k hk) f hf),r9];rfl
  · show h (u.ν (swp 9 9 k'))=none
    rw[sw];exact R.fr _ hk'
  · show u.ν (swp 9 9 9)=_
    rw[sw]
  · refine xE hx fun ep' hx=>?_
    rw[A.p]
    refine (HB.pS _ _ o1).mpr (Al ep' es hx (Nat.le_trans el (Nat.add_le_add_left o2 _)) (fun i hi=>?_))
    rw[eh i hi,Nl hm hk hi]
    by_cases z:i=k
    · refine z.symm▸hM.symm▸?_;rfl
    · rw[AQ z,Bool.or_false]
  · have hf4:=Bk (HB.row k hk) f hf
    show den _ (cond (Nat.beq B.ck 4&&Nat.testBit (ES p) f) _ _)=_
    have q4:(uG u k 9 9 (.ref (v.ν (17+k))) (fun f=>stV B.ck (o f)) es []).s (40+f)=stV B.ck (B.cur f):=((OE hk hq).s _ (by show (Nat.ble _ _ || _)=true;rw[Nat.ble_eq_true_of_le (by lia)];rfl)).trans ((A.s _ (by lia)).trans (HB.s4 f hf4))
    cases z:Nat.beq B.ck 4&&Nat.testBit (ES p) f with
    | false=>exact q4
    | true =>
      refine Ad z fun _ z=>?_
      rw[hp f hf] at z
      have z:=eq_of_beq (Aa z).2
      exact (Os hk hf4).trans (by rw[HB.same k o hk ho f hf4 z])
theorem U2 (F:Aq c) (HB:BS v B) {k m q:Nat} (hk:k<3) (hm:m<8) (hM:CN B m k=false):Db c v 50 (svC B.ck k m q):=by
  intro u d zf h A fx hd R
  have n9:u.ν 9=v.ν (10+k):=fx _ (.head _)
  have r3:u.p m (h (u.ν 3)):=R.ats 3 (.psym m) (AG.trans rfl)
  rw[A.p] at r3
  refine Au ((HB.pS m _ hm).mp r3) fun ep es e3 el eh=>?_
  have he:=eh k hk
  rw[hM] at he
  have r9:u.p (10+k) (h (u.ν 9)):=R.ats 9 (.psym (10+k)) (AG.trans rfl)
  rw[A.p] at r9
  have r9:=(HB.pB k _ hk).mp r9
  refine xA (Bool.or_eq_false_iff.mp hM) fun hO hT=>?_
  have hO:B.old k=none:=by cases z:B.old k with
    | none=>rfl
    | some o=>rw[z] at hO;exact Bool.noConfusion hO
  rw[hO] at r9
  refine JP (orB m hm k hk) fun o1 o2 o3 o4=>?_
  have hq:∀ j,qS j=true→j≠9∧j≠10:=fun j e=>by
    have e:j<9:=lB e
    exact ⟨by exact Nat.ne_of_lt e,by lia⟩
  have hl:es.length≤900:=by
    have:=HB.len
    lia
  have VO:AO c (uG u k 9 10 .none (fun f=>trV ((B.cur f).1+1,0,[])) es (Dy (AY k) (.ref (u.ν 9)) es)) (YK k) :=
    ⟨swI 9 10 A.inj,fun sc x q=>⟨fun k=>(A.tab sc x q).1 _,(A.tab sc x q).2⟩,nofun,nofun,nofun,fun i k' r e=>by
      rcases List.mem_cons.mp (Bl e) with this | e
      · have i1:i=50:=congrArg (·.1.1) this
        have i2:k'=AY k:=congrArg (·.1.2) this
        have i3:r=none:=congrArg (·.2) this
        refine i1.symm▸i2.symm▸i3.symm▸?_;exact he
      · have this:=List.mem_singleton.mp e
        have i1:i=51:=congrArg (·.1.1) this
        have i2:k'=AY k:=congrArg (·.1.2) this
        have i3:r=some (.ref 10):=congrArg (·.2) this
        refine i1.symm▸i2.symm▸i3.symm▸?_
        exact H1.trans (if_pos rfl),Uv (B:=B) (u40 HB A) hk hq rfl,fun i k' r j e=>by
      have this:=List.mem_singleton.mp (Bl e)
      have i1:i=50:=congrArg (·.1.1) this
      have i2:k'=AY k:=congrArg (·.1.2) this
      have i3:some r=some 10:=congrArg (·.2.1) this
      have i4:j=51:=congrArg (·.2.2) this
      refine i1.symm▸i2.symm▸(oJ i3).symm▸i4.symm▸?_;exact ⟨hl,rfl⟩,fun i k' j e=>by
      have this:=List.mem_singleton.mp (Bl e)
      exact nn (congrArg (·.2.1) this)⟩
  refine M2 F HB hk (vd:=.none) A hd R e3 hq (by decide) (by decide) VO (fun ec f hf=>?_) (NS HB.ck hk (HB.row k hk)) rfl Ca (fun k' hk'=>?_) rfl (fun x hx=>?_) (fun f hf=>?_) (fx _ (.tail _ (.head _)))
  · exact (iEA _ rfl (fun _=>(Nat.zero_testBit f).trans (beq_eq_false_iff_ne.mpr fun z=>by lia).symm))
  · show h (u.ν (swp 9 10 k'))=none
    by_cases z:k'=10
    · rw[z];exact r9
    · unfold swp
      rw[AQ z,AQ (by lia)];exact R.fr _ hk'
  · refine xE hx fun ep' hx=>?_
    rw[A.p]
    refine (HB.pS _ _ o1).mpr (Al ep' _ hx (Nat.le_trans KW (Nat.le_trans (Nat.succ_le_succ el) (Nat.add_le_add_left (o3 hT) _))) (fun i hi=>?_))
    rw[Nl hm hk hi]
    by_cases z:i=k
    · refine (z ..).symm▸(Nat.beq_refl ..).symm▸(Bool.or_true ..).symm▸(n9 ..)▸?_;exact H1.trans (if_pos rfl)
    · refine (AQ z ..).symm▸(Bool.or_false ..).symm▸(eh i hi ..)▸?_
      exact H1.trans (if_neg fun y=>z (Nat.add_left_cancel (List.cons.inj (List.cons.inj y).2).1))
  · exact ((OE hk hq).s _ (by show (Nat.ble _ _ || _)=true;rw[Nat.ble_eq_true_of_le (by have:=Bk (HB.row k hk) f hf;lia)];rfl)).trans ((A.s _ (by have:=Bk (HB.row k hk) f hf;lia)).trans (HB.s4 f (Bk (HB.row k hk) f hf)))
end
end
section
noncomputable def TG (k:Nat) (r:List Nat):WO→WO
  | .lsym j=>cond (Nat.beq j k) (Ep r) (.lsym j)
  | o=>o
noncomputable def Le (k:Nat) (r:List Nat) (L:List (Nat × WO)):List (Nat × WO):=L.map fun p=>(p.1,TG k r p.2)
noncomputable def efO:WO:=.inst 19 [(59,.sym 100),(106,.sym 101),(107,.sym 102),(105,.sym 103),(86,.sym 104),(63,.ref 1)]
noncomputable def EF (k:Nat):Ct:=⟨612,[.ref 0,.ref 2],3,[(0,efO),(1,.list []),(2,.lsym k)],[],.none,3,[(0,efO),(1,.lsym k),(2,.lsym k)]⟩
noncomputable def AI (k:Nat):Ct:=⟨774,[.ref 0,.sym 100,.ref 1],2,[(0,.dict []),(1,.lsym k)],[],.none,2,[(0,.dict []),(1,.lsym k)]⟩
noncomputable def T00:Tb:=⟨[],[],[],[],[],[]⟩
noncomputable def Fa (C:Ct) (k:Nat) (r:List Nat):Bool:=E9 ((ev T00 KN 20).c C.f C.vs [] [] ⟨C.n,[],ofT (Le k r C.L)⟩) C.w (Le k r C.L') C.n'
theorem YE:(A5.all fun r=>Fa (EF 0) 0 r)=true:=by decide +kernel
theorem Zy:(A5.all fun r=>Fa (AI 0) 0 r)=true:=by decide +kernel
section
variable {c:Cx} {v u:Vl} {zf:Nat→O} {h:H} {B:Bd}
theorem Agr.vo (A:Agr c v u):AO c u T00:=⟨A.inj,A.tab,nofun,nofun,nofun,nofun,nofun,nofun,nofun⟩
theorem Uk {k:Nat} {r:List Nat} {o:WO} {x:Option O} (hl:u.l k=nms r):OR u (TG k r o) x↔OR u o x:=by
  cases o with
  | lsym j =>
    show OR u (cond (Nat.beq j k) (Ep r) (.lsym j)) x↔_
    by_cases z:j=k
    · rw[z,Nat.beq_refl]
      show x=some (.list (Ap _ _))↔x=some (.list (u.l k))
      rw[FI,hl]
    · rw[AQ z];exact Iff.rfl
  | _=>exact Iff.rfl
theorem Xj {k:Nat} {r:List Nat} {L:List (Nat × WO)} {p:Nat × WO} (h:p∈L):(p.1,TG k r p.2)∈Le k r L:=List.mem_map_of_mem h
theorem VU {k:Nat} {r:List Nat} {L:List (Nat × WO)} {p:Nat × WO} (h:p∈Le k r L):∃ o,(p.1,o)∈L∧p.2=TG k r o:=by
  refine Dt h fun q h1 h2=>?_
  exact (iEA q.2 (by rw[← h2];exact h1) (by rw[← h2]))
theorem XN {k:Nat} {r:List Nat} {n:Nat}:∀ {L:List (Nat × WO)},((Le k r L).all fun q=>Nat.blt q.1 n)=L.all fun q=>Nat.blt q.1 n:=by
  intro zl;induction zl with
  | nil =>
    exact rfl
  | cons p L ih =>
    exact congrArg (Nat.blt p.1 n&&·) ih
theorem Qi (F:Aq c) {C:Ct} {k:Nat} {r:List Nat} {d:Nat} (hl:u.l k=nms r) (A:Agr c v u) (hd:20≤d) (R:HR u zf ⟨C.n,[],ofT C.L⟩ h) (run:Fa C k r=true)
    (h0:0<C.n') (bL:(C.L.all fun q=>Nat.blt q.1 C.n)=true) (bL':(C.L'.all fun q=>Nat.blt q.1 C.n')=true) (nd:∀ p∈C.L,Ah p.1 C.L=some p.2):A0 c d C.f (Ap u C.vs) [] [] h (PV u zf C.w ⟨C.n',[],ofT C.L'⟩) :=
  BY F (a:=0) (b:=0) (u':=u) A.vo GQ R hd (fun k=>by rw[IX]) rfl run (XN.trans bL) bL'
    (fun q hq=>by
      refine xEA (VU hq) fun o e1 e2=>?_
      rw[e2];exact (Uk hl).mpr (R.ats _ _ (AG.trans (nd _ e1))))
    (fun k' hk'=>R.fr _ hk') rfl rfl h0 h0 (Nat.le_refl _) fun h' P q hq=>(Uk hl).mp (P _ (Xj hq))
theorem Uu (F:Aq c) (HB:BS v B) {k:Nat} (hk:k<3):Db c v 20 (EF k):=by
  intro u d zf h A fx hd R
  have hl:u.l k=nms (B.row k):=by rw[A.l];exact HB.l0 k hk
  refine Qi (C:=EF k) F hl A hd R ?_ (by decide:0<3) rfl rfl (Ag rfl (Ag rfl (Ag rfl Ca)))
  have:=Ao YE (B.row k) (HB.row k hk)
  have e:Fa (EF k) k (B.row k)=Fa (EF 0) 0 (B.row k):=by
    show E9 ((ev T00 KN 20).c 612 _ [] [] ⟨3,[],ofT [(0,efO),(1,.list []),(2,cond (Nat.beq k k) (Ep (B.row k)) (.lsym k))]⟩) .none [(0,efO),(1,cond (Nat.beq k k) (Ep (B.row k)) (.lsym k)),(2,cond (Nat.beq k k) (Ep (B.row k)) (.lsym k))] 3=_
    rw[Nat.beq_refl];rfl
  rw[e];exact this
theorem YN (F:Aq c) (HB:BS v B) {k:Nat} (hk:k<3):Db c v 20 (AI k):=by
  intro u d zf h A fx hd R
  have hl:u.l k=nms (B.row k):=by rw[A.l];exact HB.l0 k hk
  refine Qi (C:=AI k) F hl A hd R ?_ (by decide:0<2) rfl rfl (Ag rfl (Ag rfl Ca))
  have:=Ao Zy (B.row k) (HB.row k hk)
  have e:Fa (AI k) k (B.row k)=Fa (AI 0) 0 (B.row k):=by
    show E9 ((ev T00 KN 20).c 774 _ [] [] ⟨2,[],ofT [(0,.dict []),(1,cond (Nat.beq k k) (Ep (B.row k)) (.lsym k))]⟩) .none [(0,.dict []),(1,cond (Nat.beq k k) (Ep (B.row k)) (.lsym k))] 2=_
    rw[Nat.beq_refl];rfl
  rw[e];exact this
end
end
section
noncomputable def EZ:List Nat:=[105,103,110,111,114,101,58]
noncomputable def dgL (k m:Nat) (x:List (Nat × WO)):List (Nat × WO):=(0,.inst 2 [(30,.ref 1)])::(1,.psym m)::(2,.psym (10+k))::x
noncomputable def DGI (k m:Nat):Ct:=⟨89,[.ref 0,.str (AY k),.str EZ],3,dgL k m [],[(2,10+k)],.none,3,dgL k m []⟩
noncomputable def DGV (k m:Nat):Ct:=⟨89,[.ref 0,.str (AY k),.str Gn],4,dgL k m [(3,.dict [])],[(2,10+k),(3,17+k)],.ref 3,4,dgL k m [(3,.dict [])]⟩
noncomputable def dgC (y:WO) (x:List (Nat × WO)):List (Nat × WO):=(0,.inst 2 [(30,.ref 1)])::(1,.dsym 50)::(2,y)::x
noncomputable def MV (T:Tb) (k:Nat) (key:List Nat) (y:WO) (x:List (Nat × WO)) (n:Nat) (w:W):Bool:=E9 ((ev T KN 20).c 89 [.ref 0,.str (AY k),.str key] [] [] ⟨n,[],ofT (dgC y x)⟩) w (dgC y x) n
noncomputable def Y9 (k:Nat):Tb:=⟨[],[],[],[((50,AY k),none)],[],[]⟩
noncomputable def WK (k:Nat) (key:List Nat) (w:Option W):Tb:=⟨[],[],[],[((50,AY k),some (.ref 2)),((52,key),w)],[],[]⟩
theorem dgN:((List.range 3).all fun k=>MV (Y9 k) k EZ (.psym (10+k)) [] 3 .none)=true:=by decide +kernel
theorem dgI:((List.range 3).all fun k=>MV (WK k EZ none) k EZ (.dsym 52) [] 3 .none)=true:=by decide +kernel
theorem dgV:((List.range 3).all fun k=>MV (WK k Gn (some (.ref 3))) k Gn (.dsym 52) [(3,.dict [])] 4 (.ref 3))=true:=by decide +kernel
section
variable {c:Cx} {v u:Vl} {zf:Nat→O} {h:H} {B:Bd}
theorem LD {st:Nat→V} {k:List Nat} {t:List (List Nat × V)} (hk:k.length≠2):∀ {r:List Nat},((r.map fun f=>(AB f,st f))++t).lookup k=t.lookup k:=by
  intro zl;induction zl with
  | nil =>
    exact rfl
  | cons f r ih =>
    show List.lookup k ((AB f,st f)::((r.map fun f=>(AB f,st f))++t))=_
    rw[List.lookup_cons,ih]
    have:(k==AB f)=false:=beq_eq_false_iff_ne.mpr fun e=>hk (by rw[e];rfl)
    rw[this]
noncomputable def uD (u:Vl) (es rc:List (List Nat × V)):Vl:=⟨u.s,u.l,fun j=>cond (Nat.beq j 50) es (cond (Nat.beq j 52) rc (u.d j)),u.p,u.ν,u.h⟩
theorem Aa4 {es rc:List (List Nat × V)} {p q:Nat→Bool}:Ag2 p q u (uD u es rc):=⟨fun _ _=>rfl,fun _ _=>rfl,rfl,rfl⟩
theorem JA (F:Aq c) (HB:BS v B) {k m n d ep:Nat} {key:List Nat} {w:W} {T:Tb} {es rc:List (List Nat × V)} {y:WO} {x:List (Nat × WO)} (hm:m<8) (A:Agr c v u) (hd:20≤d) (R:HR u zf ⟨n,[],ofT (dgL k m x)⟩ h)
    (VO:AO c (uD u es rc) T) (run:MV T k key y x n w=true) (e3:h (u.ν 1)=some (.dict ep es)) (hy:∀ z,u.p (10+k) z↔OR (uD u es rc) y z) (hn:3≤n)
    (bx:(x.all fun p=>Nat.blt p.1 n)=true) (cx:(x.all fun p=>clO (fun _=>true) (fun _=>true) p.2)=true) (nd:∀ p∈x,Ah p.1 (dgL k m x)=some p.2) (ew:den (uD u es rc) w=den u w) :
    A0 c d 89 (Ap u [.ref 0,.str (AY k),.str key]) [] [] h (PV u zf w ⟨n,[],ofT (dgL k m x)⟩):=by
  have cl:∀ {o z},clO (fun _=>true) (fun _=>true) o=true→OR (uD u es rc) o z=OR u o z:=fun e=>Pq Aa4 e
  have bL:∀ {y},((dgC y x).all fun p=>Nat.blt p.1 n)=true:=fun {y}=>by
    show (Nat.ble 1 n&&(Nat.ble 2 n&&(Nat.ble 3 n&&x.all fun p=>Nat.blt p.1 n)))=true
    rw[bx,Nat.ble_eq_true_of_le (Nat.le_trans (by decide) hn),Nat.ble_eq_true_of_le (Nat.le_trans (by decide) hn),Nat.ble_eq_true_of_le hn];rfl
  refine BY (C:=⟨89,[.ref 0,.str (AY k),.str key],n,dgL k m x,[],w,n,dgL k m x⟩) F (a:=0) (b:=0) (u':=uD u es rc) VO GQ R hd (fun k=>by rw[IX];rfl) rfl run bL bL
    (Ag (R.ats 0 (.inst 2 [(30,.ref 1)]) (AG.trans rfl)) (Ag ⟨ep,e3⟩ (Ag ((hy _).mp (R.ats 2 (.psym (10+k)) (AG.trans rfl))) fun p hp=>?_)))
    (fun k' hk'=>R.fr _ hk') rfl ew (Nat.lt_of_lt_of_le (by decide) hn) (Nat.lt_of_lt_of_le (by decide) hn) (Nat.le_refl _) fun h' P=>Ag (P _ (.head _)) (Ag ?_ (Ag ((hy _).mpr (P (2,y) (.tail _ (.tail _ (.head _))))) fun p hp=>?_))
  · rw[cl (Ao cx p hp)];exact R.ats _ _ (AG.trans (nd p hp))
  · refine xE (P (1,.dsym 50) (.tail _ (.head _))) fun ep' q=>?_
    have q2:u.p m (h (u.ν 1)):=R.ats 1 (.psym m) (AG.trans rfl)
    show u.p m (h' (u.ν 1))
    rw[A.p] at q2 ⊢
    refine Au ((HB.pS m _ hm).mp q2) fun ep2 es2 e4 el eh=>?_
    rw[e3] at e4
    cases e4
    exact (HB.pS m _ hm).mpr (Al ep' es q el eh)
  · rw[← cl (Ao cx p hp)];exact P _ (.tail _ (.tail _ (.tail _ hp)))
theorem OV (A:Agr c v u) {es rc:List (List Nat × V)} {k:Nat} {key:List Nat} {w:Option W} (h1:es.lookup (AY k)=some (.ref (u.ν 2))) (h2:rc.lookup key=w.map (den (uD u es rc))):AO c (uD u es rc) (WK k key w) :=
  ⟨A.inj,A.tab,fun _ _ _ q=>nn q,fun _ _ q=>nn q,fun _ _ _ q=>nn q,fun i k' r e=>by
    rcases List.mem_cons.mp (Bl e) with this | e
    · have i1:i=50:=congrArg (·.1.1) this
      have i2:k'=AY k:=congrArg (·.1.2) this
      have i3:r=some (.ref 2):=congrArg (·.2) this
      rw[i1,i2,i3];exact h1
    · have this:=List.mem_singleton.mp e
      have i1:i=52:=congrArg (·.1.1) this
      have i2:k'=key:=congrArg (·.1.2) this
      have i3:r=w:=congrArg (·.2) this
      rw[i1,i2,i3];exact h2,fun _ q=>absurd q fT,fun _ _ _ _ q=>nn q,fun _ _ _ q=>nn q⟩
theorem Va (F:Aq c) (HB:BS v B) {k m:Nat} (hk:k<3) (hm:m<8) (hs:B.old k=none→CN B m k=false):Db c v 20 (DGI k m):=by
  intro u d zf h A fx hd R
  have n2:u.ν 2=v.ν (10+k):=fx _ (.head _)
  have r3:u.p m (h (u.ν 1)):=R.ats 1 (.psym m) (AG.trans rfl)
  rw[A.p] at r3
  refine Au ((HB.pS m _ hm).mp r3) fun ep es e3 el eh=>?_
  have he:=eh k hk
  cases ho:B.old k with
  | none =>
    rw[hs ho] at he
    exact JA (rc:=[]) (T:=Y9 k) F HB hm A hd R ⟨A.inj,A.tab,fun _ _ _ q=>nn q,fun _ _ q=>nn q,fun _ _ _ q=>nn q,fun i k' r e=>by
      have:=List.mem_singleton.mp (Bl e)
      have i1:i=50:=congrArg (·.1.1) this
      have i2:k'=AY k:=congrArg (·.1.2) this
      have i3:r=none:=congrArg (·.2) this
      rw[i1,i2,i3];exact he,fun _ q=>absurd q fT,fun _ _ _ _ q=>nn q,fun _ _ _ q=>nn q⟩ (Ao dgN k (List.mem_range.mpr hk)) e3 (fun _=>Iff.rfl) (Nat.le_refl 3) rfl rfl Ca rfl
  | some o =>
    have hM:CN B m k=true:=by unfold CN;rw[ho];rfl
    rw[hM,← n2] at he
    refine JA (rc:=Ei B.ck (.ref (v.ν (17+k))) (B.row k) fun f=>stV B.ck (o f)) F HB hm A hd R (OV A he ?_) (Ao dgI k (List.mem_range.mpr hk)) e3 (fun z=>?_) (Nat.le_refl 3) rfl rfl Ca rfl
    · show List.lookup EZ (((B.row k).map fun f=>(AB f,stV B.ck (o f)))++_)=none
      rw[LD (by decide)];rfl
    · rw[A.p,HB.pB k _ hk,ho];exact Iff.rfl
theorem Xq (F:Aq c) (HB:BS v B) {k m:Nat} (hk:k<3) (hm:m<8) {o:Nat→Tr} (ho:B.old k=some o):Db c v 20 (DGV k m):=by
  intro u d zf h A fx hd R
  have n2:u.ν 2=v.ν (10+k):=fx _ (.head _)
  have n3:u.ν 3=v.ν (17+k):=fx _ (.tail _ (.head _))
  have r3:u.p m (h (u.ν 1)):=R.ats 1 (.psym m) (AG.trans rfl)
  rw[A.p] at r3
  refine Au ((HB.pS m _ hm).mp r3) fun ep es e3 el eh=>?_
  have he:=eh k hk
  have hM:CN B m k=true:=by unfold CN;rw[ho];rfl
  rw[hM,← n2] at he
  refine JA (rc:=Ei B.ck (.ref (v.ν (17+k))) (B.row k) fun f=>stV B.ck (o f)) F HB hm A hd R (OV A he ?_) (Ao dgV k (List.mem_range.mpr hk)) e3 (fun z=>?_) (show 3≤4 by decide) rfl rfl (Ag rfl Ca) rfl
  · show some (V.ref (v.ν (17+k)))=some (V.ref (u.ν 3))
    rw[n3]
  · rw[A.p,HB.pB k _ hk,ho];exact Iff.rfl
end
end
section
noncomputable def Zx:Operator→Bool
  | .Add=>true
  | _=>false
noncomputable def pX:X→Option (Nat × List Nat × List X)
  | .str s=>some (0,s,[])
  | .loc n=>some (1,[n],[])
  | .bin op a b=>cond (Zx op) (some (2,[],[a,b])) none
  | .call f xs ks=>cond ks.isEmpty (some (3,[f],xs)) none
  | _=>none
noncomputable def mX (p:Nat × List Nat × List X):X:=cond (Nat.beq p.1 0) (.str p.2.1) (cond (Nat.beq p.1 1) (.loc (p.2.1.headD 0)) (cond (Nat.beq p.1 2) (.bin .Add (p.2.2.headD .none) (p.2.2.tail.headD .none)) (.call (p.2.1.headD 0) p.2.2 [])))
theorem XD {x:X} {p:Nat × List Nat × List X} (e:pX x=some p):x=mX p:=by
  cases x with
  | str s=>refine (oJ e)▸?_;rfl
  | loc s=>refine (oJ e)▸?_;rfl
  | bin op a b =>
    rcases Af e with ⟨z,e⟩ | ⟨_,e⟩
    · refine (oJ e)▸?_
      have:op=.Add:=by cases op<;>first | rfl | exact absurd z fT
      rw[this];rfl
    · exact nn e
  | call f xs ks =>
    rcases Af e with ⟨z,e⟩ | ⟨_,e⟩
    · refine (oJ e)▸(A4 z).symm▸?_;rfl
    · exact nn e
  | _=>exact nn e
noncomputable def Vh (f:X→X→Bool):List X→List X→Bool
  | [],b=>b.isEmpty
  | x::xs,b=>match b with
    | y::ys=>f x y&&Vh f xs ys
    | []=>false
noncomputable def XW (n:Nat):X→X→Bool:=@Nat.rec (fun _=>X→X→Bool) (fun _ _=>false) (fun _ ih x y=>ifS (pX x) fun p=>ifS (pX y) fun q=>Nat.beq p.1 q.1&&(seq p.2.1 q.2.1&&Vh ih p.2.2 q.2.2)) n
theorem VQ {f:X→X→Bool} (hf:∀ x y,f x y=true→x=y):∀ {xs ys:List X},Vh f xs ys=true→xs=ys:=by
  intro zl;induction zl with
  | nil =>
    intro b h
    exact (A4 h).symm
  | cons x xs ih =>
    intro b h
    cases b with
    | nil=>exact absurd h fT
    | cons y ys=>rw[hf _ _ (Aa h).1,ih (Aa h).2]
theorem Qh:∀ (n:Nat) (x y:X),XW n x y=true→x=y
  | n+1,x,y,h=>by
    refine BE h fun p e h=>?_
    refine BE h fun q e2 h=>?_
    refine Ad h fun h1 h=>?_
    refine Ad h fun h2 h3=>?_
    rw[XD e,XD e2]
    have:p=q:=Prod.ext (eN h1) (Prod.ext (Dq h2) (VQ (Qh n) h3))
    rw[this]
structure Lc where
  elt:X
  tg:List Nat
  one:Bool
  src:X
  ifs:List X
  own:List Nat
  ro:List Nat
noncomputable def lcV:X→Option Lc
  | .lcomp elt tg one src ifs own ro=>some ⟨elt,tg,one,src,ifs,own,ro⟩
  | _=>none
theorem Zn {x:X} {p:Lc} (e:lcV x=some p):x=.lcomp p.elt p.tg p.one p.src p.ifs p.own p.ro:=by
  cases x<;>first | exact nn e | (exact (oJ e)▸rfl)
noncomputable def WT:X:=.bin .Add (.str [102]) (.call 19 [.loc 272] [])
noncomputable def AaI (p:Lc):Bool:=XW 5 p.elt WT&&(seq p.tg [272]&&(p.one&&(p.ifs.isEmpty&&(seq p.own [272]&&p.ro.isEmpty))))
noncomputable def YD:WO→Option Nat
  | .lsym j=>some j
  | _=>none
noncomputable def okO {α:Type}:Rs α→Option α
  | .ok a=>some a
  | .er _=>none
noncomputable def kx (T:Tb) (x:X) (m:Mm) (σ:Sg):Option (Rs (W × Sg)):=(lcV x).bind fun p=>cond (AaI p) ((okO ((ev T KN 5).e p.src m σ)).bind fun q=>(AZ q.1).bind fun j=>(lo j q.2.L).bind fun o=>(YD o).bind fun a=>cond (Nat.ble 6 a&&Nat.blt a 12) (some (.ok (.ref q.2.n,⟨q.2.n+1,q.2.z,DR q.2.n (.lsym (a - 6)) q.2.L⟩))) none) none
structure UX (v:Vl):Prop where
  ok:∀ a,6≤a→a<12→∃ r:List Nat,(∀ f∈r,f<4)∧r.length≤4∧v.l a=(r.map fun f:Nat=>V.int f)∧v.l (a - 6)=nms r∧r.Pairwise (·≤·)
section
variable {c:Cx} {v:Vl} {zf:Nat→O} {h:H} {T:Tb} {σ:Sg} {m:Mm} {ml:Loc} {d:Nat}
theorem HR.subL (R:HR v zf σ h) {L:HT} (hL:∀ k o,lo k L=some o→lo k σ.L=some o):HR v zf ⟨σ.n,σ.z,L⟩ h :=
  ⟨fun k o e=>R.ats k o (hL k o e),R.fr,R.old,R.fz,fun k o e=>R.lt k o (hL k o e)⟩
theorem E.upn {d d':Nat} {x:X} {Q:V→H→Prop} (p:E c d' x ml h Q) (hd:d'≤d):E c d x ml h Q:=fun sc e ck A env F g s hA=>p sc e ck A env F g s (hA.down hd)
theorem SZ {f:Nat} (hf:f<4):(ev T KN 5).e WT ⟨[],[(272,some (.int f))]⟩ σ=.ok (.str (AB f),σ):=by
  cases f,hf using n4<;>rfl
theorem Np {r:List Nat} {f:Nat}:nms (r++[f])=nms r++[.str (AB f)]:=List.map_append
theorem Qf (VO:AO c v T) (F:Aq c) {src:X} {q:W × Sg} {j a:Nat} {r:List Nat} {k:Nat} (e:(ev T KN 5).e src m σ=.ok q) (hq:AZ q.1=some j) (ho:lo j q.2.L=some (.lsym a)) (M:MRl v m ml) (R:HR v zf σ h) (hd:5≤d)
    (h4:∀ f∈r,f<4) (hl:r.length≤4) (ha:v.l a=r.map fun f:Nat=>V.int f) (hk:v.l k=nms r) :
    E c d (.lcomp WT [272] true src [] [272] []) ml h (PV v zf (.ref q.2.n) ⟨q.2.n+1,q.2.z,DR q.2.n (.lsym k) q.2.L⟩):=by
  have I:C4 c v 5 (ev T KN 5):=Lg VO F GQ 5
  refine (Ha F.ok (v.ν q.2.n) rfl ((I.e e M R).mono fun y h₁ zy5a=>zy5a.elim fun y1 R1=>?_)).upn hd
  have e3:h₁ (v.ν j)=some (.list (r.map fun f:Nat=>V.int f)):=by
    have:=R1.ats j _ ho
    refine ha▸?_;exact this
  have R2:=R1.frz e3
  refine xA (R2.new VO (o:=.list []) (o':=.list []) rfl) fun n1 R3=>?_
  have n1:h₁ (v.ν q.2.n)=none:=n1
  have nz:(j::q.2.z).contains q.2.n=false:=by
    cases z:(j::q.2.z).contains q.2.n with
    | false=>rfl
    | true =>
      have:=R2.fz _ z
      rw[n1] at this;exact nn this
  have fin:∀ {acc h},HR v (Ef (Ef zf j (.list (r.map fun f:Nat=>V.int f))) q.2.n (.list acc)) ⟨q.2.n+1,q.2.n::j::q.2.z,q.2.L⟩ h→h (v.ν j)=some (.list (r.map fun f:Nat=>V.int f))∧h (v.ν q.2.n)=some (.list acc)∧HR v zf ⟨q.2.n+1,q.2.z,q.2.L⟩ h:=fun R=>by
    have a:=R.unf (z:=j::q.2.z) rfl fun y=>by
      rw[nz] at y;exact Bool.noConfusion y
    exact (iAA (a.fzk rfl) (R.fzk rfl) (a.unf (z:=q.2.z) rfl fun y=>oJ ((R1.fz _ y).symm.trans e3)))
  refine y1.symm▸(BQ hq).symm▸?_
  refine ⟨_,_,EH e3 (fun z=>absurd z fT),by rw[List.length_map];exact Nat.le_trans hl (by decide),n1,
    fun rs acc h=>∃ pre post,r=pre++post∧rs=(post.map fun f:Nat=>V.int f)∧acc=nms pre∧HR v (Ef (Ef zf j (.list (r.map fun f:Nat=>V.int f))) q.2.n (.list acc)) ⟨q.2.n+1,q.2.n::j::q.2.z,q.2.L⟩ h,?_,(Fn ([]) r rfl rfl rfl ?_),?_,?_⟩
  · rintro rs acc h ⟨_,_,_,_,_,R⟩
    exact ⟨(fin R).1,(fin R).2.1⟩
  · refine (R3.frz Aj).subL fun k' o z=>?_
    show lo k' (DR q.2.n (.list []) q.2.L)=_
    rw[Ci,AQ (fun y=>by have:=R1.lt k' o z;exact q57 y this)];exact z
  · rintro y rs acc h ⟨pre,post,p1,p2,p3,R⟩
    cases post with
    | nil=>cases p2
    | cons f post =>
      injection p2 with p2 p4
      refine xAA (H8 (Pt M (ns:=[272]) (ro:=[])) (ns:=[272]) (one:=true) (y:=.int f) (m':=⟨[],[(272,some (.int f))]⟩) rfl) fun _ b2 b3=>?_
      have p2':y=den v (.int f):=p2
      refine p2'.symm▸?_
      refine ⟨b2,(I.e (SZ (h4 f (by rw[p1];exact List.mem_append_right _ (.head _)))) b3 R).mono fun x h₃ zy8a=>zy8a.elim fun y2 R4=>⟨(fin R4).2.1,pre++[f],post,by rw[p1,List.append_assoc];rfl,p4,by rw[p3,y2,Np];rfl,?_⟩⟩
      refine y2.symm▸p3.symm▸?_
      refine (R4.upz VO rfl (o:=.list ((pre++[f]).map fun f=>.str (AB f))) (o':=.list (nms pre++[.str (AB f)])) ?_).subL fun k' o z=>?_
      · show some (O.list _)=some (O.list (Ap _ _))
        rw[FI,Np]
      · refine Ci.symm▸(AQ (fun y=>by have:=R1.lt k' o z;exact q57 y this)).symm▸?_;exact z
  · rintro acc h ⟨pre,post,p1,p2,p3,R⟩
    cases post with
    | cons _ _=>cases p2
    | nil =>
      refine xAA (fin R) fun _ f2 f3=>?_
      rw[List.append_nil] at p1
      refine ⟨rfl,fun k' o z=>?_,f3.fr,f3.old,f3.fz,fun k' o z=>?_⟩
      · rw[Ci] at z
        rcases Af z with ⟨z1,z⟩ | ⟨_,z⟩
        · refine (eN z1).symm▸(oJ z)▸?_
          show h (v.ν q.2.n)=some (.list (v.l k))
          rw[f2,hk,p3,p1]
        · exact f3.ats k' o z
      · rw[Ci] at z
        rcases Af z with ⟨z1,_⟩ | ⟨_,z⟩
        · rw[eN z1];exact Nat.lt_succ_self _
        · exact f3.lt k' o z
theorem UB (VO:AO c v T) (F:Aq c) (NM:UX v) {x:X} {p:W × Sg} (hd:5≤d) (e:kx T x m σ=some (.ok p)) (M:MRl v m ml) (R:HR v zf σ h):E c d x ml h (PV v zf p.1 p.2):=by
  refine Am e fun l e1 e=>?_
  rcases Af e with ⟨z,e⟩ | ⟨_,e⟩
  · refine Am e fun q e2 e=>?_
    refine Am e fun j e3 e=>?_
    refine Am e fun o e4 e=>?_
    refine Am e fun a e5 e=>?_
    rcases Af e with ⟨y,e⟩ | ⟨_,e⟩
    · refine Ad z fun z1 z=>?_
      refine Ad z fun z2 z=>?_
      refine Ad z fun z3 z=>?_
      refine Ad z fun z4 z=>?_
      refine Ad z fun z5 z6=>?_
      obtain ⟨r,r1,r2,r3,r4,_⟩:=NM.ok a (lB (Aa y).1) (lB (Aa y).2)
      have e2:(ev T KN 5).e l.src m σ=.ok q:=by
        cases w:(ev T KN 5).e l.src m σ with
        | ok b=>rw[w] at e2;rw[oJ e2]
        | er _=>rw[w] at e2;exact nn e2
      have e5:o=.lsym a:=by cases o<;>first | exact congrArg WO.lsym (oJ e5) | exact nn e5
      refine (Zn e1).symm▸(Qh _ _ _ z1).symm▸(Dq z2).symm▸z3.symm▸(A4 z4).symm▸(Dq z5).symm▸(A4 z6).symm▸(AM (oJ e))▸?_
      exact Qf VO F e2 e3 (by rw[e4,e5]) M R hd r1 r2 r3 r4
    · exact nn e
  · exact nn e
end
end
section
noncomputable def at1 (s:List Nat):Nat:=s.getD 1 0
theorem ltc {f g:Nat} (e:ltCps (AB g) (AB f)=false):f≤g:=by
  have e:(decide (102<102) || (102==102&&(decide (48+g<48+f) || (48+g==48+f&&false))))=false:=e
  rw[Bool.and_false,Bool.or_false] at e
  lia
theorem ris:∀ {l:List (List Nat)} {p:List Nat},(∀ x∈p::l,∃ f,x=AB f)→risingS (ofL p) (l.map ofL)=true→(p::l).Pairwise (fun a b=>at1 a≤at1 b):=by
  intro zl;induction zl with
  | nil =>
    intro p _ _
    exact List.pairwise_singleton ..
  | cons x l ih =>
    intro p hx e
    refine Ad e fun e1 e2=>?_
    refine xE (hx p (.head _)) fun f zz1b=>?_;obtain rfl:=zz1b
    refine xE (hx x (.tail _ (.head _))) fun g zz2b=>?_;obtain rfl:=zz2b
    have le:f≤g:=ltc (A9 e1)
    have ih:=ih (fun y hy=>hx y (.tail _ hy)) e2
    refine List.pairwise_cons.mpr ⟨fun y hy=>?_,ih⟩
    have fg:at1 (AB f)≤at1 (AB g):=Nat.add_le_add_left le 48
    rcases List.mem_cons.mp hy with rfl | hy
    · exact fg
    · exact Nat.le_trans fg ((List.pairwise_cons.mp ih).1 y hy)
theorem KU {r:List Nat} (hr:r.Pairwise (·≤·)) {ss:List (List Nat)} (hp:ss.Perm (r.map AB)) (ho:WF ss):ss=r.map AB:=by
  have hx:∀ x∈ss,∃ f,x=AB f:=fun x hx=>by
    refine Dt (hp.mem_iff.mp hx) fun f _ e=>?_
    exact ⟨f,e.symm⟩
  refine List.Perm.eq_of_pairwise (le:=fun a b=>at1 a≤at1 b) (fun a b ha hb h1 h2=>?_) ?_ ?_ hp
  · refine xE (hx a ha) fun f zz3b=>?_;obtain rfl:=zz3b
    refine Dt hb fun g _ zz6c=>?_;obtain rfl:=zz6c
    have:f=g:=by exact q58 h1 h2
    rw[this]
  · cases ss with
    | nil=>exact .nil
    | cons p l=>exact ris hx ho
  · exact List.pairwise_map.mpr (hr.imp fun h=>Nat.add_le_add_left h 48)
noncomputable def sb (f:Nat) (vs:List W) (σ:Sg):Option (Rs (W × Sg)):=cond (Nat.beq f 12) (match vs with
  | [w]=>(AZ w).bind fun j=>(lo j σ.L).bind fun o=>match o with
    | .lsym a=>cond (Nat.blt a 6) (some (.ok (.ref σ.n,⟨σ.n+1,σ.z,DR σ.n (.lsym a) σ.L⟩))) none
    | .list xs=>cond xs.isEmpty (some (.ok (.ref σ.n,⟨σ.n+1,σ.z,DR σ.n (.list []) σ.L⟩))) none
    | _=>none
  | _=>none) none
section
variable {c:Cx} {v:Vl} {zf:Nat→O} {h:H} {T:Tb} {σ:Sg} {d:Nat}
theorem Qb (VO:AO c v T) {j:Nat} {o:WO} {r:List Nat} (e:h (v.ν j)=some (.list (nms r))) (hr:r.Pairwise (·≤·)) (hl:r.length≤4) (ho:OR v o (some (.list (nms r)))) (R:HR v zf σ h) :
    Av c d (.builtin "sorted") [.ref (v.ν j)] [] [] h (PV v zf (.ref σ.n) ⟨σ.n+1,σ.z,DR σ.n o σ.L⟩):=by
  have em:nms r=(r.map AB).map V.str:=(List.map_map ..).symm
  rw[em] at e
  refine IG e (by rw[List.length_map];exact Nat.lt_of_le_of_lt hl (by decide)) (R.fr _ (Nat.le_refl _)) fun ss hp ho'=>⟨rfl,?_⟩
  refine (KU hr hp ho').symm▸em▸?_
  exact (R.new VO ho).2
theorem Y3 (VO:AO c v T) (NM:UX v) {f:Nat} {fv:Value} {vs:List W} {p:W × Sg} (e:sb f vs σ=some (.ok p)) (hf:AR[f]?=some (some fv)) (R:HR v zf σ h):Av c d fv (Ap v vs) [] [] h (PV v zf p.1 p.2):=by
  rcases Af e with ⟨z,e⟩ | ⟨_,e⟩
  · rw[eN z] at hf
    refine (oJ (oJ hf))▸?_
    match vs,e with
    | [w],e =>
      refine Am e fun j e1 e=>?_
      refine Am e fun o e2 e=>?_
      have y:=R.ats _ _ e2
      refine (BQ e1).symm▸?_
      match o,e with
      | .lsym a,e =>
        rcases Af e with ⟨z,e⟩ | ⟨_,e⟩
        · have z:a<6:=lB z
          obtain ⟨r,_,r2,_,r4,r5⟩:=NM.ok (a+6) (Nat.le_add_left _ _) (by exact Nat.add_lt_of_lt_sub z)
          rw[Nat.add_sub_cancel] at r4
          refine (AM (oJ e))▸?_
          have y:h (v.ν j)=some (.list (v.l a)):=y
          rw[r4] at y
          exact Qb VO y r5 r2 (by show some (O.list _)=some (.list (v.l a));rw[r4]) R
        · exact nn e
      | .list xs,e =>
        rcases Af e with ⟨z,e⟩ | ⟨_,e⟩
        · rw[A4 z] at y
          refine (AM (oJ e))▸?_
          exact Qb (r:=[]) VO y .nil (by decide) rfl R
        · exact nn e
      | .inst _ _,e=>exact nn e
      | .dict _,e=>exact nn e
      | .set _,e=>exact nn e
      | .dsym _,e=>exact nn e
      | .psym _,e=>exact nn e
  · exact nn e
end
end
section
noncomputable def Sz (k:Nat) (σ:Sg) (n:Nat):Option W:=(lo k σ.L).bind fun o=>(Hs o).bind fun p=>Ah n p.2
noncomputable def XH:WO→Option Nat
  | .psym j=>some j
  | _=>none
noncomputable def kOf (s:List Nat):Nat:=s.getD 1 0 - 48
noncomputable def bkM (b:Nat) (σ:Sg):Option Nat:=(Sz b σ 30).bind fun w=>(AZ w).bind fun s=>(lo s σ.L).bind XH
noncomputable def mgM (g:Nat) (σ:Sg):Option Nat:=(Sz g σ 52).bind fun w=>(AZ w).bind fun b=>bkM b σ
noncomputable def tkK (t:Nat) (σ:Sg):Option Nat:=(Sz t σ 59).bind fun w=>(BP w).bind fun s=>cond (Nat.blt (kOf s) 3) (some (kOf s)) none
noncomputable def lsK (l:W) (σ:Sg):Option Nat:=(AZ l).bind fun j=>(lo j σ.L).bind fun o=>(YD o).bind fun a=>cond (Nat.blt a 3) (some a) none
noncomputable def Zo (ck dm k m:Nat) (r:Nat):Option Ct:=cond (Nat.blt m 8) (cond (Nat.beq r (10+k))
    (cond (Nat.testBit m k) none (some (cond (Nat.testBit dm k) (gsC ck k m r Qz (.lsym (3+k))) (gsC ck k m r sUp (.list [])))))
    (cond (Nat.testBit m k&&Nat.beq r (1000+8*((r - 1000) / 8)+k)) (some (gsC ck k m r sUp (.list []))) none)) none
noncomputable def csB (ck dm:Nat) (f:Nat) (vs:List W) (σ:Sg):Option Ct :=
  cond (Nat.beq f 612) ((lsK (vs.getD 1 .none) σ).map EF)
  (cond (Nat.beq f 774) ((lsK (vs.getD 2 .none) σ).map AI)
  (cond (Nat.beq f 89) ((AZ (vs.getD 0 .none)).bind fun b=>(BP (vs.getD 1 .none)).bind fun s=>(BP (vs.getD 2 .none)).bind fun t=>(bkM b σ).bind fun m=>cond (Nat.blt (kOf s) 3&&(Nat.blt m 8&&!Nat.testBit m (kOf s))) (cond (seq t EZ) (some (DGI (kOf s) m)) (cond (Nat.testBit dm (kOf s)) none (some (DGV (kOf s) m)))) none)
  (cond (Nat.beq f 373) ((AZ (vs.getD 0 .none)).bind fun g=>(AZ (vs.getD 1 .none)).bind fun t=>(mgM g σ).bind fun m=>(tkK t σ).bind fun k=>(lo (10+k) σ.L).bind fun o=>(XH o).bind fun r=>Zo ck dm k m r)
  (cond (Nat.beq f 325) ((AZ (vs.getD 0 .none)).bind fun g=>(AZ (vs.getD 1 .none)).bind fun t=>(mgM g σ).bind fun m=>(tkK t σ).bind fun k=>(Sz t σ 6).bind fun w=>(AZ w).bind fun q=>cond (Nat.blt m 8&&!Nat.testBit m k) (some (svC ck k m q)) none) none))))
noncomputable def QH:S→List S
  | .for1 _ _ b=>b
  | _=>[]
noncomputable def Gs (l:List S) (n:Nat):S:=l.getD n .bad
noncomputable def Dd:List S:=QH (Gs (QH (Gs A3.body 6)) 3)
noncomputable def M4:List S:=Dd.drop 4
noncomputable def two (w:Nat) (a b:W):WO:=.list (cond (Nat.beq w 0) [a,b] [b,a])
noncomputable def Rw (dm k:Nat):WO:=cond (Nat.testBit dm k) (.lsym (9+k)) (.list [])
noncomputable def vdO (dm k:Nat):List (Nat × WO):=cond (Nat.testBit dm k) [] [(17+k,.dict [])]
noncomputable def I9 (w dm:Nat):List (Nat × WO):=[(0,.list [.ref 1,.ref 2,.ref 3]),(1,.lsym 6),(2,.lsym 7),(3,.lsym 8),(4,CR),(5,.lsym 12),(6,two w (.ref 7) (.sym 24)),(7,.psym 0),(8,two w (.ref 9) (.sym 25)),(9,.list [.sym 30,.sym 31,.sym 32]),
  (10,.psym 10),(11,.psym 11),(12,.psym 12),(13,.list [.ref 14,.ref 15,.ref 16]),(14,Rw dm 0),(15,Rw dm 1),(16,Rw dm 2)]++(vdO dm 0++(vdO dm 1++vdO dm 2))
noncomputable def FM (w:Nat):Mm:=⟨[],[(279,none),(280,none),(281,none),(271,some (.ref 0)),(26,none),(282,none),(283,some (.sym 26)),(284,some (.ref 6)),(156,some (.ref 8)),(285,none),(286,some (.sym 27)),(35,some (.ref 4)),(287,some (.sym 28)),(273,some (.int w)),(288,some (.ref 5)),(289,some (.ref 13)),(290,none),(291,none),(58,none),(47,none),(232,none),(292,none),(293,none),(59,none)]⟩
noncomputable def emT (dm k:Nat):List (Nat × Bool):=cond (Nat.testBit dm k) [(9+k,false)] []
noncomputable def KB (dm:Nat):Tb:=⟨[],emT dm 0++(emT dm 1++emT dm 2),[((3,3),true),((4,4),true),((5,5),true)],[],[],[]⟩
noncomputable def Uo (w dm:Nat):Hk:=⟨50,hkc (csB (4+w) dm),sb,kx (KB dm)⟩
noncomputable def YR (N w dm:Nat) (k:Nat):Rs (AU × Mm × Sg):=BW (ev (KB dm) (Uo w dm) N) (M4.take k) (FM w) ⟨20,[],ofT (I9 w dm)⟩
end
section
section
variable {c:Cx} {v:Vl} {B:Bd} {dm:Nat}
theorem AV {a b:Nat} (e:Nat.blt a b=true):a<b:=lB e
theorem Db.up {D D':Nat} {C:Ct} (H:Db c v D C) (hd:D≤D'):Db c v D' C:=fun u d zf h A fx hd' R=>H u d zf h A fx (Nat.le_trans hd hd') R
noncomputable def Jr (B:Bd) (dm:Nat):Prop:=∀ k,k<3→Nat.testBit dm k=!(due B k).isEmpty
theorem Ku {k:Nat} (e:B.old k=none):due B k=B.row k:=by
  refine List.filter_eq_self.mpr fun f _=>?_
  unfold chg
  rw[e]
theorem KH {k:Nat} {o:Nat→Tr} (e:B.old k=some o):due B k=(B.row k).filter fun f=>md B.ck (B.cur f) (o f):=by
  refine List.filter_congr fun f _=>?_
  unfold chg
  rw[e]
theorem H9 {k m:Nat} {o:Nat→Tr} (e:B.old k=some o):CN B m k=true:=by unfold CN;rw[e];rfl
theorem H6 {k m:Nat} (e:B.old k=none) (b:Nat.testBit m k=false):CN B m k=false:=by unfold CN;rw[e,b];rfl
theorem Tc {ck:Nat} {x:Tr}:md ck x x=false:=by
  have:(x.1==x.1)=true:=beq_self_eq_true _
  unfold md;refine this.symm▸?_;cases Nat.beq ck 4<;>rfl
theorem DQ (HB:BS v B) {k:Nat} (hk:k<3) (e:(due B k).isEmpty=true):∃ o,B.old k=some o:=by
  cases q:B.old k with
  | some o=>exact ⟨o,rfl⟩
  | none=>rw[Ku q] at e;exact absurd (A4 e) (Ju (HB.row k hk))
theorem Ua (HD:Jr B dm) {k:Nat} (hk:k<3) (d:Nat.testBit dm k=false):(due B k).isEmpty=true:=by
  have D:=HD k hk
  rw[d] at D
  cases z:(due B k).isEmpty with
  | true=>rfl
  | false=>rw[z] at D;exact Bool.noConfusion D
theorem TT (F:Aq c) (HB:BS v B) (HD:Jr B dm) {k m r:Nat} {C:Ct} (hk:k<3) (e:Zo B.ck dm k m r=some C):Db c v 50 C:=by
  rcases Af e with ⟨hm,e⟩ | ⟨_,e⟩
  · have hm:m<8:=lB hm
    have D:=HD k hk
    rcases Af e with ⟨hr,e⟩ | ⟨_,e⟩
    · rw[eN hr] at e
      rcases Af e with ⟨_,e⟩ | ⟨hb,e⟩
      · exact nn e
      · refine (oJ e)▸?_
        have pr:∀ {o},B.old k=some o→∀ x,v.p (10+k) x↔∃ ep,x=some (.dict ep (Ei B.ck (.ref (v.ν (17+k))) (B.row k) fun f=>stV B.ck (o f))):=fun {o} q x=>by
          have:=HB.pB k x hk
          rw[q] at this;exact this
        cases d:Nat.testBit dm k with
        | true =>
          rw[d] at D
          have de:(due B k).isEmpty=false:=A9 D.symm
          cases q:B.old k with
          | some o =>
            have s:=KH q
            exact J5 F HB hk hm (H9 q) (pr q) (.inr (L6 (by refine s▸?_;exact de) rfl rfl (by refine s▸?_;exact HB.l3 k hk)))
          | none=>exact Xb F HB hk hm (H6 q hb) (by rw[HB.l3 k hk,Ku q])
        | false =>
          have de:=Ua HD hk d
          refine xE (DQ HB hk de) fun o q=>?_
          exact J5 F HB hk hm (H9 q) (pr q) (.inl (iAA (by refine (KH q)▸?_;exact de) rfl rfl))
    · rcases Af e with ⟨hb,e⟩ | ⟨_,e⟩
      · refine Ad hb fun b hr=>?_
        refine (oJ e)▸(eN hr).symm▸?_
        refine J5 F HB hk hm (by unfold CN;rw[b];exact Bool.or_true _) (fun x=>HB.pA k _ x hk) (.inl (iAA ?_ rfl rfl))
        have:((B.row k).filter fun f=>md B.ck (B.cur f) (B.cur f))=[]:=List.filter_eq_nil_iff.mpr fun f _=>by rw[Tc];exact fT
        rw[this];rfl
      · exact nn e
  · exact nn e
theorem LN {l:W} {σ:Sg} {a:Nat} (e:lsK l σ=some a):a<3:=by
  refine Am e fun j _ e=>?_
  refine Am e fun o _ e=>?_
  refine Am e fun b _ e=>?_
  rcases Af e with ⟨z,e⟩ | ⟨_,e⟩
  · refine (oJ e)▸?_;exact AV z
  · exact nn e
theorem Rn {t:Nat} {σ:Sg} {a:Nat} (e:tkK t σ=some a):a<3:=by
  refine Am e fun j _ e=>?_
  refine Am e fun o _ e=>?_
  rcases Af e with ⟨z,e⟩ | ⟨_,e⟩
  · refine (oJ e)▸?_;exact AV z
  · exact nn e
theorem Vw (F:Aq c) (HB:BS v B) (HD:Jr B dm) {k m:Nat} {t:List Nat} {C:Ct} (e:cond (Nat.blt k 3&&(Nat.blt m 8&&!Nat.testBit m k)) (cond (seq t EZ) (some (DGI k m)) (cond (Nat.testBit dm k) none (some (DGV k m)))) none=some C):Db c v 50 C:=by
  rcases Af e with ⟨g,e⟩ | ⟨_,e⟩
  · refine Ad g fun g1 g=>?_
    refine Ad g fun g2 g3=>?_
    rcases Af e with ⟨_,e⟩ | ⟨_,e⟩
    · rw[← oJ e];exact (Va F HB (AV g1) (AV g2) fun q=>H6 q (A9 g3)).up (by decide)
    · rcases Af e with ⟨_,e⟩ | ⟨d,e⟩
      · exact nn e
      · refine xE (DQ HB (AV g1) (Ua HD (AV g1) d)) fun o q=>?_
        rw[← oJ e];exact (Xq F HB (AV g1) (AV g2) q).up (by decide)
  · exact nn e
theorem VD (F:Aq c) (HB:BS v B) {k m q:Nat} {C:Ct} (hk:k<3) (e:cond (Nat.blt m 8&&!Nat.testBit m k) (some (svC B.ck k m q)) none=some C):Db c v 50 C:=by
  rcases Af e with ⟨g,e⟩ | ⟨_,e⟩
  · rw[← oJ e]
    cases z:B.old k with
    | some o=>exact Tv F HB hk (AV (Aa g).1) (H9 z) z
    | none=>exact U2 F HB hk (AV (Aa g).1) (H6 z (A9 (Aa g).2))
  · exact nn e
theorem VS (F:Aq c) (HB:BS v B) (HD:Jr B dm) {f:Nat} {vs:List W} {σ:Sg} {C:Ct} (e:csB B.ck dm f vs σ=some C):Db c v 50 C:=by
  rcases Af e with ⟨_,e⟩ | ⟨_,e⟩
  · refine C0 e fun a e1 e=>?_
    rw[← e];exact (Uu F HB (LN e1)).up (by decide)
  rcases Af e with ⟨_,e⟩ | ⟨_,e⟩
  · refine C0 e fun a e1 e=>?_
    rw[← e];exact (YN F HB (LN e1)).up (by decide)
  rcases Af e with ⟨_,e⟩ | ⟨_,e⟩
  · refine Am e fun _ _ e=>?_;refine Am e fun _ _ e=>?_;refine Am e fun _ _ e=>?_;refine Am e fun _ _ e=>?_
    exact Vw F HB HD e
  rcases Af e with ⟨_,e⟩ | ⟨_,e⟩
  · refine Am e fun _ _ e=>?_;refine Am e fun _ _ e=>?_;refine Am e fun _ _ e=>?_;refine Am e fun _ e4 e=>?_;refine Am e fun _ _ e=>?_;refine Am e fun _ _ e=>?_
    exact TT F HB HD (Rn e4) e
  rcases Af e with ⟨_,e⟩ | ⟨_,e⟩
  · refine Am e fun _ _ e=>?_;refine Am e fun _ _ e=>?_;refine Am e fun _ _ e=>?_;refine Am e fun _ e4 e=>?_;refine Am e fun _ _ e=>?_;refine Am e fun _ _ e=>?_
    exact VD F HB (Rn e4) e
  · exact nn e
theorem OC {h:H} {n:Nat}:∀ {r:List Nat},BA (eqD h (n+1)) (nms r) (nms r)=some true:=by
  intro zl;induction zl with
  | nil =>
    exact rfl
  | cons f r ih =>
    show Qk (some (AB f==AB f)) (BA (eqD h (n+1)) (nms r) (nms r))=some true
    rw[ih,beq_self_eq_true];rfl
noncomputable def nts (r:List Nat):List V:=r.map fun f:Nat=>V.int f
structure BdI (v:Vl) (B:Bd):Prop where
  l6:∀ k,k<3→v.l (6+k)=nts (B.row k)
  l9:∀ k,k<3→v.l (9+k)=nts (due B k)
theorem F9 {r:List Nat} (hr:r∈A5):r.length≤4∧r.Pairwise (·≤·):=by
  have:∀ r∈A5,r.length≤4∧r.Pairwise (·≤·):=by decide
  exact this r hr
theorem W1 (HB:BS v B) {k:Nat} (hk:k<3):∀ f∈due B k,f<4:=fun f hf=>Bk (HB.row k hk) f (List.mem_filter.mp hf).1
theorem Nv (HB:BS v B) {k:Nat} (hk:k<3):(due B k).length≤4:=Nat.le_trans (List.length_filter_le ..) (F9 (HB.row k hk)).1
theorem Pk (HB:BS v B) (HI:BdI v B):UX v:=⟨fun a ha hb=>by
  by_cases z:a<9
  · have hk:a - 6<3:=by exact Nat.sub_lt_left_of_lt_add ha z
    refine (Pg (B.row (a - 6)) (Bk (HB.row _ hk)) ((F9 (HB.row _ hk)).1) ?_ (HB.l0 _ hk) ((F9 (HB.row _ hk)).2))
    exact (congrArg v.l (show a=6+(a - 6) by exact Eq.symm (Nat.add_sub_of_le ha))).trans (HI.l6 _ hk)
  · have hk:a - 9<3:=by exact q59 hb
    refine (Pg (due B (a - 9)) (W1 HB hk) (Nv HB hk) ?_ ?_ ((F9 (HB.row _ hk)).2.filter _))
    · exact (congrArg v.l (show a=9+(a - 9) by exact q60 z)).trans (HI.l9 _ hk)
    · exact (congrArg v.l (show a - 6=3+(a - 9) by exact q61 z)).trans (HB.l3 _ hk)⟩
theorem QV {dm k j:Nat} {b:Bool} {l:List (Nat × Bool)} (e:Ah j (emT dm k++l)=some b):(Nat.testBit dm k=true∧j=9+k∧b=false)∨Ah j l=some b:=by
  unfold emT at e
  cases d:Nat.testBit dm k with
  | false=>rw[d] at e;exact .inr e
  | true =>
    rw[d] at e
    rcases Af e with ⟨z,e⟩ | ⟨_,e⟩
    · exact .inl (iAA rfl (eN z) ((oJ e).symm))
    · exact .inr e
theorem Pv (HB:BS v B) (HI:BdI v B) (HD:Jr B dm) (inj:∀ a b,v.ν a=v.ν b→a=b) (tab:∀ sc x,c.code sc=some x→(∀ k,v.ν k≠x.2.2)∧v.h x.2.2=some (.tab x.2.1)):AO c v (KB dm):=by
  refine ⟨inj,tab,fun _ _ _ e=>nn e,fun j b e=>?_,fun i j b e h n=>?_,fun _ _ _ e=>nn e,fun _ e=>absurd e fT,fun _ _ _ _ e=>nn e,fun _ _ _ e=>nn e⟩
  · have one:∀ {k},k<3→Nat.testBit dm k=true→(v.l (9+k)).isEmpty=false∧(v.l (9+k)).length≤900:=fun {k} hk d=>by
      refine (HI.l9 k hk).symm▸?_
      unfold nts
      rw[List.isEmpty_map,List.length_map]
      exact ⟨A9 ((HD k hk).symm.trans d),Nat.le_trans (Nv HB hk) (by decide)⟩
    rcases QV e with ⟨d,rfl,rfl⟩ | e
    · exact one (by decide) d
    rcases QV e with ⟨d,rfl,rfl⟩ | e
    · exact one (by decide) d
    have e:Ah j (emT dm 2++[])=some b:=by rw[List.append_nil];exact e
    rcases QV e with ⟨d,rfl,rfl⟩ | e
    · exact one (by decide) d
    · exact nn e
  · have one:∀ {k},k<3→(if (v.l (3+k)).length=(v.l (3+k)).length then BA (eqD h (n+1)) (v.l (3+k)) (v.l (3+k)) else some false)=some true:=fun {k} hk=>by
      rw[if_pos rfl,HB.l3 k hk];exact OC
    have eq:∀ {k},(Nat.beq i k&&Nat.beq j k)=true→i=k∧j=k:=fun z=>⟨eN (Aa z).1,eN (Aa z).2⟩
    rcases Af e with ⟨z,e⟩ | ⟨_,e⟩
    · refine ((eq z).1).symm▸((eq z).2).symm▸(oJ e)▸?_;exact one (k:=0) (by decide)
    rcases Af e with ⟨z,e⟩ | ⟨_,e⟩
    · refine ((eq z).1).symm▸((eq z).2).symm▸(oJ e)▸?_;exact one (k:=1) (by decide)
    rcases Af e with ⟨z,e⟩ | ⟨_,e⟩
    · refine ((eq z).1).symm▸((eq z).2).symm▸(oJ e)▸?_;exact one (k:=2) (by decide)
    · exact nn e
theorem Pa (F:Aq c) {w:Nat} (hw:B.ck=4+w) (HB:BS v B) (HI:BdI v B) (HD:Jr B dm) (VO:AO c v (KB dm)):IH c v (Uo w dm) :=
  ⟨fun hd e R=>Kh VO (fun f vs σ C e=>VS F HB HD (by rw[hw];exact e)) hd e R,fun _ e hf R=>Y3 VO (Pk HB HI) e hf R,fun hd e M R=>UB VO F (Pk HB HI) (Nat.le_trans (by show 5≤50;decide) hd) e M R⟩
end
noncomputable def Ql:List (Nat × W):=[(271,.ref 0),(283,.sym 26),(284,.ref 6),(156,.ref 8),(286,.sym 27),(35,.ref 4),(287,.sym 28)]
noncomputable def qOf (k:Nat) (σ:Sg):Nat:=match lo (10+k) σ.L with
  | some (.psym j)=>(j - 1000) / 8
  | _=>0
noncomputable def Kx (dm k:Nat):W:=cond (Nat.testBit dm k) (.ref 5) (.sym (30+k))
noncomputable def Wg (dm k q:Nat):Nat:=cond (Nat.testBit dm k) (1000+8*q+k) (10+k)
noncomputable def Wh (dm k q:Nat):Nat:=cond (Nat.testBit dm k) q (17+k)
noncomputable def Uz (w dm:Nat):List (Nat × WO):=[(0,.list [.ref 1,.ref 2,.ref 3]),(1,.lsym 6),(2,.lsym 7),(3,.lsym 8),(4,CR),(5,.lsym 12),(6,two w (.ref 7) (.sym 24)),(7,.psym dm),(8,two w (.ref 9) (.sym 25)),(9,.list [Kx dm 0,Kx dm 1,Kx dm 2])]
noncomputable def okL (σ:Sg) (q:Nat × WO):Bool:=ifS (lo q.1 σ.L) (SS q.2)
noncomputable def ZE (w dm:Nat) (m:Mm) (σ:Sg):Bool:=σ.z.isEmpty&&((FM w).rw.all (fun p=>(Ah p.1 m.rw).isSome)&&(Ql.all (fun p=>ifS (Ah p.1 m.rw) fun o=>ifS o (My p.2))&&((Uz w dm).all (okL σ)&&(List.range 3).all fun k=>okL σ (10+k,.psym (Wg dm k (qOf k σ)))&&okL σ (Wh dm k (qOf k σ),.dict []))))
noncomputable def Vy (dm:Nat) (σ:Sg):Bool:=(List.range 3).all fun k=>cond (Nat.testBit dm k) (Nat.ble 20 (qOf k σ)&&(List.range 3).all fun j=>cond (Nat.testBit dm j) (Nat.beq j k || !Nat.beq (qOf j σ) (qOf k σ)) true) true
noncomputable def XK (w dm:Nat) (x:Rs (AU × Mm × Sg)):Bool:=match x with
  | .ok p=>HC p.1&&(ZE w dm p.2.1 p.2.2&&Vy dm p.2.2)
  | .er _=>false
noncomputable def De (w dm:Nat):Bool:=XK w dm (YR 110 w dm 20)
theorem Wu {w dm:Nat} {x:Rs (AU × Mm × Sg)} (e:XK w dm x=true):∃ m σ,x=.ok (.nx,m,σ)∧ZE w dm m σ=true∧Vy dm σ=true:=by
  cases x with
  | er _=>exact absurd e fT
  | ok p =>
    refine Ad e fun e1 e=>?_
    refine Ad e fun e2 e3=>?_
    exact (Al p.2.1 p.2.2 (by exact (N0 e1)▸rfl) e2 e3)
end
section
theorem Zt:(De 0 0&&De 1 0)=true:=by decide +kernel
theorem Yt:(De 0 1&&De 1 1)=true:=by decide +kernel
theorem Ye:(De 0 2&&De 1 2)=true:=by decide +kernel
theorem XR:(De 0 3&&De 1 3)=true:=by decide +kernel
theorem Yv:(De 0 4&&De 1 4)=true:=by decide +kernel
theorem Zk:(De 0 5&&De 1 5)=true:=by decide +kernel
theorem Zz:(De 0 6&&De 1 6)=true:=by decide +kernel
theorem Y0:(De 0 7&&De 1 7)=true:=by decide +kernel
theorem Aax {w dm:Nat} (hw:w<2) (hd:dm<8):De w dm=true:=by
  have k:∀ {d},(De 0 d&&De 1 d)=true→De w d=true:=fun e=>(by cases w,hw using n2;exact ((Aa e).1);exact ((Aa e).2))
  cases dm,hd using n8;exact (k Zt);exact (k Yt);exact (k Ye);exact (k XR);exact (k Yv);exact (k Zk);exact (k Zz);exact (k Y0)
end
section
structure Rc where
  o:Nat→Nat
  ts:Nat
  tr:Nat
  tv:Nat
  q:Nat
noncomputable def Rc.rid (r:Rc) (k:Nat):Id:=(r.tr,0,10+k)
noncomputable def Rc.vid (r:Rc):Id:=(r.tv,0,r.q)
noncomputable def Rc.sid (r:Rc):Id:=(r.ts,2,5)
noncomputable def stI (w:Nat):Id:=(0,3+w,7)
noncomputable def lsI (w:Nat):Id:=(0,3+w,9)
section
variable (w tn t:Nat) (R:Nat→Option Rc)
noncomputable def tgT:List (Nat × Nat × Nat):=[(0,0,2),(1,0,2),(2,0,2),(3,0,2),(4,tn,2),(5,t,2),(6,0,2),(7,0,3+w),(8,0,2),(9,0,3+w),(10,((R 0).map Rc.tr).getD t,0),(11,((R 1).map Rc.tr).getD t,0),(12,((R 2).map Rc.tr).getD t,0),(13,t,2),(14,t,2),(15,t,2),(16,t,2)]
noncomputable def tg (k:Nat):Nat × Nat:=(Ah k (tgT w tn t R)).getD (t,0)
noncomputable def vK (k:Nat):Option Rc:=cond (Nat.ble 17 k&&Nat.blt k 20) (R (k - 17)) none
noncomputable def nuL (k:Nat):Id:=match vK R k with
  | some r=>r.vid
  | none=>((tg w tn t R k).1,(tg w tn t R k).2,k)
structure Fq:Prop where
  lt:∀ k r,k<3→R k=some r→r.ts<t∧r.tr<t∧r.tv<t∧20≤r.q∧r.tr % 2=(w+1) % 2∧r.tv % 2=(w+1) % 2
  ne:∀ j k r s,j<3→k<3→R j=some r→R k=some s→r.tv=s.tv→r.q=s.q→j=k
end
section
variable {w tn t:Nat} {R:Nat→Option Rc}
theorem KA {k:Nat} {r:Rc} (e:vK R k=some r):∃ j,j<3∧k=17+j∧R j=some r:=by
  rcases Af e with ⟨z,e⟩ | ⟨_,e⟩
  · have z1:=lB (Aa z).1
    have z2:=AV (Aa z).2
    exact (Bj (k - 17) (by exact Nat.sub_lt_left_of_lt_add z1 z2) (by exact Eq.symm (Nat.add_sub_of_le z1)) e)
  · exact nn e
theorem JV {k:Nat} (hk:17≤k):tg w tn t R k=(t,0):=by
  have:Ah k (tgT w tn t R)=none:=by
    cases e:Ah k (tgT w tn t R) with
    | none=>rfl
    | some x =>
      have:∀ p∈tgT w tn t R,Nat.blt p.1 17=true:=by
        intro p hp
        have hp:p.1∈(tgT w tn t R).map (·.1):=List.mem_map_of_mem hp
        have z:([0,1,2,3,4,5,6,7,8,9,10,11,12,13,14,15,16].all fun n=>Nat.blt n 17)=true:=rfl
        exact Ao z _ hp
      have:=AV (this _ (Ar e))
      lia
  unfold tg;rw[this];rfl
theorem I7 {k:Nat} (e:vK R k=none):nuL w tn t R k=((tg w tn t R k).1,(tg w tn t R k).2,k):=by unfold nuL;rw[e]
theorem I4 {k:Nat} {r:Rc} (e:vK R k=some r):nuL w tn t R k=r.vid:=by unfold nuL;rw[e]
theorem R7 (H:Fq w t R) (a b:Nat) (e:nuL w tn t R a=nuL w tn t R b):a=b:=by
  have one:∀ {a b r},vK R a=some r→vK R b=none→nuL w tn t R a=nuL w tn t R b→a=b:=fun {a b r} ea eb e=>by
    refine BC (KA ea) fun j hj _ hr=>?_
    obtain ⟨_,_,l3,l4,_⟩:=H.lt j r hj hr
    rw[I4 ea,I7 eb] at e
    have e3:r.q=b:=congrArg (fun x:Id=>x.2.2) e
    have e1:r.tv=(tg w tn t R b).1:=congrArg (fun x:Id=>x.1) e
    rw[JV (by exact q62 l4 e3)] at e1
    lia
  cases ea:vK R a with
  | none=>cases eb:vK R b with
    | none =>
      rw[I7 ea,I7 eb] at e
      exact congrArg (fun x:Id=>x.2.2) e
    | some s=>exact (one eb ea e.symm).symm
  | some r=>cases eb:vK R b with
    | none=>exact one ea eb e
    | some s =>
      refine BC (KA ea) fun j hj z1 hr=>?_
      refine BC (KA eb) fun k hk z2 hs=>?_
      rw[I4 ea,I4 eb] at e
      have:=H.ne j k r s hj hk hr hs (congrArg (fun x:Id=>x.1) e) (congrArg (fun x:Id=>x.2.2) e)
      exact q64 z1 z2 this
theorem Kb (H:Fq w t R) {i:Id} (h1:i.2.1≠0→17≤i.2.2∨((tg w tn t R i.2.2).1,(tg w tn t R i.2.2).2)≠(i.1,i.2.1)) (h0:i.2.1=0→i.1 % 2≠(w+1) % 2∧10≤i.2.2) (ht:t % 2=(w+1) % 2) (k:Nat):nuL w tn t R k≠i:=by
  intro e
  cases ek:vK R k with
  | some r =>
    refine BC (KA ek) fun j hj _ hr=>?_
    refine Mu (H.lt j r hj hr) fun _ _ _ _ _ p=>?_
    rw[I4 ek] at e
    have e1:r.tv=i.1:=congrArg (fun x:Id=>x.1) e
    have e2:0=i.2.1:=congrArg (fun x:Id=>x.2.1) e
    rw[e1] at p
    exact (h0 e2.symm).1 p
  | none =>
    rw[I7 ek] at e
    have e1:(tg w tn t R k).1=i.1:=congrArg (fun x:Id=>x.1) e
    have e2:(tg w tn t R k).2=i.2.1:=congrArg (fun x:Id=>x.2.1) e
    have e3:k=i.2.2:=congrArg (fun x:Id=>x.2.2) e
    subst e3
    by_cases z:i.2.1=0
    · refine xA (h0 z) fun p l=>?_
      have rr:∀ {j},j<3→((R j).map Rc.tr).getD t % 2=(w+1) % 2:=fun {j} hj=>by
        cases q:R j with
        | none=>exact ht
        | some r=>exact (H.lt j r hj q).2.2.2.2.1
      have big:∀ k,10≤k→(tg w tn t R k).2=0→(tg w tn t R k).1 % 2=(w+1) % 2:=fun k hk e=>by
        by_cases y:17≤k
        · rw[JV y];exact ht
        · have no2:(2:Nat)≠0:=by decide
          have:k=10∨k=11∨k=12∨k=13∨k=14∨k=15∨k=16:=by exact q65 hk y
          rcases this with rfl | rfl | rfl | rfl | rfl | rfl | rfl
          · exact rr (j:=0) (by decide)
          · exact rr (j:=1) (by decide)
          · exact rr (j:=2) (by decide)
          · exact absurd e no2
          · exact absurd e no2
          · exact absurd e no2
          · exact absurd e no2
      have:=big _ l (e2.trans z)
      rw[e1] at this
      exact p this
    · rcases h1 z with y | y
      · rw[JV y] at e2;exact z e2.symm
      · exact y (by rw[e1,e2])
end
end
section
structure Lw where
  row:Nat→List Nat
  hv:Nat→Nat→Nat
structure Im (G:Lw):Prop where
  row:∀ k,k<3→G.row k∈A5
  hv:∀ n t,n<4→t<4→G.hv n t<3
noncomputable def trO (G:Lw) (f t:Nat):Tr:=(10+(t:Int),((G.hv f t % 2:Nat):Int),[100,48+G.hv f t])
noncomputable def CT (G:Lw) (w:Nat) (o:Nat→Nat) (f:Nat):Nat:=cond (Nat.beq w 0) (G.hv f (o f)) (o f)
noncomputable def AC (G:Lw) (w:Nat) (o:Nat→Nat):List V:=(List.range 4).map fun f=>V.int (CT G w o f)
noncomputable def bdL (G:Lw) (w:Nat) (tm:Nat→Nat) (R:Nat→Option Rc) (len:Nat):Bd:=⟨4+w,fun f=>trO G f (tm f),G.row,fun k=>(R k).map fun r f=>trO G f (r.o f),len⟩
noncomputable def lvL (R:Nat→Option Rc) (k:Nat):V:=match R k with
  | some r=>.ref r.sid
  | none=>.none
section
variable (B:Bd) (w tn t:Nat) (g:Int) (R:Nat→Option Rc) (h:H) (sn:List V) (e:V) (ν:Nat→Id) (d:Nat→List (List Nat × V))
noncomputable def Aab:List (Nat × V):=[(50,e),(20,trV (B.cur 0)),(21,trV (B.cur 1)),(22,trV (B.cur 2)),(23,trV (B.cur 3)),(24,.ref (stI (1 - w))),(25,.ref (lsI (1 - w))),(26,.ref (0,2,20)),(27,.ref (tn,2,25)),(28,.int g),(30,lvL R 0),(31,lvL R 1),(32,lvL R 2),
  (40,stV B.ck (B.cur 0)),(41,stV B.ck (B.cur 1)),(42,stV B.ck (B.cur 2)),(43,stV B.ck (B.cur 3))]
noncomputable def AaR:List (Nat × List V):=[(0,nms (B.row 0)),(1,nms (B.row 1)),(2,nms (B.row 2)),(3,nms (due B 0)),(4,nms (due B 1)),(5,nms (due B 2)),(6,nts (B.row 0)),(7,nts (B.row 1)),(8,nts (B.row 2)),(9,nts (due B 0)),(10,nts (due B 1)),(11,nts (due B 2)),(12,sn)]
noncomputable def pSt (ν:Nat→Id) (m:Nat) (x:Option O):Prop:=∃ ep es,x=some (.dict ep es)∧es.length≤B.len+m∧∀ k,k<3→es.lookup (AY k)=cond (CN B m k) (some (.ref (ν (10+k)))) none
noncomputable def pOl (ν:Nat→Id) (k:Nat) (x:Option O):Prop:=match B.old k with
  | none=>x=none
  | some o=>∃ ep,x=some (.dict ep (Ei B.ck (.ref (ν (17+k))) (B.row k) fun f=>stV B.ck (o f)))
noncomputable def pNw (ν:Nat→Id) (k q:Nat) (x:Option O):Prop:=∃ ep,x=some (.dict ep (Ei B.ck (.ref (ν q)) (B.row k) fun f=>stV B.ck (B.cur f)))
noncomputable def pL (ν:Nat→Id) (j:Nat) (x:Option O):Prop:=cond (Nat.blt j 8) (pSt B ν j x) (cond (Nat.blt j 1000) (pOl B ν (j - 10) x) (pNw B ν ((j - 1000) % 8) ((j - 1000) / 8) x))
noncomputable def vN:Vl:=⟨fun j=>(Ah j (Aab B w tn g R e)).getD .none,fun j=>(Ah j (AaR B sn)).getD [],d,pL B ν,ν,h⟩
noncomputable def vL:Vl:=vN B w tn g R h sn .none (nuL w tn t R) fun _=>[]
end
section
variable {G:Lw} {w tn t:Nat} {tm:Nat→Nat} {g:Int} {R:Nat→Option Rc} {h:H} {sn:List V} {len:Nat} {e:V} {ν:Nat→Id} {d:Nat→List (List Nat × V)}
theorem Ui (HG:Im G) (hw:w<2) (hl:len≤700):BS (vN (bdL G w tm R len) w tn g R h sn e ν d) (bdL G w tm R len):=by
  refine ⟨?_,HG.row,fun f hf=>?_,fun f hf=>?_,fun k hk=>?_,fun k hk=>?_,hl,fun k o hk e f _ z=>?_,fun m x hm=>?_,fun k x hk=>?_,fun k q x hk=>?_⟩
  · exact q74 hw
  · cases f,hf using n4<;>rfl
  · cases f,hf using n4<;>rfl
  · cases k,hk using n3<;>rfl
  · cases k,hk using n3<;>rfl
  · refine C0 e fun r _ zz1c=>?_;obtain rfl:=zz1c
    have z:r.o f=tm f:=by exact q75 z
    show trO G f (r.o f)=trO G f (tm f)
    rw[z]
  · show cond (Nat.blt m 8) _ _↔_
    rw[show Nat.blt m 8=true from Nat.ble_eq_true_of_le hm]
    exact Iff.rfl
  · show cond (Nat.blt (10+k) 8) _ (cond (Nat.blt (10+k) 1000) (pOl _ _ (10+k - 10) x) _)↔_
    rw[show Nat.blt (10+k) 8=false from Bool.eq_false_iff.mpr fun e=>by have:=AV e;exact q76 this,show Nat.blt (10+k) 1000=true from Nat.ble_eq_true_of_le (by lia),Nat.add_sub_cancel_left]
    exact Iff.rfl
  · show cond (Nat.blt (1000+8*q+k) 8) _ (cond (Nat.blt (1000+8*q+k) 1000) _ (pNw _ _ ((1000+8*q+k - 1000) % 8) ((1000+8*q+k - 1000) / 8) x))↔_
    rw[show Nat.blt (1000+8*q+k) 8=false from Bool.eq_false_iff.mpr fun e=>by have:=AV e;exact q77 this,show Nat.blt (1000+8*q+k) 1000=false from Bool.eq_false_iff.mpr fun e=>by have:=AV e;exact q78 this,
      show (1000+8*q+k - 1000) % 8=k by exact q79 hk,show (1000+8*q+k - 1000) / 8=q by exact q80 hk]
    exact Iff.rfl
theorem Ux:BdI (vN (bdL G w tm R len) w tn g R h sn e ν d) (bdL G w tm R len):=⟨fun k hk=>match k,hk with
    | 0,_=>rfl
    | 1,_=>rfl
    | 2,_=>rfl,fun k hk=>match k,hk with
    | 0,_=>rfl
    | 1,_=>rfl
    | 2,_=>rfl⟩
theorem Uw (HG:Im G) (hw:w<2) (hl:len≤700):BS (vL (bdL G w tm R len) w tn t g R h sn) (bdL G w tm R len):=Ui HG hw hl
theorem Ut:BdI (vL (bdL G w tm R len) w tn t g R h sn) (bdL G w tm R len):=Ux
noncomputable def TX (B:Bd):Nat:=cond (due B 0).isEmpty 0 1+cond (due B 1).isEmpty 0 2+cond (due B 2).isEmpty 0 4
theorem TS {B:Bd}:Jr B (TX B)∧TX B<8:=by
  have k:∀ a b c:Bool,(∀ k,k<3→Nat.testBit (cond a 0 1+cond b 0 2+cond c 0 4) k=!(match k with | 0=>a | 1=>b | _=>c))∧cond a 0 1+cond b 0 2+cond c 0 4<8:=by decide
  refine ⟨fun j hj=>?_,(k _ _ _).2⟩
  unfold TX
  rw[(k _ _ _).1 j hj]
  match j,hj with
  | 0,_=>rfl
  | 1,_=>rfl
  | 2,_=>rfl
end
end
section
noncomputable def Ce (c:Cx) (h:H):Prop:=∀ sc x,c.code sc=some x→x.2.2.2.1=1∧h x.2.2=some (.tab x.2.1)
structure FrI (G:Lw) (h:H):Prop where
  li:h (0,2,0)=some (.list [.ref (0,2,1),.ref (0,2,2),.ref (0,2,3)])
  r0:h (0,2,1)=some (.list (nts (G.row 0)))
  r1:h (0,2,2)=some (.list (nts (G.row 1)))
  r2:h (0,2,3)=some (.list (nts (G.row 2)))
  si:h (0,2,6)=some (.list [.ref (stI 0),.ref (stI 1)])
  la:h (0,2,8)=some (.list [.ref (lsI 0),.ref (lsI 1)])
noncomputable def Sy (G:Lw) (tm:Nat→Nat):List (List Nat × V):=[(AB 0,trV (trO G 0 (tm 0))),(AB 1,trV (trO G 1 (tm 1))),(AB 2,trV (trO G 2 (tm 2))),(AB 3,trV (trO G 3 (tm 3)))]
noncomputable def Jp (G:Lw) (tn:Nat) (tm:Nat→Nat) (h:H):Prop:=∃ ep,h (tn,2,4)=some (.dict ep (Sy G tm))
structure Gl (G:Lw) (w:Nat) (R:Nat→Option Rc) (len:Nat) (h:H):Prop where
  st:∃ ep es,h (stI w)=some (.dict ep es)∧es.length≤len∧∀ k,k<3→es.lookup (AY k)=(R k).map fun r=>V.ref (r.rid k)
  ls:h (lsI w)=some (.list [lvL R 0,lvL R 1,lvL R 2])
  rc:∀ k r,k<3→R k=some r→(∃ ep,h (r.rid k)=some (.dict ep (Ei (4+w) (.ref r.vid) (G.row k) fun f=>stV (4+w) (trO G f (r.o f)))))∧(∃ ep,h r.vid=some (.dict ep []))∧h r.sid=some (.list (AC G w r.o))
structure DuI (B:Bd) (t:Nat) (h:H):Prop where
  l:h (t,2,13)=some (.list [.ref (t,2,14),.ref (t,2,15),.ref (t,2,16)])
  d0:h (t,2,14)=some (.list (nts (due B 0)))
  d1:h (t,2,15)=some (.list (nts (due B 1)))
  d2:h (t,2,16)=some (.list (nts (due B 2)))
noncomputable def GC (tn:Nat) (g:Int):List (Nat × V):=[(271,.ref (0,2,0)),(283,.ref (0,2,20)),(284,.ref (0,2,6)),(156,.ref (0,2,8)),(286,.ref (tn,2,25)),(35,.ref (tn,2,4)),(287,.int g)]
structure LcI (ml:Loc) (tn:Nat) (g:Int):Prop where
  has:∀ n,A3.locs.contains n=true→(ml.rw.lookup n).isSome=true
  kp:∀ n x,(n,x)∈GC tn g→ml.rw.lookup n=some (some x)
noncomputable def FO (w t:Nat) (h h':H):Prop:=∀ i:Id,(t<i.1∨(i.2.1=2∧(20≤i.2.2∨(i.2.2=5∧i.1≠t)))∨i.2.1=3+(1 - w)∨i.2.1=1∨(i.2.1=0∧i.1 % 2≠(w+1) % 2∧10≤i.2.2))→h' i=h i
section
variable {c:Cx} {v:Vl} {G:Lw} {w tn t len:Nat} {tm:Nat→Nat} {g:Int} {R:Nat→Option Rc} {h:H} {ml:Loc}
theorem Ot {n:Nat} {w:Nat} (e:A3.locs.contains n=true):∃ o,Ah n (FM w).rw=some o:=by
  have:n∈(FM w).rw.map (·.1):=by exact List.contains_iff_mem.mp e
  refine Dt this fun p hp zz1c=>?_;obtain rfl:=zz1c
  cases q:Ah p.1 (FM w).rw with
  | some o=>exact ⟨o,rfl⟩
  | none =>
    exfalso
    have:∀ {l:List (Nat × Option W)},p∈l→Ah p.1 l≠none:=fun {l}=>by
      induction l with
      | nil=>intro z;cases z
      | cons a r ih =>
        intro z e
        rcases Af e with ⟨_,e⟩ | ⟨y,e⟩
        · exact nn e.symm
        · rcases List.mem_cons.mp z with rfl | z
          · rw[Nat.beq_refl] at y;exact Bool.noConfusion y
          · exact ih z e
    exact this hp q
theorem L0 {n:Nat} {x:W} (e:Ah n (FM w).rw=some (some x)):(n,x)∈[(271,W.ref 0),(283,.sym 26),(284,.ref 6),(156,.ref 8),(286,.sym 27),(35,.ref 4),(287,.sym 28),(273,.int w),(288,.ref 5),(289,.ref 13)]:=by
  have:=Ar e
  have z:((FM w).rw.filterMap fun p=>p.2.map (p.1,·))=[(271,W.ref 0),(283,.sym 26),(284,.ref 6),(156,.ref 8),(286,.sym 27),(35,.ref 4),(287,.sym 28),(273,.int w),(288,.ref 5),(289,.ref 13)]:=rfl
  rw[← z]
  exact List.mem_filterMap.mpr (iEA _ this rfl)
end
end
section
section
variable {c:Cx} {v:Vl} {G:Lw} {w tn t len:Nat} {tm:Nat→Nat} {g:Int} {R:Nat→Option Rc} {h:H} {ml:Loc} {sn:List V}
theorem VY {k:Nat} (hk:20≤k):vK R k=none:=by
  unfold vK
  have:Nat.blt k 20=false:=Bool.eq_false_iff.mpr fun e=>by have:=AV e;exact q81 hk this
  rw[this,Bool.and_false];rfl
theorem P9 {k:Nat} (hk:20≤k):nuL w tn t R k=(t,0,k):=by rw[I7 (VY hk),JV (by exact Nat.le_of_add_left_le hk)]
theorem SI {k:Nat} (hk:k<3):nuL w tn t R (10+k)=(((R k).map Rc.tr).getD t,0,10+k):=by
  cases k,hk using n3<;>rfl
theorem MX {k:Nat} (hk:k<3) {r:Rc} (e:R k=some r):nuL w tn t R (10+k)=r.rid k:=by rw[SI hk,e];rfl
theorem AaN {k:Nat} (hk:k<3):vK R (17+k)=R k:=by
  match k,hk with
  | 0,_=>rfl
  | 1,_=>rfl
  | 2,_=>rfl
theorem Q0 {k:Nat} (hk:k<3) {r:Rc} (e:R k=some r):nuL w tn t R (17+k)=r.vid:=I4 (by rw[AaN hk,e])
theorem Pc {dm:Nat}:∀ p∈I9 w dm,p.1<20:=by
  have vd:∀ {k:Nat},k<3→∀ p∈vdO dm k,p.1<20:=fun {k} hk p hp=>by
    unfold vdO at hp
    cases e:Nat.testBit dm k with
    | true=>rw[e] at hp;cases hp
    | false =>
      rw[e] at hp
      rw[List.mem_singleton.mp hp]
      exact Nat.add_lt_of_lt_sub' hk
  intro p hp
  rcases List.mem_append.mp hp with hp | hp
  · have hp:p.1∈((I9 w dm).take 17).map (·.1):=List.mem_map_of_mem hp
    have y:([0,1,2,3,4,5,6,7,8,9,10,11,12,13,14,15,16].all fun n=>Nat.blt n 20)=true:=rfl
    exact AV (Ao y _ hp)
  rcases List.mem_append.mp hp with hp | hp
  · exact vd (k:=0) (by decide) p hp
  rcases List.mem_append.mp hp with hp | hp
  · exact vd (k:=1) (by decide) p hp
  · exact vd (k:=2) (by decide) p hp
theorem Q8 (HG:Im G) (hw:w<2) (hl:len≤700) (HR0:Fq w t R) (Fr:FrI G h) (Fi:Jp G tn tm h) (S:Gl G w R len h) (sn:h (t,2,5)=some (.list (AC G w tm))) (D:DuI (bdL G w tm R len) t h) (fr:∀ k,h (t,0,k)=none) {dm:Nat} (hd:Jr (bdL G w tm R len) dm) :
    HR (vL (bdL G w tm R len) w tn t g R h (AC G w tm)) (fun _=>.list []) ⟨20,[],ofT (I9 w dm)⟩ h:=by
  have HB:BS (vL (bdL G w tm R len) w tn t g R h (AC G w tm)) (bdL G w tm R len):=Uw HG hw hl
  have rc:∀ {k},k<3→OR (vL (bdL G w tm R len) w tn t g R h (AC G w tm)) (.psym (10+k)) (h (nuL w tn t R (10+k))):=fun {k} hk=>by
    refine (HB.pB k _ hk).mpr ?_
    cases e:R k with
    | none =>
      have e':(bdL G w tm R len).old k=none:=by show (R k).map _=none;rw[e];rfl
      rw[e',SI hk,e]
      exact fr _
    | some r =>
      have e':(bdL G w tm R len).old k=some fun f=>trO G f (r.o f):=by show (R k).map _=_;rw[e];rfl
      rw[e',MX hk e]
      show ∃ ep,h (r.rid k)=some (.dict ep (Ei (4+w) (.ref (nuL w tn t R (17+k))) (G.row k) fun f=>stV (4+w) (trO G f (r.o f))))
      rw[Q0 hk e]
      exact (S.rc k r hk e).1
  have vd:∀ {k:Nat},k<3→∀ p∈vdO dm k,OR (vL (bdL G w tm R len) w tn t g R h (AC G w tm)) p.2 (h (nuL w tn t R p.1)):=fun {k} hk p hp=>by
    unfold vdO at hp
    have hd:=hd k hk
    cases e:Nat.testBit dm k with
    | true=>rw[e] at hp;cases hp
    | false =>
      rw[e] at hp hd
      rw[List.mem_singleton.mp hp]
      have de:(due (bdL G w tm R len) k).isEmpty=true:=by cases z:(due (bdL G w tm R len) k).isEmpty<;>first | rfl | (rw[z] at hd;exact Bool.noConfusion hd)
      refine xE (DQ HB hk de) fun o q=>?_
      refine C0 q fun r q _=>?_
      rw[Q0 hk q]
      exact (S.rc k r hk q).2.1
  have du:∀ {k:Nat},k<3→h (t,2,14+k)=some (.list (nts (due (bdL G w tm R len) k)))→nuL w tn t R (14+k)=(t,2,14+k)→OR (vL (bdL G w tm R len) w tn t g R h (AC G w tm)) (Rw dm k) (h (nuL w tn t R (14+k))):=fun {k} hk e en=>by
    have hd:=hd k hk
    rw[en,e]
    unfold Rw
    cases z:Nat.testBit dm k with
    | true=>exact congrArg (fun x=>some (O.list x)) (Ut.l9 k hk).symm
    | false =>
      rw[z] at hd
      have de:(due (bdL G w tm R len) k).isEmpty=true:=by cases z:(due (bdL G w tm R len) k).isEmpty<;>first | rfl | (rw[z] at hd;exact Bool.noConfusion hd)
      rw[A4 de];rfl
  have a0:∀ p∈(I9 w dm).take 17,OR (vL (bdL G w tm R len) w tn t g R h (AC G w tm)) p.2 (h (nuL w tn t R p.1)):=by
      refine Ag Fr.li (Ag Fr.r0 (Ag Fr.r1 (Ag Fr.r2 (Ag Fi (Ag sn (Ag ?_ (Ag ?_ (Ag ?_ (Ag ?_ (Ag (rc (k:=0) (by decide)) (Ag (rc (k:=1) (by decide)) (Ag (rc (k:=2) (by decide)) (Ag D.l (Ag (du (k:=0) (by decide) D.d0 rfl) (Ag (du (k:=1) (by decide) D.d1 rfl) (Ag (du (k:=2) (by decide) D.d2 rfl) Ca))))))))))))))))
      · cases w,hw using n2;exact (Fr.si);exact (Fr.si)
      · refine Au S.st fun ep es e1 e2 e3=>?_
        refine (HB.pS 0 _ (by decide)).mpr (Al ep es e1 e2 (fun k hk=>?_))
        rw[e3 k hk]
        cases e:R k with
        | none =>
          have e':(bdL G w tm R len).old k=none:=by show (R k).map _=none;rw[e];rfl
          unfold CN;rw[e',Nat.zero_testBit];rfl
        | some r =>
          have e':(bdL G w tm R len).old k=some fun f=>trO G f (r.o f):=by show (R k).map _=_;rw[e];rfl
          unfold CN;rw[e']
          exact congrArg (fun x=>some (V.ref x)) (MX hk e).symm
      · cases w,hw using n2;exact (Fr.la);exact (Fr.la)
      · exact S.ls
  have al:∀ p∈I9 w dm,OR (vL (bdL G w tm R len) w tn t g R h (AC G w tm)) p.2 (h (nuL w tn t R p.1)):=by
    intro p hp
    rcases List.mem_append.mp hp with hp | hp
    · exact a0 p hp
    rcases List.mem_append.mp hp with hp | hp
    · exact vd (k:=0) (by decide) p hp
    rcases List.mem_append.mp hp with hp | hp
    · exact vd (k:=1) (by decide) p hp
    · exact vd (k:=2) (by decide) p hp
  refine ⟨fun k o q=>?_,fun k hk=>?_,fun i _=>rfl,fun k q=>absurd q fT,fun k o q=>?_⟩
  · rw[AG] at q;exact al _ (Ar q)
  · show h (nuL w tn t R k)=none
    rw[P9 hk];exact fr k
  · rw[AG] at q;exact Pc _ (Ar q)
theorem V7 (L:LcI ml tn g) (h273:ml.rw.lookup 273=some (some (.int w))) (h288:ml.rw.lookup 288=some (some (.ref (t,2,5)))) (h289:ml.rw.lookup 289=some (some (.ref (t,2,13)))) {B:Bd}:MRl (vL B w tn t g R h sn) (FM w) ml:=by
  refine ⟨fun n x e=>?_,fun n e=>?_,fun n x _ e=>nn e⟩
  · have k:∀ p∈[(271,W.ref 0),(283,.sym 26),(284,.ref 6),(156,.ref 8),(286,.sym 27),(35,.ref 4),(287,.sym 28),(273,.int w),(288,.ref 5),(289,.ref 13)],ml.rw.lookup p.1=some (some (den (vL B w tn t g R h sn) p.2)):=by
      have kp:∀ {n x},(n,x)∈GC tn g→ml.rw.lookup n=some (some x):=fun {n x}=>L.kp n x
      refine Ag (kp ?_) (Ag (kp ?_) (Ag (kp ?_) (Ag (kp ?_) (Ag (kp ?_) (Ag (kp ?_) (Ag (kp ?_) (Ag h273 (Ag h288 (Ag h289 Ca)))))))))
      · exact .head _
      · exact .tail _ (.head _)
      · exact .tail _ (.tail _ (.head _))
      · exact .tail _ (.tail _ (.tail _ (.head _)))
      · exact .tail _ (.tail _ (.tail _ (.tail _ (.head _))))
      · exact .tail _ (.tail _ (.tail _ (.tail _ (.tail _ (.head _)))))
      · exact .tail _ (.tail _ (.tail _ (.tail _ (.tail _ (.tail _ (.head _))))))
    exact k _ (L0 e)
  · refine L.has n ?_
    refine isK e fun o e=>?_
    have z:(FM w).rw.map (·.1)=A3.locs:=rfl
    rw[← z]
    exact List.contains_iff_mem.mpr (List.mem_map_of_mem (Ar e))
end
end
section
section
variable {c:Cx} {v:Vl} {G:Lw} {w tn t len:Nat} {tm:Nat→Nat} {g:Int} {R:Nat→Option Rc} {h:H} {ml:Loc} {sn:List V}
theorem W6 (H:Fq w t R) (htn:tn≤t):∀ p∈tgT w tn t R,p.2.1≤t∧(p.2.2=0∨p.2.2=2∨p.2.2=3+w):=by
  have r:∀ {k:Nat},k<3→((R k).map Rc.tr).getD t≤t:=fun {k} hk=>by
    cases e:R k with
    | none=>exact Nat.le_refl t
    | some r=>exact Nat.le_of_lt (H.lt k r hk e).2.1
  have z:∀ {a:Nat},a≤t→a≤t∧(2=0∨2=2∨2=3+w):=fun l=>⟨l,.inr (.inl rfl)⟩
  have y:∀ {a:Nat},a≤t→a≤t∧(0=0∨0=2∨0=3+w):=fun l=>⟨l,.inl rfl⟩
  have x:0≤t∧(3+w=0∨3+w=2∨3+w=3+w):=⟨Nat.zero_le _,.inr (.inr rfl)⟩
  have o:=z (Nat.zero_le t)
  have T:=z (Nat.le_refl t)
  exact Ag o (Ag o (Ag o (Ag o (Ag (z htn) (Ag T (Ag o (Ag x (Ag o (Ag x (Ag (y (r (k:=0) (by decide))) (Ag (y (r (k:=1) (by decide))) (Ag (y (r (k:=2) (by decide))) (Ag T (Ag T (Ag T (Ag T Ca))))))))))))))))
theorem Ul (H:Fq w t R) (htn:tn≤t) {k:Nat}:(tg w tn t R k).1≤t∧((tg w tn t R k).2=0∨(tg w tn t R k).2=2∨(tg w tn t R k).2=3+w):=by
  unfold tg
  cases e:Ah k (tgT w tn t R) with
  | none=>exact ⟨Nat.le_refl t,.inl rfl⟩
  | some x=>exact W6 H htn _ (Ar e)
theorem YP (H:Fq w t R) (htn:tn≤t) {k:Nat}:(nuL w tn t R k).1≤t:=by
  cases e:vK R k with
  | none=>rw[I7 e];exact (Ul H htn).1
  | some r =>
    refine BC (KA e) fun j hj _ hr=>?_
    rw[I4 e];exact Nat.le_of_lt (H.lt j r hj hr).2.2.1
theorem Pj (H:Fq w t R) (htn:tn≤t) (hw:w<2) (ht:t % 2=(w+1) % 2) {i:Id} (hi:t<i.1∨(i.2.1=2∧(20≤i.2.2∨(i.2.2=5∧i.1≠t)))∨i.2.1=3+(1 - w)∨i.2.1=1∨(i.2.1=0∧i.1 % 2≠(w+1) % 2∧10≤i.2.2)) (k:Nat):nuL w tn t R k≠i:=by
  have sec:i.2.1≠0→i.2.1≠2→i.2.1≠3+w→nuL w tn t R k≠i:=fun a b d=>Kb H (fun _=>.inr fun e=>by
    have:=(Ul H htn (k:=i.2.2)).2
    lia) (fun e=>absurd e a) ht k
  rcases hi with hi | ⟨h2,h3⟩ | hi | hi | ⟨h0,h1⟩
  · intro e
    have:=YP H htn (tn:=tn) (k:=k)
    rw[e] at this;exact q82 hi this
  · refine Kb H (fun _=>?_) (fun e=>by exact q83 h2 e) ht k
    rcases h3 with h3 | ⟨h3,h4⟩
    · exact .inl (by exact Nat.le_of_add_left_le h3)
    · refine .inr fun e=>?_
      rw[h3] at e
      exact h4 (congrArg (fun x:Nat × Nat=>x.1) e).symm
  · exact sec (by exact q84 hi) (by exact q85 hi) (by exact q86 hi)
  · exact sec (by exact q87 hi) (by exact q88 hi) (by exact q89 hi)
  · exact Kb H (fun e=>absurd h0 e) (fun _=>h1) ht k
noncomputable def L8 (B:Bd) (t:Nat) (tm:Nat→Nat) (R:Nat→Option Rc) (q:Nat→Nat) (k:Nat):Option Rc:=cond (due B k).isEmpty (R k) (some ⟨tm,t,((R k).map Rc.tr).getD t,t,q k⟩)
theorem NG {σ:Sg} {q:Nat × WO} (e:okL σ q=true):lo q.1 σ.L=some q.2:=by
  refine BE e fun o e h=>?_
  rw[e,Me h]
theorem Xh {dm:Nat} {σ:Sg} (e:Vy dm σ=true) {k:Nat} (hk:k<3) (d:Nat.testBit dm k=true):20≤qOf k σ∧∀ j,j<3→Nat.testBit dm j=true→qOf j σ=qOf k σ→j=k:=by
  have e:=Ao e k (List.mem_range.mpr hk)
  rw[d] at e
  refine Ad e fun e1 e2=>?_
  refine ⟨lB e1,fun j hj dj z=>?_⟩
  have e2:=Ao e2 j (List.mem_range.mpr hj)
  rw[dj,z,Nat.beq_refl] at e2
  have e2:(Nat.beq j k || false)=true:=e2
  rw[Bool.or_false] at e2
  exact eN e2
theorem RX (H:Fq w t R) (htw:t % 2=(w+1) % 2) {B:Bd} {q:Nat→Nat} (hq:∀ k,k<3→(due B k).isEmpty=false→20≤q k∧∀ j,j<3→(due B j).isEmpty=false→q j=q k→j=k):Fq w (t+1) (L8 B t tm R q):=by
  have cs:∀ {k r},L8 B t tm R q k=some r→((due B k).isEmpty=true∧R k=some r)∨((due B k).isEmpty=false∧r=⟨tm,t,((R k).map Rc.tr).getD t,t,q k⟩):=fun {k r} e=>by
    rcases Af e with ⟨z,e⟩ | ⟨z,e⟩
    · exact .inl ⟨z,e⟩
    · exact .inr ⟨z,(oJ e).symm⟩
  refine ⟨fun k r hk e=>?_,fun j k r s hj hk er es e1 e2=>?_⟩
  · rcases cs e with ⟨_,e⟩ | ⟨z,rfl⟩
    · obtain ⟨a,b,d,f,g⟩:=H.lt k r hk e
      exact (DU (by exact Nat.lt_add_right 1 a) (by exact Nat.lt_add_right 1 b) (by exact Nat.lt_add_right 1 d) f g)
    · refine ⟨Nat.lt_succ_self t,?_,Nat.lt_succ_self t,(hq k hk z).1,?_,htw⟩
      · cases e:R k with
        | none=>exact Nat.lt_succ_self t
        | some r=>exact Nat.lt_succ_of_lt (H.lt k r hk e).2.1
      · cases e:R k with
        | none=>exact htw
        | some r=>exact (H.lt k r hk e).2.2.2.2.1
  · rcases cs er with ⟨_,er⟩ | ⟨z,rfl⟩
    · rcases cs es with ⟨_,es⟩ | ⟨_,rfl⟩
      · exact H.ne j k r s hj hk er es e1 e2
      · have:=(H.lt j r hj er).2.2.1
        lia
    · rcases cs es with ⟨_,es⟩ | ⟨y,rfl⟩
      · have:=(H.lt k s hk es).2.2.1
        lia
      · exact (hq k hk y).2 j hj z e2
end
end
section
structure ZV (G:Lw) (w tn t:Nat) (tm:Nat→Nat) (g:Int) (R:Nat→Option Rc) (len:Nat) (h:H) (m':Loc) (h':H):Prop where
  L:LcI m' tn g
  Fr:FrI G h'
  Fi:Jp G tn tm h'
  S:FO w t h h'
  R:∃ R',Fq w (t+1) R'∧Gl G w R' (len+7) h'
section
variable {c:Cx} {v:Vl} {G:Lw} {w tn t len:Nat} {tm:Nat→Nat} {g:Int} {R:Nat→Option Rc} {h:H} {ml:Loc} {sn:List V}
theorem two_si (hw:w<2) {u:Vl} {a b:Nat} {J:Nat→Id} {x:Option O} (e:OR u (two w (.ref a) (.sym b)) x) (ha:u.ν a=J w) (hb:u.s b=.ref (J (1 - w))):x=some (.list [.ref (J 0),.ref (J 1)]):=by
  cases w,hw using n2 with
  | a =>
    have e:x=some (.list [.ref (u.ν a),u.s b]):=e
    rw[ha,hb] at e;exact e
  | b =>
    have e:x=some (.list [u.s b,.ref (u.ν a)]):=e
    rw[ha,hb] at e;exact e
theorem Ig {B:Bd} {dm k:Nat} (hd:Jr B dm) (hk:k<3):(due B k).isEmpty=!Nat.testBit dm k:=by rw[hd k hk,Bool.not_not]
theorem Tx (F:Aq c) (HG:Im G) (hw:w<2) (hl:len≤700) (hT:Ce c h) (HR0:Fq w t R) (htw:t % 2=(w+1) % 2) (htn:tn≤t) (Fr:FrI G h) (Fi:Jp G tn tm h) (S:Gl G w R len h) (sn:h (t,2,5)=some (.list (AC G w tm))) (D:DuI (bdL G w tm R len) t h) (fr:∀ k,h (t,0,k)=none)
    (L:LcI ml tn g) (h273:ml.rw.lookup 273=some (some (.int w))) (h288:ml.rw.lookup 288=some (some (.ref (t,2,5)))) (h289:ml.rw.lookup 289=some (some (.ref (t,2,13)))) :
    Sts c 110 M4 ml h fun o m' h'=>o=.nx∧ZV G w tn t tm g R len h m' h':=by
  have HB:BS (vL (bdL G w tm R len) w tn t g R h (AC G w tm)) (bdL G w tm R len):=Uw HG hw hl
  have HI:BdI (vL (bdL G w tm R len) w tn t g R h (AC G w tm)) (bdL G w tm R len):=Ut
  refine xA (TS (B:=bdL G w tm R len)) fun hd hlt=>?_
  generalize TX (bdL G w tm R len)=dm at hd hlt
  have VO:AO c (vL (bdL G w tm R len) w tn t g R h (AC G w tm)) (KB dm):=Pv HB HI hd (R7 HR0) fun sc x e=>⟨fun k=>Pj HR0 htn hw htw (.inr (.inr (.inr (.inl (hT sc x e).1)))) k,(hT sc x e).2⟩
  have HK:=Pa F (w:=w) rfl HB HI hd VO
  refine Au (Wu (Aax hw hlt)) fun m σ e e1 e2=>?_
  refine (BZ (Lg VO F HK 110) e (V7 L h273 h288 h289) (Q8 HG hw hl HR0 Fr Fi S sn D fr hd)).mono fun o m' h' zy3a=>xAA zy3a fun y1 M R1=>⟨y1,?_⟩
  have M:MRl (vL (bdL G w tm R len) w tn t g R h (AC G w tm)) m m':=M
  have R1:HR (vL (bdL G w tm R len) w tn t g R h (AC G w tm)) (fun _=>.list []) σ h':=R1
  refine Ad e1 fun _ e1=>?_
  refine Ad e1 fun c1 e1=>?_
  refine Ad e1 fun c2 e1=>?_
  refine Ad e1 fun c3 c4=>?_
  have at_:∀ p∈Uz w dm,OR (vL (bdL G w tm R len) w tn t g R h (AC G w tm)) p.2 (h' (nuL w tn t R p.1)):=fun p hp=>R1.ats _ _ (NG (Ao c3 p hp))
  have rec_:∀ {k},k<3→OR (vL (bdL G w tm R len) w tn t g R h (AC G w tm)) (.psym (Wg dm k (qOf k σ))) (h' (nuL w tn t R (10+k)))∧OR (vL (bdL G w tm R len) w tn t g R h (AC G w tm)) (.dict []) (h' (nuL w tn t R (Wh dm k (qOf k σ)))):=fun {k} hk=>by
    refine Ad (Ao c4 k (List.mem_range.mpr hk)) fun a b=>?_
    exact ⟨R1.ats _ _ (NG a),R1.ats _ _ (NG b)⟩
  have SM:FO w t h h':=fun i hi=>R1.old i (Pj HR0 htn hw htw hi)
  have hq:∀ k,k<3→(due (bdL G w tm R len) k).isEmpty=false→20≤qOf k σ∧∀ j,j<3→(due (bdL G w tm R len) j).isEmpty=false→qOf j σ=qOf k σ→j=k:=fun k hk z=>by
    have b:∀ {k},k<3→(due (bdL G w tm R len) k).isEmpty=false→Nat.testBit dm k=true:=fun {k} hk z=>by rw[Ig hd hk] at z;cases y:Nat.testBit dm k<;>first | rfl | (rw[y] at z;exact Bool.noConfusion z)
    refine xA (Xh e2 hk (b hk z)) fun a d=>?_
    exact ⟨a,fun j hj y=>d j hj (b hj y)⟩
  refine ⟨⟨fun n hn=>?_,fun n x hx=>?_⟩,⟨?_,?_,?_,?_,?_,?_⟩,?_,SM,L8 (bdL G w tm R len) t tm R fun k=>qOf k σ,RX HR0 htw hq,⟨?_,?_,fun k r hk er=>?_⟩⟩
  · refine M.has n ?_
    refine xE (Ot (w:=w) hn) fun o q=>?_
    exact Ao c1 _ (Ar q)
  · have kp:∀ p∈Ql,m'.rw.lookup p.1=some (some (den (vL (bdL G w tm R len) w tn t g R h (AC G w tm)) p.2)):=fun p hp=>by
      refine BE (Ao c2 p hp) fun o a b=>?_
      refine BE b fun w' a2 b=>?_
      rw[Gg b]
      exact M.rw _ _ (by rw[a,a2])
    have z:GC tn g=Ql.map fun p=>(p.1,den (vL (bdL G w tm R len) w tn t g R h (AC G w tm)) p.2):=rfl
    rw[z] at hx
    refine Dt hx fun p hp e=>?_
    cases e
    exact kp p hp
  · exact at_ _ (.head _)
  · exact at_ _ (.tail _ (.head _))
  · exact at_ _ (.tail _ (.tail _ (.head _)))
  · exact at_ _ (.tail _ (.tail _ (.tail _ (.head _))))
  · exact two_si hw (J:=stI) (at_ _ (.tail _ (.tail _ (.tail _ (.tail _ (.tail _ (.tail _ (.head _)))))))) rfl rfl
  · exact two_si hw (J:=lsI) (at_ _ (.tail _ (.tail _ (.tail _ (.tail _ (.tail _ (.tail _ (.tail _ (.tail _ (.head _)))))))))) rfl rfl
  · exact at_ _ (.tail _ (.tail _ (.tail _ (.tail _ (.head _)))))
  · have:=at_ _ (.tail _ (.tail _ (.tail _ (.tail _ (.tail _ (.tail _ (.tail _ (.head _))))))))
    refine Au ((HB.pS dm _ hlt).mp this) fun ep es a1 a2 a3=>?_
    refine (Al ep es a1 (Nat.le_trans a2 (Nat.add_le_add_left (Nat.le_of_lt_succ hlt) len)) (fun k hk=>?_))
    rw[a3 k hk]
    unfold L8
    rw[Ig hd hk]
    cases z:Nat.testBit dm k with
    | true =>
      unfold CN
      refine (z ..).symm▸(Bool.or_true ..).symm▸?_
      exact congrArg (fun x=>some (V.ref x)) (SI hk)
    | false =>
      refine xE (DQ HB hk ((Ig hd hk).trans (by rw[z];rfl))) fun o q=>?_
      unfold CN
      refine q.symm▸?_
      refine C0 q fun r q _=>?_
      show some (V.ref (nuL w tn t R (10+k)))=(R k).map _
      rw[q,MX hk q];rfl
  · have:=at_ _ (.tail _ (.tail _ (.tail _ (.tail _ (.tail _ (.tail _ (.tail _ (.tail _ (.tail _ (.head _))))))))))
    have lv:∀ {k},k<3→(vL (bdL G w tm R len) w tn t g R h (AC G w tm)).s (30+k)=lvL R k→den (vL (bdL G w tm R len) w tn t g R h (AC G w tm)) (Kx dm k)=lvL (L8 (bdL G w tm R len) t tm R fun k=>qOf k σ) k:=fun {k} hk hs=>by
      unfold Kx lvL L8
      refine (Ig hd hk).symm▸?_
      cases z:Nat.testBit dm k with
      | true=>rfl
      | false=>exact hs
    have this:h' (lsI w)=some (.list [den (vL (bdL G w tm R len) w tn t g R h (AC G w tm)) (Kx dm 0),den (vL (bdL G w tm R len) w tn t g R h (AC G w tm)) (Kx dm 1),den (vL (bdL G w tm R len) w tn t g R h (AC G w tm)) (Kx dm 2)]):=this
    rw[lv (k:=0) (by decide) rfl,lv (k:=1) (by decide) rfl,lv (k:=2) (by decide) rfl] at this
    exact this
  · refine xA (rec_ hk) fun b1 b2=>?_
    have bt:=Ig hd hk
    unfold L8 at er
    unfold Wg Wh at *
    cases z:Nat.testBit dm k with
    | true =>
      rw[z] at bt b1 b2
      rw[bt] at er
      cases er
      have b1:=(HB.pA k _ _ hk).mp b1
      have hq:=(hq k hk bt).1
      rw[SI hk] at b1
      have b2:∃ ep,h' (nuL w tn t R (qOf k σ))=some (.dict ep []):=b2
      have b1:∃ ep,h' (((R k).map Rc.tr).getD t,0,10+k)=some (.dict ep (Ei (4+w) (.ref (nuL w tn t R (qOf k σ))) (G.row k) fun f=>stV (4+w) (trO G f (tm f)))):=b1
      rw[P9 hq] at b1 b2
      exact ⟨b1,b2,at_ _ (.tail _ (.tail _ (.tail _ (.tail _ (.tail _ (.head _))))))⟩
    | false =>
      rw[z] at bt b1 b2
      rw[bt] at er
      have er:R k=some r:=er
      have b1:=(HB.pB k _ hk).mp b1
      have e':(bdL G w tm R len).old k=some fun f=>trO G f (r.o f):=by show (R k).map _=_;rw[er];rfl
      rw[e',MX hk er] at b1
      have b1:∃ ep,h' (r.rid k)=some (.dict ep (Ei (4+w) (.ref (nuL w tn t R (17+k))) (G.row k) fun f=>stV (4+w) (trO G f (r.o f)))):=b1
      have b2:∃ ep,h' (nuL w tn t R (17+k))=some (.dict ep []):=b2
      rw[Q0 hk er] at b1 b2
      refine (iAA b1 b2 ?_)
      rw[SM r.sid (.inr (.inl ⟨rfl,.inr ⟨rfl,fun z=>?_⟩⟩))]
      · exact (S.rc k r hk er).2.2
      · have:=(HR0.lt k r hk er).1
        exact q92 this z
end
end
section
section
variable {c:Cx} {d:Nat} {m:Loc} {h:H}
noncomputable def Pu (c:Cx) (d:Nat) (x:X) (m:Loc) (h:H) (v:V):Prop:=∀ Q:V→H→Prop,Q v h→E c d x m h Q
noncomputable def PuB (c:Cx) (d:Nat) (x:X) (m:Loc) (h:H) (b:Bool):Prop:=∀ Q:Bool→H→Prop,Q b h→Bt c d x m h Q
noncomputable def lk (m:Loc) (n:Nat) (v:V):Prop:=m.rw.lookup n=some (some v)
theorem AH {n:Nat} {v:V} (e:lk m n v):m.get n=some v:=by unfold Loc.get;rw[e]
theorem Bc {n:Nat} {v:V} (e:(m.rw.lookup n).isSome=true):lk (m.set n v) n v:=by
  unfold lk;rw[Ds,if_pos rfl]
  refine isK e fun o e=>?_
  rw[e];rfl
theorem AP {n k:Nat} {v x:V} (e:lk m n v) (z:n≠k):lk (m.set k x) n v:=by
  unfold lk;rw[Ds,if_neg z];exact e
theorem A1 {n k:Nat} {x:V} (e:(m.rw.lookup n).isSome=true):((m.set k x).rw.lookup n).isSome=true:=by
  rw[Ds]
  by_cases z:n=k
  · rw[if_pos z,← z]
    refine isK e fun o e=>?_
    rw[e];rfl
  · rw[if_neg z];exact e
theorem LcI.set {tn n:Nat} {g:Int} {x:V} (L:LcI m tn g) (z:((GC tn g).map (·.1)).contains n=false):LcI (m.set n x) tn g:=by
  refine ⟨fun k hk=>A1 (L.has k hk),fun k y hy=>AP (L.kp k y hy) fun e=>?_⟩
  have:n∈(GC tn g).map (·.1):=by rw[← e];exact List.mem_map_of_mem hy
  rw[List.contains_iff_mem.mpr this] at z;exact Bool.noConfusion z
theorem Bb {i:Int}:Pu c d (.int i) m h (.int i):=fun _ q=>En q
theorem OZ {s:List Nat}:Pu c d (.str s) m h (.str s):=fun _ q=>Uf q
theorem Ay {n:Nat} {v:V} (e:m.get n=some v):Pu c d (.loc n) m h v:=fun _ q=>GM e q
theorem Fh {op:Operator} {a b:X} {va vb r:V} (pa:Pu c d a m h va) (pb:Pu c d b m h vb) (o:∀ Q:V→H→Prop,Q r h→OpW c (binaryOp op) va vb h Q):Pu c d (.bin op a b) m h r:=fun Q q=>NL (pa _ (pb _ (o Q q)))
theorem VT {a b:X} {va vb r:V} (pa:Pu c d a m h va) (pb:Pu c d b m h vb) (o:∀ Q:V→H→Prop,Q r h→Mp c va vb h Q):Pu c d (.sub a b) m h r:=fun Q q=>Up (pa _ (pb _ (o Q q)))
theorem Fz {a b:X} {i:Id} {xs:List V} {k:Nat} {r:V} (pa:Pu c d a m h (.ref i)) (pb:Pu c d b m h (.int (k:Int))) (hi:h i=some (.list xs)) (hk:k<1000) (e:xs[k]?=some r):Pu c d (.sub a b) m h r :=
  VT pa pb fun _ q=>KM hi (Int.natCast_nonneg k) (by exact q93 hk) e q
theorem Gi {op:CmpOp} {a b:X} {va vb:V} {r:Bool} (pa:Pu c d a m h va) (pb:Pu c d b m h vb) (o:∀ Q:V→H→Prop,Q (.bool r) h→OpW c (compareOp op) va vb h Q):PuB c d (.cmp op a b) m h r:=fun Q q=>JR (pa _ (pb _ (o _ (Dl q))))
theorem Gj {a b:X} {x y:Int} (pa:Pu c d a m h (.int x)) (pb:Pu c d b m h (.int y)):Pu c d (.bin .Add a b) m h (.int (x+y)):=Fh pa pb fun _=>Qu
theorem V9 {a b:X} {x y:Int} (pa:Pu c d a m h (.int x)) (pb:Pu c d b m h (.int y)) (e:x.natAbs<2^60):Pu c d (.bin .Mult a b) m h (.int (x*y)):=Fh pa pb fun _=>QZ (.inl e)
theorem XS {a b:X} {x y:Int} (pa:Pu c d a m h (.int x)) (pb:Pu c d b m h (.int y)):Pu c d (.bin .Sub a b) m h (.int (x - y)):=Fh pa pb fun _=>Wd
theorem LJ {a b:X} {x y:Int} (pa:Pu c d a m h (.int x)) (pb:Pu c d b m h (.int y)) (e:y≠0) (e2:y.natAbs<2^60):Pu c d (.bin .FloorDiv a b) m h (.int (Int.fdiv x y)):=Fh pa pb fun _=>M9 e e2
theorem JJ {a b:X} {x y:Int} (pa:Pu c d a m h (.int x)) (pb:Pu c d b m h (.int y)) (e:y≠0):Pu c d (.bin .Mod a b) m h (.int (Int.fmod x y)):=Fh pa pb fun _=>PQ e
theorem Rt {a b:X} {x y:Int} (pa:Pu c d a m h (.int x)) (pb:Pu c d b m h (.int y)) (e0:0≤y) (e1:y≤2^20) (e:x.natAbs<2^60):Pu c d (.bin .Pow a b) m h (.int (x^y.toNat)):=Fh pa pb fun _=>O3 e0 e1 e
theorem NA {i:Id} {a b:O}:upd (upd h i a) i b=upd h i b:=funext fun j=>by unfold upd;by_cases z:j=i<;>simp only[z,if_true,if_false]
theorem lcQ {elt src:X} {n:Nat} {ifs:List X} {ro:List Nat} {xs:List V} {f:V→V} {p:V→Bool} {j:Id} {Q:V→H→Prop} {sv:V} {ok:H→Prop} (hs:Pu c d src m h sv) (it:DV c sv h false xs ok) (ho:∀ acc,ok (upd h j (.list acc))) (hl:xs.length≤2^20) (hj:h j=none)
    (hp:∀ y∈xs,∀ acc,Bts c d true ⟨(Bf m [n] ro).ro,[(n,some y)]⟩ ifs (upd h j (.list acc)) fun b h'=>b=p y∧h'=upd h j (.list acc))
    (he:∀ y∈xs,p y=true→∀ acc,Pu c d elt ⟨(Bf m [n] ro).ro,[(n,some y)]⟩ (upd h j (.list acc)) (f y))
    (q:Q (.ref j) (upd h j (.list ((xs.filter p).map f)))):LcQ c d elt true [n] src ifs ro m h j Q:=by
  refine hs _ ⟨xs,ok,it,hl,hj,fun r acc h'=>∃ pre,xs=pre++r∧acc=(pre.filter p).map f∧h'=upd h j (.list acc),?_,(Bj ([]) rfl rfl rfl),?_,?_⟩
  · rintro r acc h' ⟨_,_,_,rfl⟩
    exact ⟨ho acc,Aj⟩
  · rintro y r acc h' ⟨pre,e1,e2,rfl⟩
    have hy:y∈xs:=by rw[e1];exact List.mem_append_right _ (.head _)
    rw[IK (n:=n) (y:=y) (m:=⟨(Bf m [n] ro).ro,[n].map (·,none)⟩) rfl rfl]
    refine ⟨trivial,(hp y hy acc).mono fun b h' zy3a=>zy3a.elim fun b1 b2=>?_⟩
    rw[b2]
    cases b with
    | false =>
      refine (Bj (pre++[y]) (by rw[e1,List.append_assoc];rfl) ?_ rfl)
      rw[List.filter_append,List.filter_cons,← b1]
      show acc=((pre.filter p)++[]).map f
      rw[List.append_nil];exact e2
    | true =>
      refine he y hy b1.symm acc _ (Jg Aj (pre++[y]) (by rw[e1,List.append_assoc];rfl) ?_ NA)
      rw[List.filter_append,List.filter_cons,← b1,List.map_append,e2];rfl
  · rintro acc h' ⟨pre,e1,e2,rfl⟩
    rw[List.append_nil] at e1
    rw[e2,← e1];exact q
theorem Zb (O:c.Ok) {n:Nat} {x:X} {a:List S} {Q:Out→Loc→H→Prop} {xs:List V} {ok:H→Prop} (P:Nat→Loc→H→Prop) (hs:E c d x m h fun v h₁=>DV c v h₁ false xs ok∧P 0 m h₁) (ho:∀ i m h,P i m h→ok h∧(m.rw.lookup n).isSome=true)
    (ht:∀ i y,xs[i]?=some y→∀ m h,P i m h→Sts c d a (m.set n y) h fun o m' h'=>o=.nx∧P (i+1) m' h') (q:∀ m h,P xs.length m h→Q .nx m h):St c d (.for1 n x a) m h Q:=by
  refine MU O (hs.mono fun v h₁ zy4a=>zy4a.elim fun it p0=>⟨xs,ok,it,fun r m h=>∃ i,r=xs.drop i∧i≤xs.length∧P i m h,?_,(Bj 0 rfl (Nat.zero_le _) p0),?_,?_⟩)
  · rintro r m h ⟨i,_,_,p⟩
    exact (ho i m h p).1
  · rintro y r m h ⟨i,e,hi,p⟩
    obtain ⟨e1,e2⟩:=Dx e.symm
    refine (iAA (fun k hk=>by rw[List.mem_singleton.mp hk];exact (ho i m h p).2) trivial ((ht i y ?_ m h p).mono fun o m' h' zy6a=>zy6a.elim fun o1 p'=>?_))
    · have:(xs.drop i)[0]?=some y:=by rw[← e];rfl
      rw[List.getElem?_drop] at this;exact this
    · rw[o1];exact (Bj (i+1) e1.symm e2 p')
  · rintro m h ⟨i,e,hi,p⟩
    have:i=xs.length:=by
      have:=congrArg List.length e
      rw[List.length_drop] at this
      exact q94 hi this
    rw[this] at p;exact q m h p
theorem Xr (O:c.Ok) {n:Nat} {x:X} {a:List S} {Q:Out→Loc→H→Prop} {xs:List V} {sv:V} {ok:H→Prop} (hs:Pu c d x m h sv) (it:DV c sv h false xs ok) (P:Nat→Loc→H→Prop) (p0:P 0 m h) (ho:∀ i m h,P i m h→ok h∧(m.rw.lookup n).isSome=true)
    (ht:∀ i y,xs[i]?=some y→∀ m h,P i m h→Sts c d a (m.set n y) h fun o m' h'=>o=.nx∧P (i+1) m' h') (q:∀ m h,P xs.length m h→Q .nx m h):St c d (.for1 n x a) m h Q:=Zb O P (hs _ ⟨it,p0⟩) ho ht q
end
end
section
theorem K2 {a b:Nat}:((a:Int)==(b:Int))=(a==b):=by
  by_cases z:a=b
  · rw[z,beq_self_eq_true,beq_self_eq_true]
  · rw[beq_eq_false_iff_ne.mpr z,beq_eq_false_iff_ne.mpr (show (a:Int)≠b by exact q95 z)]
theorem S8 {G:Lw} {w:Nat} (hw:w<2) {f a b:Nat}:md (4+w) (trO G f a) (trO G f b)=!(CT G w (fun _=>b) f==CT G w (fun _=>a) f):=by
  have tim:((trO G f a).1==(trO G f b).1)=(b==a):=by
    show ((10+(a:Int))==(10+(b:Int)))=(b==a)
    by_cases z:a=b
    · subst z;rw[beq_self_eq_true,beq_self_eq_true]
    · rw[beq_eq_false_iff_ne.mpr (show (10+(a:Int))≠10+(b:Int) by exact q96 z),beq_eq_false_iff_ne.mpr (Ne.symm z)]
  match w,hw with
  | 1,_=>exact congrArg (!·) tim
  | 0,_ =>
    show (!((trO G f a).1==(trO G f b).1)&&!((trO G f a).2.1==(trO G f b).2.1&&(trO G f b).2.2==(trO G f a).2.2))=!(G.hv f b==G.hv f a)
    rw[tim]
    by_cases z:b=a
    · subst z;rw[beq_self_eq_true b,beq_self_eq_true (G.hv f b)];rfl
    · rw[beq_eq_false_iff_ne.mpr z]
      show (true&&!(((G.hv f a % 2:Nat):Int)==((G.hv f b % 2:Nat):Int)&&[100,48+G.hv f b]==[100,48+G.hv f a]))=_
      by_cases y:G.hv f b=G.hv f a
      · rw[y,beq_self_eq_true,beq_self_eq_true,beq_self_eq_true];rfl
      · refine (beq_eq_false_iff_ne.mpr y ..).symm▸(beq_eq_false_iff_ne.mpr (show [100,48+G.hv f b]≠[100,48+G.hv f a] from fun e=>by injection e with _ e;injection e with e;exact q97 y e) ..).symm▸(Bool.and_false ..).symm▸?_;rfl
section
variable {c:Cx} {d:Nat} {G:Lw} {w tn t len:Nat} {tm:Nat→Nat} {g:Int} {R:Nat→Option Rc} {h:H} {m:Loc}
theorem Dk (F:Aq c) {n:Nat} (hn:n<1000):Pu c d (.call 11 [.int (n:Int)] []) m h (.rng 0 1 n):=fun Q q =>
  Kd F.ok (F.ok.stdv 11 _ rfl) rfl (A2 (En (BT (Ke (Kp (Int.natCast_nonneg n) (by exact q98 hn) (by exact q))))))
theorem Jz {n k:Nat} {x:V} (e:(E6 0 1 n)[k]?=some x):k<n∧x=.int (k:Int):=by
  refine xA (Nd e) fun a b=>?_
  exact ⟨a,by rw[b];congr 1;simp⟩
theorem NC {n:Nat}:(E6 0 1 n).length=n:=by unfold E6;rw[List.length_map,List.length_range]
theorem Dc {n k:Nat} {x y:V} {ro:List Nat} (e:m.get n=some x) (hn:n∈ro) (z:n≠k):Loc.get ⟨(Bf m [k] ro).ro,[(k,some y)]⟩ n=some x:=by
  unfold Loc.get
  rw[List.lookup_cons,beq_eq_false_iff_ne.mpr z]
  exact Jy e hn
theorem BL {k:Nat} {y:V} {ro:List (Nat × V)}:Loc.get ⟨ro,[(k,some y)]⟩ k=some y:=by
  unfold Loc.get
  simp only[List.lookup_cons,beq_self_eq_true]
theorem Gd (F:Aq c) {x a:X} {i:Id} {xs:List V} {Q:V→H→Prop} (px:Pu c d x m h (.ref i)) (pa:E c d a m h fun v h₁=>∃ xs,h₁ i=some (.list xs)∧xs.length≤900∧Q .none (upd h₁ i (.list (xs++[v])))) (hi:h i=some (.list xs)):E c d (.meth x 0 [a] []) m h Q :=
  Ry (px _ (Ka F.ok hi (n:=0) rfl rfl PySem.F.slot_list_append PySem.F.type_list_append (A2 (pa.mono fun _ _ zy2a=>BC zy2a fun _ e l q=>BT (Ke (KE e (Ec l) q))))))
noncomputable def Vr (B:Bd) (k:Nat):V→Bool
  | .int i=>chg B k i.toNat
  | _=>false
theorem GK {p:V→Bool} {q:Nat→Bool} (e:∀ f:Nat,p (.int f)=q f):∀ {r:List Nat},((nts r).filter p).map id=nts (r.filter q):=by
  intro zl;induction zl with
  | nil =>
    exact rfl
  | cons f r ih =>
    show ((V.int (f:Int)::nts r).filter p).map id=_
    refine (List.filter_cons ..).symm▸(List.filter_cons ..).symm▸(e ..).symm▸?_
    cases q f with
    | true=>exact congrArg (V.int (f:Int)::·) (ih)
    | false=>exact ih
theorem Mf {B:Bd} {k:Nat} {r:List Nat}:((nts r).filter (Vr B k)).map id=nts (r.filter (chg B k)):=GK fun _=>rfl
structure DuJ (B:Bd) (w tn t:Nat) (g:Int) (h₀:H) (i:Nat) (m:Loc) (h:H):Prop where
  L:LcI m tn g
  l1:lk m 273 (.int w)
  l2:lk m 288 (.ref (t,2,5))
  l3:lk m 289 (.ref (t,2,13))
  hl:h (t,2,13)=some (.list ((List.range i).map fun j=>V.ref (t,2,14+j)))
  hd:∀ j,j<i→h (t,2,14+j)=some (.list (nts (due B j)))
  hs:∀ x:Id,(x.1=t→x.2.1=2→x.2.2<13∨14+i≤x.2.2)→h x=h₀ x
theorem XQ {i:Id} (hw:w<2) (Fr:FrI G h) (hi:i=lsI w) {a b:X} (pa:Pu c d a m h (.ref (0,2,8))) (pb:Pu c d b m h (.int (w:Nat))):Pu c d (.sub a b) m h (.ref i):=by
  rw[hi]
  exact Fz pa pb Fr.la (by exact q99 hw) ((by cases w,hw using n2<;>rfl))
theorem WY (Fr:FrI G h) {k:Nat} (hk:k<3):h (0,2,1+k)=some (.list (nts (G.row k))):=(by cases k,hk using n3;exact Fr.r0;exact Fr.r1;exact Fr.r2)
theorem Ym (Fr:FrI G h) {k:Nat} (hk:k<3) {a b:X} (pa:Pu c d a m h (.ref (0,2,0))) (pb:Pu c d b m h (.int (k:Nat))):Pu c d (.sub a b) m h (.ref (0,2,1+k)) :=
  Fz pa pb Fr.li (by exact ZI hk) ((by cases k,hk using n3<;>rfl))
theorem Yx {k:Nat} (hk:k<3):[lvL R 0,lvL R 1,lvL R 2][k]?=some (lvL R k):=match k,hk with
  | 0,_=>rfl
  | 1,_=>rfl
  | 2,_=>rfl
theorem Tt {r:List Nat} {y:V} (hy:y∈nts r):∃ f,f∈r∧y=.int (f:Nat):=by
  refine Dt hy fun f hf e=>?_
  exact (iEA f hf e.symm)
theorem Nr {o:Nat→Nat} {f:Nat} (hf:f<4):(AC G w o)[f]?=some (.int (CT G w o f:Nat)):=by
  unfold AC
  rw[List.getElem?_map,List.getElem?_range hf];rfl
noncomputable def TH:X:=.lcomp (.loc 272) [272] true (.sub (.loc 271) (.loc 26)) [.bop false [.cmp .Is (.loc 290) .none,.cmp .NotEq (.sub (.loc 290) (.loc 272)) (.sub (.loc 288) (.loc 272))]] [272] [290,288]
theorem Ra (F:Aq c) (HG:Im G) (hw:w<2) (Fr:FrI G h) (S:Gl G w R len h) (sn:h (t,2,5)=some (.list (AC G w tm))) {k:Nat} (hk:k<3) (L:LcI m tn g) (h26:lk m 26 (.int (k:Nat))) (h288:lk m 288 (.ref (t,2,5))) (h290:lk m 290 (lvL R k)) {j:Id} (hj:h j=none) :
    E c d TH m h fun v h'=>v=.ref j∧h'=upd h j (.list (nts (due (bdL G w tm R len) k))):=by
  have ne:∀ {i:Id} {o:O},h i=some o→∀ {x},upd h j x i=some o:=fun e x=>by
    rw[Ae fun z=>by rw[z,hj] at e;exact nn e];exact e
  have rw_:=WY Fr hk
  refine Ha F.ok j rfl (lcQ (f:=id) (p:=Vr (bdL G w tm R len) k) (Ym Fr hk (Ay (AH (L.kp 271 _ (.head _)))) (Ay (AH h26))) (EH rw_ fun z=>absurd z fT) (fun _=>ne rw_) ?_ hj (fun y hy acc=>?_) (fun y hy _ acc=>Ay BL) ?_)
  · unfold nts
    rw[List.length_map];exact Nat.le_trans (F9 (HG.row k hk)).1 (by decide)
  · refine xEA (Tt hy) fun f hf zz4c=>?_;obtain rfl:=zz4c
    have f4:=Bk (HG.row k hk) f hf
    have g290:Loc.get ⟨(Bf m [272] [290,288]).ro,[(272,some (.int (f:Nat)))]⟩ 290=some (lvL R k):=Dc (AH h290) (.head _) (by decide)
    have g288:Loc.get ⟨(Bf m [272] [290,288]).ro,[(272,some (.int (f:Nat)))]⟩ 288=some (.ref (t,2,5)):=Dc (AH h288) (.tail _ (.head _)) (by decide)
    have hb:Vr (bdL G w tm R len) k (.int (f:Nat))=chg (bdL G w tm R len) k f:=congrArg (chg (bdL G w tm R len) k) (Int.toNat_natCast f)
    refine hb.symm▸?_
    cases e:R k with
    | none =>
      have el:lvL R k=.none:=by unfold lvL;rw[e]
      have ec:chg (bdL G w tm R len) k f=true:=by
        have e':(bdL G w tm R len).old k=none:=by show (R k).map _=none;rw[e];rfl
        unfold chg;rw[e']
      rw[el] at g290
      refine ec.symm▸?_
      refine Mb (Gi (r:=true) (Ay g290) (fun _ q=>BU q) (fun _ q=>E5 (fun _=>nofun) q) _ ?_)
      exact ⟨rfl,rfl⟩
    | some r =>
      have el:lvL R k=.ref r.sid:=by unfold lvL;rw[e]
      have ec:chg (bdL G w tm R len) k f=!(CT G w r.o f==CT G w tm f):=by
        have e':(bdL G w tm R len).old k=some fun f=>trO G f (r.o f):=by show (R k).map _=_;rw[e];rfl
        unfold chg;rw[e']
        exact S8 hw
      rw[el] at g290
      refine ec.symm▸?_
      refine Mb (Gi (r:=false) (Ay g290) (fun _ q=>BU q) (fun _ q=>E5 (fun _=>nofun) q) _ ?_)
      refine Gi (r:=!(CT G w r.o f==CT G w tm f)) (Fz (Ay g290) (Ay BL) (ne (S.rc k r hk e).2.2) (by exact OA f4) (Nr f4)) (Fz (Ay g288) (Ay BL) (ne sn) (by exact OA f4) (Nr f4)) (fun _ q=>MY 9 (k:=CT G w r.o f==CT G w tm f) ?_ (by decide) q) _ ?_
      · show some (((CT G w r.o f:Nat):Int)==((CT G w tm f:Nat):Int))=_
        rw[K2]
      · cases CT G w r.o f==CT G w tm f with
        | true=>exact ⟨rfl,rfl⟩
        | false=>exact ⟨rfl,rfl⟩
  · rw[Mf];exact ⟨rfl,rfl⟩
theorem DuJ.up {B:Bd} {h₀:H} {i:Nat} (J:DuJ B w tn t g h₀ i m h) {n:Nat} {x:V} (hn:([271,283,284,156,286,35,287,273,288,289].contains n)=false):DuJ B w tn t g h₀ i (m.set n x) h:=by
  have ne:∀ k,k∈[271,283,284,156,286,35,287,273,288,289]→k≠n:=fun k hk e=>by
    rw[e] at hk;rw[List.contains_iff_mem.mpr hk] at hn;exact Bool.noConfusion hn
  refine ⟨J.L.set (Bool.eq_false_iff.mpr fun z=>?_),AP J.l1 (ne _ (by decide)),AP J.l2 (ne _ (by decide)),AP J.l3 (ne _ (by decide)),J.hl,J.hd,J.hs⟩
  have z:n∈[271,283,284,156,286,35,287]:=List.contains_iff_mem.mp z
  exact ne n (List.mem_append_left [273,288,289] z) rfl
theorem HM {h₀:H} (Fr:FrI G h₀) (e:∀ x:Id,x.1=0→h x=h₀ x):FrI G h:=⟨(e _ rfl).trans Fr.li,(e _ rfl).trans Fr.r0,(e _ rfl).trans Fr.r1,(e _ rfl).trans Fr.r2,(e _ rfl).trans Fr.si,(e _ rfl).trans Fr.la⟩
theorem G8 {h₀:H} (S:Gl G w R len h₀) (e:∀ x:Id,x.2.1=0∨x.2.1=3+w∨x.2.2=5→h x=h₀ x):Gl G w R len h:=by
  refine ⟨?_,(e (lsI w) (.inr (.inl rfl))).trans S.ls,fun k r hk q=>?_⟩
  · refine Ib S.st fun ep es e1 e2=>?_
    exact (Ff ep es ((e (stI w) (.inr (.inl rfl))).trans e1) e2)
  · refine xAA (S.rc k r hk q) fun zz6a zz6b c1=>?_;refine xE zz6a fun a a1=>?_;refine xE zz6b fun b b1=>?_
    exact (iAA ⟨a,(e _ (.inl rfl)).trans a1⟩ ⟨b,(e _ (.inl rfl)).trans b1⟩ ((e _ (.inr (.inr rfl))).trans c1))
theorem Vd (F:Aq c) (HG:Im G) (hw:w<2) (h0:0<t) (Fr:FrI G h) (S:Gl G w R len h) (sn:h (t,2,5)=some (.list (AC G w tm))) (fr:∀ k,13≤k→h (t,2,k)=none) (L:LcI m tn g) (h273:lk m 273 (.int (w:Nat))) (h288:lk m 288 (.ref (t,2,5))) {Q:Out→Loc→H→Prop} {rest:List Mine.S}
    (q:∀ m' h',DuJ (bdL G w tm R len) w tn t g h 3 m' h'→Sts c d rest m' h' Q):Sts c d (.asg 289 (.list [])::.for1 26 (.call 11 [.int 3] []) [.asg 290 (.sub (.sub (.loc 156) (.loc 273)) (.loc 26)),.expr (.meth (.loc 289) 0 [TH] [])]::rest) m h Q:=by
  refine AD (Hw F.ok (L.has 289 rfl) (Ee (t,2,13) (BT (iAA (fr 13 (Nat.le_refl _)) (Nat.zero_le _) ?_))))
  have J0:DuJ (bdL G w tm R len) w tn t g h 0 (m.set 289 (.ref (t,2,13))) (upd h (t,2,13) (.list [])):=by
    refine ⟨L.set rfl,AP h273 (by decide),AP h288 (by decide),Bc (L.has 289 rfl),Aj,fun j hj=>absurd hj (Nat.not_lt_zero _),fun x hx=>Ae fun e=>?_⟩
    rw[e] at hx
    have:=hx rfl rfl
    have this:13<13∨14≤13:=this
    omega
  refine AD (Xr F.ok (Dk F (n:=3) (by decide)) CH (fun i m' h'=>DuJ (bdL G w tm R len) w tn t g h i m' h') J0 (fun i m' h' J=>⟨trivial,J.L.has 26 rfl⟩) (fun i y hy m' h' J=>?_) fun m' h' J=>q m' h' J)
  refine xA (Jz hy) fun hi zz4b=>?_;obtain rfl:=zz4b
  have J1:=J.up (n:=26) (x:=.int (i:Nat)) rfl
  have z0:∀ x:Id,x.1=0→h' x=h x:=fun x hx=>J.hs x fun e=>by lia
  have Fr':FrI G h':=HM Fr z0
  have S':Gl G w R len h':=G8 S fun x hx=>J.hs x fun _ e=>by
    rcases hx with hx | hx | hx<;>lia
  have sn':h' (t,2,5)=some (.list (AC G w tm)):=(J.hs _ fun _ _=>.inl (show 5<13 by decide)).trans sn
  have p26:lk (m'.set 26 (.int (i:Nat))) 26 (.int (i:Nat)):=Bc (J.L.has 26 rfl)
  refine AD (Hw F.ok (J1.L.has 290 rfl) (Fz (XQ hw Fr' rfl (Ay (AH (J1.L.kp 156 _ (.tail _ (.tail _ (.tail _ (.head _))))))) (Ay (AH J1.l1))) (Ay (AH p26)) S'.ls (by lia) (Yx hi) _ ?_))
  have J2:=J1.up (n:=290) (x:=lvL R i) rfl
  have hn:h' (t,2,14+i)=none:=(J.hs _ fun _ _=>.inr (Nat.le_refl _)).trans (fr _ (by lia))
  have n13:((t,2,13):Id)≠(t,2,14+i):=fun e=>by
    lia
  refine AD (G2 (Gd F (Ay (AH J2.l3)) ((Ra F HG hw Fr' S' sn' hi J2.L (AP p26 (by decide)) J2.l2 (Bc (J1.L.has 290 rfl)) hn).mono fun v h₂ zy8a=>zy8a.elim fun e1 e2=>?_) J2.hl))
  refine (Bj _ (by rw[e2,Ae n13];exact J2.hl) ?_ ?_)
  · rw[List.length_map,List.length_range];lia
  rw[e1,e2]
  refine EE ⟨rfl,J2.L,J2.l1,J2.l2,J2.l3,?_,fun j hj=>?_,fun x hx=>?_⟩
  · rw[Aj,List.range_succ,List.map_append];rfl
  · rw[Ae fun e=>by lia]
    by_cases z:j=i
    · exact z.symm▸Aj.symm▸rfl
    · rw[Ae fun e=>by lia]
      exact J2.hd j (by lia)
  · have hx':x.1=t→x.2.1=2→x.2.2<13∨14+(i+1)≤x.2.2:=hx
    rw[Ae fun e=>by subst e;lia,Ae fun e=>by subst e;lia]
    exact J2.hs x fun a b=>by have:=hx' a b;omega
end
end
section
noncomputable def HY (o:Nat→Nat):List V:=(List.range 4).map fun f=>V.int (o f)
structure NmI (G:Lw) (tn:Nat) (tm:Nat→Nat) (h:H):Prop where
  tl:h (tn,2,25)=some (.list (HY tm))
  lt:∀ f,f<4→tm f<4
structure HdI (G:Lw) (h:H):Prop where
  hl:h (0,2,20)=some (.list ((List.range 4).map fun n=>V.ref (0,2,21+n)))
  hr:∀ n,n<4→h (0,2,21+n)=some (.list (HY (G.hv n)))
section
variable {c:Cx} {d:Nat} {G:Lw} {w tn t len:Nat} {tm:Nat→Nat} {g:Int} {R:Nat→Option Rc} {h:H} {m:Loc}
theorem LP {o:Nat→Nat} {f:Nat} (hf:f<4):(HY o)[f]?=some (.int (o f:Nat)):=by
  unfold HY
  rw[List.getElem?_map,List.getElem?_range hf];rfl
theorem Yk {f:Nat} (hf:f<4):((List.range 4).map fun n=>V.ref (0,2,21+n))[f]?=some (.ref (0,2,21+f)):=by
  rw[List.getElem?_map,List.getElem?_range hf];rfl
theorem WD {x a b:X} {r:Bool} {v:V} (px:PuB c d x m h r) (p:if r=true then Pu c d a m h v else Pu c d b m h v):Pu c d (.ite x a b) m h v:=fun Q q=>MF (px _ (by
  cases r with
  | true=>exact p _ q
  | false=>exact p _ q))
theorem MM {a n i:X} {f s:Nat} (Hd:HdI G h) (pa:Pu c d a m h (.ref (0,2,20))) (pn:Pu c d n m h (.int (f:Nat))) (pi:Pu c d i m h (.int (s:Nat))) (hf:f<4) (hs:s<4):Pu c d (.sub (.sub a n) i) m h (.int (G.hv f s:Nat)) :=
  Fz (Fz pa pn Hd.hl (by exact OA hf) (Yk hf)) pi (Hd.hr f hf) (by exact OA hs) (LP hs)
noncomputable def Uq:X:=.lcomp (.ite (.cmp .Eq (.loc 273) (.int 0)) (.sub (.sub (.loc 283) (.loc 272)) (.sub (.loc 286) (.loc 272))) (.sub (.loc 286) (.loc 272))) [272] true (.call 11 [.int 4] []) [] [272] [273,283,286]
noncomputable def XY (G:Lw) (w:Nat) (tm:Nat→Nat):V→V
  | .int i=>.int (CT G w tm i.toNat:Nat)
  | _=>.none
theorem Kk {n:Nat} {y:V} (hy:y∈E6 0 1 n):∃ k,k<n∧y=.int (k:Nat):=by
  refine xE (List.mem_iff_getElem?.mp hy) fun k e=>?_
  exact ⟨k,Jz e⟩
theorem HdI.upd (Hd:HdI G h) {j:Id} {o:O} (hj:h j=none):HdI G (upd h j o) :=
  ⟨(Ae fun e=>by have:=Hd.hl;rw[e,hj] at this;exact nn this).trans Hd.hl,fun n hn=>(Ae fun e=>by have:=Hd.hr n hn;rw[e,hj] at this;exact nn this).trans (Hd.hr n hn)⟩
theorem Td (F:Aq c) (hw:w<2) (Nm:NmI G tn tm h) (Hd:HdI G h) {j:Id} (hj:h j=none) (L:LcI m tn g) (h273:lk m 273 (.int (w:Nat))) {Q:Out→Loc→H→Prop}
    (q:Q .nx (m.set 288 (.ref j)) (upd h j (.list (AC G w tm)))):St c d (.asgC 288 Uq) m h Q:=by
  refine G3 F.ok j (L.has 288 rfl) rfl (lcQ (f:=XY G w tm) (p:=fun _=>true) (Dk F (n:=4) (by decide)) CH (fun _=>trivial) (by decide) hj (fun _ _ _=>⟨rfl,rfl⟩) (fun y hy _ acc=>?_) q)
  refine xEA (Kk hy) fun k hk zz2c=>?_;obtain rfl:=zz2c
  have ne:∀ {i:Id} {o:O},h i=some o→upd h j (.list acc) i=some o:=fun e=>by
    rw[Ae fun z=>by rw[z,hj] at e;exact nn e];exact e
  have g273:Pu c d (.loc 273) ⟨(Bf m [272] [273,283,286]).ro,[(272,some (.int (k:Nat)))]⟩ (upd h j (.list acc)) (.int (w:Nat)):=Ay (Dc (AH h273) (.head _) (by decide))
  have g283:Pu c d (.loc 283) ⟨(Bf m [272] [273,283,286]).ro,[(272,some (.int (k:Nat)))]⟩ (upd h j (.list acc)) (.ref (0,2,20)):=Ay (Dc (AH (L.kp 283 _ (.tail _ (.head _)))) (.tail _ (.head _)) (by decide))
  have g286:Pu c d (.loc 286) ⟨(Bf m [272] [273,283,286]).ro,[(272,some (.int (k:Nat)))]⟩ (upd h j (.list acc)) (.ref (tn,2,25)):=Ay (Dc (AH (L.kp 286 _ (.tail _ (.tail _ (.tail _ (.tail _ (.head _))))))) (.tail _ (.tail _ (.head _))) (by decide))
  have pt:=Fz g286 (Ay BL) (ne Nm.tl) (by exact OA hk) (LP hk)
  refine WD (Gi (r:=Nat.beq w 0) g273 Bb fun _ q=>Qn 9 ?_ (by decide) q) ?_
  · show some (((w:Nat):Int)==((0:Nat):Int))=_
    rw[K2,DI]
  · cases w,hw using n2;exact (MM (Hd.upd hj) g283 (Ay BL) pt hk (Nm.lt k hk));exact (pt)
end
end
section
noncomputable def YA:List S:=[Gs Dd 1]
noncomputable def GD (w k:Nat):Mm:=⟨[],[(279,none),(280,none),(281,none),(271,some (.ref 0)),(26,none),(282,none),(283,some (.sym 26)),(284,some (.ref 6)),(156,some (.ref 8)),(285,none),(286,some (.sym 27)),(35,some (.ref 4)),(287,some (.int k)),(273,some (.int w)),(288,some (.ref 5)),(289,none),(290,none),(291,none),(58,none),(47,none),(232,none),(292,none),(293,none),(59,none)]⟩
noncomputable def GO (w:Nat) (s:Nat) (l:List W):List (Nat × WO):=[(0,.list [.ref 1,.ref 2,.ref 3]),(1,.lsym 6),(2,.lsym 7),(3,.lsym 8),(4,CR),(5,.lsym 12),(6,two w (.ref 7) (.sym 24)),(7,.dsym s),(8,two w (.ref 9) (.sym 25)),(9,.list l)]
noncomputable def Kv (k:Nat) (b:Bool):Tb:=⟨[],[],[],[((0,AY k),cond b (some (.sym 50)) none)],[],cond b [((0,AY k),(none,1))] []⟩
noncomputable def csR (f:Nat) (vs:List W) (σ:Sg):Option Ct:=cond (Nat.beq f 612) (match vs with
    | [_,l]=>(lsK l σ).map EF
    | _=>none) none
noncomputable def QO (k:Nat) (b:Bool):Hk:=⟨20,hkc csR,fun _ _ _=>none,kx (Kv k b)⟩
noncomputable def Pe (N w k:Nat) (b:Bool):Rs (AU × Mm × Sg):=BW (ev (Kv k b) (QO k b) N) YA (GD w k) ⟨20,[],ofT (GO w 0 [.sym 30,.sym 31,.sym 32])⟩
noncomputable def Q9 (k:Nat):List W:=(List.range 3).map fun j=>cond (Nat.beq j k) .none (.sym (30+j))
noncomputable def H7 (w k:Nat):List (Nat × W):=[(271,.ref 0),(283,.sym 26),(284,.ref 6),(156,.ref 8),(286,.sym 27),(35,.ref 4),(287,.int k),(273,.int w),(288,.ref 5)]
noncomputable def TZ (w k:Nat) (b:Bool) (x:Rs (AU × Mm × Sg)):Bool:=match x with
  | .ok p=>HC p.1&&((GD w k).rw.all (fun q=>(Ah q.1 p.2.1.rw).isSome)&&((H7 w k).all (fun q=>ifS (Ah q.1 p.2.1.rw) fun o=>ifS o (My q.2))&&(GO w (cond b 1 0) (Q9 k)).all (okL p.2.2)))
  | .er _=>false
theorem QK:((List.range 2).all fun w=>(List.range 3).all fun k=>TZ w k true (Pe 60 w k true)&&TZ w k false (Pe 60 w k false))=true:=by decide +kernel
theorem Aaa {w k:Nat} (hw:w<2) (hk:k<3) (b:Bool):TZ w k b (Pe 60 w k b)=true:=by
  have:=Aa (Ao (Ao QK w (List.mem_range.mpr hw)) k (List.mem_range.mpr hk))
  cases b with
  | true=>exact this.1
  | false=>exact this.2
theorem UV {w k:Nat} {b:Bool} {x:Rs (AU × Mm × Sg)} (e:TZ w k b x=true):∃ m σ,x=.ok (.nx,m,σ)∧(∀ p∈(GD w k).rw,(Ah p.1 m.rw).isSome=true)∧(∀ p∈H7 w k,Ah p.1 m.rw=some (some p.2))∧∀ p∈GO w (cond b 1 0) (Q9 k),lo p.1 σ.L=some p.2:=by
  cases x with
  | er _=>exact absurd e fT
  | ok p =>
    refine Ad e fun e1 e=>?_
    refine Ad e fun e2 e=>?_
    refine Ad e fun e3 e4=>?_
    refine (Fn p.2.1 p.2.2 (by rw[← N0 e1]) (Ao e2) (fun q hq=>?_) (fun q hq=>NG (Ao e4 q hq)))
    refine BE (Ao e3 q hq) fun o a b=>?_
    refine BE b fun w' a2 b=>?_
    rw[a,a2,Gg b]
end
section
noncomputable def OF (w tn t:Nat):List (Nat × Nat × Nat):=[(0,0,2),(1,0,2),(2,0,2),(3,0,2),(4,tn,2),(5,t,2),(6,0,2),(7,0,3+w),(8,0,2),(9,0,3+w)]
noncomputable def tgG (w tn t k:Nat):Nat × Nat:=(Ah k (OF w tn t)).getD (t,5)
noncomputable def nuG (w tn t k:Nat):Id:=((tgG w tn t k).1,(tgG w tn t k).2,k)
noncomputable def Lz (w t:Nat) (h h':H):Prop:=∀ i:Id,(t<i.1∨(i.2.1=2∧(10≤i.2.2∨(i.2.2=5∧i.1≠t)))∨i.2.1=3+(1 - w)∨i.2.1=1∨i.2.1=0)→h' i=h i
noncomputable def Ky (R:Nat→Option Rc) (k j:Nat):Option Rc:=cond (Nat.beq j k) none (R j)
section
variable {c:Cx} {d:Nat} {G:Lw} {w tn t len:Nat} {tm:Nat→Nat} {g:Int} {R:Nat→Option Rc} {h:H} {m:Loc}
theorem Sk (a b:Nat) (e:nuG w tn t a=nuG w tn t b):a=b:=congrArg (fun x:Id=>x.2.2) e
theorem Ni {k:Nat} (hk:10≤k):tgG w tn t k=(t,5):=by
  have:Ah k (OF w tn t)=none:=by
    cases e:Ah k (OF w tn t) with
    | none=>rfl
    | some x =>
      have hp:k∈(OF w tn t).map (·.1):=List.mem_map_of_mem (Ar e)
      have y:([0,1,2,3,4,5,6,7,8,9].all fun n=>Nat.blt n 10)=true:=rfl
      have:=AV (Ao y _ hp)
      lia
  unfold tgG;rw[this];rfl
theorem U8 (htn:tn≤t) {k:Nat}:(tgG w tn t k).1≤t∧((tgG w tn t k).2=5∨(tgG w tn t k).2=2∨(tgG w tn t k).2=3+w):=by
  have z:∀ {a:Nat},a≤t→a≤t∧(2=5∨2=2∨2=3+w):=fun l=>⟨l,.inr (.inl rfl)⟩
  have o:=z (Nat.zero_le t)
  have x:0≤t∧(3+w=5∨3+w=2∨3+w=3+w):=⟨Nat.zero_le _,.inr (.inr rfl)⟩
  have al:∀ p∈OF w tn t,p.2.1≤t∧(p.2.2=5∨p.2.2=2∨p.2.2=3+w):=Ag o (Ag o (Ag o (Ag o (Ag (z htn) (Ag (z (Nat.le_refl t)) (Ag o (Ag x (Ag o (Ag x Ca)))))))))
  unfold tgG
  cases e:Ah k (OF w tn t) with
  | none=>exact ⟨Nat.le_refl t,.inl rfl⟩
  | some x=>exact al _ (Ar e)
theorem Nf (hw:w<2) (htn:tn≤t) {i:Id} (hi:t<i.1∨(i.2.1=2∧(10≤i.2.2∨(i.2.2=5∧i.1≠t)))∨i.2.1=3+(1 - w)∨i.2.1=1∨i.2.1=0) (k:Nat):nuG w tn t k≠i:=by
  intro e
  have e1:(tgG w tn t k).1=i.1:=congrArg (fun x:Id=>x.1) e
  have e2:(tgG w tn t k).2=i.2.1:=congrArg (fun x:Id=>x.2.1) e
  have e3:k=i.2.2:=congrArg (fun x:Id=>x.2.2) e
  refine xA (U8 htn (w:=w) (k:=k)) fun o1 o2=>?_
  rcases hi with hi | ⟨h2,h3 | ⟨h3,h4⟩⟩ | hi | hi | hi
  · exact Aan e1 o1 hi
  · rw[Ni (by exact ZW e3 h3)] at e2
    lia
  · rw[e3,h3] at e1
    exact h4 e1.symm
  · exact ZT e2 o2 hi
  · exact Aaj e2 o2 hi
  · exact Aaf e2 o2 hi
theorem PK {v:Vl} {k:Nat} {b:Bool} (inj:∀ a b,v.ν a=v.ν b→a=b) (tab:∀ sc x,c.code sc=some x→(∀ k,v.ν k≠x.2.2)∧v.h x.2.2=some (.tab x.2.1)) (hd:(v.d 0).lookup (AY k)=cond b (some (v.s 50)) none) (hl:(v.d 0).length≤900) (h1:v.d 1=JK (AY k) (v.d 0)):AO c v (Kv k b):=by
  refine ⟨inj,tab,fun _ _ _ e=>nn e,fun _ _ e=>nn e,fun _ _ _ e=>nn e,fun i s r e=>?_,fun _ e=>absurd e fT,fun i s r j e=>?_,fun i s j e=>?_⟩
  · rcases Af e with ⟨z,e⟩ | ⟨_,e⟩
    · rcases Af e with ⟨y,e⟩ | ⟨_,e⟩
      · refine (eN z).symm▸(Dq y).symm▸hd.symm▸(oJ e)▸?_
        cases b<;>rfl
      · exact nn e
    · exact nn e
  all_goals
    cases b with
    | false=>exact nn e
    | true =>
      rcases Af e with ⟨z,e⟩ | ⟨_,e⟩
      · rcases Af e with ⟨y,e⟩ | ⟨_,e⟩
        · first
          | (injection e with e;injection e with e _;exact nn e)
          | (injection e with e;injection e with _ e
             refine (eN z).symm▸(Dq y).symm▸e▸?_
             exact (iAA hl (by refine hd.symm▸?_;rfl) h1))
        · exact nn e
      · exact nn e
theorem two_pre (hw:w<2) {u:Vl} {a b:Nat} {J:Nat→Id} {x:Option O} (e:x=some (.list [.ref (J 0),.ref (J 1)])) (ha:u.ν a=J w) (hb:u.s b=.ref (J (1 - w))):OR u (two w (.ref a) (.sym b)) x:=by
  match w,hw with
  | 0,_ =>
    show x=some (.list [.ref (u.ν a),u.s b])
    refine ha.symm▸hb.symm▸?_;exact e
  | 1,_ =>
    show x=some (.list [u.s b,.ref (u.ν a)])
    refine ha.symm▸hb.symm▸?_;exact e
theorem Qp {v:Vl} {k:Nat} (hk:k<3) (e0:v.s 30=lvL R 0) (e1:v.s 31=lvL R 1) (e2:v.s 32=lvL R 2):Ap v (Q9 k)=[lvL (Ky R k) 0,lvL (Ky R k) 1,lvL (Ky R k) 2]:=by
  cases k,hk using n3;exact (congr (congrArg (fun a b=>[V.none,a,b]) e1) e2);exact (congr (congrArg (fun a b=>[a,V.none,b]) e0) e2);exact (congr (congrArg (fun a b=>[a,b,V.none]) e0) e1)
theorem Ov {k n:Nat} (hn:A3.locs.contains n=true):∃ p∈(GD w k).rw,p.1=n:=by
  have:n∈(GD w k).rw.map (·.1):=by exact List.contains_iff_mem.mp hn
  exact List.mem_map.mp this
theorem RQ {es:List (List Nat × V)} {k:Nat} (s3:∀ k,k<3→es.lookup (AY k)=(R k).map fun r=>V.ref (r.rid k)):∀ j,j<3→(JK (AY k) es).lookup (AY j)=(Ky R k j).map fun r=>V.ref (r.rid j):=fun j hj=>by
  rw[Io]
  unfold Ky
  by_cases z:j=k
  · refine (z ..).symm▸(if_pos rfl ..).symm▸(Nat.beq_refl ..).symm▸?_;rfl
  · rw[AQ z,if_neg fun e=>z (by injection e with _ e;injection e with e;exact AaK e)];exact s3 j hj
theorem QF {s:Nat} {l:List W}:∀ p∈GO w s l,p.1<20:=fun p hp=>by
  have hp:p.1∈(GO w s l).map (·.1):=List.mem_map_of_mem hp
  have y:([0,1,2,3,4,5,6,7,8,9].all fun n=>Nat.blt n 20)=true:=rfl
  exact AV (Ao y _ hp)
theorem XL {r:Ev} {x:S} {m:Mm} {σ:Sg} {p:Mm × Sg} (e:BW r [x] m σ=.ok (.nx,p)):r.s x m σ=.ok (.nx,p):=by
  have e:bd (r.s x m σ) (fun p=>cond (HC p.1) (.ok (.nx,p.2.1,p.2.2)) (.ok p))=.ok (.nx,p):=e
  refine bdK e fun zz2a e2 e1=>?_;obtain ⟨a1,a2,a3⟩:=zz2a
  rcases Af e1 with ⟨z,e1⟩ | ⟨_,e1⟩
  · have z:a1=.nx:=N0 z
    rw[e2,z];exact e1
  · rw[e2];exact e1
theorem TB (F:Aq c) (HG:Im G) (hw:w<2) (hl:len≤700) (hT:Ce c h) (HR0:Fq w t R) (htn:tn≤t) (Fr:FrI G h) (Fi:Jp G tn tm h) (S:Gl G w R len h) (sn:h (t,2,5)=some (.list (AC G w tm))) (fr:∀ k,h (t,5,k)=none) {k:Nat} (hk:k<3) (L:LcI m tn k)
    (h273:lk m 273 (.int (w:Nat))) (h288:lk m 288 (.ref (t,2,5))) :
    St c 60 (Gs Dd 1) m h fun o m' h'=>o=.nx∧LcI m' tn k∧lk m' 273 (.int (w:Nat))∧lk m' 288 (.ref (t,2,5))∧FrI G h'∧Jp G tn tm h'∧h' (t,2,5)=some (.list (AC G w tm))∧Lz w t h h'∧Fq w t (Ky R k)∧Gl G w (Ky R k) len h':=by
  refine Au S.st fun ep es s1 s2 s3=>?_
  have ks:=s3 k hk
  obtain ⟨b,e,kb⟩:∃ (b:Bool) (e:V),es.lookup (AY k)=cond b (some e) none:=by
    refine ks.symm▸?_
    cases R k with
    | none=>exact ⟨false,.none,rfl⟩
    | some r=>exact (iEE true _ rfl)
  let v:Vl:=vN (bdL G w tm R len) w tn (k:Nat) R h (AC G w tm) e (nuG w tn t) fun j=>cond (Nat.beq j 0) es (JK (AY k) es)
  have HB:BS v (bdL G w tm R len):=Ui HG hw hl
  have HI:BdI v (bdL G w tm R len):=Ux
  have VO:AO c v (Kv k b):=PK (Sk) (fun sc x e=>⟨Nf hw htn (.inr (.inr (.inr (.inl (hT sc x e).1)))),(hT sc x e).2⟩) kb (by exact AaA hl s2) rfl
  have HK:IH c v (QO k b):=⟨fun hd e R=>Kh VO (D:=20) (fun f vs σ C e=>by
    rcases Af e with ⟨_,e⟩ | ⟨_,e⟩
    · match vs,e with
      | [_,l],e =>
        refine C0 e fun a e1 e=>?_
        refine e▸?_;exact Uu F HB (LN e1)
    · exact nn e) hd e R,fun _ e=>nn e,fun hd e M R=>UB VO F (Pk HB HI) (Nat.le_trans (by show 5≤20;decide) hd) e M R⟩
  refine O2 (UV (Aaa hw hk b)) fun m₁ σ e1 c1 c2 c3=>?_
  have kg:∀ {n x},(n,x)∈GC tn k→m.rw.lookup n=some (some x):=fun {n x}=>L.kp n x
  have M0:MRl v (GD w k) m:=by
    refine ⟨fun n x e=>?_,fun n e=>?_,fun n x _ e=>nn e⟩
    · have al:∀ p∈H7 w k,m.rw.lookup p.1=some (some (den v p.2)):=by
        refine Ag (kg ?_) (Ag (kg ?_) (Ag (kg ?_) (Ag (kg ?_) (Ag (kg ?_) (Ag (kg ?_) (Ag (kg ?_) (Ag h273 (Ag h288 Ca))))))))
        · exact .head _
        · exact .tail _ (.head _)
        · exact .tail _ (.tail _ (.head _))
        · exact .tail _ (.tail _ (.tail _ (.head _)))
        · exact .tail _ (.tail _ (.tail _ (.tail _ (.head _))))
        · exact .tail _ (.tail _ (.tail _ (.tail _ (.tail _ (.head _)))))
        · exact .tail _ (.tail _ (.tail _ (.tail _ (.tail _ (.tail _ (.head _))))))
      have z:((GD w k).rw.filterMap fun p=>p.2.map (p.1,·))=H7 w k:=rfl
      have:(n,x)∈H7 w k:=by
        refine z▸?_;exact List.mem_filterMap.mpr (iEA _ (Ar e) rfl)
      exact al _ this
    · refine L.has n ?_
      refine isK e fun o e=>?_
      have z:(GD w k).rw.map (·.1)=A3.locs:=rfl
      refine z▸?_
      exact List.contains_iff_mem.mpr (List.mem_map_of_mem (Ar e))
  have R0:HR v (fun _=>.list []) ⟨20,[],ofT (GO w 0 [.sym 30,.sym 31,.sym 32])⟩ h:=by
    have al:∀ p∈GO w 0 [.sym 30,.sym 31,.sym 32],OR v p.2 (h (nuG w tn t p.1)):=Ag Fr.li (Ag Fr.r0 (Ag Fr.r1 (Ag Fr.r2 (Ag Fi (Ag sn (Ag (two_pre hw (J:=stI) Fr.si rfl rfl) (Ag ⟨ep,s1⟩ (Ag (two_pre hw (J:=lsI) Fr.la rfl rfl) (Ag S.ls Ca)))))))))
    refine ⟨fun j o q=>?_,fun j hj=>?_,fun i _=>rfl,fun k q=>absurd q fT,fun j o q=>?_⟩
    · rw[AG] at q;exact al _ (Ar q)
    · show h (nuG w tn t j)=none
      unfold nuG
      refine (Ni (Nat.le_trans (show 10≤20 by decide) hj)).symm▸?_;exact fr j
    · rw[AG] at q;exact QF _ (Ar q)
  have e2:=XL (r:=ev (Kv k b) (QO k b) 60) (x:=Gs Dd 1) e1
  refine ((Lg VO F HK 60).s e2 M0 R0).mono fun o m' h' zy7a=>xAA zy7a fun y1 M R1=>?_
  have M:MRl v m₁ m':=M
  have R1:HR v (fun _=>.list []) σ h':=R1
  have at_:∀ p∈GO w (cond b 1 0) (Q9 k),OR v p.2 (h' (nuG w tn t p.1)):=fun p hp=>R1.ats _ _ (c3 p hp)
  have kp:∀ p∈H7 w k,m'.rw.lookup p.1=some (some (den v p.2)):=fun p hp=>M.rw _ _ (c2 p hp)
  have SM:Lz w t h h':=fun i hi=>R1.old i (Nf hw htn hi)
  have of:∀ {j r},Ky R k j=some r→j≠k∧R j=some r:=fun {j r} e=>by
    rcases Af e with ⟨_,e⟩ | ⟨z,e⟩
    · exact nn e
    · exact ⟨fun y=>by rw[y,Nat.beq_refl] at z;exact Bool.noConfusion z,e⟩
  refine ⟨y1,⟨fun n hn=>?_,fun n x hx=>?_⟩,kp (273,.int w) (.tail _ (.tail _ (.tail _ (.tail _ (.tail _ (.tail _ (.tail _ (.head _)))))))),kp (288,.ref 5) (.tail _ (.tail _ (.tail _ (.tail _ (.tail _ (.tail _ (.tail _ (.tail _ (.head _))))))))),⟨?_,?_,?_,?_,?_,?_⟩,?_,?_,SM,?_,⟨?_,?_,?_⟩⟩
  · refine M.has n ?_
    refine xEA (Ov (w:=w) (k:=k) hn) fun p hp zz8c=>?_;obtain rfl:=zz8c
    exact c1 p hp
  · have z:GC tn k=((H7 w k).take 7).map fun p=>(p.1,den v p.2):=rfl
    rw[z] at hx
    refine Dt hx fun p hp e=>?_
    cases e
    exact kp p (List.mem_of_mem_take hp)
  · exact at_ _ (.head _)
  · exact at_ _ (.tail _ (.head _))
  · exact at_ _ (.tail _ (.tail _ (.head _)))
  · exact at_ _ (.tail _ (.tail _ (.tail _ (.head _))))
  · exact two_si hw (J:=stI) (at_ _ (.tail _ (.tail _ (.tail _ (.tail _ (.tail _ (.tail _ (.head _)))))))) rfl rfl
  · exact two_si hw (J:=lsI) (at_ _ (.tail _ (.tail _ (.tail _ (.tail _ (.tail _ (.tail _ (.tail _ (.tail _ (.head _)))))))))) rfl rfl
  · exact at_ _ (.tail _ (.tail _ (.tail _ (.tail _ (.head _)))))
  · exact at_ _ (.tail _ (.tail _ (.tail _ (.tail _ (.tail _ (.head _))))))
  · exact ⟨fun j r hj e=>HR0.lt j r hj (of e).2,fun i j r s hi hj er es=>HR0.ne i j r s hi hj (of er).2 (of es).2⟩
  · have st:=at_ _ (.tail _ (.tail _ (.tail _ (.tail _ (.tail _ (.tail _ (.tail _ (.head _))))))))
    obtain ⟨ep',st⟩:∃ ep,h' (stI w)=some (.dict ep (v.d (cond b 1 0))):=st
    have lkp:=RQ (k:=k) s3
    cases b with
    | true=>exact ⟨ep',_,st,Nat.le_trans (List.length_filter_le ..) s2,lkp⟩
    | false =>
      refine (Al ep' _ st s2 (fun j hj=>?_))
      rw[← lkp j hj,Io]
      by_cases z:AY j=AY k
      · rw[if_pos z,z];exact kb
      · rw[if_neg z];rfl
  · have:=at_ _ (.tail _ (.tail _ (.tail _ (.tail _ (.tail _ (.tail _ (.tail _ (.tail _ (.tail _ (.head _))))))))))
    have this:h' (lsI w)=some (.list (Ap v (Q9 k))):=this
    rw[this,Qp hk rfl rfl rfl]
  · intro j r hj e
    refine xA (of e) fun _ e=>?_
    refine xAA (S.rc j r hj e) fun zz11a zz11b c1=>?_;refine xE zz11a fun a a1=>?_;refine xE zz11b fun b b1=>?_
    have:=(HR0.lt j r hj e).1
    exact (iAA ⟨a,(SM _ (.inr (.inr (.inr (.inr rfl))))).trans a1⟩ ⟨b,(SM _ (.inr (.inr (.inr (.inr rfl))))).trans b1⟩ ((SM _ (.inr (.inl ⟨rfl,.inr ⟨rfl,fun e=>by exact q92 this e⟩⟩))).trans c1))
end
end
section
noncomputable def FrT (t:Nat) (h:H):Prop:=∀ i:Id,t≤i.1→i.2.1≠1→h i=none
noncomputable def gOk (g:Int):Prop:=g<0∨∃ k:Nat,k<3∧g=k
structure Pre (c:Cx) (G:Lw) (nl:List V) (tn:Nat) (tm:Nat→Nat) (g:Int) (t:Nat) (m:Loc) (h:H):Prop where
  L:LcI m tn g
  T:Ce c h
  Fr:FrI G h
  Hd:HdI G h
  Nm:NmI G tn tm h
  Fi:Jp G tn tm h
  F:FrT t h
  X:h (1,1,0)=some (.list nl)
structure Sto (G:Lw) (w t len:Nat) (h:H):Prop where
  ok:∃ R,Fq w t R∧Gl G w R len h
section
variable {c:Cx} {d:Nat} {G:Lw} {w tn t len lo:Nat} {tm:Nat→Nat} {g:Int} {R:Nat→Option Rc} {h h':H} {m:Loc} {nl:List V}
theorem St.upn {d d':Nat} {x:S} {Q:Out→Loc→H→Prop} (p:St c d' x m h Q) (hd:d'≤d):St c d x m h Q:=fun sc e ck A env F g s hA=>p sc e ck A env F g s (hA.down hd)
theorem other (hw:w<2) (S:Sto G (1 - w) t lo h) (e:FO w t h h'):Sto G (1 - w) (t+1) lo h':=by
  obtain ⟨R,H,S⟩:=S
  refine ⟨R,⟨fun k r hk q=>?_,H.ne⟩,⟨?_,(e _ (.inr (.inr (.inl rfl)))).trans S.ls,fun k r hk q=>?_⟩⟩
  · refine JP (H.lt k r hk q) fun a b d f=>?_
    exact (L6 (by exact Vi a) (by exact Vi b) (by exact Vi d) f)
  · refine Ib S.st fun ep es e1 e2=>?_
    exact (Ff ep es ((e _ (.inr (.inr (.inl rfl)))).trans e1) e2)
  · refine xAA (S.rc k r hk q) fun zz4a zz4b c1=>?_;refine xE zz4a fun a a1=>?_;refine xE zz4b fun b b1=>?_
    refine Mu (H.lt k r hk q) fun l1 _ _ l4 p1 p2=>?_
    have z:∀ {n},n % 2=(1 - w+1) % 2→n % 2≠(w+1) % 2:=fun {n} h=>by exact Aav hw h
    exact (iAA ⟨a,(e (r.rid k) (.inr (.inr (.inr (.inr (iAA rfl (z p1) (Nat.le_add_right _ _))))))).trans a1⟩ ⟨b,(e r.vid (.inr (.inr (.inr (.inr (iAA rfl (z p2) (Nat.le_trans (by decide) l4))))))).trans b1⟩ ((e r.sid (.inr (.inl ⟨rfl,.inr ⟨rfl,fun y=>by exact q92 l1 y⟩⟩))).trans c1))
theorem UO (P:Pre c G nl tn tm g t m h) (h0:tn<t) (e:FO w t h h') {m':Loc} (L:LcI m' tn g) (Fr:FrI G h') (Fi:Jp G tn tm h'):Pre c G nl tn tm g (t+1) m' h':=by
  refine ⟨L,fun sc x q=>⟨(P.T sc x q).1,(e _ (.inr (.inr (.inr (.inl (P.T sc x q).1))))).trans (P.T sc x q).2⟩,Fr,⟨(e _ (.inr (.inl ⟨rfl,.inl (by decide)⟩))).trans P.Hd.hl,fun n hn=>(e _ (.inr (.inl ⟨rfl,.inl (by exact AaX)⟩))).trans (P.Hd.hr n hn)⟩,
    ⟨(e _ (.inr (.inl ⟨rfl,.inl (show 20≤25 by decide)⟩))).trans P.Nm.tl,P.Nm.lt⟩,Fi,fun i hi h1=>(e i (.inl hi)).trans (P.F i (Nat.le_of_succ_le hi) h1),(e _ (.inr (.inr (.inr (.inl rfl))))).trans P.X⟩
theorem FO.trans {h₁ h₂:H} (a:FO w t h h₁) (b:FO w t h₁ h₂):FO w t h h₂:=fun i hi=>(b i hi).trans (a i hi)
theorem Lz.same {h₁:H} (a:Lz w t h h₁):FO w t h h₁:=fun i hi=>a i (by
  rcases hi with hi | ⟨hi,y | y⟩ | hi | hi | hi
  · exact .inl hi
  · exact .inr (.inl ⟨hi,.inl (Nat.le_trans (by decide) y)⟩)
  · exact .inr (.inl ⟨hi,.inr y⟩)
  · exact .inr (.inr (.inl hi))
  · exact .inr (.inr (.inr (.inl hi)))
  · exact .inr (.inr (.inr (.inr hi.1))))
theorem Qo:Dd=.asgC 288 Uq::Gs Dd 1::.asg 289 (.list [])::.for1 26 (.call 11 [.int 3] []) [.asg 290 (.sub (.sub (.loc 156) (.loc 273)) (.loc 26)),.expr (.meth (.loc 289) 0 [TH] [])]::M4:=rfl
theorem RN:∃ a,Gs Dd 1=.iff (.cmp .GtE (.loc 287) (.int 0)) a []:=⟨_,rfl⟩
theorem OX (F:Aq c) (HG:Im G) (hw:w<2) (hl:len≤700) (htw:t % 2=(w+1) % 2) (htn:tn<t) (hg:gOk g) (P:Pre c G nl tn tm g t m h) (S:Sto G w t len h) (h273:lk m 273 (.int (w:Nat))) :
    Sts c 110 Dd m h fun o m' h'=>o=.nx∧Pre c G nl tn tm g (t+1) m' h'∧Sto G w (t+1) (len+7) h'∧FO w t h h':=by
  obtain ⟨R,H0,S⟩:=S
  rw[Qo]
  have f5:h (t,2,5)=none:=P.F _ (Nat.le_refl t) (show 2≠1 by decide)
  refine AD (Td F hw P.Nm P.Hd f5 P.L h273 ?_)
  have E1:∀ i:Id,i≠(t,2,5)→upd h (t,2,5) (.list (AC G w tm)) i=h i:=fun i hi=>Ae hi
  have z0:∀ i:Id,i.1=0→i≠(t,2,5):=fun i hi e=>by rw[e] at hi;omega
  have L1:LcI (m.set 288 (.ref (t,2,5))) tn g:=P.L.set rfl
  have l1:lk (m.set 288 (.ref (t,2,5))) 273 (.int (w:Nat)):=AP h273 (by decide)
  have l2:lk (m.set 288 (.ref (t,2,5))) 288 (.ref (t,2,5)):=Bc (P.L.has 288 rfl)
  have Fr1:FrI G (upd h (t,2,5) (.list (AC G w tm))):=HM P.Fr fun i hi=>E1 i (z0 i hi)
  have Fi1:Jp G tn tm (upd h (t,2,5) (.list (AC G w tm))):=by
    refine xE P.Fi fun ep q=>?_
    exact ⟨ep,(E1 _ fun e=>by lia).trans q⟩
  have S1:Gl G w R len (upd h (t,2,5) (.list (AC G w tm))):=by
    refine ⟨?_,(E1 _ (z0 _ rfl)).trans S.ls,fun k r hk q=>?_⟩
    · refine Ib S.st fun ep es e1 e2=>?_
      exact (Ff ep es ((E1 _ (z0 _ rfl)).trans e1) e2)
    · refine xAA (S.rc k r hk q) fun zz9a zz9b c1=>?_;refine xE zz9a fun a a1=>?_;refine xE zz9b fun b b1=>?_
      refine xA (H0.lt k r hk q) fun y1 _=>?_
      have n0:∀ {a b:Nat},((a,0,b):Id)≠(t,2,5):=fun e=>by lia
      exact (iAA ⟨a,(E1 _ n0).trans a1⟩ ⟨b,(E1 _ n0).trans b1⟩ ((E1 _ fun e=>by lia).trans c1))
  have sn1:upd h (t,2,5) (.list (AC G w tm)) (t,2,5)=some (.list (AC G w tm)):=Aj
  have fr1:∀ i:Id,t≤i.1→i.2.1≠1→i≠(t,2,5)→upd h (t,2,5) (.list (AC G w tm)) i=none:=fun i a b e=>(E1 i e).trans (P.F i a b)
  have SM1:FO w t h (upd h (t,2,5) (.list (AC G w tm))):=fun i hi=>E1 i fun e=>by
    subst e
    lia
  have T1:Ce c (upd h (t,2,5) (.list (AC G w tm))):=fun sc x q=>⟨(P.T sc x q).1,(SM1 _ (.inr (.inr (.inr (.inl (P.T sc x q).1))))).trans (P.T sc x q).2⟩
  generalize upd h (t,2,5) (.list (AC G w tm))=h₁ at *
  generalize m.set 288 (.ref (t,2,5))=m₁ at *
  have go:∀ R m₂ h₂,LcI m₂ tn g→lk m₂ 273 (.int (w:Nat))→lk m₂ 288 (.ref (t,2,5))→FrI G h₂→Jp G tn tm h₂→h₂ (t,2,5)=some (.list (AC G w tm))→Lz w t h₁ h₂→Fq w t R→Gl G w R len h₂ →
      Sts c 110 (.asg 289 (.list [])::.for1 26 (.call 11 [.int 3] []) [.asg 290 (.sub (.sub (.loc 156) (.loc 273)) (.loc 26)),.expr (.meth (.loc 289) 0 [TH] [])]::M4) m₂ h₂ fun o m' h'=>o=.nx∧Pre c G nl tn tm g (t+1) m' h'∧Sto G w (t+1) (len+7) h'∧FO w t h h':=by
    intro R m₂ h₂ L2 l1 l2 Fr2 Fi2 sn2 SG H2 S2
    refine Vd F HG hw (Nat.lt_of_le_of_lt (Nat.zero_le _) htn) Fr2 S2 sn2 (fun k hk=>?_) L2 l1 l2 fun m₃ h₃ J=>?_
    · rw[SG _ (.inr (.inl ⟨rfl,.inl (Nat.le_trans (by decide) hk)⟩))]
      exact fr1 _ (Nat.le_refl t) (show 2≠1 by decide) fun e=>by lia
    have E3:∀ i:Id,i.1≠t∨i.2.1≠2∨i.2.2<13∨17≤i.2.2→h₃ i=h₂ i:=fun i hi=>J.hs i fun a b=>by exact AaY hi a b
    have SM3:FO w t h₂ h₃:=fun i hi=>E3 i (by exact AaE hi)
    have SM:FO w t h h₃:=(SM1.trans SG.same).trans SM3
    have hT:Ce c h₃:=fun sc x q=>⟨(P.T sc x q).1,(SM _ (.inr (.inr (.inr (.inl (P.T sc x q).1))))).trans (P.T sc x q).2⟩
    refine xE Fi2 fun ep Fi2=>?_
    refine (Tx F HG hw hl hT H2 htw (Nat.le_of_lt htn) (HM Fr2 fun i hi=>E3 i (.inl (by exact ZL htn hi))) ⟨ep,(E3 _ (.inl (Nat.ne_of_lt htn))).trans Fi2⟩ (G8 S2 fun i hi=>E3 i (by exact AaW hi)) ((E3 _ (.inr (.inr (.inl (show 5<13 by decide))))).trans sn2) ⟨J.hl,J.hd 0 (by decide),J.hd 1 (by decide),J.hd 2 (by decide)⟩ (fun k=>?_) J.L J.l1 J.l2 J.l3).mono fun o m' h' zy12a=>zy12a.elim fun o1 Po=>?_
    · rw[E3 _ (.inr (.inl (show 0≠2 by decide))),SG _ (.inr (.inr (.inr (.inr rfl))))]
      exact fr1 _ (Nat.le_refl t) (show 0≠1 by decide) fun e=>by lia
    · exact (L6 o1 (UO P htn (SM.trans Po.S) Po.L Po.Fr Po.Fi) ⟨Po.R⟩ (SM.trans Po.S))
  refine AD ?_
  rcases hg with hg | ⟨k,hk,rfl⟩
  · refine xE RN fun a ea=>?_
    rw[ea]
    refine O6 (Gi (r:=decide (0≤g)) (Ay (AH (L1.kp 287 _ (.tail _ (.tail _ (.tail _ (.tail _ (.tail _ (.tail _ (.head _))))))))))  Bb (fun _ q=>Uj q) _ ?_)
    rw[decide_eq_false (by exact ZH hg)]
    exact EE (go R m₁ h₁ L1 l1 l2 Fr1 Fi1 sn1 (fun _ _=>rfl) H0 S1)
  · refine ((TB F HG hw hl T1 H0 (Nat.le_of_lt htn) Fr1 Fi1 S1 sn1 (fun j=>fr1 _ (Nat.le_refl t) (show 5≠1 by decide) fun e=>by lia) hk L1 l1 l2).upn (by decide)).mono fun o m₂ h₂ ⟨o1,L2,a1,a2,Fr2,Fi2,sn2,SG,H2,S2⟩=>?_
    rw[o1]
    exact go _ m₂ h₂ L2 a1 a2 Fr2 Fi2 sn2 SG H2 S2
end
end
section
theorem NH {xs:List V} {lo hi:Option Int}:Cl xs lo hi none=((List.range (hi.elim xs.length (clipAt xs.length) - lo.elim 0 (clipAt xs.length))).map (lo.elim 0 (clipAt xs.length)+ ·)).filterMap (xs[·]?):=by
  unfold Cl
  rw[sliceBounds_plain]
  rw[sliceRange_one]
theorem Ie {xs:List V} {lo hi st:Option Int} {x:V} (hx:x∈Cl xs lo hi st):x∈xs:=by
  refine xEA (List.mem_filterMap.mp hx) fun k _ e=>?_
  exact List.mem_of_getElem? e
theorem O0 {n k:Nat}:clipAt n (k:Int)≤k:=by
  unfold clipAt
  omega
theorem Ik {xs:List V} {lo:Option Int} {k:Nat}:(Cl xs lo (some (k:Int)) none).length≤k:=by
  rw[NH]
  refine Nat.le_trans (List.length_filterMap_le ..) ?_
  rw[List.length_map,List.length_range]
  exact Nat.le_trans (Nat.sub_le ..) O0
noncomputable def FT (xs:List V):Prop:=∀ x∈xs,∃ i,x=.int i
theorem Of {α:Type} (xs:List α):∀ k:Nat,((List.range k).map (0+ ·)).filterMap (xs[·]?)=xs.take k:=by
  intro zl;induction zl with
  | zero =>
    exact rfl
  | succ k ih =>
    rw[List.range_succ,List.map_append,List.filterMap_append,ih,List.take_add_one]
    show _++[0+k].filterMap _=_
    rw[Nat.zero_add,List.filterMap_cons]
    cases xs[k]?<;>rfl
theorem N7 {xs:List V} {k:Nat}:Cl xs none (some (k:Int)) none=xs.take k:=by
  rw[NH]
  show ((List.range (clipAt xs.length k - 0)).map (0+ ·)).filterMap _=_
  rw[Of,clipAt_nat]
  exact List.take_eq_take_min.symm
theorem two_ints {xs:List V} (h:FT xs) (l:2≤xs.length):∃ a b,xs.take 2=[.int a,.int b]:=by
  match xs,l with
  | x::y::_,_ =>
    obtain ⟨a,rfl⟩:=h x (.head _)
    obtain ⟨b,rfl⟩:=h y (.tail _ (.head _))
    exact (iEE a b rfl)
theorem FT.app {xs ys:List V} (a:FT xs) (b:FT ys):FT (xs++ys):=fun x hx=>(List.mem_append.mp hx).elim (a x) (b x)
section
variable {c:Cx} {d:Nat} {G:Lw} {w tn t len:Nat} {tm:Nat→Nat} {g x:Int} {R:Nat→Option Rc} {h:H} {m:Loc}
noncomputable def tmX (x:Int) (n:Nat):Nat:=(Int.fmod (Int.fdiv x (4^n)) 4).toNat
theorem WR {n:Nat}:tmX x n<4:=by
  have a:=Int.fmod_lt_of_pos (Int.fdiv x (4^n)) (show (0:Int)<4 by decide)
  exact AaB a
theorem RZ {n:Nat}:((tmX x n:Nat):Int)=Int.fmod (Int.fdiv x (4^n)) 4:=Int.toNat_of_nonneg (Int.fmod_nonneg_of_pos _ (by decide))
noncomputable def XV:X:=.lcomp (.bin .Mod (.bin .FloorDiv (.loc 285) (.bin .Pow (.int 4) (.loc 272))) (.int 4)) [272] true (.call 11 [.int 4] []) [] [272] [285]
noncomputable def Zc (x:Int):V→V
  | .int i=>.int (tmX x i.toNat:Nat)
  | _=>.none
theorem Jc {b k:Nat} (hb:b≤4) (hk:k≤12) (h0:0<b):((b:Int)^k)≠0∧((b:Int)^k).natAbs<2^60:=by
  have e:((b:Int)^k)=((b^k:Nat):Int):=(Int.natCast_pow b k).symm
  have p:0<b^k:=Nat.pow_pos h0
  have l:b^k≤4^12:=Nat.le_trans (Nat.pow_le_pow_left hb k) (Nat.pow_le_pow_right (by decide) hk)
  exact ⟨by exact Aa3 p,Nat.lt_of_le_of_lt l (by decide)⟩
theorem VV (F:Aq c) {j:Id} (hj:h j=none) (h286:(m.rw.lookup 286).isSome=true) (h285:lk m 285 (.int x)) {Q:Out→Loc→H→Prop}
    (q:Q .nx (m.set 286 (.ref j)) (upd h j (.list (HY (tmX x))))):St c d (.asgC 286 XV) m h Q:=by
  refine G3 F.ok j h286 rfl (lcQ (f:=Zc x) (p:=fun _=>true) (Dk F (n:=4) (by decide)) CH (fun _=>trivial) (by decide) hj (fun _ _ _=>⟨rfl,rfl⟩) (fun y hy _ acc=>?_) q)
  refine xEA (Kk hy) fun k hk zz4c=>?_;obtain rfl:=zz4c
  have fs:Zc x (.int (k:Nat))=.int (tmX x k:Nat):=congrArg (fun k=>V.int (tmX x k:Nat)) (Int.toNat_natCast k)
  rw[fs,RZ]
  obtain ⟨p1,p2⟩:=Jc (b:=4) (k:=k) (by decide) (by exact ZS hk) (by decide)
  have pw:Pu c d (.bin .Pow (.int 4) (.loc 272)) ⟨(Bf m [272] [285]).ro,[(272,some (.int (k:Nat)))]⟩ (upd h j (.list acc)) (.int (4^k)):=by
    exact Rt Bb (Ay BL) (Int.natCast_nonneg k) (by exact AaJ hk) (by decide)
  exact JJ (LJ (Ay (Dc (AH h285) (.head _) (by decide))) pw p1 p2) Bb (by decide)
theorem dcQ {kx vx src:X} {n N:Nat} {ro:List Nat} {ks:Nat→List Nat} {f:Nat→V} {j:Id} {Q:V→H→Prop} (hN:N≤900) (hs:Pu c d src m h (.rng 0 1 N)) (hj:h j=none)
    (hk:∀ k,k<N→∀ o,Pu c d kx ⟨(Bf m [n] ro).ro,[(n,some (.int (k:Nat)))]⟩ (upd h j o) (.str (ks k)))
    (hv:∀ k,k<N→∀ o,Pu c d vx ⟨(Bf m [n] ro).ro,[(n,some (.int (k:Nat)))]⟩ (upd h j o) (f k))
    (q:∀ ep,Q (.ref j) (upd h j (.dict ep ((List.range N).foldl (fun acc k=>Dy (ks k) (f k) acc) [])))):DcQ c d kx vx n src ro m h j Q:=by
  refine hs _ ⟨E6 0 1 N,_,CH,by rw[NC];exact Ec hN,hj,fun r acc h'=>∃ i ep,i≤N∧r=(E6 0 1 N).drop i∧acc=(List.range i).foldl (fun acc k=>Dy (ks k) (f k) acc) []∧h'=upd h j (.dict ep acc),?_,(Fn 0 0 (Nat.zero_le _) rfl rfl rfl),?_,?_⟩
  · rintro r acc h' ⟨_,ep,_,_,_,rfl⟩
    exact (iAE trivial ep Aj)
  · rintro y r acc h' ⟨i,ep,hi,e1,e2,rfl⟩
    obtain ⟨e3,e4⟩:=Dx e1.symm
    have hy:(E6 0 1 N)[i]?=some y:=by
      have:((E6 0 1 N).drop i)[0]?=some y:=by rw[← e1];rfl
      rw[List.getElem?_drop] at this;exact this
    obtain ⟨hi',rfl⟩:=Jz hy
    refine hk i hi' _ _ (hv i hi' _ _ (Bj (ks i) rfl ⟨ep,Aj⟩ (fun ep'=>(Fn (i+1) ep' hi' e3.symm ?_ NA))))
    rw[List.range_succ,List.foldl_append,e2];rfl
  · rintro acc h' ⟨i,ep,hi,e1,e2,rfl⟩
    have:i=N:=by
      have:=congrArg List.length e1
      rw[List.length_drop,NC] at this
      exact q94 hi this
    rw[e2,this];exact q ep
end
end
section
theorem S9:((List.range 10).all fun k:Nat=>ON (k:Int)==[48+k])=true:=by decide +kernel
theorem TN {k:Nat} (hk:k<10):ON (k:Int)=[48+k]:=eq_of_beq (Ao S9 k (List.mem_range.mpr hk))
section
variable {c:Cx} {d:Nat} {G:Lw} {w tn t len T0:Nat} {tm:Nat→Nat} {g x:Int} {R:Nat→Option Rc} {h:H} {m:Loc} {nl:List V}
theorem Qm (F:Aq c) {a:X} {k:Nat} (pa:Pu c d a m h (.int (k:Nat))) (hk:k<10):Pu c d (.call 19 [a] []) m h (.str [48+k]):=fun _ q =>
  Kd F.ok (F.ok.stdv 19 _ rfl) rfl (A2 (pa _ (BT (Ke (IL (by exact Nat.lt_trans hk (by decide)) (by rw[TN hk];exact q))))))
theorem RJ {a b:X} {s r:List Nat} (pa:Pu c d a m h (.str s)) (pb:Pu c d b m h (.str r)) (l:s.length+r.length≤2^20):Pu c d (.bin .Add a b) m h (.str (s++r)):=Fh pa pb fun _=>HO l
theorem TV {a b e:X} {u v z:V} (pa:Pu c d a m h u) (pb:Pu c d b m h v) (pe:Pu c d e m h z):Pu c d (.tup [a,b,e]) m h (.tup [u,v,z]):=fun _ q=>Qd (A2 (pa _ (A2 (pb _ (A2 (pe _ (BT ⟨show 3≤2^20 by decide,q⟩)))))))
theorem TO {a b:X} {u v:V} (pa:Pu c d a m h u) (pb:Pu c d b m h v):Pu c d (.tup [a,b]) m h (.tup [u,v]):=fun _ q=>Qd (A2 (pa _ (A2 (pb _ (BT ⟨show 2≤2^20 by decide,q⟩)))))
noncomputable def XZ:X:=.dcomp (.bin .Add (.str [102]) (.call 19 [.loc 272] [])) (.tup [.bin .Add (.int 10) (.sub (.loc 286) (.loc 272)),.bin .Mod (.sub (.sub (.loc 283) (.loc 272)) (.sub (.loc 286) (.loc 272))) (.int 2),.bin .Add (.str [100]) (.call 19 [.sub (.sub (.loc 283) (.loc 272)) (.sub (.loc 286) (.loc 272))] [])]) [272] true (.call 11 [.int 4] []) [272] [286,283]
theorem Xd (F:Aq c) (HG:Im G) (Nm:NmI G tn tm h) (Hd:HdI G h) {j:Id} (hj:h j=none) (h35:(m.rw.lookup 35).isSome=true) (h286:lk m 286 (.ref (tn,2,25))) (h283:lk m 283 (.ref (0,2,20))) {Q:Out→Loc→H→Prop}
    (q:∀ ep,Q .nx (m.set 35 (.ref j)) (upd h j (.dict ep (Sy G tm)))):St c d (.asgC 35 XZ) m h Q:=by
  refine Tw F.ok j h35 (dcQ (ks:=AB) (f:=fun k=>trV (trO G k (tm k))) (N:=4) (by decide) (Dk F (by decide)) hj (fun k hk o=>?_) (fun k hk o=>?_) q)
  · exact RJ (r:=[48+k]) OZ (Qm F (Ay BL) (by exact ZR hk)) (show 1+1≤2^20 by decide)
  · have ne:∀ {i:Id} {o':O},h i=some o'→upd h j o i=some o':=fun e=>by
      rw[Ae fun z=>by rw[z,hj] at e;exact nn e];exact e
    have g283:Pu c d (.loc 283) ⟨(Bf m [272] [286,283]).ro,[(272,some (.int (k:Nat)))]⟩ (upd h j o) (.ref (0,2,20)):=Ay (Dc (AH h283) (.tail _ (.head _)) (by decide))
    have g286:Pu c d (.loc 286) ⟨(Bf m [272] [286,283]).ro,[(272,some (.int (k:Nat)))]⟩ (upd h j o) (.ref (tn,2,25)):=Ay (Dc (AH h286) (.head _) (by decide))
    have pt:=Fz g286 (Ay BL) (ne Nm.tl) (by exact OA hk) (LP hk)
    have ph:=MM (Hd.upd hj) g283 (Ay BL) pt hk (Nm.lt k hk)
    have e2:((G.hv k (tm k) % 2:Nat):Int)=Int.fmod (G.hv k (tm k):Nat) 2:=by
      rw[Int.fmod_eq_emod_of_nonneg _ (by decide)];rfl
    show Pu c d _ _ _ (.tup [.int (10+(tm k:Int)),.int ((G.hv k (tm k) % 2:Nat):Int),.str [100,48+G.hv k (tm k)]])
    rw[e2]
    exact TV (Gj Bb pt) (JJ ph Bb (by decide)) (RJ (r:=[48+G.hv k (tm k)]) OZ (Qm F ph (by have:=HG.hv k _ hk (Nm.lt k hk);exact Aal this)) (show 1+1≤2^20 by decide))
noncomputable def goX:X:=.bin .Sub (.bin .Mod (.bin .FloorDiv (.loc 285) (.int 256)) (.int 6)) (.int 3)
noncomputable def goV (x:Int):Int:=Int.fmod (Int.fdiv x 256) 6 - 3
theorem UE:gOk (goV x):=by
  have a:=Int.fmod_lt_of_pos (Int.fdiv x 256) (show (0:Int)<6 by decide)
  by_cases z:goV x<0
  · exact .inl z
  · refine .inr (iEA ((goV x).toNat) ?_ ?_)
    · exact Aah a
    · exact Z8 z
theorem Yi (h285:lk m 285 (.int x)):Pu c d goX m h (.int (goV x)):=XS (JJ (LJ (Ay (AH h285)) Bb (by decide) (by decide)) Bb (by decide)) Bb
noncomputable def I1:List (Nat × V):=[(271,.ref (0,2,0)),(283,.ref (0,2,20)),(284,.ref (0,2,6)),(156,.ref (0,2,8))]
structure Ou (c:Cx) (G:Lw) (nl:List V) (T0 len:Nat) (m:Loc) (h:H):Prop where
  has:∀ n,A3.locs.contains n=true→(m.rw.lookup n).isSome=true
  kp:∀ n x,(n,x)∈I1→m.rw.lookup n=some (some x)
  T:Ce c h
  Fr:FrI G h
  Hd:HdI G h
  F:FrT T0 h
  S0:Sto G 0 T0 len h
  S1:Sto G 1 T0 len h
  X:h (1,1,0)=some (.list nl)
theorem Sto.mono {t' len':Nat} (S:Sto G w t len h) (a:t≤t') (b:len≤len'):Sto G w t' len' h:=by
  obtain ⟨R,H,S⟩:=S
  refine ⟨R,⟨fun k r hk q=>?_,H.ne⟩,⟨?_,S.ls,S.rc⟩⟩
  · refine JP (H.lt k r hk q) fun y1 y2 y3 y4=>?_
    exact (L6 (by exact Nat.lt_of_lt_of_le ‹_› ‹_›) (by exact Nat.lt_of_lt_of_le ‹_› ‹_›) (by exact Nat.lt_of_lt_of_le ‹_› ‹_›) y4)
  · refine Au S.st fun ep es e1 e2 e3=>?_
    exact (Al ep es e1 (by exact Z2 b e2) e3)
theorem Sto.upd {T k:Nat} {o:O} (S:Sto G w t len h) (hk:k≠5):Sto G w t len (upd h (T,2,k) o):=by
  obtain ⟨R,H,S⟩:=S
  refine ⟨R,H,G8 S fun i hi=>Ae fun e=>?_⟩
  rw[e] at hi
  lia
theorem K4 {j:Id} {o:O} (T:Ce c h) (hj:j.2.1≠1):Ce c (upd h j o):=fun sc x q=>⟨(T sc x q).1,(Ae fun e=>hj (by refine e▸?_;exact (T sc x q).1)).trans (T sc x q).2⟩
theorem MQ {T k:Nat} {o:O} (Fr:FrI G h) (hT:T≠0):FrI G (upd h (T,2,k) o):=HM Fr fun i hi=>Ae fun e=>by rw[e] at hi;exact hT hi
theorem WB:QH (Gs A3.body 6)=[.asgC 286 XV,.asgC 35 XZ,.asg 287 goX,.for1 273 (.tup [.int 0,.int 1]) Dd]:=rfl
noncomputable def PI (c:Cx) (G:Lw) (nl:List V) (T0 len:Nat) (x:Int) (i:Nat) (m:Loc) (h:H):Prop:=Pre c G nl T0 (tmX x) (goV x) (T0+1+i) m h∧Sto G 0 (T0+1+i) (len+7*i) h∧Sto G 1 (T0+1+i) (len+7*i) h
theorem Vn (F:Aq c) (HG:Im G) (hT0:T0 % 2=0) (hp:0<T0) (hl:len≤680) (O:Ou c G nl T0 len m h) (h285:lk m 285 (.int x)):Sts c 110 (QH (Gs A3.body 6)) m h fun o m' h'=>o=.nx∧Ou c G nl (T0+4) (len+14) m' h':=by
  simp only[WB]
  refine AD (VV F (j:=(T0,2,25)) (O.F _ (Nat.le_refl T0) (show 2≠1 by decide)) (O.has 286 rfl) h285 ?_)
  have hd1:=O.Hd.upd (j:=(T0,2,25)) (o:=.list (HY (tmX x))) (O.F _ (Nat.le_refl T0) (show 2≠1 by decide))
  have nm1:NmI G T0 (tmX x) (upd h (T0,2,25) (.list (HY (tmX x)))):=⟨Aj,fun _ _=>WR⟩
  have n4:upd h (T0,2,25) (.list (HY (tmX x))) (T0,2,4)=none:=(Ae fun e=>by cases congrArg (fun x:Id=>x.2.2) e).trans (O.F _ (Nat.le_refl T0) (show 2≠1 by decide))
  have k1:∀ n y,(n,y)∈I1→lk (m.set 286 (.ref (T0,2,25))) n y:=fun n y hy=>AP (O.kp n y hy) fun e=>by
    have:n∈I1.map (·.1):=List.mem_map_of_mem hy
    rw[e] at this;exact absurd this (by decide)
  refine AD (Xd F HG nm1 hd1 n4 (A1 (O.has 35 rfl)) (Bc (O.has 286 rfl)) (k1 _ _ (.tail _ (.head _))) fun ep=>?_)
  refine AD (Hw F.ok (A1 (A1 (O.has 287 rfl))) (Yi (AP (AP h285 (by decide)) (by decide)) _ ?_))
  have L:LcI (((m.set 286 (.ref (T0,2,25))).set 35 (.ref (T0,2,4))).set 287 (.int (goV x))) T0 (goV x):=by
    refine ⟨fun n hn=>A1 (A1 (A1 (O.has n hn))),?_⟩
    have k2:∀ p∈GC T0 (goV x),lk (((m.set 286 (.ref (T0,2,25))).set 35 (.ref (T0,2,4))).set 287 (.int (goV x))) p.1 p.2 :=
      Ag (AP (AP (k1 _ _ (.head _)) (by decide)) (by decide)) (Ag (AP (AP (k1 _ _ (.tail _ (.head _))) (by decide)) (by decide)) (Ag (AP (AP (k1 _ _ (.tail _ (.tail _ (.head _)))) (by decide)) (by decide)) (Ag (AP (AP (k1 _ _ (.tail _ (.tail _ (.tail _ (.head _))))) (by decide)) (by decide))
        (Ag (AP (AP (Bc (O.has 286 rfl)) (show 286≠35 by decide)) (show 286≠287 by decide)) (Ag (AP (Bc (A1 (O.has 35 rfl))) (show 35≠287 by decide)) (Ag (Bc (A1 (A1 (O.has 287 rfl)))) Ca))))))
    exact fun n y hy=>k2 (n,y) hy
  have nx:∀ {a b:Nat},((1,1,0):Id)≠(a,2,b):=fun e=>by cases congrArg (fun x:Id=>x.2.1) e
  have up:∀ {i:Id} {o:Mine.O},upd h (T0,2,25) (.list (HY (tmX x))) i=some o→upd (upd h (T0,2,25) (.list (HY (tmX x)))) (T0,2,4) (.dict ep (Sy G (tmX x))) i=some o:=fun e=>by
    rw[Ae fun z=>by rw[z,n4] at e;exact nn e];exact e
  have P0:PI c G nl T0 len x 0 (((m.set 286 (.ref (T0,2,25))).set 35 (.ref (T0,2,4))).set 287 (.int (goV x))) (upd (upd h (T0,2,25) (.list (HY (tmX x)))) (T0,2,4) (.dict ep (Sy G (tmX x)))):=by
    refine (iAA ⟨L,K4 (K4 O.T (show 2≠1 by decide)) (show 2≠1 by decide),MQ (MQ O.Fr (by exact Yn hp)) (by exact Yn hp),hd1.upd n4,⟨up nm1.tl,nm1.lt⟩,⟨ep,Aj⟩,fun i hi h1=>?_,(Ae nx).trans ((Ae nx).trans O.X)⟩ (((O.S0.upd (by decide)).upd (by decide)).mono (Nat.le_add_right _ _) (Nat.le_add_right _ _)) (((O.S1.upd (by decide)).upd (by decide)).mono (Nat.le_add_right _ _) (Nat.le_add_right _ _)))
    have ne:∀ {k},i≠(T0,2,k):=fun e=>by rw[e] at hi;lia
    rw[Ae ne,Ae ne]
    exact O.F i (by exact Nat.le_of_lt ‹_›) h1

  refine AD (Xr F.ok (TO Bb Bb) (La fun z=>absurd z fT) (PI c G nl T0 len x) P0 (fun i m h P=>⟨trivial,P.1.L.has 273 rfl⟩) (fun i y hy m₁ h₁ P=>?_) fun m₁ h₁ P=>EE ?_)
  · have one:∀ {w i:Nat},w<2→w=i→lk (m₁.set 273 (.int (w:Nat))) 273 (.int (w:Nat))→PI c G nl T0 len x i m₁ h₁→Sto G w (T0+1+i) (len+7*i) h₁→Sto G (1 - w) (T0+1+i) (len+7*i) h₁→Sts c 110 Dd (m₁.set 273 (.int (w:Nat))) h₁ fun o m' h'=>o=.nx∧(Pre c G nl T0 (tmX x) (goV x) (T0+1+(i+1)) m' h'∧Sto G w (T0+1+(i+1)) (len+7*(i+1)) h'∧Sto G (1 - w) (T0+1+(i+1)) (len+7*(i+1)) h'):=fun {w i} hw e l P a b=>by
      have P':Pre c G nl T0 (tmX x) (goV x) (T0+1+i) (m₁.set 273 (.int (w:Nat))) h₁:=⟨P.1.L.set rfl,P.1.T,P.1.Fr,P.1.Hd,P.1.Nm,P.1.Fi,P.1.F,P.1.X⟩
      refine (OX F HG hw (by exact AaO hl hw e) (by exact Aas hT0 e) (by exact Nat.le_add_right _ _) UE P' a l).mono fun o m' h' zy5a=>JP zy5a fun o1 p1 s1 sm=>(L6 o1 p1 (s1.mono (Nat.le_refl _) (by exact Nat.le_refl _)) ((other hw b sm).mono (Nat.le_refl _) (by exact Aae)))
    match i,hy with
    | 0,hy =>
      refine (oJ hy)▸?_
      exact (one (w:=0) (by decide) rfl (Bc (P.1.L.has 273 rfl)) P P.2.1 P.2.2).mono fun o m' h' zy6a=>JP zy6a fun o1 a b e=>⟨o1,a,b,e⟩
    | 1,hy =>
      refine (oJ hy)▸?_
      exact (one (w:=1) (by decide) rfl (Bc (P.1.L.has 273 rfl)) P P.2.2 P.2.1).mono fun o m' h' zy7a=>JP zy7a fun o1 a b e=>⟨o1,a,e,b⟩
    | i+2,hy=>exact nn hy
  · refine xAA P fun P s0 s1=>?_
    refine ⟨rfl,P.L.has,fun n y hy=>P.L.kp n y (List.mem_append_left _ hy),P.T,P.Fr,P.Hd,fun i hi h1=>P.F i (Nat.le_trans (Nat.le_succ _) hi) h1,s0.mono (Nat.le_succ _) (Nat.le_refl _),s1.mono (Nat.le_succ _) (Nat.le_refl _),P.X⟩
end
end
section
noncomputable def UR:List S:=[Gs A3.body 3,Gs A3.body 4,Gs A3.body 5]
noncomputable def Md (a b:Int) (u v w:Option W):Mm:=⟨[],[(279,some (.sym 1)),(280,some (.int a)),(281,some (.int b)),(271,some (.sym 2)),(26,none),(282,none),(283,u),(284,v),(156,w),(285,none),(286,none),(35,none),(287,none),(273,none),(288,none),(289,none),(290,none),(291,none),(58,none),(47,none),(232,none),(292,none),(293,none),(59,none)]⟩
noncomputable def Zv (a b:Int):Rs (AU × Mm × Sg):=BW (ev T00 KN 110) UR (Md a b none none none) ⟨20,[],.nil⟩
noncomputable def Ga (a b:Int):HT:=match Zv a b with
  | .ok p=>p.2.2.L
  | .er _=>.nil
noncomputable def hvI (b:Int) (n t:Nat):Int:=Int.fmod (Int.fdiv b (3^(4*n+t))+(n:Int)+(t:Int)) 3
noncomputable def hvL (b:Int) (n:Nat):WO:=.list [.int (hvI b n 0),.int (hvI b n 1),.int (hvI b n 2),.int (hvI b n 3)]
theorem Se (a b:Int):Zv a b=.ok (.nx,Md a b (some (.ref 20)) (some (.ref 27)) (some (.ref 30)),⟨31,[],Ga a b⟩):=by kernel_rfl
theorem We (a b:Int):lo 20 (Ga a b)=some (.list [.ref 21,.ref 22,.ref 23,.ref 24]):=by kernel_rfl
theorem U6 (a b:Int):lo 21 (Ga a b)=some (hvL b 0):=by kernel_rfl
theorem UT (a b:Int):lo 22 (Ga a b)=some (hvL b 1):=by kernel_rfl
theorem VB (a b:Int):lo 23 (Ga a b)=some (hvL b 2):=by kernel_rfl
theorem VX (a b:Int):lo 24 (Ga a b)=some (hvL b 3):=by kernel_rfl
theorem Xu (a b:Int):lo 25 (Ga a b)=some (.dict []):=by kernel_rfl
theorem WW (a b:Int):lo 26 (Ga a b)=some (.dict []):=by kernel_rfl
theorem W9 (a b:Int):lo 27 (Ga a b)=some (.list [.ref 25,.ref 26]):=by kernel_rfl
theorem VG (a b:Int):lo 28 (Ga a b)=some (.list [.none,.none,.none]):=by kernel_rfl
theorem UW (a b:Int):lo 29 (Ga a b)=some (.list [.none,.none,.none]):=by kernel_rfl
theorem UI (a b:Int):lo 30 (Ga a b)=some (.list [.ref 28,.ref 29]):=by kernel_rfl
end
section
noncomputable def Mn (a:Int) (k n:Nat):Bool:=Int.fmod (Int.fdiv a (2^(4*k+n))) 2==1
noncomputable def Lh (a:Int) (k:Nat):List Nat:=(List.range 4).filter (Mn a k)
noncomputable def Jk (a:Int) (k:Nat):List Nat:=cond (Lh a k).isEmpty [k,3] (Lh a k)
noncomputable def MC (a b:Int):Lw:=⟨Jk a,fun n t=>(hvI b n t).toNat⟩
theorem QE:∀ b0 b1 b2 b3:Bool,([0,1,2,3].filter fun n=>match n with
    | 0=>b0
    | 1=>b1
    | 2=>b2
    | _=>b3).isEmpty=true∨([0,1,2,3].filter fun n=>match n with
    | 0=>b0
    | 1=>b1
    | 2=>b2
    | _=>b3)∈A5:=by decide
theorem Pn {a:Int} {k:Nat}:(Lh a k).isEmpty=true∨Lh a k∈A5:=by
  exact QE _ _ _ _
theorem TA {a b:Int}:Im (MC a b):=by
  refine ⟨fun k hk=>?_,fun n t _ _=>?_⟩
  · show Jk a k∈A5
    unfold Jk
    rcases Pn (a:=a) (k:=k) with e | e
    · rw[e]
      cases k,hk using n3;exact (show [0,3]∈A5 by decide);exact (show [1,3]∈A5 by decide);exact (show [2,3]∈A5 by decide)
    · cases z:(Lh a k).isEmpty with
      | true=>exact absurd (A4 z) (Ju e)
      | false=>exact e
  · have:=Int.fmod_lt_of_pos (Int.fdiv b (3^(4*n+t))+(n:Int)+(t:Int)) (show (0:Int)<3 by decide)
    show (hvI b n t).toNat<3
    exact ZJ this
section
variable {c:Cx} {d:Nat} {a b:Int} {h h₀:H} {m:Loc} {sc:List V}
noncomputable def ZF:X:=.lcomp (.loc 272) [272] true (.call 11 [.int 4] []) [.cmp .Eq (.bin .Mod (.bin .FloorDiv (.loc 280) (.bin .Pow (.int 2) (.bin .Add (.bin .Mult (.int 4) (.loc 26)) (.loc 272)))) (.int 2)) (.int 1)] [272] [280,26]
theorem Lf (F:Aq c) {k:Nat} (hk:k<3) {j:Id} (hj:h j=none) (h282:(m.rw.lookup 282).isSome=true) (h280:lk m 280 (.int a)) (h26:lk m 26 (.int (k:Nat))) {Q:Out→Loc→H→Prop}
    (q:Q .nx (m.set 282 (.ref j)) (upd h j (.list (nts (Lh a k))))):St c d (.asgC 282 ZF) m h Q:=by
  refine G3 F.ok j h282 rfl (lcQ (f:=id) (p:=fun y=>match y with
    | .int i=>Mn a k i.toNat
    | _=>false) (Dk F (n:=4) (by decide)) CH (fun _=>trivial) (by decide) hj (fun y hy acc=>?_) (fun y hy _ acc=>Ay BL) ?_)
  · refine xEA (Kk hy) fun n hn zz1c=>?_;obtain rfl:=zz1c
    show Bts c d true _ _ _ fun b h'=>b=Mn a k ((n:Nat):Int).toNat∧_
    rw[Int.toNat_natCast]
    have ex:Pu c d (.bin .Add (.bin .Mult (.int 4) (.loc 26)) (.loc 272)) ⟨(Bf m [272] [280,26]).ro,[(272,some (.int (n:Nat)))]⟩ (upd h j (.list acc)) (.int (4*(k:Int)+(n:Int))) :=
      Gj (V9 Bb (Ay (Dc (AH h26) (.tail _ (.head _)) (by decide))) (by decide)) (Ay BL)
    have pw:=Rt (x:=2) Bb ex (by exact ZO) (by exact AaU hk hn) (by decide)
    refine xA (Jc (b:=2) (k:=4*k+n) (by decide) (by exact ZP hk hn) (by decide)) fun p1 p2=>?_
    refine Gi (r:=Mn a k n) (JJ (LJ (Ay (Dc (AH h280) (.head _) (by decide))) pw p1 p2) Bb (by decide)) Bb (fun _ q=>Qn 9 rfl (by decide) q) _ ?_
    cases Mn a k n with
    | true=>exact ⟨rfl,rfl⟩
    | false=>exact ⟨rfl,rfl⟩
  · have e:E6 0 1 4=nts (List.range 4):=rfl
    rw[e,GK (q:=Mn a k) fun f=>by show Mn a k ((f:Nat):Int).toNat=_;rw[Int.toNat_natCast]]
    exact q
end
end
section
section
variable {c:Cx} {d:Nat} {a b:Int} {h h₀:H} {m:Loc} {sv:V}
structure RwI (sv:V) (a b:Int) (h₀:H) (i:Nat) (m:Loc) (h:H):Prop where
  has:∀ n,A3.locs.contains n=true→(m.rw.lookup n).isSome=true
  l1:lk m 279 sv
  l2:lk m 280 (.int a)
  l3:lk m 281 (.int b)
  l4:lk m 271 (.ref (0,2,0))
  hl:h (0,2,0)=some (.list ((List.range i).map fun j=>V.ref (0,2,1+j)))
  hr:∀ j,j<i→h (0,2,1+j)=some (.list (nts (Jk a j)))
  K:∀ x:Id,x.2.1=1→h x=h₀ x
  fr:∀ x:Id,x.2.1≠1→x.1≠1→(x.1=0→1+i≤x.2.2)→(x.1=2→2+i≤x.2.1)→h x=none
theorem RwI.up {i:Nat} (J:RwI sv a b h₀ i m h) {n:Nat} {x:V} (hn:([279,280,281,271].contains n)=false):RwI sv a b h₀ i (m.set n x) h:=by
  have ne:∀ k,k∈[279,280,281,271]→k≠n:=fun k hk e=>by
    rw[e] at hk;rw[List.contains_iff_mem.mpr hk] at hn;exact Bool.noConfusion hn
  exact ⟨fun k hk=>A1 (J.has k hk),AP J.l1 (ne _ (by decide)),AP J.l2 (ne _ (by decide)),AP J.l3 (ne _ (by decide)),AP J.l4 (ne _ (by decide)),J.hl,J.hr,J.K,J.fr⟩
noncomputable def Yh:List S:=[.asgC 282 ZF,.expr (.meth (.loc 271) 0 [.ite (.cmp .NotEq (.loc 282) (.list [])) (.loc 282) (.list [.loc 26,.int 3])] [])]
theorem O9 {i j:Id} {xs:List V} (hi:h i=some (.list xs)) (hj:h j=some (.list [])):eqD h 9 (.ref i) (.ref j)=some xs.isEmpty:=by
  show ((h i).bind LR).bind (fun xs=>((h j).bind LR).bind fun ys=>if xs.length=ys.length then BA (eqD h 8) xs ys else some false)=_
  refine hi.symm▸hj.symm▸?_
  cases xs with
  | nil=>rfl
  | cons _ _=>rfl
theorem Nt {r:List Nat}:(nts r).isEmpty=r.isEmpty:=List.isEmpty_map
theorem Ps (F:Aq c) {i:Nat} (hi:i<3) (J:RwI sv a b h₀ i m h) (h26:lk m 26 (.int (i:Nat))):Sts c d Yh m h fun o m' h'=>o=.nx∧RwI sv a b h₀ (i+1) m' h':=by
  have f1:h (0,2,1+i)=none:=J.fr _ (show 2≠1 by decide) (show 0≠1 by decide) (fun _=>Nat.le_refl _) fun e=>by injection e
  have f2:h (2,2+i,0)=none:=J.fr _ (show 2+i≠1 by exact Zd) (show 2≠1 by decide) (fun e=>by injection e) fun _=>Nat.le_refl _
  have f3:h (2,2+i,1)=none:=J.fr _ (show 2+i≠1 by exact Zd) (show 2≠1 by decide) (fun e=>by injection e) fun _=>Nat.le_refl _
  have z1:((2,2+i,1):Id)≠(0,2,1+i):=fun e=>by cases congrArg (fun x:Id=>x.1) e
  have z2:((2,2+i,1):Id)≠(2,2+i,0):=fun e=>by cases congrArg (fun x:Id=>x.2.2) e
  have z3:((0,2,1+i):Id)≠(2,2+i,0):=fun e=>by cases congrArg (fun x:Id=>x.1) e
  have z4:∀ {k:Nat},((0,2,0):Id)≠(2,2+i,k):=fun e=>by cases congrArg (fun x:Id=>x.1) e
  have z5:((0,2,0):Id)≠(0,2,1+i):=fun e=>by lia
  have z6:∀ {j k:Nat},((0,2,1+j):Id)≠(2,2+i,k):=fun e=>by cases congrArg (fun x:Id=>x.1) e
  have z7:∀ {j:Nat},j<i→((0,2,1+j):Id)≠(0,2,1+i):=fun hj e=>by lia
  have z8:∀ {j:Nat},((0,2,1+j):Id)≠(0,2,0):=fun {j} e=>by lia
  have fin:∀ (m':Loc) (h':H),RwI sv a b h₀ i m' h→h' (0,2,1+i)=some (.list (nts (Jk a i)))→h' (0,2,0)=some (.list ((List.range i).map fun j=>V.ref (0,2,1+j)))→(∀ x:Id,x≠(0,2,1+i)→x≠(2,2+i,0)→x≠(2,2+i,1)→h' x=h x) →
      RwI sv a b h₀ (i+1) m' (upd h' (0,2,0) (.list (((List.range i).map fun j=>V.ref (0,2,1+j))++[.ref (0,2,1+i)]))):=fun m' h' J' e1 e2 e3=>by
    refine ⟨J'.has,J'.l1,J'.l2,J'.l3,J'.l4,?_,fun j hj=>?_,fun x hx=>?_,fun x h1 h2 h3 h4=>?_⟩
    · rw[List.range_succ,List.map_append];rfl
    · rw[Ae z8]
      by_cases z:j=i
      · refine z.symm▸?_;exact e1
      · rw[e3 _ (z7 (by exact Zm hj z)) z6 z6];exact J.hr j (by exact Zm hj z)
    · have q:∀ {u v:Nat},((u,2,v):Id)≠x:=fun e=>by subst e;(injection hx;subst_eqs)
      have q':∀ {v:Nat},((2,2+i,v):Id)≠x:=fun e=>by subst e;lia
      rw[Ae q.symm,e3 x q.symm q'.symm q'.symm];exact J.K x hx
    · have q1:x≠(0,2,0):=fun e=>by subst e;lia
      have q2:x≠(0,2,1+i):=fun e=>by subst e;have:=h3 rfl;lia
      have q3:∀ {v:Nat},x≠(2,2+i,v):=fun e=>by subst e;have:=h4 rfl;lia
      rw[Ae q1,e3 x q2 q3 q3]
      exact J.fr x h1 h2 (fun e=>by have:=h3 e;exact Nat.le_of_lt ‹_›) fun e=>by have:=h4 e;exact Nat.le_of_lt ‹_›
  cases hz:(Lh a i).isEmpty with
  | false =>
    have er:Jk a i=Lh a i:=by unfold Jk;rw[hz];rfl
    refine AD (Lf F hi f1 (J.has 282 rfl) J.l2 h26 ?_)
    have J1:=J.up (n:=282) (x:=.ref (0,2,1+i)) rfl
    refine AD (G2 (Gd F (Ay (AH J1.l4)) (MF (JR (GM (AH (Bc (J.has 282 rfl))) (Ee (2,2+i,1) (BT (iAA (by exact f3) (Nat.zero_le _) (MY 9 (O9 (by exact Aj) Aj) (by decide) (Dl ?_))))))))
      (show upd h (0,2,1+i) _ (0,2,0)=_ by rw[Ae z5];exact J.hl)))
    refine Nt.symm▸hz.symm▸?_
    refine GM (AH (Bc (J.has 282 rfl))) (Bj _ (by rw[Ae z4,Ae z5];exact J.hl) (by rw[List.length_map,List.length_range];exact XB hi) (EE ⟨rfl,fin _ _ J1 ?_ ?_ fun x q1 _ q3=>?_⟩))
    · rw[Ae z1.symm,Aj,er]
    · rw[Ae z4,Ae z5];exact J.hl
    · rw[Ae q3,Ae q1]
  | true =>
    have er:Jk a i=[i,3]:=by unfold Jk;rw[hz];rfl
    refine AD (Lf F hi f2 (J.has 282 rfl) J.l2 h26 ?_)
    have J1:=J.up (n:=282) (x:=.ref (2,2+i,0)) rfl
    refine AD (G2 (Gd F (Ay (AH J1.l4)) (MF (JR (GM (AH (Bc (J.has 282 rfl))) (Ee (2,2+i,1) (BT (iAA (by rw[Ae z2];exact f3) (Nat.zero_le _) (MY 9 (O9 (by rw[Ae z2.symm];exact Aj) Aj) (by decide) (Dl ?_))))))))
      (show upd h (2,2+i,0) _ (0,2,0)=_ by exact J.hl)))
    refine Nt.symm▸hz.symm▸?_
    refine Ee (0,2,1+i) (A2 (GM (AH (AP h26 (by decide))) (A2 (En (BT ⟨by exact f1,show 2≤2^20 by decide,_,by rw[Ae z5,Ae z4];exact J.hl,by rw[List.length_map,List.length_range];exact XB hi,EE ⟨rfl,fin _ _ J1 ?_ ?_ fun x q1 q2 q3=>?_⟩⟩)))))
    · rw[Aj,er];rfl
    · rw[Ae z5,Ae z4];exact J.hl
    · rw[Ae q1,Ae q3,Ae q2]
end
end
section
noncomputable def pTt:List (Nat × Nat × Nat):=[(25,3,7),(26,4,7),(27,2,6),(28,3,9),(29,4,9),(30,2,8)]
noncomputable def pT (k:Nat):Nat × Nat:=cond (Nat.blt k 20) (9,k) ((Ah k pTt).getD (2,k))
noncomputable def nuP (k:Nat):Id:=(0,(pT k).1,(pT k).2)
noncomputable def pD (x:Nat × Nat):Nat:=cond (Nat.beq x.1 2) (cond (Nat.beq x.2 6) 27 (cond (Nat.beq x.2 8) 30 x.2)) (cond (Nat.beq x.1 9) x.2 (cond (Nat.beq x.1 3) (cond (Nat.beq x.2 7) 25 28) (cond (Nat.beq x.2 7) 26 29)))
theorem Q5 (k:Nat):(k<20∧pT k=(9,k))∨(20≤k∧pT k=(2,k))∨(k,pT k)∈pTt:=by
  by_cases z:k<20
  · refine .inl ⟨z,?_⟩
    unfold pT
    rw[show Nat.blt k 20=true from Nat.ble_eq_true_of_le z];rfl
  · have e:pT k=(Ah k pTt).getD (2,k):=by
      unfold pT
      rw[show Nat.blt k 20=false from Bool.eq_false_iff.mpr fun e=>z (AV e)];rfl
    rw[e]
    cases q:Ah k pTt with
    | none=>exact .inr (.inl ⟨by exact Aao z,rfl⟩)
    | some x=>exact .inr (.inr (Ar q))
theorem Un (k:Nat):pD (pT k)=k:=by
  rcases Q5 k with ⟨_,e⟩ | ⟨z,e⟩ | e
  · rw[e];rfl
  · rw[e]
    show cond (Nat.beq k 6) 27 (cond (Nat.beq k 8) 30 k)=k
    rw[AQ (by exact AaL z),AQ (by exact ZX z)];rfl
  · have h:∀ p∈pTt,pD p.2=p.1:=by decide
    exact h _ e
theorem Sj (a b:Nat) (e:nuP a=nuP b):a=b:=by
  rw[← Un a,← Un b]
  exact congrArg pD (congrArg (fun x:Id=>x.2) e)
theorem Gx {k:Nat}:(nuP k).2.1≠1∧(20≤k→4≤(nuP k).2.2):=by
  show (pT k).1≠1∧(20≤k→4≤(pT k).2)
  rcases Q5 k with ⟨z,e⟩ | ⟨z,e⟩ | e
  · rw[e];exact ⟨show 9≠1 by decide,fun y=>by lia⟩
  · rw[e];exact ⟨show 2≠1 by decide,fun _=>by exact Aac z⟩
  · have h:∀ p∈pTt,p.2.1≠1∧4≤p.2.2:=by decide
    exact ⟨(h _ e).1,fun _=>(h _ e).2⟩
section
variable {c:Cx} {d:Nat} {a b:Int} {h h₀:H} {m:Loc} {sc:List V} {sv:V}
structure PrI (sv:V) (G:Lw) (a b:Int) (h₀:H) (m:Loc) (h:H):Prop where
  has:∀ n,A3.locs.contains n=true→(m.rw.lookup n).isSome=true
  kp:∀ n x,(n,x)∈I1→m.rw.lookup n=some (some x)
  l1:lk m 279 sv
  l2:lk m 280 (.int a)
  l3:lk m 281 (.int b)
  Fr:FrI G h
  Hd:HdI G h
  S:∀ w,w<2→Sto G w 4 0 h
  K:∀ x:Id,x.2.1=1→h x=h₀ x
  fr:∀ x:Id,x.2.1≠1→3≤x.1→h x=none
noncomputable def KS (sv:V) (h:H):Vl:=⟨fun j=>cond (Nat.beq j 1) sv (.ref (0,2,0)),fun _=>[],fun _=>[],fun _ _=>False,nuP,h⟩
theorem SC {i:Id} (hi:i.1≠0∨i.2.1=1∨(i.2.1=2∧i.2.2<4)) (k:Nat):nuP k≠i:=fun e=>by
  have e1:0=i.1:=congrArg (fun x:Id=>x.1) e
  have e2:pT k=i.2:=congrArg (fun x:Id=>x.2) e
  have n1:=(Gx (k:=k)).1
  rw[e] at n1
  rcases Q5 k with ⟨_,y⟩ | ⟨z,y⟩ | y
  · rw[y] at e2
    lia
  · have:=(Gx (k:=k)).2 z
    rw[e] at this
    lia
  · have h:∀ p∈pTt,p.1≥20:=by decide
    have:=(Gx (k:=k)).2 (h _ y)
    rw[e] at this
    exact Z5 hi e1 n1 this
theorem Lj {α:Type} {n:Nat}:∀ {l:List (Nat × α)},n∈l.map (·.1)→(Ah n l).isSome=true
  | p::r,hn=>by
    show (cond (Nat.beq n p.1) (some p.2) (Ah n r)).isSome=true
    cases z:Nat.beq n p.1 with
    | true=>rfl
    | false =>
      rcases List.mem_cons.mp hn with e | e
      · rw[e,Nat.beq_refl] at z;exact Bool.noConfusion z
      · exact Lj e
theorem OD {v:Vl} {zf:Nat→O} {r:Ev} (I:C4 c v d r) {rest:List Mine.S} {Q:Out→Loc→H→Prop} {p:Mm × Sg} (q:∀ m' h',MRl v p.1 m'→HR v zf p.2 h'→Sts c d rest m' h' Q):∀ {xs:List Mine.S} {mm:Mm} {σ:Sg} {ml:Loc} {h:H},BW r xs mm σ=.ok (.nx,p)→MRl v mm ml→HR v zf σ h→Sts c d (xs++rest) ml h Q:=by
  intro zl;induction zl with
  | nil =>
    intro mm σ ml h e M R
    injection e with e
    injection e with _ e
    rw[← e] at q
    exact q ml h M R
  | cons x xs ih =>
    intro mm σ ml h e M R
    have e:bd (r.s x mm σ) (fun p=>cond (HC p.1) (BW r xs p.2.1 p.2.2) (.ok p))=.ok (.nx,p):=e
    refine bdK e fun zz1a e2 e1=>?_;obtain ⟨a1,a2,a3⟩:=zz1a
    have z:a1=.nx∧BW r xs a2 a3=.ok (.nx,p):=by
      rcases Af e1 with ⟨z,e1⟩ | ⟨z,e1⟩
      · exact ⟨N0 z,e1⟩
      · injection e1 with e1
        injection e1 with e1 _
        have z:HC a1=false:=z
        rw[e1] at z;exact Bool.noConfusion z
    refine AD ((I.s e2 M R).mono fun o m' h' zy2a=>xAA zy2a fun y1 M' R'=>?_)
    rw[y1,z.1]
    exact ih z.2 M' R'
theorem JN {n t:Nat}:V.int (hvI b n t)=.int (((MC a b).hv n t:Nat):Int):=congrArg V.int (Int.toNat_of_nonneg (Int.fmod_nonneg_of_pos _ (by decide))).symm
theorem VW (F:Aq c) (T:Ce c h₀) (J:RwI sv a b h₀ 3 m h) {rest:List Mine.S} {Q:Out→Loc→H→Prop} (q:∀ m' h',PrI sv (MC a b) a b h₀ m' h'→Sts c 110 rest m' h' Q):Sts c 110 (UR++rest) m h Q:=by
  have VO:AO c (KS sv h) T00:=⟨Sj,fun sc x e=>⟨fun k e2=>Gx.1 (by rw[show (KS sv h).ν k=nuP k from rfl] at e2;rw[e2];exact (T sc x e).1),(J.K _ (T sc x e).1).trans (T sc x e).2⟩,fun _ _ _ e=>nn e,fun _ _ e=>nn e,fun _ _ _ e=>nn e,fun _ _ _ e=>nn e,fun _ e=>absurd e fT,fun _ _ _ _ e=>nn e,fun _ _ _ e=>nn e⟩
  have M0:MRl (KS sv h) (Md a b none none none) m:=by
    refine ⟨fun n x e=>?_,fun n e=>?_,fun n x _ e=>nn e⟩
    · have al:∀ p∈[(279,W.sym 1),(280,.int a),(281,.int b),(271,.sym 2)],m.rw.lookup p.1=some (some (den (KS sv h) p.2)):=Ag J.l1 (Ag J.l2 (Ag J.l3 (Ag J.l4 Ca)))
      have z:((Md a b none none none).rw.filterMap fun p=>p.2.map (p.1,·))=[(279,W.sym 1),(280,.int a),(281,.int b),(271,.sym 2)]:=rfl
      refine al (n,x) ?_
      rw[← z];exact List.mem_filterMap.mpr (iEA _ (Ar e) rfl)
    · refine J.has n ?_
      refine isK e fun o e=>?_
      have z:(Md a b none none none).rw.map (·.1)=A3.locs:=rfl
      rw[← z]
      exact List.contains_iff_mem.mpr (List.mem_map_of_mem (Ar e))
  have R0:HR (KS sv h) (fun _=>.list []) ⟨20,[],.nil⟩ h:=⟨fun k o e=>nn e,fun k hk=>J.fr (nuP k) Gx.1 (show 0≠1 by decide) (fun _=>Gx.2 hk) (fun e=>by exact Aam e),fun _ _=>rfl,fun k q=>absurd q fT,fun k o e=>nn e⟩
  refine OD (Lg VO F GQ 110) (fun m' h' M R1=>q m' h' ?_) (Se a b) M0 R0
  have R1:HR (KS sv h) (fun _=>.list []) ⟨31,[],Ga a b⟩ h':=R1
  have M:MRl (KS sv h) (Md a b (some (.ref 20)) (some (.ref 27)) (some (.ref 30))) m':=M
  have old:∀ x:Id,x.1≠0∨x.2.1=1∨(x.2.1=2∧x.2.2<4)→h' x=h x:=fun x hx=>R1.old x (SC hx)
  have lo_:∀ {k o},lo k (Ga a b)=some o→OR (KS sv h) o (h' (nuP k)):=fun e=>R1.ats _ _ e
  have two:∀ {k:Nat},k<4→((0,2,k):Id).2.1=2∧((0,2,k):Id).2.2<4:=fun hk=>⟨rfl,hk⟩
  have hr:∀ n,n<4→h' (0,2,21+n)=some (.list [V.int (hvI b n 0),.int (hvI b n 1),.int (hvI b n 2),.int (hvI b n 3)]):=fun n hn=>(by cases n,hn using n4;exact (lo_ (U6 a b));exact (lo_ (UT a b));exact (lo_ (VB a b));exact (lo_ (VX a b)))
  refine ⟨fun n hn=>?_,fun n x hx=>?_,M.rw 279 (.sym 1) rfl,M.rw 280 (.int a) rfl,M.rw 281 (.int b) rfl,⟨(old _ (.inr (.inr (two (by decide))))).trans J.hl,(old _ (.inr (.inr (two (by decide))))).trans (J.hr 0 (by decide)),(old _ (.inr (.inr (two (by decide))))).trans (J.hr 1 (by decide)),(old _ (.inr (.inr (two (by decide))))).trans (J.hr 2 (by decide)),lo_ (W9 a b),lo_ (UI a b)⟩,
    ⟨lo_ (We a b),fun n hn=>?_⟩,fun w hw=>?_,fun x hx=>(old x (.inr (.inl hx))).trans (J.K x hx),fun x h1 h3=>(old x (.inl (by exact ZY h3))).trans (J.fr x h1 (by exact Z4 h3) (fun e=>by exact Aaw h3 e) fun e=>by exact ZZ h3 e)⟩
  · refine M.has n ?_
    have:n∈(Md a b (some (.ref 20)) (some (.ref 27)) (some (.ref 30))).rw.map (·.1):=by exact List.contains_iff_mem.mp hn
    exact Lj this
  · have al:∀ p∈I1,m'.rw.lookup p.1=some (some p.2):=Ag (M.rw 271 (.sym 2) rfl) (Ag (M.rw 283 (.ref 20) rfl) (Ag (M.rw 284 (.ref 27) rfl) (Ag (M.rw 156 (.ref 30) rfl) Ca)))
    exact al _ hx
  · have:=hr n hn
    rw[JN (a:=a),JN (a:=a),JN (a:=a),JN (a:=a)] at this
    exact this
  · refine ⟨fun _=>none,⟨fun k r _ e=>nn e,fun j k r s _ _ e=>nn e⟩,⟨?_,?_,fun k r _ e=>nn e⟩⟩
    · cases w,hw using n2;exact (by refine xE (lo_ (Xu a b)) fun ep e=>?_;exact ⟨ep,[],e,Nat.le_refl _,fun _ _=>rfl⟩);exact (by refine xE (lo_ (WW a b)) fun ep e=>?_;exact (Al ep ([]) e (Nat.le_refl _) (fun _ _=>rfl)))
    · cases w,hw using n2;exact (lo_ (VG a b));exact (lo_ (UW a b))
noncomputable def nlX:X:=.slc (.bin .Add (.slc (.loc 279) (.int 2) (.int 5) .none) (.list [.bin .Add (.loc 280) (.int 27),.bin .Add (.loc 281) (.int 228),.bin .Add (.bin .Add (.loc 280) (.loc 281)) (.int 57)])) .none (.int 3) .none
noncomputable def nlV (sc:List V) (a b:Int):List V:=Cl (Cl sc (some 2) (some 5) none++[V.int (a+27),.int (b+228),.int (a+b+57)]) none (some 3) none
theorem Wy (hi:FT sc):FT (nlV sc a b)∧(nlV sc a b).length≤3:=by
  have nt:FT [V.int (a+27),.int (b+228),.int (a+b+57)]:=Ag ⟨_,rfl⟩ (Ag ⟨_,rfl⟩ (Ag ⟨_,rfl⟩ Ca))
  exact ⟨fun x hx=>(FT.app (fun x hx=>hi x (Ie hx)) nt) x (Ie hx),Ik (k:=3)⟩
theorem ZG (F:Aq c) (l1:lk m 279 sv) (l2:lk m 280 (.int a)) (l3:lk m 281 (.int b)) (hs:∀ h,Od c sv h sc) (hi:FT sc) (hl:sc.length≤63) (fr:∀ x:Id,x.2.1≠1→3≤x.1→h x=none) (f1:h (1,1,0)=none) {Q:V→H→Prop}
    (q:∀ h',h' (1,1,0)=some (.list (nlV sc a b))→(∀ x:Id,x≠(1,1,0)→(x.1=3→x.2.1=2→3≤x.2.2)→h' x=h x)→Q (.ref (1,1,0)) h'):E c d nlX m h Q:=by
  have fr0:h (3,2,0)=none:=fr _ (show 2≠1 by decide) (Nat.le_refl _)
  have fr1:h (3,2,1)=none:=fr _ (show 2≠1 by decide) (Nat.le_refl _)
  have fr2:h (3,2,2)=none:=fr _ (show 2≠1 by decide) (Nat.le_refl _)
  have pl:(Cl sc (some 2) (some 5) none).length≤5:=Ik (k:=5)
  refine KT (1,1,0) (NL (KT (3,2,0) (GM (AH l1) (En (En (BU (Cu sc (some 2) (some 5) none (hs _) (Nat.le_trans hl (by decide)) rfl rfl rfl nofun fr0 ?_)))))))
  refine Ee (3,2,1) (A2 (Gj (Ay (AH l2)) Bb _ (A2 (Gj (Ay (AH l3)) Bb _ (A2 (Gj (Gj (Ay (AH l2)) (Ay (AH l3))) Bb _ (BT (iAA (by exact fr1) (show 3≤2^20 by decide) ?_))))))))
  refine Ey (k:=(3,2,2)) (by rw[Ae (by decide)];exact Aj) Aj (by exact fr2) (by exact Zj pl) ?_
  refine BU (En (BU (Cu _ none (some 3) none (.inl (iEA _ rfl Aj)) ?_ rfl rfl rfl nofun (by exact f1) ?_)))
  · rw[List.length_append];exact Zj pl
  refine q _ Aj fun x h1 h2=>?_
  have ne:∀ {k:Nat},k<3→x≠(3,2,k):=fun hk e=>by subst e;have:=h2 rfl rfl;exact absurd this (Nat.not_le_of_lt hk)
  rw[Ae h1,Ae (ne (by decide)),Ae (ne (by decide)),Ae (ne (by decide))]
noncomputable def abX:X:=.slc (.bin .Add (.slc (.loc 279) .none (.int 2) .none) (.list [.int 0,.int 0])) .none (.int 2) .none
theorem YG (F:Aq c) (l1:lk m 279 sv) (hs:∀ h,Od c sv h sc) (hi:FT sc) (hl:sc.length≤63) (fr:∀ x:Id,x.2.1≠1→h x=none) {Q:V→H→Prop}
    (q:∀ a b h',h' (1,2,3)=some (.list [.int a,.int b])→(∀ x:Id,x.1≠1∨x.2.1≠2→h' x=h x)→Q (.ref (1,2,3)) h'):E c d abX m h Q:=by
  have fr':∀ {k:Nat},h (1,2,k)=none:=fr _ (show 2≠1 by decide)
  refine KT (1,2,3) (NL (KT (1,2,0) (GM (AH l1) (BU (En (BU (Cu sc none (some 2) none (hs _) (Nat.le_trans hl (by decide)) rfl rfl rfl nofun fr' ?_)))))))
  refine Ee (1,2,1) (A2 (En (A2 (En (BT (iAA (by exact fr') (show 2≤2^20 by decide) ?_))))))
  have pl:(Cl sc none (some 2) none).length≤2:=Ik (k:=2)
  refine Ey (k:=(1,2,2)) (by rw[Ae (by decide)];exact Aj) Aj (by exact fr') (by exact Zf pl) ?_
  refine BU (En (BU (Cu _ none (some 2) none (.inl (iEA _ rfl Aj)) ?_ rfl rfl rfl nofun (by exact fr') ?_)))
  · rw[List.length_append];exact Zf pl
  have nt:FT [V.int 0,.int 0]:=Ag ⟨_,rfl⟩ (Ag ⟨_,rfl⟩ Ca)
  refine xEE (two_ints (FT.app (fun x hx=>hi x (Ie hx)) nt) (xs:=Cl sc none (some 2) none++[V.int 0,.int 0]) (by rw[List.length_append];exact Nat.le_add_left _ _)) fun a b e=>?_
  have e2:Cl (Cl sc none (some 2) none++[V.int 0,.int 0]) none (some 2) none=[.int a,.int b]:=(N7 (k:=2)).trans e
  refine q a b _ (by rw[Aj,e2]) fun x h1=>?_
  have ne:∀ {k:Nat},x≠(1,2,k):=fun e=>by subst e;rcases h1 with h1 | h1<;>exact h1 rfl
  rw[Ae ne,Ae ne,Ae ne,Ae ne]
theorem Ww:A3.body=.asgT [280,281] abX::.asg 271 (.list [])::.for1 26 (.call 11 [.int 3] []) Yh::(UR++[.for1 285 nlX (QH (Gs A3.body 6)),.ret .tt]):=rfl
theorem SN {v:V}:lk (setAll (GS A3 [v] [] []) ⟨[],A3.locs.map (·,none)⟩) 279 v:=rfl
theorem VI (F:Aq c) (T:Ce c h) (hs:∀ h,Od c sv h sc) (hi:FT sc) (hl:sc.length≤63) (fr:∀ x:Id,x.2.1≠1→h x=none) (f1:h (1,1,0)=none):A0 c 111 1097 [sv] [] [] h fun v h'=>v=.bool true∧Ce c h':=by
  refine F.fn.elim fun KF y=>?_
  refine MW F.ok y.1 (y.2 1097 A3 rfl) rfl rfl ?_
  have has0:∀ n,A3.locs.contains n=true→((setAll (GS A3 [sv] [] []) ⟨[],A3.locs.map (·,none)⟩).rw.lookup n).isSome=true:=fun n hn=>Ip (by exact List.contains_iff_mem.mp hn)
  have l0:=SN (v:=sv)
  generalize setAll (GS A3 [sv] [] []) ⟨[],A3.locs.map (·,none)⟩=m₀ at has0 l0
  rw[Ww]
  refine AD (Nb F.ok (Ag (has0 280 rfl) (Ag (has0 281 rfl) Ca)) (YG F l0 hs hi hl fr fun a b h₁ e1 e2=>(Bj _ (.inr (iEA _ rfl e1)) rfl ?_)))
  have L1:lk (setAll ([280,281].zip [.int a,.int b]) m₀) 279 sv:=AP (AP l0 (by decide)) (by decide)
  have L2:lk (setAll ([280,281].zip [.int a,.int b]) m₀) 280 (.int a):=AP (Bc (has0 280 rfl)) (by decide)
  have L3:lk (setAll ([280,281].zip [.int a,.int b]) m₀) 281 (.int b):=Bc (A1 (has0 281 rfl))
  have hasA:∀ n,A3.locs.contains n=true→((setAll ([280,281].zip [.int a,.int b]) m₀).rw.lookup n).isSome=true:=fun n hn=>A1 (A1 (has0 n hn))
  generalize setAll ([280,281].zip [.int a,.int b]) m₀=m₁ at L1 L2 L3 hasA
  have n0:h₁ (0,2,0)=none:=(e2 _ (.inl (by decide))).trans (fr _ (show 2≠1 by decide))
  refine AD (Hw F.ok (hasA 271 rfl) (Ee (0,2,0) (BT (iAA n0 (Nat.zero_le _) ?_))))
  have J0:RwI sv a b h 0 (m₁.set 271 (.ref (0,2,0))) (upd h₁ (0,2,0) (.list [])):=by
    refine ⟨fun n hn=>A1 (hasA n hn),AP L1 (by decide),AP L2 (by decide),AP L3 (by decide),Bc (hasA 271 rfl),Aj,fun j hj=>absurd hj (Nat.not_lt_zero _),fun x hx=>?_,fun x h1 h2 h3 _=>?_⟩
    · rw[Ae fun e=>by subst e;cases hx]
      exact e2 x (.inr (by exact q88 hx))
    · rw[Ae fun e=>by subst e;lia]
      exact (e2 x (.inl h2)).trans (fr x h1)
  refine AD (Xr F.ok (Dk F (n:=3) (by decide)) CH (RwI sv a b h) J0 (fun i m h J=>⟨trivial,J.has 26 rfl⟩) (fun i y hy m h J=>?_) fun m₂ h₂ J=>?_)
  · refine xA (Jz hy) fun hi zz5b=>?_;obtain rfl:=zz5b
    exact Ps F hi (J.up rfl) (Bc (J.has 26 rfl))
  refine VW F T J fun m₃ h₃ P=>?_
  have f13:h₃ (1,1,0)=none:=(P.K _ rfl).trans f1
  have ou:∀ {t l:Nat} {m:Loc} {h:H} {x:V},Ou c (MC a b) (nlV sc a b) t l m h→Ou c (MC a b) (nlV sc a b) t l (m.set 285 x) h:=fun O=>⟨fun n hn=>A1 (O.has n hn),fun n y hy=>AP (O.kp n y hy) fun e=>by
    have:n∈I1.map (·.1):=List.mem_map_of_mem hy
    rw[e] at this;exact absurd this (by decide),O.T,O.Fr,O.Hd,O.F,O.S0,O.S1,O.X⟩
  refine AD (Zb F.ok (xs:=nlV sc a b) (ok:=fun h'=>h' (1,1,0)=some (.list (nlV sc a b))) (fun i m h=>Ou c (MC a b) (nlV sc a b) (4+4*i) (14*i) m h) (ZG F P.l1 P.l2 P.l3 hs hi hl P.fr f13 fun h' e1 e2=>⟨EH e1 fun z=>absurd z fT,?_⟩) (fun i m h O=>⟨O.X,O.has 285 rfl⟩) (fun i y hy m h O=>?_) fun m h O=>AD (PF rfl (UU ⟨rfl,O.T⟩)))
  · have e0:∀ x:Id,x.2.1≠1→x.1≠3∨3≤x.2.2→h' x=h₃ x:=fun x h1 h2=>e2 x (fun e=>by subst e;exact h1 rfl) fun a _=>by exact Aa5 h2 a
    have st:∀ w,w<2→Sto (MC a b) w 4 0 h':=fun w hw=>by
      obtain ⟨R,H,S⟩:=P.S w hw
      exact ⟨R,H,G8 S fun x hx=>e2 x (fun e=>by
        subst e
        lia) fun a b=>by exact Aa0 hx b⟩
    refine ⟨P.has,P.kp,fun sc x q=>?_,HM P.Fr fun x hx=>e2 x (fun e=>by subst e;injection hx) fun a=>by exact Z0 hx a,⟨(e0 _ (show 2≠1 by decide) (.inr (show 3≤20 by decide))).trans P.Hd.hl,fun n hn=>(e0 _ (show 2≠1 by decide) (.inr (show 3≤21+n by exact Aat))).trans (P.Hd.hr n hn)⟩,fun x hx h1=>(e0 x h1 (.inl (by exact AaS hx))).trans (P.fr x h1 (by exact Nat.le_of_lt ‹_›)),st 0 (by decide),st 1 (by decide),e1⟩
    refine xA (T sc x q) fun t1 t2=>?_
    refine ⟨t1,(e2 _ (fun e=>?_) fun a b=>by exact Aaq t1 b).trans ((P.K _ t1).trans t2)⟩
    rw[e,f1] at t2;exact nn t2
  · refine xA (Wy (a:=a) (b:=b) hi) fun hi hl=>?_
    refine xE (hi y (List.mem_of_getElem? hy)) fun x zz9b=>?_;obtain rfl:=zz9b
    have hi3:i<3:=Nat.lt_of_lt_of_le (List.getElem?_eq_some_iff.mp hy).1 hl
    exact Vn (T0:=4+4*i) (len:=14*i) F TA (by exact AaV) (by exact Z9) (by exact Aag hi3) (ou O) (Bc (O.has 285 rfl))
end
end
section
noncomputable def f1 (c:Cx):Bool:=(List.range 26).all fun k=>(List.range 300).all fun n=>!Oz k n || c.fld k n
noncomputable def f2 (c:Cx):Bool:=(List.range 26).all fun k=>((OY[k]?).getD []).all fun p=>c.meth k p.1==some p.2
noncomputable def f3 (c:Cx):Bool:=(List.range 26).all fun k=>((PO[k]?).getD []).all fun p=>c.stat k p.1==some p.2
noncomputable def f4 (c:Cx):Bool:=(List.range 26).all fun k=>((PL[k]?).getD []).all fun p=>ST (c.catt k p.1) p.2
noncomputable def f6 (c:Cx):Bool:=gL.all fun p=>c.gv p.1==some (.ref p.2)&&keepIn c.K (.ref p.2)
noncomputable def f7 (c:Cx):Bool:=ckL.all fun k=>Bx c.K (c.cls k)
noncomputable def f8 (c:Cx):Bool:=(List.range 26).all fun k=>isIn c.K (.ref (c.cls k)) (c.cls k)
theorem N5:(OI.all fun a=>Nat.blt a (2^300))=true∧OI.length=26∧OY.length=26∧PO.length=26∧PL.length=26∧JB.length=26:=by decide +kernel
theorem Aay {α:Type} {l:List α} {k:Nat} {d x:α} (e:(l[k]?).getD d=x) (n:x≠d):k<l.length∧x∈l:=by
  cases q:l[k]? with
  | none=>rw[q] at e;exact absurd e.symm n
  | some y =>
    rw[q] at e
    rw[← e]
    exact ⟨(List.getElem?_eq_some_iff.mp q).1,List.mem_of_getElem? q⟩
theorem Bt3.all_get {p:Nat→Ak→Bool}:∀ {t:Bt3},t.all p=true→∀ {k D},t.get k=some D→p k D=true
  | .nil,_,k,D,e=>nn e
  | .node j E l r,h,k,D,e=>by
    refine Ad h fun h1 h=>?_
    refine Ad h fun h2 h3=>?_
    have e:cond (Nat.beq k j) (some E) (cond (Nat.blt k j) (Bt3.get k l) (Bt3.get k r))=some D:=e
    rcases Af e with ⟨z,e⟩ | ⟨_,e⟩
    · rw[eN z,← oJ e];exact h1
    rcases Af e with ⟨z,e⟩ | ⟨_,e⟩
    · exact Bt3.all_get h2 e
    · exact Bt3.all_get h3 e
theorem HJ {α:Type} {L:List (List (Nat × α))} {k n:Nat} {a:α} (hl:L.length=26) {p:Nat→Nat × α→Bool} (h:((List.range 26).all fun k=>((L[k]?).getD []).all (p k))=true) (e:Ah n ((L[k]?).getD [])=some a):p k (n,a)=true:=by
  have hk:k<26:=by
    cases q:L[k]? with
    | none=>rw[q] at e;exact nn e
    | some y=>rw[← hl];exact (List.getElem?_eq_some_iff.mp q).1
  exact Ao (Ao h k (List.mem_range.mpr hk)) _ (Ar e)
theorem PA {c:Cx} (O:c.Ok) (h1:f1 c=true) (h2:f2 c=true) (h3:f3 c=true) (h4:f4 c=true) {KF:Frag} (XF:KF.In c.B) (h5:∀ f D,fnB.get f=some D→Hr c.N KF f D=true) (h6:f6 c=true) (h7:f7 c=true) (h8:f8 c=true) (hc:∀ k a,JB[k]?=some a→c.cls k=a):Aq c:=by
  refine Mu N5 fun t1 t2 t3 t4 t5 t6=>?_
  refine ⟨O,fun k n e=>?_,fun k n f e=>?_,fun k n f e=>?_,fun k n v e=>?_,⟨KF,XF,h5⟩,fun n a e=>?_,fun n a e=>?_,hc,fun k e=>?_,fun k e=>?_⟩
  · have e:Nat.testBit ((OI[k]?).getD 0) n=true:=e
    obtain ⟨hk,hm⟩:=Aay (x:=(OI[k]?).getD 0) rfl fun z=>by rw[z,Nat.zero_testBit] at e;exact Bool.noConfusion e
    have hn:n<300:=by
      refine Nat.lt_of_not_le fun z=>?_
      have l:(OI[k]?).getD 0<2^n:=Nat.lt_of_lt_of_le (AV (Ao t1 _ hm)) (Nat.pow_le_pow_right (by decide) z)
      rw[Nat.testBit_lt_two_pow l] at e;exact Bool.noConfusion e
    have:=Ao (Ao h1 k (List.mem_range.mpr hk)) n (List.mem_range.mpr hn)
    have e:Oz k n=true:=e
    rw[e] at this
    exact this
  · exact eq_of_beq (HJ t3 (p:=fun k p=>c.meth k p.1==some p.2) h2 e)
  · exact eq_of_beq (HJ t4 (p:=fun k p=>c.stat k p.1==some p.2) h3 e)
  · exact PY (HJ t5 (p:=fun k p=>ST (c.catt k p.1) p.2) h4 e)
  · exact eq_of_beq (Aa (Ao h6 _ (Ar e))).1
  · exact (Aa (Ao h6 _ (Ar e))).2
  · exact Ao h7 k (List.contains_iff_mem.mp e)
  · refine isK e fun a e=>?_
    have hk:=(List.getElem?_eq_some_iff.mp e).1
    exact Ao h8 k (List.mem_range.mpr hk)
end
section
noncomputable def CQ:List (Addr × Addr):=[(1030,1026),(790,786)]
noncomputable def clA (a:Addr):Bool:=Nat.testBit 1214413519843863710114976098470780790799793455205376619529643096857865271168526983942506046282371957072728992289803880265859518966706880661060203895960099267002832144820238773478307948216268894731225643687485457408801496943285883067293458586093275890960281621507536995680959218325743148170231063828608267184127753186952871948 a
noncomputable def fA (a:Addr):Bool:=Nat.testBit 1751346319415483237125192784556355459822740778692863370214024223797846590129566020018011494006950137865970557313222966269689396622222348062417818907654363034988732421554824599542978124940647089058487036713271607814859052754888278093808820811418393346272384977389146567902557433033651356898332813893942862024826672213097390131904512 a
noncomputable def kC (K:Frag):Frag:=K.filter (fun q=>clA q.1)++K.filter (fun q=>fA q.1)
noncomputable def kL (K:Frag) (l:List Nat):Frag:=@List.rec Nat (fun _=>Frag) [] (fun a _ ih=>match lkF a K with
  | some o=>(a,o)::ih
  | none=>ih) l
noncomputable def kF (K:Frag):Frag:=kL K [20,21,53,54,67,68,74,75,81,82,88,89,95,96,102,103,109,110,130,131,137,138,144,145,151,152,158,159,179,180,186,187,205,206,212,213,231,232,233,239,240,246,247,253,254,274,275,281,282,288,289,295,296,302,303,309,310,316,317,318,324,325,331,332,338,339,345,346,352,353,359,360,366,367,368,372,373,393,394,400,401,407,408,423,429,430,488,489,495,496,571,572,573,574,575,576,577,583,584,590,591,597,598,604,605,611,612,618,619,625,626,632,633,639,640,641,647,648,652,653,659,660,666,667,682,688,689,695,696,702,703,709,710,716,717,723,724,735,736,749,750,756,757,763,764,773,774,783,784,790,791,797,798,804,805,811,812,832,833,839,840,860,861,867,868,874,875,876,882,883,889,890,896,897,903,904,910,911,917,918,938,939,945,946,952,953,959,960,966,967,973,974,980,981,987,988,994,995,1010,1016,1017,1023,1024,1030,1031,1037,1038,1044,1045,1051,1052,1058,1059,1065,1066,1072,1073,1084,1085,1091,1092,1096,1097]
noncomputable def LS:Params:={ (aWorld 1).params with strHash:=fun _=>0 }
theorem T9 {K:Frag} {a:Addr} {o:Obj} {l:List Nat}:(kL K l).lookup a=some o→K.lookup a=some o:=by
  induction l with
  | nil=>intro e;exact nn e
  | cons b l ih =>
    intro e
    have e:(match lkF b K with
      | some o=>(b,o)::kL K l
      | none=>kL K l).lookup a=some o:=e
    cases z:lkF b K with
    | none=>rw[z] at e;exact ih e
    | some o' =>
      rw[z] at e
      have e:((b,o')::kL K l).lookup a=some o:=e
      rw[List.lookup_cons] at e
      cases y:a==b with
      | true=>rw[y] at e;rw[eq_of_beq y];exact (Nq z).trans e
      | false=>rw[y] at e;exact ih e
noncomputable def P4:List (String × Addr × Addr × Id):=[("get_value",1030,1026,(0,1,1)),("add_filtered_task",790,786,(0,1,2))]
noncomputable def Gm (K:Frag):Par:=⟨kC K,names,JB,P4,[(233,0),(240,2),(241,1)]⟩
noncomputable def q0:Par:=⟨[],names,JB,P4,[(233,0),(240,2),(241,1)]⟩
noncomputable def cN:CxN:={ nm:=q0.nm,code:=q0.codeOf,gi:=fun n=>q0.gi.lookup n }
noncomputable def cxK (K:Frag) (prog:Program) (w:World) (s:Shared):Cx:=(Gm K).cx prog w (ghostOf s.heap CQ) s.os fun g=>g=#[]
noncomputable def hT0:H:=fun i=>cond (decide (i=(0,1,1))) (some (.tab 1026)) (cond (decide (i=(0,1,2))) (some (.tab 786)) none)
noncomputable def gT0 (B:Heap):G:=⟨fun i=>cond (decide (i=(0,1,1))) 1026 786,fun a=>cond (Nat.beq a 1026) (some ((0,1,1),false)) (cond (Nat.beq a 786) (some ((0,1,2),false)) none),B.get?⟩
theorem IM {kp:Addr→Bool} {K:Frag} {a:Addr} {o:Obj}:(K.filter fun q=>kp q.1).lookup a=some o→K.lookup a=some o:=by
  induction K with
  | nil=>intro e;exact nn e
  | cons p r ih =>
    intro e
    rw[List.filter_cons] at e
    rw[List.lookup_cons]
    cases hk:kp p.1 with
    | true =>
      rw[hk,if_pos rfl,List.lookup_cons] at e
      cases z:a==p.1 with
      | true=>rw[z] at e;exact e
      | false=>rw[z] at e;exact ih e
    | false =>
      rw[hk] at e
      cases z:a==p.1 with
      | false=>exact ih e
      | true =>
        exfalso
        rw[← eq_of_beq z] at hk
        have:∀ {l:Frag},(l.filter fun q=>kp q.1).lookup a≠some o:=fun {l}=>by
          induction l with
          | nil=>exact fun e=>nn e
          | cons p r ih =>
            rw[List.filter_cons]
            cases hp:kp p.1 with
            | false=>exact ih
            | true =>
              rw[if_pos rfl,List.lookup_cons]
              have:(a==p.1)=false:=beq_eq_false_iff_ne.mpr fun e=>by rw[e,hp] at hk;exact Bool.noConfusion hk
              rw[this];exact ih
        exact this e
theorem MP {K:Frag} {a:Addr} {o:Obj} (e:(kC K).lookup a=some o):K.lookup a=some o:=by
  have e:(K.filter (fun q=>clA q.1)++K.filter (fun q=>fA q.1)).lookup a=some o:=e
  rw[List.lookup_append] at e
  cases z:(K.filter fun q=>clA q.1).lookup a with
  | some o'=>rw[z] at e;exact (IM z).trans e
  | none=>rw[z] at e;exact IM e
theorem YX:EI names=true:=by kernel_rfl
noncomputable def f5 (K:Frag) (a b:Nat):Bool:=fnB.all fun f D=>!(Nat.ble a f&&Nat.blt f b) || Hr cN K f D
theorem ML {K:Frag} {a b f:Nat} {D:Ak} (h:f5 K a b=true) (e:fnB.get f=some D) (h1:a≤f) (h2:f<b):Hr cN K f D=true:=by
  have h:=Bt3.all_get h e
  rw[Nat.ble_eq_true_of_le h1,show Nat.blt f b=true from Nat.ble_eq_true_of_le h2] at h
  exact h
theorem PW:(fnB.all fun f _=>Nat.blt f 1200)=true:=by kernel_rfl
theorem Wf {K:Frag} (h1:f5 K 0 400=true) (h2:f5 K 400 800=true) (h3:f5 K 800 950=true) (h4:f5 K 950 1200=true) (f:Nat) (D:Ak) (e:fnB.get f=some D):Hr cN K f D=true:=by
  have l:f<1200:=AV (Bt3.all_get PW e)
  rcases Nat.lt_or_ge f 400 with z | z
  · exact ML h1 e (Nat.zero_le _) z
  rcases Nat.lt_or_ge f 800 with y | y
  · exact ML h2 e z y
  rcases Nat.lt_or_ge f 950 with x | x
  · exact ML h3 e y x
  · exact ML h4 e x l
section
variable {p prog:Program} {loose:List Str} {mean:ExcName→Option Value} {mg mb:Str→Option Value} {K:Frag} {w:World} {s:Shared} {fa l:Addr} {vs:List Value} {ns:List Int}
theorem WJ (hk:K.In s.heap) (T:Top p loose mean mg mb s.heap) (hi:importsNone p=true) (hT:TabsAt CQ s.heap) (kn:noTabs (Gm K).K=true) (ks:(Gm K).stdChk 26=true) (kg:((Gm K).gi.all fun q=>gvI ((Gm K).gv q.1) q.2)=true):(cxK K prog w s).Ok:=by
  have X:(Gm K).K.In (ghostOf s.heap CQ):=ghost_K hT (fun a o e=>hk a o (MP e)) kn
  have CA:=ghost_code hT
  refine Xc YX ks kg X ?_ ?_ (ghost_ns hT T.g) (ghost_ns hT T.b) T.builtins (Ag CA.1 (Ag CA.2.1 Ca)) ?_
  · refine xEA ((T.seer hi).mods) fun _ zz1b _=>?_;refine D1 zz1b fun o _ _ e _=>?_
    rw[ghost_ne e (by decide)];rfl
  · refine xEA T.nolimit fun mc a r=>?_
    exact ⟨mc,ghost_ns hT a,r⟩
  · refine G6 T.bmain fun bm ob a1 a2 a3 a4 r=>?_
    exact ⟨bm,ob,a1,a2,ghost_get hT a3 (fun q=>by rw[q] at a4;injection a4),a4,r⟩
theorem AaT (hT:TabsAt CQ s.heap) (hg:s.gens=#[]):Rep (cxK K prog w s) (gT0 (ghostOf s.heap CQ)) hT0 s:=by
  have t1:=(hT (1030,1026) (.head _)).2
  have t2:=(hT (790,786) (.tail _ (.head _))).2
  have n1:(ghostOf s.heap CQ).get? 1026=none:=hideAll_none _ (.head _)
  have n2:(ghostOf s.heap CQ).get? 786=none:=hideAll_none _ (.tail _ (.head _))
  have sl:∀ {a x},(gT0 (ghostOf s.heap CQ)).slot a=some x→(a=1026∧x=((0,1,1),false))∨(a=786∧x=((0,1,2),false)):=fun {a x} e=>by
    rcases Af e with ⟨z,e⟩ | ⟨_,e⟩
    · exact .inl ⟨eN z,(oJ e).symm⟩
    rcases Af e with ⟨z,e⟩ | ⟨_,e⟩
    · exact .inr ⟨eN z,(oJ e).symm⟩
    · exact nn e
  have hs:∀ {i o},hT0 i=some o→(i=(0,1,1)∧o=.tab 1026)∨(i=(0,1,2)∧o=.tab 786):=fun {i o} e=>by
    rcases Af e with ⟨z,e⟩ | ⟨_,e⟩
    · exact .inl ⟨of_decide_eq_true z,(oJ e).symm⟩
    rcases Af e with ⟨z,e⟩ | ⟨_,e⟩
    · exact .inr ⟨of_decide_eq_true z,(oJ e).symm⟩
    · exact nn e
  refine ⟨fun _ _ e=>e,fun _ _ e=>of_hideAll _ e,fun a o e=>?_,fun a x e=>?_,fun i e=>?_,fun i o e=>?_,hg,rfl⟩
  · cases q:(gT0 (ghostOf s.heap CQ)).slot a with
    | none=>rfl
    | some x =>
      have e:(ghostOf s.heap CQ).get? a=some o:=e
      rcases sl q with ⟨rfl,_⟩ | ⟨rfl,_⟩
      · rw[n1] at e;exact nn e
      · rw[n2] at e;exact nn e
  · rcases sl e with ⟨rfl,_⟩ | ⟨rfl,_⟩
    · exact ⟨Dm t1,n1⟩
    · exact ⟨Dm t2,n2⟩
  · refine isK e fun o e=>?_
    rcases hs e with ⟨rfl,_⟩ | ⟨rfl,_⟩
    · rfl
    · rfl
  · rcases hs e with ⟨rfl,rfl⟩ | ⟨rfl,rfl⟩
    · exact ⟨rfl,#[],t1,trivial⟩
    · exact ⟨rfl,#[],t2,trivial⟩
theorem Yf:Ce (cxK K prog w s) hT0:=fun sc x e=>by
  refine C0 e fun q h1 zz5c=>?_;obtain rfl:=zz5c
  exact (Ag ⟨rfl,rfl⟩ (Ag ⟨rfl,rfl⟩ Ca):∀ q∈(Gm K).code,q.2.2.2.2.1=1∧hT0 q.2.2.2=some (.tab q.2.2.1)) q (List.mem_of_find?_eq_some h1)
theorem Pz {Kf:Params→Frag} {P:Params} (hT:TabsAt CQ s.heap) (hk:(Kf P).In s.heap) (hK:kF (Kf P)=kF (Kf LS)) (kn:noTabs (kF (Kf LS))=true)
    (e1:f5 (kF (Kf LS)) 0 400=true) (e2:f5 (kF (Kf LS)) 400 800=true) (e3:f5 (kF (Kf LS)) 800 950=true) (e4:f5 (kF (Kf LS)) 950 1200=true)
    (h1:f1 (cxK (Kf P) prog w s)=true) (h2:f2 (cxK (Kf P) prog w s)=true) (h3:f3 (cxK (Kf P) prog w s)=true) (h4:f4 (cxK (Kf P) prog w s)=true) (h6:f6 (cxK (Kf P) prog w s)=true) (h7:f7 (cxK (Kf P) prog w s)=true) (h8:f8 (cxK (Kf P) prog w s)=true)
    (O:(cxK (Kf P) prog w s).Ok):Aq (cxK (Kf P) prog w s) :=
  PA O h1 h2 h3 h4 (KF:=kF (Kf LS)) (ghost_K hT (fun a o e=>hk a o (T9 (by rw[← hK] at e;exact e))) kn) (Wf e1 e2 e3 e4) h6 h7 h8 fun k a e=>by
    show JB.getD k 0=a
    rw[List.getD_eq_getElem?_getD,e];rfl
noncomputable def scT (s:String):Scope:={ kind:=.function,names:=[(Str.ofString s,.local)],isGenerator:=false,isCoroutine:=false }
theorem T7 (hk:K.In s.heap) (T:Top p loose mean mg mb s.heap) (hi:importsNone p=true) (hT:TabsAt CQ s.heap) (hg:s.gens=#[]) (hm:mg (Str.ofString "law")=some (.ref fa)) (hL:s.heap.IsList l vs.toArray) (hI:IntsAre vs ns) (hlen:ns.length≤63)
    (kn:noTabs (Gm K).K=true) (ks:(Gm K).stdChk 26=true) (kg:((Gm K).gi.all fun q=>gvI ((Gm K).gv q.1) q.2)=true) (kl:nsIn (Gm K).K mainGlobals (Str.ofString "law")=some (some (.ref 1097)))
    (F:(cxK K prog w s).Ok→Aq (cxK K prog w s)) :
    codeAny (model prog w) callerA (.call (.ref fa) ⟨[.ref l],[]⟩) (fun r s'=>r=.ok (.ret (.bool true))∧(∀ b o,(ghostOf s.heap CQ).get? b=some o→s'.heap.get? b=some o)∧s'.os=s.os∧s'.gens=#[]∧GrownAll CQ s'.heap) s:=by
  have O:=WJ (prog:=prog) (w:=w) hk T hi hT kn ks kg
  have X:(Gm K).K.In s.heap:=fun a o e=>hk a o (MP e)
  have ef:fa=1097:=by
    have:=hm.symm.trans (mg_of X T.g kl)
    injection this with this
    injection this
  subst ef
  have R0:Rep (cxK K prog w s) (gT0 (ghostOf s.heap CQ)) hT0 s:=AaT hT hg
  have C:=VI (F O) (sv:=.raw (.ref l)) (sc:=ns.map .int) (h:=hT0) Yf (fun _=>.inr ⟨l,ns,vs,rfl,ghost_list hT hL,hI,rfl⟩) (fun x hx=>by refine Dt hx fun i _ e=>?_;exact ⟨i,e.symm⟩) (by rw[List.length_map];exact hlen) (fun x hx=>?_) rfl
  · have A:OkA 111 callerA:=⟨rfl,by decide,by decide⟩
    refine codeAny_mono (C callerA _ s [.ref l] [] A R0 (by unfold Ac Ac Ai;exact ⟨_,_,rfl,⟨rfl,rfl⟩,rfl⟩) (by unfold Ac;rfl)) fun r s' zy7a=>Hn zy7a fun rv g' h' v e0 e1 R' e3 e4 e5=>?_
    rw[e4] at e3
    unfold Ai at e3
    have tb:∀ {sc:Scope} {x:Addr × Addr × Id},(cxK K prog w s).code sc=some x→GrownAt x.2.1 s'.heap:=fun {sc x} e=>by
      refine GV (R'.obj _ _ (e5 sc x e).2) fun a ps b _=>?_
      rw[a] at b
      exact ⟨ps,b⟩
    refine ⟨by rw[e0,e3],fun b o e=>R'.fz _ _ (R'.base _ _ e),R'.os,R'.gens,?_,?_,trivial⟩
    · exact tb (sc:=scT "get_value") (x:=(1030,1026,(0,1,1))) rfl
    · exact tb (sc:=scT "add_filtered_task") (x:=(790,786,(0,1,2))) rfl
  · unfold hT0
    rw[decide_eq_false fun e=>hx (by rw[e]),decide_eq_false fun e=>hx (by rw[e])];rfl
end
end
end Mine
namespace Mine.hd
theorem t:True:=trivial
theorem tw10947534242169238906:True:=t
theorem tw12590977762386282803:True:=t
theorem tw10458740792067480800:True:=t
theorem tw2480057099694739299:True:=t
theorem tw701333769924781912:True:=t
theorem tw7076163891533521732:True:=t
theorem tw3913528116038191188:True:=t
theorem tw15643275761693703936:True:=t
theorem tw2608437505485318709:True:=t
theorem tw5480042469492414594:True:=t
theorem tw14612060388864693735:True:=t
theorem tw11389452901091978224:True:=t
theorem tw8773699223549846113:True:=t
theorem tw1557243174674812401:True:=t
theorem tw2139204274930982770:True:=t
theorem tw4210835263042620578:True:=t
theorem tw4768578896829404305:True:=t
theorem tw2252305205657439004:True:=t
theorem tw11117797201346649052:True:=t
theorem tw6879831473291441079:True:=t
theorem tw2887051446865420828:True:=t
theorem tw8977307856219701671:True:=t
theorem tw3069179008743571320:True:=t
theorem tw12112201142124510154:True:=t
theorem tw3364418463632694928:True:=t
theorem tw3434918251397683217:True:=t
theorem tw960944832710211464:True:=t
theorem tw12669576375859063689:True:=t
theorem tw1865391376527767206:True:=t
theorem tw1362751533348561449:True:=t
theorem tw13944508082162953488:True:=t
theorem tw9215827820722605749:True:=t
theorem tw8179070454071193570:True:=t
theorem tw12579596248316191183:True:=t
theorem tw8044012406986999415:True:=t
theorem tw9013056391748086436:True:=t
theorem tw3451239065008710300:True:=t
theorem tw6877226645827823821:True:=t
theorem tw2845207389951388047:True:=t
theorem tw5322579261384874668:True:=t
theorem tw13790719812936386609:True:=t
theorem tw16970440968685349367:True:=t
theorem tw7085514621470718492:True:=t
theorem tw7702882491108231240:True:=t
theorem tw15910714762333108613:True:=t
theorem tw8381844023166312768:True:=t
theorem tw7880807054014371918:True:=t
theorem tw9741134391959003819:True:=t
theorem tw7657299143145469618:True:=t
theorem tw9627899436633539337:True:=t
theorem tw546821695630378048:True:=t
theorem tw6320253292602491972:True:=t
theorem tw3887682987991473952:True:=t
theorem tw8228950375871286339:True:=t
theorem tw7292484366425897655:True:=t
theorem tw10727248033764811480:True:=t
theorem tw15508949281206285077:True:=t
theorem tw10531373872144210542:True:=t
theorem tw15424705756172794927:True:=t
theorem tw2386827423013361158:True:=t
theorem tw11595982170579460384:True:=t
theorem tw15337868472472888810:True:=t
theorem tw17650839729002327288:True:=t
theorem tw4367455430839740993:True:=t
theorem tw16156708551869547534:True:=t
theorem tw15618049606547972131:True:=t
theorem tw16694946328126371552:True:=t
theorem tw5592821105494180994:True:=t
theorem tw18152756486534528934:True:=t
theorem tw7379015992945566340:True:=t
theorem tw16635604280276938560:True:=t
theorem tw11249132867342737325:True:=t
theorem tw8977460988437922124:True:=t
theorem tw503842035214351869:True:=t
theorem tw8898355551111435312:True:=t
theorem tw18203199878698669065:True:=t
theorem tw16547865195752855329:True:=t
theorem tw5987830557187376847:True:=t
theorem tw6060742912462422084:True:=t
theorem tw7317836474542784337:True:=t
theorem tw3419581819265744254:True:=t
theorem tw4159134105002834734:True:=t
theorem tw10012880186880212623:True:=t
theorem tw14040608126747316905:True:=t
theorem tw2930668341846507884:True:=t
theorem tw14896477498954680388:True:=t
theorem tw9467313397243273497:True:=t
theorem tw9087110039335098043:True:=t
theorem tw1976262728313527643:True:=t
theorem tw13209851902499103039:True:=t
theorem tw15616948245753086127:True:=t
theorem tw14078009766183191694:True:=t
theorem tw9577689765879766989:True:=t
theorem tw6848782300941138395:True:=t
theorem tw1379335367625716243:True:=t
theorem tw3662302193164451804:True:=t
theorem tw15591429051563716170:True:=t
theorem tw5366084841770067474:True:=t
theorem tw15463257786427224491:True:=t
theorem tw16473244170626142550:True:=t
theorem tw10015985780204595560:True:=t
theorem tw17429513623812275283:True:=t
theorem tw9427301549700849589:True:=t
theorem tw14439243815434019604:True:=t
theorem tw14960593345356199642:True:=t
theorem tw15987713032478767096:True:=t
theorem tw15615537253650120727:True:=t
theorem tw18421049791903953903:True:=t
theorem tw1589133516308662214:True:=t
theorem tw1736311965527578767:True:=t
theorem tw9339001747491594812:True:=t
theorem tw9012836324853574702:True:=t
theorem tw18268791191939849864:True:=t
theorem tw14176624398918483544:True:=t
theorem tw3478764184967624034:True:=t
theorem tw7914949630228597729:True:=t
theorem tw1256466517863071783:True:=t
theorem tw6308581086252854402:True:=t
theorem tw11128854368766332075:True:=t
theorem tw14859038896228082724:True:=t
theorem tw2739504486584576224:True:=t
theorem tw6627881031435992008:True:=t
theorem tw4946210868454251104:True:=t
theorem tw17070941380808615275:True:=t
theorem tw7872162285098387286:True:=t
theorem tw17599816209265215132:True:=t
theorem tw15931116738044738221:True:=t
theorem tw395138700845864316:True:=t
theorem tw15220180469806662145:True:=t
theorem tw16301592386811335294:True:=t
theorem tw17562767543260142214:True:=t
theorem tw6957150274394394060:True:=t
theorem tw4990156530697904881:True:=t
theorem tw13160604113216922460:True:=t
theorem tw10246146449241189800:True:=t
theorem tw8015326511298524721:True:=t
theorem tw6082411064634330575:True:=t
theorem tw7691918140598264929:True:=t
theorem tw4581847759332874082:True:=t
theorem tw14031261019411111474:True:=t
theorem tw9476321141362543215:True:=t
theorem tw5667655126489319660:True:=t
theorem tw6902198413751149823:True:=t
theorem tw10955317050725887447:True:=t
theorem tw18343703819029505601:True:=t
theorem tw12591134339009171964:True:=t
theorem tw1997569388931296116:True:=t
theorem tw6291416237084387574:True:=t
theorem tw8789358453043137523:True:=t
theorem tw8312999807965096350:True:=t
theorem tw11232374478483605306:True:=t
theorem tw11251137523995926341:True:=t
theorem tw16587392273704687506:True:=t
theorem tw2616952524820836436:True:=t
theorem tw16299908979028503884:True:=t
theorem tw11709330566771433103:True:=t
theorem tw2042292140826266357:True:=t
theorem tw9132557439983319658:True:=t
theorem tw6438293893037913957:True:=t
theorem tw13624431586668435662:True:=t
theorem tw15689870831250920624:True:=t
theorem tw500953250457666378:True:=t
theorem tw5189956158058943387:True:=t
theorem tw13409441903868389331:True:=t
theorem tw5282504435634884242:True:=t
theorem tw13483081372092288885:True:=t
theorem tw17491280204586788870:True:=t
theorem tw7510230149288206974:True:=t
theorem tw16011055738799735888:True:=t
theorem tw5535567543195554156:True:=t
theorem tw7006195865600381663:True:=t
theorem tw5608270528595127837:True:=t
theorem tw7100430431845274806:True:=t
theorem tw10879034167726328663:True:=t
theorem tw10614716105012338702:True:=t
theorem tw4367231431732253908:True:=t
theorem tw689954013368505116:True:=t
theorem tw5373601922739893978:True:=t
theorem tw14745743045033390146:True:=t
theorem tw3453542296344581817:True:=t
theorem tw12995909851351757392:True:=t
theorem tw5549315172176941698:True:=t
theorem tw16759147789766475008:True:=t
theorem tw5283464899586487735:True:=t
theorem tw1810128313956251070:True:=t
theorem tw16006246977917349235:True:=t
theorem tw17655025648336401564:True:=t
theorem tw16373702718001791347:True:=t
theorem tw14623610509376584727:True:=t
theorem tw8151903124980380684:True:=t
theorem tw7891253978561527248:True:=t
theorem tw15813434630575017362:True:=t
theorem tw1005483496087919985:True:=t
theorem tw3309697970292668127:True:=t
theorem tw1452849714261714991:True:=t
theorem tw9983964734214183352:True:=t
theorem tw17471934795394947791:True:=t
theorem tw10949625832625181284:True:=t
theorem tw5343241284826551009:True:=t
theorem tw2422473601153944625:True:=t
theorem tw14205177575709318024:True:=t
theorem tw10031445930688152421:True:=t
theorem tw3940546777539579641:True:=t
theorem tw7369741819223213686:True:=t
theorem tw17177331786930743035:True:=t
theorem tw7839823952615728111:True:=t
theorem tw8887996145723391905:True:=t
theorem tw10102539355485613405:True:=t
theorem tw5318216170032084099:True:=t
theorem tw17447410573909459338:True:=t
theorem tw2001351230973187099:True:=t
theorem tw13111874981228315014:True:=t
theorem tw2960447077969926378:True:=t
theorem tw10357175440086982646:True:=t
theorem tw8377043916266704855:True:=t
theorem tw7793673504863384051:True:=t
theorem tw13064122474441708322:True:=t
theorem tw13566260322249332789:True:=t
theorem tw7895370336789752690:True:=t
theorem tw11465210709893060100:True:=t
theorem tw8869990164376384126:True:=t
theorem tw1954109241102656831:True:=t
theorem tw7270182246851987180:True:=t
theorem tw15642763164714097627:True:=t
theorem tw4074112789689628901:True:=t
theorem tw518976864732996251:True:=t
theorem tw14006173549557618073:True:=t
theorem tw5978321128707920903:True:=t
theorem tw3608708970678896270:True:=t
theorem tw1191670712832166235:True:=t
theorem tw22551697357593593:True:=t
theorem tw3085183777334472315:True:=t
theorem tw17948085552500728524:True:=t
theorem tw13372043803930879067:True:=t
theorem tw14984183105004643987:True:=t
theorem tw12870888531099404533:True:=t
theorem tw10456413670096429481:True:=t
theorem tw5804364932265272930:True:=t
theorem tw10905682514733158466:True:=t
theorem tw15179676742415161110:True:=t
theorem tw18166333605607142505:True:=t
theorem tw4218252797249083135:True:=t
theorem tw15946356160694317329:True:=t
theorem tw368366308016060594:True:=t
theorem tw9153386212771759811:True:=t
theorem tw4310969922304039945:True:=t
theorem tw15673258824015622330:True:=t
theorem tw15422856539912107476:True:=t
theorem tw12521463284412890351:True:=t
theorem tw6669269137521125552:True:=t
theorem tw11507959949525687343:True:=t
theorem tw1292937080889116121:True:=t
theorem tw9557236495431379559:True:=t
theorem tw2598446214317162929:True:=t
theorem tw13132618709999183898:True:=t
theorem tw15043168886218598503:True:=t
theorem tw11180023125335031430:True:=t
theorem tw14743440263598761229:True:=t
theorem tw17588044629489971554:True:=t
theorem tw6882427118574961969:True:=t
theorem tw2867327485932766208:True:=t
theorem tw9429285754427346401:True:=t
theorem tw4870687313549177768:True:=t
theorem tw1011335219593555734:True:=t
theorem tw2799067240506288376:True:=t
theorem tw4778742480866408670:True:=t
theorem tw1728934660973012959:True:=t
theorem tw12453114486196615683:True:=t
theorem tw15367242080415987702:True:=t
theorem tw7031273417212677730:True:=t
theorem tw3312855554403267510:True:=t
theorem tw10601615944963115059:True:=t
theorem tw7829580234814923638:True:=t
theorem tw13893168526513508166:True:=t
theorem tw2595994805191909183:True:=t
theorem tw15625209780758371316:True:=t
theorem tw8811097733284410319:True:=t
theorem tw12769127236821124696:True:=t
theorem tw1744074299117110578:True:=t
theorem tw11472165163037031739:True:=t
theorem tw17278324374586462682:True:=t
theorem tw3484992998616243462:True:=t
theorem tw14103535550066685397:True:=t
theorem tw9566141503761928105:True:=t
theorem tw7289634563603522867:True:=t
theorem tw1147470481896660410:True:=t
theorem tw10195207025132199040:True:=t
theorem tw10030107230732127627:True:=t
theorem tw17843490464661113860:True:=t
theorem tw2922222751358710265:True:=t
theorem tw7313527298712145126:True:=t
theorem tw17714235663813219645:True:=t
theorem tw4478166936697009375:True:=t
theorem tw12509009523430927325:True:=t
theorem tw2448417245163862455:True:=t
theorem tw5220083430330967483:True:=t
theorem tw17101829828953933863:True:=t
theorem tw2735741816244006784:True:=t
theorem tw4432475053497693458:True:=t
theorem tw17312999752573914782:True:=t
theorem tw17901334829092211166:True:=t
theorem tw8428860471423672150:True:=t
theorem tw7752569895197466512:True:=t
theorem tw11136197038861592535:True:=t
theorem tw5961118342813265553:True:=t
theorem tw7080932558258925280:True:=t
theorem tw9783614193127449063:True:=t
theorem tw11399449904127653305:True:=t
theorem tw16414904818172857274:True:=t
theorem tw12393119488966705847:True:=t
theorem tw14400467628812073631:True:=t
theorem tw137786328141462057:True:=t
theorem tw15703826688255432312:True:=t
theorem tw526207354791536317:True:=t
theorem tw17994825080979385314:True:=t
theorem tw3915529967508079626:True:=t
theorem tw10743916045514856203:True:=t
theorem tw15697423400787487869:True:=t
theorem tw1425423193147277237:True:=t
theorem tw3333446698644548216:True:=t
theorem tw5135410709514514960:True:=t
theorem tw3673020696563887462:True:=t
theorem tw9459050058782445324:True:=t
theorem tw14980023328507725902:True:=t
theorem tw6278647508926252785:True:=t
theorem tw13368278939475635651:True:=t
theorem tw8343274005884668182:True:=t
theorem tw18300207936620678264:True:=t
theorem tw6449127861642672459:True:=t
theorem tw12994019391074448376:True:=t
theorem tw5464967688985200232:True:=t
theorem tw5148922909946612681:True:=t
theorem tw8684328023851190084:True:=t
theorem tw14817486215969520457:True:=t
theorem tw17903497710992402801:True:=t
theorem tw5408725614273754718:True:=t
theorem tw4065347644161347641:True:=t
theorem tw17784710179527947834:True:=t
theorem tw1936894748134917147:True:=t
theorem tw17583924267553061668:True:=t
theorem tw914434647501359154:True:=t
theorem tw14442433333593529229:True:=t
theorem tw4424954536736003961:True:=t
theorem tw825126770350376351:True:=t
theorem tw17925215291927510665:True:=t
theorem tw6924109203229866365:True:=t
theorem tw15630680890609703042:True:=t
theorem tw4780371949962762201:True:=t
theorem tw18293732401869909652:True:=t
theorem tw15687388767607454252:True:=t
theorem tw12631932088317031055:True:=t
theorem tw11151547217846952531:True:=t
theorem tw7339039647409124788:True:=t
theorem tw16227762859984022837:True:=t
theorem tw4181196891559700729:True:=t
theorem tw3229955645248102723:True:=t
theorem tw2562236817408797766:True:=t
theorem tw7519716089354478335:True:=t
theorem tw14143348200573808938:True:=t
theorem tw17491317419825422843:True:=t
theorem tw14060237666301923597:True:=t
theorem tw6506366617586733335:True:=t
theorem tw4068527845204499245:True:=t
theorem tw16713699803418581334:True:=t
theorem tw11652457597714270106:True:=t
theorem tw14553816603554493358:True:=t
theorem tw1331487369976884630:True:=t
theorem tw5405509625223553959:True:=t
theorem tw7754304195085646258:True:=t
theorem tw2295870552580634182:True:=t
theorem tw17143746779515762356:True:=t
theorem tw18194447625416937593:True:=t
theorem tw3787991596828424046:True:=t
theorem tw4297731678662094536:True:=t
theorem tw7399621439246259153:True:=t
theorem tw1335065189686863947:True:=t
theorem tw2315301623876862497:True:=t
theorem tw14314603270127236809:True:=t
theorem tw12487542160262675636:True:=t
theorem tw15344866539931968096:True:=t
theorem tw11845739042510646663:True:=t
theorem tw10098268173465320503:True:=t
theorem tw15042006015671813226:True:=t
theorem tw4272726840584523970:True:=t
theorem tw12254263087357419629:True:=t
theorem tw13218659294841961345:True:=t
theorem tw2114630138375439770:True:=t
theorem tw413680288568028460:True:=t
theorem tw16853341256802265648:True:=t
theorem tw8269573656231971908:True:=t
theorem tw10424393626065333798:True:=t
theorem tw15074197538484233485:True:=t
theorem tw224026152562611165:True:=t
theorem tw10763509664835889504:True:=t
theorem tw10259988299927297344:True:=t
theorem tw4172343393113369950:True:=t
theorem tw3969467460574380271:True:=t
theorem tw13315533130655954831:True:=t
theorem tw9990345226319884068:True:=t
theorem tw15675198926951892251:True:=t
theorem tw11638043884434779313:True:=t
theorem tw1643121930917553208:True:=t
theorem tw10841399608879689956:True:=t
theorem tw11893437276241958245:True:=t
theorem tw2051048951616859547:True:=t
theorem tw11224897151958998736:True:=t
theorem tw16157073509204512506:True:=t
theorem tw17130151131035750659:True:=t
theorem tw6906073325868019850:True:=t
theorem tw1582976572388173787:True:=t
theorem tw18322514126500204803:True:=t
theorem tw3480954088277226078:True:=t
theorem tw2315468765258864358:True:=t
theorem tw2329189449893159454:True:=t
theorem tw6295535725891239091:True:=t
theorem tw11402939732021071671:True:=t
theorem tw18233516762306594366:True:=t
theorem tw663384727985864361:True:=t
theorem tw13562760996464443880:True:=t
theorem tw14446474709323646786:True:=t
theorem tw6578402527460240241:True:=t
theorem tw7927469264209771579:True:=t
theorem tw2442259710966052079:True:=t
theorem tw3941438180925939637:True:=t
theorem tw17739348878880393726:True:=t
theorem tw1184127607605381967:True:=t
theorem tw13363553139645760527:True:=t
theorem tw12685813987229840507:True:=t
theorem tw4948343613671549106:True:=t
theorem tw10819331528351526247:True:=t
theorem tw17066044127408595049:True:=t
theorem tw190519026028168232:True:=t
theorem tw15923250282426842828:True:=t
theorem tw6800881396052196260:True:=t
theorem tw7746578258024575070:True:=t
theorem tw6115762422951442106:True:=t
theorem tw189712035060473897:True:=t
theorem tw11749099774412794130:True:=t
theorem tw9496365245306024149:True:=t
theorem tw402640490398009360:True:=t
theorem tw8545014587354053640:True:=t
theorem tw9244321171653502345:True:=t
theorem tw9077708301081682751:True:=t
theorem tw17795420018806894357:True:=t
theorem tw10947331860392259696:True:=t
theorem tw5850991567925798318:True:=t
theorem tw6615107907471364465:True:=t
theorem tw13347369733751428629:True:=t
theorem tw10834780440838970164:True:=t
theorem tw18131696352309475102:True:=t
theorem tw6123773746684550334:True:=t
theorem tw13267510147771200024:True:=t
theorem tw10583446816852156582:True:=t
theorem tw3044193314922437478:True:=t
theorem tw12331051067403766639:True:=t
theorem tw10595968288072337780:True:=t
theorem tw3878383114103592795:True:=t
theorem tw6264232113106981867:True:=t
theorem tw2708950531961675432:True:=t
theorem tw13931416462566266981:True:=t
theorem tw13463106324228987060:True:=t
theorem tw3139860346522395057:True:=t
theorem tw10283529075043463162:True:=t
theorem tw18358800413957953924:True:=t
theorem tw10024716035694756283:True:=t
theorem tw5292301768408028288:True:=t
theorem tw14579804019780415049:True:=t
theorem tw14560493823538711346:True:=t
theorem tw6164396464334811476:True:=t
theorem tw17992873397187703194:True:=t
theorem tw18320066246396331634:True:=t
theorem tw4725425184044842548:True:=t
theorem tw8934143017859847078:True:=t
theorem tw12952509933414984302:True:=t
theorem tw12239354291974867115:True:=t
theorem tw162610821266807592:True:=t
theorem tw6442067068224118133:True:=t
theorem tw2068664650715991707:True:=t
theorem tw4282359134580295075:True:=t
theorem tw14478148883734587675:True:=t
theorem tw33583606019346890:True:=t
theorem tw541196102884509978:True:=t
theorem tw17989097746536338734:True:=t
theorem tw3173010612589774626:True:=t
theorem tw15103106377680225435:True:=t
theorem tw8068729725432388964:True:=t
theorem tw9719896912496429819:True:=t
theorem tw2274498078352570744:True:=t
theorem tw17273587926920868623:True:=t
theorem tw6838551448383532254:True:=t
theorem tw7261450039545342454:True:=t
theorem tw17668637344460488510:True:=t
theorem tw11660266114150955751:True:=t
theorem tw12861998865439983172:True:=t
theorem tw17213754286329925777:True:=t
theorem tw15378359858306647822:True:=t
theorem tw7541792107247259296:True:=t
theorem tw17772917993097084435:True:=t
theorem tw17311223219408574766:True:=t
theorem tw1448358952932078338:True:=t
theorem tw15948780112781908787:True:=t
theorem tw1820180628909398317:True:=t
theorem tw12447509897640257713:True:=t
theorem tw11623594800819314181:True:=t
theorem tw7382370116671421104:True:=t
theorem tw5516785719162176838:True:=t
theorem tw5433107678231618845:True:=t
theorem tw7355570028127101125:True:=t
theorem tw6769732088879122475:True:=t
theorem tw8589211134812392127:True:=t
theorem tw6136932545381038964:True:=t
theorem tw11672842613191775419:True:=t
theorem tw17606422857730326317:True:=t
theorem tw8025032847418708242:True:=t
theorem tw6755925336976613232:True:=t
theorem tw11801993109049149486:True:=t
theorem tw11256106856564762260:True:=t
theorem tw13001811119718631651:True:=t
theorem tw12058812876911547015:True:=t
theorem tw4851647983119433812:True:=t
theorem tw307737655149646647:True:=t
theorem tw8801323125487838256:True:=t
theorem tw5902613922787404954:True:=t
theorem tw4383666589626881386:True:=t
theorem tw8293946417935249925:True:=t
theorem tw2457190517430149469:True:=t
theorem tw9702936160620672325:True:=t
theorem tw9155422001095189878:True:=t
theorem tw9631708518359487223:True:=t
theorem tw15207398651663016943:True:=t
theorem tw5781342201191254626:True:=t
theorem tw7525542149764818722:True:=t
theorem tw11319892378374348655:True:=t
theorem tw10264135568141901301:True:=t
theorem tw12271959270614036898:True:=t
theorem tw13047593935725612058:True:=t
theorem tw6819212343860736726:True:=t
theorem tw4136554803537287180:True:=t
theorem tw10111801491309104144:True:=t
theorem tw17570734847185409352:True:=t
theorem tw6411954120941647267:True:=t
theorem tw10525666975642140466:True:=t
theorem tw10376703724636587151:True:=t
theorem tw6184208073178115725:True:=t
theorem tw867598499069673859:True:=t
theorem tw8317466277049474617:True:=t
theorem tw12940713784782232206:True:=t
theorem tw11364443708160879001:True:=t
theorem tw16828841361933241965:True:=t
theorem tw15089522573102190283:True:=t
theorem tw11213053971927718326:True:=t
theorem tw16246848685605474055:True:=t
theorem tw17849003137439291346:True:=t
theorem tw11032806212648032379:True:=t
theorem tw2783992281797965187:True:=t
theorem tw9964678160948488003:True:=t
theorem tw16919406825032445293:True:=t
theorem tw14328484209623677503:True:=t
theorem tw11984409736253958808:True:=t
theorem tw17047115858639842297:True:=t
theorem tw13342606739435360313:True:=t
theorem tw14698123526113890222:True:=t
theorem tw13217827037086042188:True:=t
theorem tw3452082135128663414:True:=t
theorem tw15271836975722400564:True:=t
theorem tw13285133528070534704:True:=t
theorem tw9430268157657104642:True:=t
theorem tw12070051907170230399:True:=t
theorem tw13574768056931433239:True:=t
theorem tw16091413853298234908:True:=t
theorem tw9813410681712176819:True:=t
theorem tw13293453174229064190:True:=t
theorem tw102014493982917126:True:=t
theorem tw1241404454085649124:True:=t
theorem tw8479784124755550697:True:=t
theorem tw1893913032611223051:True:=t
theorem tw14106227501169856981:True:=t
theorem tw10216474801634566288:True:=t
theorem tw6598312636042714100:True:=t
theorem tw11115866451450875312:True:=t
theorem tw1382963296337349011:True:=t
theorem tw5138769234217329475:True:=t
theorem tw17183224562656869120:True:=t
theorem tw13628142620392400109:True:=t
theorem tw5715356086224469760:True:=t
theorem tw991583007596301734:True:=t
theorem tw9583263798769706723:True:=t
theorem tw9262713555522148398:True:=t
theorem tw464777395874653626:True:=t
theorem tw12350410155528471161:True:=t
theorem tw1386097877827089520:True:=t
theorem tw11052946933831473538:True:=t
theorem tw4571360026077952820:True:=t
theorem tw4402725079659364252:True:=t
theorem tw14151535006965253332:True:=t
theorem tw13365295217650922812:True:=t
theorem tw12173100003817136821:True:=t
theorem tw7598622570094877466:True:=t
theorem tw10778013660560245624:True:=t
theorem tw17919194246423945575:True:=t
theorem tw9850052858527491113:True:=t
theorem tw3008623586974134963:True:=t
theorem tw14620637471214046174:True:=t
theorem tw3496965988886986938:True:=t
theorem tw14768889098011018680:True:=t
theorem tw5238241317806426387:True:=t
theorem tw11283319371284918911:True:=t
theorem tw17232729238497989147:True:=t
theorem tw9170477692918782315:True:=t
theorem tw7191455744419660376:True:=t
theorem tw7153062008950511462:True:=t
theorem tw17377529257436501650:True:=t
theorem tw13129650132239662433:True:=t
theorem tw7523672394736509286:True:=t
theorem tw728884934406724761:True:=t
theorem tw10604169790165778682:True:=t
theorem tw8803977449572941912:True:=t
theorem tw18160293313031310949:True:=t
theorem tw5190246844813560578:True:=t
theorem tw2004659784336800654:True:=t
theorem tw5574845727924001799:True:=t
theorem tw1584506945513601688:True:=t
theorem tw4971549296188076032:True:=t
theorem tw12976082216212581069:True:=t
theorem tw8047900516022102942:True:=t
theorem tw13866372431405929976:True:=t
theorem tw13937860266046166849:True:=t
theorem tw17234923516513369237:True:=t
theorem tw5245234834050458271:True:=t
theorem tw7296583596125217682:True:=t
theorem tw5486487638281291605:True:=t
theorem tw13431754692932380062:True:=t
theorem tw14914937398881237230:True:=t
theorem tw17001982702790524580:True:=t
theorem tw12659318050587179527:True:=t
theorem tw11375277706881905925:True:=t
theorem tw26425463804135960:True:=t
theorem tw3219085151875037572:True:=t
theorem tw17420951861521290806:True:=t
theorem tw11631869004601391166:True:=t
theorem tw17696971302532935780:True:=t
theorem tw13225837485096350037:True:=t
theorem tw4856431653887292112:True:=t
theorem tw11636924220087485885:True:=t
theorem tw9406673726873002282:True:=t
theorem tw3660579746685279459:True:=t
theorem tw313027258313007627:True:=t
theorem tw9345929723534960622:True:=t
theorem tw11119798521548139033:True:=t
theorem tw16649331688326792143:True:=t
theorem tw5363564295841288755:True:=t
theorem tw12727495553239364174:True:=t
theorem tw1043307727769730188:True:=t
theorem tw6046454685291232161:True:=t
theorem tw2603259988358896889:True:=t
theorem tw15064902949301533346:True:=t
theorem tw6697089970055633809:True:=t
theorem tw16634568088961857937:True:=t
theorem tw8990313861142287110:True:=t
theorem tw15924899543223041283:True:=t
theorem tw11109741339103130912:True:=t
theorem tw15527848837575444561:True:=t
theorem tw8493152586797012548:True:=t
theorem tw6529707622633924500:True:=t
theorem tw11953376511379268794:True:=t
theorem tw15054049728407801353:True:=t
theorem tw16456969618363192440:True:=t
theorem tw18103342009636024947:True:=t
theorem tw12175748835895409678:True:=t
theorem tw16007149819294483003:True:=t
theorem tw4654797750381630734:True:=t
theorem tw3513125359445811510:True:=t
theorem tw1847840615245081061:True:=t
theorem tw5482205457738058418:True:=t
theorem tw14060154772996877548:True:=t
theorem tw3109861748172591687:True:=t
theorem tw4225703048834024713:True:=t
theorem tw2951005344575393816:True:=t
theorem tw10170382586518783626:True:=t
theorem tw9976723597467198900:True:=t
theorem tw3429492842335990350:True:=t
theorem tw5802308918014334467:True:=t
theorem tw9763420282994701918:True:=t
theorem tw1535757262459896012:True:=t
theorem tw5416991563250132298:True:=t
theorem tw8450674356893351874:True:=t
theorem tw14294001040229213422:True:=t
theorem tw1506431575118746342:True:=t
theorem tw14683707025165767436:True:=t
theorem tw8356816923877370021:True:=t
theorem tw5715734110848049390:True:=t
theorem tw15637593595834871717:True:=t
theorem tw10404513684093684653:True:=t
theorem tw13322179722446271537:True:=t
theorem tw4790547091431630005:True:=t
theorem tw18163647496604598072:True:=t
theorem tw9449672872311958731:True:=t
theorem tw4734902545126651661:True:=t
theorem tw13096558090100123544:True:=t
theorem tw3919010098100093602:True:=t
theorem tw9277588360372424766:True:=t
theorem tw3922637787740509324:True:=t
theorem tw13066319289922817542:True:=t
theorem tw8117029840178788049:True:=t
theorem tw4521580383011477154:True:=t
theorem tw1781861727890032366:True:=t
theorem tw14567429538950270057:True:=t
theorem tw15166520500009309586:True:=t
theorem tw15416985209724490359:True:=t
theorem tw16053994301053490033:True:=t
theorem tw13929354066492186541:True:=t
theorem tw11663481321943121269:True:=t
theorem tw17895171251205151618:True:=t
theorem tw14667805832236412624:True:=t
theorem tw2489000522355961661:True:=t
theorem tw15759970867653108152:True:=t
theorem tw5859118754885311737:True:=t
theorem tw12394076208661396346:True:=t
theorem tw243823211424636713:True:=t
theorem tw7152984921513172624:True:=t
theorem tw16154546982801380032:True:=t
theorem tw9048539425550374019:True:=t
theorem tw12588582704262371052:True:=t
theorem tw11126320352707459272:True:=t
theorem tw14852329139284432860:True:=t
theorem tw8123090141371445454:True:=t
theorem tw17711083657039698284:True:=t
theorem tw6759412095888398321:True:=t
theorem tw2323474266016966308:True:=t
theorem tw11415386828835887437:True:=t
theorem tw17628472586750557451:True:=t
theorem tw1413172679324656950:True:=t
theorem tw155142512498542641:True:=t
theorem tw10806950440038215891:True:=t
theorem tw9983995961361265002:True:=t
theorem tw7578210074245671484:True:=t
theorem tw4916360252006170105:True:=t
theorem tw4015398097383911347:True:=t
theorem tw4956662841564312858:True:=t
theorem tw8965841893048198262:True:=t
theorem tw15889433306838628275:True:=t
theorem tw4867443594122359892:True:=t
theorem tw922143313871775805:True:=t
theorem tw6767318904944593275:True:=t
theorem tw10784824025267889561:True:=t
theorem tw15610959940260225430:True:=t
theorem tw10117440562283002822:True:=t
theorem tw4282304852377368616:True:=t
theorem tw14438451200097066615:True:=t
theorem tw1600037746751723098:True:=t
theorem tw5732804406350252772:True:=t
theorem tw10752148897807903841:True:=t
theorem tw18185175575083235020:True:=t
theorem tw17495340751864218003:True:=t
theorem tw3646829019195819677:True:=t
theorem tw12399718760709695909:True:=t
theorem tw10944956837784636368:True:=t
theorem tw12035623454917710897:True:=t
theorem tw3241458686731973266:True:=t
theorem tw12092154237167983948:True:=t
theorem tw4878824753759274627:True:=t
theorem tw16661405048812198066:True:=t
theorem tw17387473266821786944:True:=t
theorem tw17737187407176874954:True:=t
theorem tw11024222330075796079:True:=t
theorem tw17640862679970642326:True:=t
theorem tw18203504233945503714:True:=t
theorem tw6528754448969337418:True:=t
theorem tw9131607905817354932:True:=t
theorem tw2999033326186475339:True:=t
theorem tw5505005885091257285:True:=t
theorem tw2063697594609225973:True:=t
theorem tw1208734638264122097:True:=t
theorem tw13840357560478945406:True:=t
theorem tw7185752278333246451:True:=t
theorem tw12337632362937886050:True:=t
theorem tw8134915037123179040:True:=t
theorem tw8538877666451538035:True:=t
theorem tw6394381022753523788:True:=t
theorem tw14289858311484928749:True:=t
theorem tw17902569758825723728:True:=t
theorem tw15615420239508185596:True:=t
theorem tw7867956165831070988:True:=t
theorem tw18330183385023645277:True:=t
theorem tw12487502673411948298:True:=t
theorem tw442638132926106271:True:=t
theorem tw11713075325732132258:True:=t
theorem tw6293948785866598258:True:=t
theorem tw10738003575532504788:True:=t
theorem tw16957190012819468567:True:=t
theorem tw8671608845466749128:True:=t
theorem tw13171141561276507362:True:=t
theorem tw18103420901670897651:True:=t
theorem tw4478964076566166474:True:=t
theorem tw16823583209533085739:True:=t
theorem tw5927567313105069670:True:=t
theorem tw16211521421427940678:True:=t
theorem tw18245042118932799458:True:=t
theorem tw6140570298594658328:True:=t
theorem tw6998783941825042932:True:=t
theorem tw3911173418732280352:True:=t
theorem tw3795277891434052102:True:=t
theorem tw10596771469484781812:True:=t
theorem tw128412058910260475:True:=t
theorem tw578887228443019578:True:=t
theorem tw469108185253701220:True:=t
theorem tw9864973744126774698:True:=t
theorem tw16169374299450900766:True:=t
theorem tw3215350286424857435:True:=t
theorem tw11513968764499736323:True:=t
theorem tw11551083187376567056:True:=t
theorem tw5420774739373220312:True:=t
theorem tw327757751557750099:True:=t
theorem tw461538923250603899:True:=t
theorem tw12023040214023829324:True:=t
theorem tw3722166409189360004:True:=t
theorem tw6196171512934965099:True:=t
theorem tw8081886968326746073:True:=t
theorem tw12642813592246648485:True:=t
theorem tw10203026625882799534:True:=t
theorem tw17577478241444706838:True:=t
theorem tw4138081844389336918:True:=t
theorem tw7854228177987924090:True:=t
theorem tw6819123309680001836:True:=t
theorem tw14586822029978311858:True:=t
theorem tw5278057926702712004:True:=t
theorem tw10787125048147943196:True:=t
theorem tw16868993833207775613:True:=t
theorem tw9298403506768410418:True:=t
theorem tw13263762954130075895:True:=t
theorem tw6875355717438233227:True:=t
theorem tw18087722134493236510:True:=t
theorem tw8735263284916673568:True:=t
theorem tw16945582573551092051:True:=t
theorem tw13783031573616600631:True:=t
theorem tw17893044597097874663:True:=t
theorem tw5167245352685981253:True:=t
theorem tw17335414052712997756:True:=t
theorem tw1882180444382439491:True:=t
theorem tw11587034568685482758:True:=t
theorem tw14955159897011116063:True:=t
theorem tw6646985988748340704:True:=t
theorem tw5074306521899617757:True:=t
theorem tw12901994302517312135:True:=t
theorem tw14969688514271112891:True:=t
theorem tw16692772259055178886:True:=t
theorem tw11898664097942606779:True:=t
theorem tw16345102440705955213:True:=t
theorem tw13531707123254989501:True:=t
theorem tw18439511094173506614:True:=t
theorem tw10465514089279642386:True:=t
theorem tw5716766192118558609:True:=t
theorem tw12778418089203562962:True:=t
theorem tw1445366717492459972:True:=t
theorem tw12232750017996463310:True:=t
theorem tw561391293025646643:True:=t
theorem tw14776966858535155947:True:=t
theorem tw8683856772340465682:True:=t
theorem tw9614397579173300960:True:=t
theorem tw12131494931117144662:True:=t
theorem tw3828038474966422129:True:=t
theorem tw17087091549796120035:True:=t
theorem tw13217225542625558698:True:=t
theorem tw16171809288044610508:True:=t
theorem tw15677629932584476913:True:=t
theorem tw7752767780024739350:True:=t
theorem tw17986969038992634876:True:=t
theorem tw5643178794243155062:True:=t
theorem tw16302227732802510677:True:=t
theorem tw16858285156579221889:True:=t
theorem tw15856727013471470956:True:=t
theorem tw4898149091671451737:True:=t
theorem tw5388632664720090651:True:=t
theorem tw17649441919526076750:True:=t
theorem tw16742648372681657963:True:=t
theorem tw9960721518486171458:True:=t
theorem tw7240586211207864342:True:=t
theorem tw17336936450418997793:True:=t
theorem tw1563692795949630186:True:=t
theorem tw15199589371867527261:True:=t
theorem tw125302361856450738:True:=t
theorem tw13250765402290087314:True:=t
theorem tw13606922415975196911:True:=t
theorem tw1689377841213677179:True:=t
theorem tw978945382295711627:True:=t
theorem tw7289601568589263668:True:=t
theorem tw758273949599710562:True:=t
theorem tw16896567674234606475:True:=t
theorem tw6109525258741381055:True:=t
theorem tw5899666649113621702:True:=t
theorem tw6374767894290048045:True:=t
theorem tw5972152646836171707:True:=t
theorem tw12575139184659369484:True:=t
theorem tw9330943631129107780:True:=t
theorem tw13475242022060392486:True:=t
theorem tw11079593142295127227:True:=t
theorem tw1129884963351977449:True:=t
theorem tw15001097145646765096:True:=t
theorem tw16443024508289211202:True:=t
theorem tw2729298822523640997:True:=t
theorem tw13609717118414637909:True:=t
theorem tw8959176491354863721:True:=t
theorem tw16794629799341752650:True:=t
theorem tw4343815846532229135:True:=t
theorem tw5562173858411828344:True:=t
theorem tw16332348944364537037:True:=t
theorem tw1869635642477389258:True:=t
theorem tw10286656452748174568:True:=t
theorem tw7489763959799892387:True:=t
theorem tw15634565183472343292:True:=t
theorem tw11407884054146074569:True:=t
theorem tw10388486093468874007:True:=t
theorem tw1299046323782801668:True:=t
theorem tw10450363280022070651:True:=t
theorem tw11917015161858427179:True:=t
theorem tw15963624873386084050:True:=t
theorem tw833173182276230429:True:=t
theorem tw2502866573005156581:True:=t
theorem tw3869513607575875631:True:=t
theorem tw1811199898794616982:True:=t
theorem tw1289481528965463204:True:=t
theorem tw13828106393651249627:True:=t
theorem tw8716120427605611371:True:=t
theorem tw6818987989461384207:True:=t
theorem tw17975533764899295144:True:=t
theorem tw2658526732547218105:True:=t
theorem tw12127338746724423809:True:=t
theorem tw13616292390063288746:True:=t
theorem tw11629707937479629763:True:=t
theorem tw17252143746492648416:True:=t
theorem tw14457593812595234344:True:=t
theorem tw15102309248680683417:True:=t
theorem tw4355604671862981090:True:=t
theorem tw7354087734392854552:True:=t
theorem tw1222794163293265305:True:=t
theorem tw13164601040044201813:True:=t
theorem tw16698745307106531279:True:=t
theorem tw18291419657060728153:True:=t
theorem tw15279998641719260112:True:=t
theorem tw16487816990975572028:True:=t
theorem tw6186238094035137676:True:=t
theorem tw18252017834820373320:True:=t
theorem tw3953601041324332601:True:=t
theorem tw3350844169311001129:True:=t
theorem tw6988595667528144454:True:=t
theorem tw7120233287515763914:True:=t
theorem tw15152743547302097792:True:=t
theorem tw14598272352848978880:True:=t
theorem tw406836984532346738:True:=t
theorem tw9753359207989701909:True:=t
theorem tw4478177076189095293:True:=t
theorem tw6709418730364537143:True:=t
theorem tw13122850982685727845:True:=t
theorem tw100483095206116625:True:=t
theorem tw956962677268122417:True:=t
theorem tw12113243949977362033:True:=t
theorem tw16052320808349706082:True:=t
theorem tw5010264101278932077:True:=t
theorem tw5378308252288859171:True:=t
theorem tw4706079058837389440:True:=t
theorem tw14189342980343032745:True:=t
theorem tw697623264460660564:True:=t
theorem tw16409295683739894939:True:=t
theorem tw3890083515106143593:True:=t
theorem tw16009884308244765898:True:=t
theorem tw17172931820748874959:True:=t
theorem tw4230758619988514533:True:=t
theorem tw8210421348078903774:True:=t
theorem tw10678649693572172417:True:=t
theorem tw6820862383352777685:True:=t
theorem tw8112040973832200146:True:=t
theorem tw10844753989422098599:True:=t
theorem tw7628703163842673926:True:=t
theorem tw16240987189780228909:True:=t
theorem tw12268275109542032366:True:=t
theorem tw4735155535324382492:True:=t
theorem tw3088336149111003398:True:=t
theorem tw10655696196156170337:True:=t
theorem tw8587404781116728655:True:=t
theorem tw7712595579559962911:True:=t
theorem tw2327210489368252092:True:=t
theorem tw9673543361469618366:True:=t
theorem tw5118731587858937692:True:=t
theorem tw2304311442786299043:True:=t
theorem tw11210553801493137410:True:=t
theorem tw10200926772931222457:True:=t
theorem tw2845679848157327705:True:=t
theorem tw15384028259256376558:True:=t
theorem tw10654345511274693656:True:=t
theorem tw8960069828448710407:True:=t
theorem tw15411387601460861337:True:=t
theorem tw7028611270464810887:True:=t
theorem tw11942693397608355085:True:=t
theorem tw17002781174329755331:True:=t
theorem tw7081294716157063915:True:=t
theorem tw15368132723985388332:True:=t
theorem tw16432713993328977331:True:=t
theorem tw4523669819894539328:True:=t
theorem tw8197050154876552520:True:=t
theorem tw881544763273948857:True:=t
theorem tw8472141830624432390:True:=t
theorem tw14353793391729792155:True:=t
theorem tw3386092968808520798:True:=t
theorem tw13518370688599389936:True:=t
theorem tw7570633941786207912:True:=t
theorem tw1580110805410547442:True:=t
theorem tw5130813555471234732:True:=t
theorem tw15418898120316371865:True:=t
theorem tw17574625026820762457:True:=t
theorem tw7534799579077118603:True:=t
theorem tw8268277133935991078:True:=t
theorem tw7626941382939369770:True:=t
theorem tw12976186185376257304:True:=t
theorem tw701787995468756871:True:=t
theorem tw8244733829118024811:True:=t
theorem tw6305734824756694309:True:=t
theorem tw1712922718373300912:True:=t
theorem tw8351282476255451920:True:=t
theorem tw16684818696116721337:True:=t
theorem tw5362516397382645915:True:=t
theorem tw8664936974563722654:True:=t
theorem tw7763873220885509757:True:=t
theorem tw2855845756224970109:True:=t
theorem tw15228807520496212463:True:=t
theorem tw2042874687063273074:True:=t
theorem tw17454471701868102899:True:=t
theorem tw10491609206876299696:True:=t
theorem tw2450686747263038406:True:=t
theorem tw9927179837433541088:True:=t
theorem tw8654268224221117138:True:=t
theorem tw12418435599462062936:True:=t
theorem tw11912922877643110818:True:=t
theorem tw9341642984632610673:True:=t
theorem tw6683769817339685419:True:=t
theorem tw8912348807662434688:True:=t
theorem tw7366208706002141716:True:=t
theorem tw4021928978595405253:True:=t
theorem tw15683763237869141255:True:=t
theorem tw18321552122766947510:True:=t
theorem tw280609765759037681:True:=t
theorem tw13478424178397462001:True:=t
theorem tw12761086401618946414:True:=t
theorem tw10781468475247234061:True:=t
theorem tw13855946660403688772:True:=t
theorem tw858883931015391567:True:=t
theorem tw17876089906941426215:True:=t
theorem tw2336748640663733628:True:=t
theorem tw18406568778348887127:True:=t
theorem tw13220430256171166289:True:=t
theorem tw17672654358674132775:True:=t
theorem tw18368451091360184599:True:=t
theorem tw7540741092611519060:True:=t
theorem tw14492701947808656938:True:=t
theorem tw920214292312260371:True:=t
theorem tw5983496337302601536:True:=t
theorem tw9657781627882305391:True:=t
theorem tw4730091804998409952:True:=t
theorem tw12364972598781006883:True:=t
theorem tw4126306136578151734:True:=t
theorem tw4186180820073840449:True:=t
theorem tw3694398316872202419:True:=t
theorem tw10507497572311344420:True:=t
theorem tw10403243965636340961:True:=t
theorem tw3816877163431070358:True:=t
theorem tw18219297243305740317:True:=t
theorem tw5505332120971382143:True:=t
theorem tw13321331477185743149:True:=t
theorem tw14896162953220447183:True:=t
theorem tw3452591251010201329:True:=t
theorem tw9073681462420916055:True:=t
theorem tw15595854959937240912:True:=t
theorem tw574300837803046910:True:=t
theorem tw16605896050852369192:True:=t
theorem tw16056359734778111409:True:=t
theorem tw6181573660694698118:True:=t
theorem tw13280443560766958183:True:=t
theorem tw16641143254114907239:True:=t
theorem tw5009564483982726761:True:=t
theorem tw14706022693812145444:True:=t
theorem tw16744898341101239380:True:=t
theorem tw242841246431481386:True:=t
theorem tw732345407407602841:True:=t
theorem tw17088047866570459193:True:=t
theorem tw7494724483528729301:True:=t
theorem tw6898005170327248138:True:=t
theorem tw4819202231147424091:True:=t
theorem tw4111692666942324129:True:=t
theorem tw12949589719889679912:True:=t
theorem tw573411949849455007:True:=t
theorem tw14120982254508448379:True:=t
theorem tw13585648185636399713:True:=t
theorem tw11631947586910100387:True:=t
theorem tw4642405928176397000:True:=t
theorem tw12744807935193187038:True:=t
theorem tw1800889605409440832:True:=t
theorem tw2448992281723591503:True:=t
theorem tw6889617224148353981:True:=t
theorem tw11915594877312485397:True:=t
theorem tw1603739661141634737:True:=t
theorem tw8609351116199087170:True:=t
theorem tw16920754564084929960:True:=t
theorem tw7492944070806833698:True:=t
theorem tw3920623390966001496:True:=t
theorem tw5360435025570183010:True:=t
theorem tw9228397985900620932:True:=t
theorem tw3536873572635521401:True:=t
theorem tw8531993380330477603:True:=t
theorem tw6079173187612997037:True:=t
theorem tw185848376630758926:True:=t
theorem tw13277076834127875243:True:=t
theorem tw1870067075039425230:True:=t
theorem tw1632911306035174240:True:=t
theorem tw17330945745186091897:True:=t
theorem tw17076082267592564974:True:=t
theorem tw6874394777682842021:True:=t
theorem tw4360684699965382250:True:=t
theorem tw6868836192036940282:True:=t
theorem tw9312999139381119592:True:=t
theorem tw15335557244880282288:True:=t
theorem tw6372862494175223470:True:=t
theorem tw17034541987677670899:True:=t
theorem tw14137390275340422267:True:=t
theorem tw18370931923303237609:True:=t
theorem tw13474097485772985973:True:=t
theorem tw17679848547673146604:True:=t
theorem tw4315991029959535628:True:=t
theorem tw12677348761684209422:True:=t
theorem tw4292457097857839397:True:=t
theorem tw4817003022231809500:True:=t
theorem tw651126834518081296:True:=t
theorem tw7698358502638924378:True:=t
theorem tw8879563391730754479:True:=t
theorem tw424627922949020093:True:=t
theorem tw2040990291671593033:True:=t
theorem tw17956543221229664512:True:=t
theorem tw9748044761591592747:True:=t
theorem tw15048261121198461528:True:=t
theorem tw5605480435847508373:True:=t
theorem tw3759623122121258479:True:=t
theorem tw5293500477943481205:True:=t
theorem tw12611767792052310623:True:=t
theorem tw8516288146210602744:True:=t
theorem tw8727321023445011275:True:=t
theorem tw17542962492245011380:True:=t
theorem tw6353847161142903872:True:=t
theorem tw7850187754069100156:True:=t
theorem tw11841407262063887625:True:=t
theorem tw4975429006339234634:True:=t
theorem tw2195365466389143174:True:=t
theorem tw2468469042602058204:True:=t
theorem tw1760603350576429475:True:=t
theorem tw10934634478434655930:True:=t
theorem tw6199765714743212253:True:=t
theorem tw16037735763661986305:True:=t
theorem tw511748877826530558:True:=t
theorem tw1891628763628819990:True:=t
theorem tw3443669649825651883:True:=t
theorem tw4788038989552484473:True:=t
theorem tw6052482589124101219:True:=t
theorem tw257007361410690125:True:=t
theorem tw4377701919642642989:True:=t
theorem tw37099724090138251:True:=t
theorem tw5021546742003373373:True:=t
theorem tw3132252637357597028:True:=t
theorem tw611909796895871117:True:=t
theorem tw8931695957890008076:True:=t
theorem tw9390866547671247325:True:=t
theorem tw9325612240067072397:True:=t
theorem tw10273187271170590260:True:=t
theorem tw6761669909254768831:True:=t
theorem tw15083628210047938546:True:=t
theorem tw4702841417184801058:True:=t
theorem tw10933677585905718993:True:=t
theorem tw2263123870574935043:True:=t
theorem tw8770659054964912022:True:=t
theorem tw3530705653197291679:True:=t
theorem tw18241275227582772068:True:=t
theorem tw14892549342360969540:True:=t
theorem tw15529170255622000948:True:=t
theorem tw11905163887095721015:True:=t
theorem tw12211380539166087753:True:=t
theorem tw7540655947842036084:True:=t
theorem tw6931407450589930559:True:=t
theorem tw13903934854276604550:True:=t
theorem tw940617070666608080:True:=t
theorem tw7182994202766372144:True:=t
theorem tw12561155100871721849:True:=t
theorem tw10292235466723388172:True:=t
theorem tw617508947420966582:True:=t
theorem tw5511420028821071320:True:=t
theorem tw12678320250165599508:True:=t
theorem tw13011413612017729677:True:=t
theorem tw10523690957637341471:True:=t
theorem tw6412770499399676944:True:=t
theorem tw5873113503399164460:True:=t
theorem tw17347436560843906493:True:=t
theorem tw17470177872615007328:True:=t
theorem tw7252557286763528408:True:=t
theorem tw17386561741084979693:True:=t
theorem tw6830512106363814048:True:=t
theorem tw2000490053193787569:True:=t
theorem tw17088974140843591490:True:=t
theorem tw15833661619300960221:True:=t
theorem tw5592360268479517082:True:=t
theorem tw16853252838358632063:True:=t
theorem tw6184460063843016694:True:=t
theorem tw678209747344391502:True:=t
theorem tw8053944837975664402:True:=t
theorem tw11016692250980378545:True:=t
theorem tw11389486352061984695:True:=t
theorem tw17681399029576232318:True:=t
theorem tw567884609423149705:True:=t
theorem tw5490696432328200686:True:=t
theorem tw6352655612330318208:True:=t
theorem tw5657824000916062451:True:=t
theorem tw7023726343779634624:True:=t
theorem tw11162318198679636149:True:=t
theorem tw7082855905992002993:True:=t
theorem tw3763122126050802206:True:=t
theorem tw3704167492566942397:True:=t
theorem tw12629531694177875297:True:=t
theorem tw7676003278276379012:True:=t
theorem tw1610171440888473627:True:=t
theorem tw15766875824913328220:True:=t
theorem tw3571134770919094901:True:=t
theorem tw1197925565968671727:True:=t
theorem tw13092906067662860646:True:=t
theorem tw1848646778235469078:True:=t
theorem tw13638418597567726942:True:=t
theorem tw5174551420813472067:True:=t
theorem tw15526587654878503902:True:=t
theorem tw9184186324627900627:True:=t
theorem tw8457440626546761165:True:=t
theorem tw2391449824757734642:True:=t
theorem tw13534587687697041467:True:=t
theorem tw15033227074091944939:True:=t
theorem tw13642289790063256904:True:=t
theorem tw226724450230711188:True:=t
theorem tw13330244855972007585:True:=t
theorem tw3196399650302076718:True:=t
theorem tw17325209927041812611:True:=t
theorem tw7174315439194531881:True:=t
theorem tw7512474625130614241:True:=t
theorem tw16029623286316568529:True:=t
theorem tw6679266806504041263:True:=t
theorem tw17217394356764393341:True:=t
theorem tw10904933031377857372:True:=t
theorem tw1699103778626983548:True:=t
end Mine.hd
namespace Mine
set_option Elab.async true
set_option tactic.hygienic true
set_option backward.match.sparseCases true
theorem hd:PySem.Challenge.rw_ak0006_03.Holds:=by
  w_on; o_law; k_head; (case hw => w_witness2)
  k_fill
  intro w s₀ s₁ mg mb G Y fa o pm cd doc dV kV ho hd hcd hD hmg hg args vals as hpre hlay hrd hwl hlo
  have KX := km_in_of Y
  km_tabs Y
  have X := (Ground.X G).1
  have V := (Ground.X G).2
  refine Ground.open G ?_
  intro T B D TE TW
  try (refine guard_noD D (by decide +kernel) ?_; clear D)
  km_lay T hmg ho hd cd
  wrow_args hpre hlay hrd hwl hlo
  refine enter_call ?_
  w_top on
  kn_posts
  rename_i ns _ _ _ _ _ _ _ l vs _ hL _ _ _ hI _ hcond _
  refine codeAny_mono (T7 KX T (by kernel_rfl) hT9 hg hmg hL hI (by omega) (by kernel_rfl) (by kernel_rfl) (by kernel_rfl) (by kernel_rfl) (Pz hT9 KX (by kernel_rfl) (by decide +kernel) (by decide +kernel) (by decide +kernel) (by decide +kernel) (by decide +kernel) (by kernel_rfl) (by kernel_rfl) (by kernel_rfl) (by kernel_rfl) (by kernel_rfl) (by kernel_rfl) (by kernel_rfl))) fun r s' ⟨e1, e2, e3, e4, e5⟩ => ⟨⟨.inl ⟨_, .bool true, [], e1, fun _ => rfl, .bool true, ?_, fun _ => ⟨List.nodup_nil, fun _ h => nomatch h⟩⟩, e2, e3, e4⟩, e5⟩
  kernel_rfl
end Mine
theorem PySem.Challenge.cw_ak0006_03_holds : PySem.Challenge.rw_ak0006_03.Holds :=
  Mine.hd
