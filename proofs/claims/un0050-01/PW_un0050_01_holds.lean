import PyProof.Rows.All
import Wide.All
import OpenK.AllK
import Wide.FinOn
import PyProof.ExcArgs
import PySem.Challenge.RW_un0050_01
set_option Elab.async false
set_option maxRecDepth 100000
set_option linter.unusedVariables false
set_option linter.unusedSimpArgs false
set_option autoImplicit true
set_option relaxedAutoImplicit true
set_option backward.match.sparseCases false
set_option bootstrap.genMatcherCode false
set_option genSizeOfSpec false
set_option compiler.extract_closed false
set_option maxHeartbeats 8000000
namespace EV
theorem hide {G:Prop} (k:∀ P:Prop,(G→P)→P):G:=k G id
@[elab_as_elim] theorem aW {Q:Nat→Prop} {p n:Nat} (h:p<n+1) (k:Q n) (j:p<n→Q p):Q p:=(Nat.lt_or_eq_of_le (Nat.le_of_lt_succ h)).elim j fun e=>e▸k
@[elab_as_elim] theorem ZR {α:Sort _} {a b:α} {p:α→Prop} (h:a=b) (k:p b):p a:=h▸k
@[elab_as_elim] theorem ZS {α:Sort _} {a b:α} {p:α→Prop} (h:b=a) (k:p b):p a:=h▸k
theorem aN {p0 p1:Prop} {P:Prop} (h:p0∧p1) (k:p0→p1→P):P:=k h.1 h.2
theorem aJ {aT:Sort _} {p0:aT→Prop} {P:Prop} (h:∃ a0,p0 a0) (k:∀ a0,p0 a0→P):P:=h.elim fun a0 r0=>k a0 r0
theorem cP {p0 p1 p2:Prop} {P:Prop} (h:p0∧p1∧p2) (k:p0→p1→p2→P):P:=k h.1 h.2.1 h.2.2
theorem Kn {aT:Sort _} {p0:Prop} {p1:aT→Prop} {P:Prop} (h:p0∧∃ a0,p1 a0) (k:p0→∀ a0,p1 a0→P):P:=h.2.elim fun a0 r0=>k h.1 a0 r0
theorem aC {aT:Sort _} {p0 p1:aT→Prop} {P:Prop} (h:∃ a0,p0 a0∧p1 a0) (k:∀ a0,p0 a0→p1 a0→P):P:=h.elim fun a0 r0=>k a0 r0.1 r0.2
theorem dX {aT α1:Sort _} {p0:aT→α1→Prop} {P:Prop} (h:∃ a0,∃ a1,p0 a0 a1) (k:∀ a0,∀ a1,p0 a0 a1→P):P:=h.elim fun a0 r0=>r0.elim fun a1 r1=>k a0 a1 r1
theorem nQ {p0 p1 p2 p3:Prop} {P:Prop} (h:p0∧p1∧p2∧p3) (k:p0→p1→p2→p3→P):P:=k h.1 h.2.1 h.2.2.1 h.2.2.2
theorem rN {aT:Sort _} {p0:Prop} {p1 p2:aT→Prop} {P:Prop} (h:p0∧∃ a0,p1 a0∧p2 a0) (k:p0→∀ a0,p1 a0→p2 a0→P):P:=h.2.elim fun a0 r0=>k h.1 a0 r0.1 r0.2
theorem mQ {aT α1:Sort _} {p0:Prop} {p1:aT→α1→Prop} {P:Prop} (h:p0∧∃ a0,∃ a1,p1 a0 a1) (k:p0→∀ a0,∀ a1,p1 a0 a1→P):P:=h.2.elim fun a0 r0=>r0.elim fun a1 r1=>k h.1 a0 a1 r1
theorem aZ {aT:Sort _} {p0 p1 p2:aT→Prop} {P:Prop} (h:∃ a0,p0 a0∧p1 a0∧p2 a0) (k:∀ a0,p0 a0→p1 a0→p2 a0→P):P:=h.elim fun a0 r0=>k a0 r0.1 r0.2.1 r0.2.2
theorem dB {aT α1:Sort _} {p0 p1:aT→α1→Prop} {P:Prop} (h:∃ a0,∃ a1,p0 a0 a1∧p1 a0 a1) (k:∀ a0,∀ a1,p0 a0 a1→p1 a0 a1→P):P:=h.elim fun a0 r0=>r0.elim fun a1 r1=>k a0 a1 r1.1 r1.2
theorem pA {aT α1 α2:Sort _} {p0:aT→α1→α2→Prop} {P:Prop} (h:∃ a0,∃ a1,∃ a2,p0 a0 a1 a2) (k:∀ a0,∀ a1,∀ a2,p0 a0 a1 a2→P):P:=h.elim fun a0 r0=>r0.elim fun a1 r1=>r1.elim fun a2 r2=>k a0 a1 a2 r2
theorem uJ {aT:Sort _} {p0 p1 p2 p3:aT→Prop} {P:Prop} (h:∃ a0,p0 a0∧p1 a0∧p2 a0∧p3 a0) (k:∀ a0,p0 a0→p1 a0→p2 a0→p3 a0→P):P:=h.elim fun a0 r0=>k a0 r0.1 r0.2.1 r0.2.2.1 r0.2.2.2
theorem rO {aT α1:Sort _} {p0 p1:aT→Prop} {p2:aT→α1→Prop} {P:Prop} (h:∃ a0,p0 a0∧p1 a0∧∃ a1,p2 a0 a1) (k:∀ a0,p0 a0→p1 a0→∀ a1,p2 a0 a1→P):P:=h.elim fun a0 r0=>r0.2.2.elim fun a1 r1=>k a0 r0.1 r0.2.1 a1 r1
theorem Ko {aT α1:Sort _} {p0:aT→Prop} {p1 p2:aT→α1→Prop} {P:Prop} (h:∃ a0,p0 a0∧∃ a1,p1 a0 a1∧p2 a0 a1) (k:∀ a0,p0 a0→∀ a1,p1 a0 a1→p2 a0 a1→P):P:=h.elim fun a0 r0=>r0.2.elim fun a1 r1=>k a0 r0.1 a1 r1.1 r1.2
theorem bK {aT α1:Sort _} {p0 p1 p2:aT→α1→Prop} {P:Prop} (h:∃ a0,∃ a1,p0 a0 a1∧p1 a0 a1∧p2 a0 a1) (k:∀ a0,∀ a1,p0 a0 a1→p1 a0 a1→p2 a0 a1→P):P:=h.elim fun a0 r0=>r0.elim fun a1 r1=>k a0 a1 r1.1 r1.2.1 r1.2.2
theorem fZ {aT α1 α2:Sort _} {p0 p1:aT→α1→α2→Prop} {P:Prop} (h:∃ a0,∃ a1,∃ a2,p0 a0 a1 a2∧p1 a0 a1 a2) (k:∀ a0,∀ a1,∀ a2,p0 a0 a1 a2→p1 a0 a1 a2→P):P:=h.elim fun a0 r0=>r0.elim fun a1 r1=>r1.elim fun a2 r2=>k a0 a1 a2 r2.1 r2.2
theorem ym {aT α1 α2 α3:Sort _} {p0:aT→α1→α2→α3→Prop} {P:Prop} (h:∃ a0,∃ a1,∃ a2,∃ a3,p0 a0 a1 a2 a3) (k:∀ a0,∀ a1,∀ a2,∀ a3,p0 a0 a1 a2 a3→P):P:=h.elim fun a0 r0=>r0.elim fun a1 r1=>r1.elim fun a2 r2=>r2.elim fun a3 r3=>k a0 a1 a2 a3 r3
theorem fK {aT α1:Sort _} {p0 p1 p2 p3:aT→α1→Prop} {P:Prop} (h:∃ a0,∃ a1,p0 a0 a1∧p1 a0 a1∧p2 a0 a1∧p3 a0 a1) (k:∀ a0,∀ a1,p0 a0 a1→p1 a0 a1→p2 a0 a1→p3 a0 a1→P):P:=h.elim fun a0 r0=>r0.elim fun a1 r1=>k a0 a1 r1.1 r1.2.1 r1.2.2.1 r1.2.2.2
theorem pB {aT α1 α2:Sort _} {p0 p1 p2:aT→α1→α2→Prop} {P:Prop} (h:∃ a0,∃ a1,∃ a2,p0 a0 a1 a2∧p1 a0 a1 a2∧p2 a0 a1 a2) (k:∀ a0,∀ a1,∀ a2,p0 a0 a1 a2→p1 a0 a1 a2→p2 a0 a1 a2→P):P:=h.elim fun a0 r0=>r0.elim fun a1 r1=>r1.elim fun a2 r2=>k a0 a1 a2 r2.1 r2.2.1 r2.2.2
theorem yp {aT α1 α2 α3:Sort _} {p0 p1:aT→α1→α2→α3→Prop} {P:Prop} (h:∃ a0,∃ a1,∃ a2,∃ a3,p0 a0 a1 a2 a3∧p1 a0 a1 a2 a3) (k:∀ a0,∀ a1,∀ a2,∀ a3,p0 a0 a1 a2 a3→p1 a0 a1 a2 a3→P):P:=h.elim fun a0 r0=>r0.elim fun a1 r1=>r1.elim fun a2 r2=>r2.elim fun a3 r3=>k a0 a1 a2 a3 r3.1 r3.2
theorem CO {aT:Sort _} {p0 p1 p2 p3 p4 p5:aT→Prop} {P:Prop} (h:∃ a0,p0 a0∧p1 a0∧p2 a0∧p3 a0∧p4 a0∧p5 a0) (k:∀ a0,p0 a0→p1 a0→p2 a0→p3 a0→p4 a0→p5 a0→P):P:=h.elim fun a0 r0=>k a0 r0.1 r0.2.1 r0.2.2.1 r0.2.2.2.1 r0.2.2.2.2.1 r0.2.2.2.2.2
theorem kI {aT α1:Sort _} {p0 p1 p2 p3 p4:aT→α1→Prop} {P:Prop} (h:∃ a0,∃ a1,p0 a0 a1∧p1 a0 a1∧p2 a0 a1∧p3 a0 a1∧p4 a0 a1) (k:∀ a0,∀ a1,p0 a0 a1→p1 a0 a1→p2 a0 a1→p3 a0 a1→p4 a0 a1→P):P:=h.elim fun a0 r0=>r0.elim fun a1 r1=>k a0 a1 r1.1 r1.2.1 r1.2.2.1 r1.2.2.2.1 r1.2.2.2.2
theorem iN {aT α1 α2:Sort _} {p0 p1 p2 p3:aT→α1→α2→Prop} {P:Prop} (h:∃ a0,∃ a1,∃ a2,p0 a0 a1 a2∧p1 a0 a1 a2∧p2 a0 a1 a2∧p3 a0 a1 a2) (k:∀ a0,∀ a1,∀ a2,p0 a0 a1 a2→p1 a0 a1 a2→p2 a0 a1 a2→p3 a0 a1 a2→P):P:=h.elim fun a0 r0=>r0.elim fun a1 r1=>r1.elim fun a2 r2=>k a0 a1 a2 r2.1 r2.2.1 r2.2.2.1 r2.2.2.2
theorem nR {aT α1 α2 α3:Sort _} {p0 p1 p2:aT→α1→α2→α3→Prop} {P:Prop} (h:∃ a0,∃ a1,∃ a2,∃ a3,p0 a0 a1 a2 a3∧p1 a0 a1 a2 a3∧p2 a0 a1 a2 a3) (k:∀ a0,∀ a1,∀ a2,∀ a3,p0 a0 a1 a2 a3→p1 a0 a1 a2 a3→p2 a0 a1 a2 a3→P):P:=h.elim fun a0 r0=>r0.elim fun a1 r1=>r1.elim fun a2 r2=>r2.elim fun a3 r3=>k a0 a1 a2 a3 r3.1 r3.2.1 r3.2.2
theorem mR {aT α1 α2:Sort _} {p0:Prop} {p1:aT→Prop} {p2 p3 p4:aT→α1→α2→Prop} {P:Prop} (h:p0∧∃ a0,p1 a0∧∃ a1,∃ a2,p2 a0 a1 a2∧p3 a0 a1 a2∧p4 a0 a1 a2) (k:p0→∀ a0,p1 a0→∀ a1,∀ a2,p2 a0 a1 a2→p3 a0 a1 a2→p4 a0 a1 a2→P):P:=h.2.elim fun a0 r0=>r0.2.elim fun a1 r1=>r1.elim fun a2 r2=>k h.1 a0 r0.1 a1 a2 r2.1 r2.2.1 r2.2.2
theorem yq {aT α1 α2 α3:Sort _} {p0:Prop} {p1 p2 p3:aT→α1→α2→α3→Prop} {P:Prop} (h:p0∧∃ a0,∃ a1,∃ a2,∃ a3,p1 a0 a1 a2 a3∧p2 a0 a1 a2 a3∧p3 a0 a1 a2 a3) (k:p0→∀ a0,∀ a1,∀ a2,∀ a3,p1 a0 a1 a2 a3→p2 a0 a1 a2 a3→p3 a0 a1 a2 a3→P):P:=h.2.elim fun a0 r0=>r0.elim fun a1 r1=>r1.elim fun a2 r2=>r2.elim fun a3 r3=>k h.1 a0 a1 a2 a3 r3.1 r3.2.1 r3.2.2
theorem nT {aT α1:Sort _} {p0 p1 p2 p3 p4 p5:aT→α1→Prop} {P:Prop} (h:∃ a0,∃ a1,p0 a0 a1∧p1 a0 a1∧p2 a0 a1∧p3 a0 a1∧p4 a0 a1∧p5 a0 a1) (k:∀ a0,∀ a1,p0 a0 a1→p1 a0 a1→p2 a0 a1→p3 a0 a1→p4 a0 a1→p5 a0 a1→P):P:=h.elim fun a0 r0=>r0.elim fun a1 r1=>k a0 a1 r1.1 r1.2.1 r1.2.2.1 r1.2.2.2.1 r1.2.2.2.2.1 r1.2.2.2.2.2
theorem mS {aT α1 α2:Sort _} {p0 p1 p2 p3 p4:aT→α1→α2→Prop} {P:Prop} (h:∃ a0,∃ a1,∃ a2,p0 a0 a1 a2∧p1 a0 a1 a2∧p2 a0 a1 a2∧p3 a0 a1 a2∧p4 a0 a1 a2) (k:∀ a0,∀ a1,∀ a2,p0 a0 a1 a2→p1 a0 a1 a2→p2 a0 a1 a2→p3 a0 a1 a2→p4 a0 a1 a2→P):P:=h.elim fun a0 r0=>r0.elim fun a1 r1=>r1.elim fun a2 r2=>k a0 a1 a2 r2.1 r2.2.1 r2.2.2.1 r2.2.2.2.1 r2.2.2.2.2
theorem lA {aT α1 α2 α3:Sort _} {p0 p1 p2 p3:aT→α1→α2→α3→Prop} {P:Prop} (h:∃ a0,∃ a1,∃ a2,∃ a3,p0 a0 a1 a2 a3∧p1 a0 a1 a2 a3∧p2 a0 a1 a2 a3∧p3 a0 a1 a2 a3) (k:∀ a0,∀ a1,∀ a2,∀ a3,p0 a0 a1 a2 a3→p1 a0 a1 a2 a3→p2 a0 a1 a2 a3→p3 a0 a1 a2 a3→P):P:=h.elim fun a0 r0=>r0.elim fun a1 r1=>r1.elim fun a2 r2=>r2.elim fun a3 r3=>k a0 a1 a2 a3 r3.1 r3.2.1 r3.2.2.1 r3.2.2.2
theorem Kp {aT α1 α2 α3 iy nU:Sort _} {p0 p1:aT→α1→α2→α3→iy→nU→Prop} {P:Prop} (h:∃ a0,∃ a1,∃ a2,∃ a3,∃ a4,∃ a5,p0 a0 a1 a2 a3 a4 a5∧p1 a0 a1 a2 a3 a4 a5) (k:∀ a0,∀ a1,∀ a2,∀ a3,∀ a4,∀ a5,p0 a0 a1 a2 a3 a4 a5→p1 a0 a1 a2 a3 a4 a5→P):P:=h.elim fun a0 r0=>r0.elim fun a1 r1=>r1.elim fun a2 r2=>r2.elim fun a3 r3=>r3.elim fun a4 r4=>r4.elim fun a5 r5=>k a0 a1 a2 a3 a4 a5 r5.1 r5.2
theorem yr {aT α1 α2:Sort _} {p0 p1 p2 p3 p4 p5:aT→α1→α2→Prop} {P:Prop} (h:∃ a0,∃ a1,∃ a2,p0 a0 a1 a2∧p1 a0 a1 a2∧p2 a0 a1 a2∧p3 a0 a1 a2∧p4 a0 a1 a2∧p5 a0 a1 a2) (k:∀ a0,∀ a1,∀ a2,p0 a0 a1 a2→p1 a0 a1 a2→p2 a0 a1 a2→p3 a0 a1 a2→p4 a0 a1 a2→p5 a0 a1 a2→P):P:=h.elim fun a0 r0=>r0.elim fun a1 r1=>r1.elim fun a2 r2=>k a0 a1 a2 r2.1 r2.2.1 r2.2.2.1 r2.2.2.2.1 r2.2.2.2.2.1 r2.2.2.2.2.2
theorem pC {aT α1 α2 α3:Sort _} {p0 p1 p2 p3 p4:aT→α1→α2→α3→Prop} {P:Prop} (h:∃ a0,∃ a1,∃ a2,∃ a3,p0 a0 a1 a2 a3∧p1 a0 a1 a2 a3∧p2 a0 a1 a2 a3∧p3 a0 a1 a2 a3∧p4 a0 a1 a2 a3) (k:∀ a0,∀ a1,∀ a2,∀ a3,p0 a0 a1 a2 a3→p1 a0 a1 a2 a3→p2 a0 a1 a2 a3→p3 a0 a1 a2 a3→p4 a0 a1 a2 a3→P):P:=h.elim fun a0 r0=>r0.elim fun a1 r1=>r1.elim fun a2 r2=>r2.elim fun a3 r3=>k a0 a1 a2 a3 r3.1 r3.2.1 r3.2.2.1 r3.2.2.2.1 r3.2.2.2.2
theorem Kq {aT α1 α2 α3 iy:Sort _} {p0 p1 p2 p3:aT→α1→α2→α3→iy→Prop} {P:Prop} (h:∃ a0,∃ a1,∃ a2,∃ a3,∃ a4,p0 a0 a1 a2 a3 a4∧p1 a0 a1 a2 a3 a4∧p2 a0 a1 a2 a3 a4∧p3 a0 a1 a2 a3 a4) (k:∀ a0,∀ a1,∀ a2,∀ a3,∀ a4,p0 a0 a1 a2 a3 a4→p1 a0 a1 a2 a3 a4→p2 a0 a1 a2 a3 a4→p3 a0 a1 a2 a3 a4→P):P:=h.elim fun a0 r0=>r0.elim fun a1 r1=>r1.elim fun a2 r2=>r2.elim fun a3 r3=>r3.elim fun a4 r4=>k a0 a1 a2 a3 a4 r4.1 r4.2.1 r4.2.2.1 r4.2.2.2
theorem Kr {aT α1 α2 α3 iy nU Ks:Sort _} {p0 p1:aT→α1→α2→α3→iy→nU→Ks→Prop} {P:Prop} (h:∃ a0,∃ a1,∃ a2,∃ a3,∃ a4,∃ a5,∃ a6,p0 a0 a1 a2 a3 a4 a5 a6∧p1 a0 a1 a2 a3 a4 a5 a6) (k:∀ a0,∀ a1,∀ a2,∀ a3,∀ a4,∀ a5,∀ a6,p0 a0 a1 a2 a3 a4 a5 a6→p1 a0 a1 a2 a3 a4 a5 a6→P):P:=h.elim fun a0 r0=>r0.elim fun a1 r1=>r1.elim fun a2 r2=>r2.elim fun a3 r3=>r3.elim fun a4 r4=>r4.elim fun a5 r5=>r5.elim fun a6 r6=>k a0 a1 a2 a3 a4 a5 a6 r6.1 r6.2
theorem Ku {aT:Sort _} {p0 p1 p2 p3 p4 p5 p6 p7 p8:aT→Prop} {P:Prop} (h:∃ a0,p0 a0∧p1 a0∧p2 a0∧p3 a0∧p4 a0∧p5 a0∧p6 a0∧p7 a0∧p8 a0) (k:∀ a0,p0 a0→p1 a0→p2 a0→p3 a0→p4 a0→p5 a0→p6 a0→p7 a0→p8 a0→P):P:=h.elim fun a0 r0=>k a0 r0.1 r0.2.1 r0.2.2.1 r0.2.2.2.1 r0.2.2.2.2.1 r0.2.2.2.2.2.1 r0.2.2.2.2.2.2.1 r0.2.2.2.2.2.2.2.1 r0.2.2.2.2.2.2.2.2
theorem CS {aT α1:Sort _} {p0 p1 p2 p3 p4 p5 p6 p7:aT→α1→Prop} {P:Prop} (h:∃ a0,∃ a1,p0 a0 a1∧p1 a0 a1∧p2 a0 a1∧p3 a0 a1∧p4 a0 a1∧p5 a0 a1∧p6 a0 a1∧p7 a0 a1) (k:∀ a0,∀ a1,p0 a0 a1→p1 a0 a1→p2 a0 a1→p3 a0 a1→p4 a0 a1→p5 a0 a1→p6 a0 a1→p7 a0 a1→P):P:=h.elim fun a0 r0=>r0.elim fun a1 r1=>k a0 a1 r1.1 r1.2.1 r1.2.2.1 r1.2.2.2.1 r1.2.2.2.2.1 r1.2.2.2.2.2.1 r1.2.2.2.2.2.2.1 r1.2.2.2.2.2.2.2
theorem CU {aT α1 α2:Sort _} {p0 p1 p2 p3 p4 p5 p6:aT→α1→α2→Prop} {P:Prop} (h:∃ a0,∃ a1,∃ a2,p0 a0 a1 a2∧p1 a0 a1 a2∧p2 a0 a1 a2∧p3 a0 a1 a2∧p4 a0 a1 a2∧p5 a0 a1 a2∧p6 a0 a1 a2) (k:∀ a0,∀ a1,∀ a2,p0 a0 a1 a2→p1 a0 a1 a2→p2 a0 a1 a2→p3 a0 a1 a2→p4 a0 a1 a2→p5 a0 a1 a2→p6 a0 a1 a2→P):P:=h.elim fun a0 r0=>r0.elim fun a1 r1=>r1.elim fun a2 r2=>k a0 a1 a2 r2.1 r2.2.1 r2.2.2.1 r2.2.2.2.1 r2.2.2.2.2.1 r2.2.2.2.2.2.1 r2.2.2.2.2.2.2
theorem Kv {aT α1 α2 α3:Sort _} {p0 p1 p2 p3 p4:aT→α1→α2→Prop} {p5:aT→α1→α2→α3→Prop} {P:Prop} (h:∃ a0,∃ a1,∃ a2,p0 a0 a1 a2∧p1 a0 a1 a2∧p2 a0 a1 a2∧p3 a0 a1 a2∧p4 a0 a1 a2∧∃ a3,p5 a0 a1 a2 a3) (k:∀ a0,∀ a1,∀ a2,p0 a0 a1 a2→p1 a0 a1 a2→p2 a0 a1 a2→p3 a0 a1 a2→p4 a0 a1 a2→∀ a3,p5 a0 a1 a2 a3→P):P:=h.elim fun a0 r0=>r0.elim fun a1 r1=>r1.elim fun a2 r2=>r2.2.2.2.2.2.elim fun a3 r3=>k a0 a1 a2 r2.1 r2.2.1 r2.2.2.1 r2.2.2.2.1 r2.2.2.2.2.1 a3 r3
theorem Kw {aT α1 α2 α3 iy:Sort _} {p0 p1 p2 p3 p4:aT→α1→α2→α3→iy→Prop} {P:Prop} (h:∃ a0,∃ a1,∃ a2,∃ a3,∃ a4,p0 a0 a1 a2 a3 a4∧p1 a0 a1 a2 a3 a4∧p2 a0 a1 a2 a3 a4∧p3 a0 a1 a2 a3 a4∧p4 a0 a1 a2 a3 a4) (k:∀ a0,∀ a1,∀ a2,∀ a3,∀ a4,p0 a0 a1 a2 a3 a4→p1 a0 a1 a2 a3 a4→p2 a0 a1 a2 a3 a4→p3 a0 a1 a2 a3 a4→p4 a0 a1 a2 a3 a4→P):P:=h.elim fun a0 r0=>r0.elim fun a1 r1=>r1.elim fun a2 r2=>r2.elim fun a3 r3=>r3.elim fun a4 r4=>k a0 a1 a2 a3 a4 r4.1 r4.2.1 r4.2.2.1 r4.2.2.2.1 r4.2.2.2.2
theorem CV {aT α1 α2 α3 iy:Sort _} {p0 p1 p2 p3 p4 p5:aT→α1→α2→α3→iy→Prop} {P:Prop} (h:∃ a0,∃ a1,∃ a2,∃ a3,∃ a4,p0 a0 a1 a2 a3 a4∧p1 a0 a1 a2 a3 a4∧p2 a0 a1 a2 a3 a4∧p3 a0 a1 a2 a3 a4∧p4 a0 a1 a2 a3 a4∧p5 a0 a1 a2 a3 a4) (k:∀ a0,∀ a1,∀ a2,∀ a3,∀ a4,p0 a0 a1 a2 a3 a4→p1 a0 a1 a2 a3 a4→p2 a0 a1 a2 a3 a4→p3 a0 a1 a2 a3 a4→p4 a0 a1 a2 a3 a4→p5 a0 a1 a2 a3 a4→P):P:=h.elim fun a0 r0=>r0.elim fun a1 r1=>r1.elim fun a2 r2=>r2.elim fun a3 r3=>r3.elim fun a4 r4=>k a0 a1 a2 a3 a4 r4.1 r4.2.1 r4.2.2.1 r4.2.2.2.1 r4.2.2.2.2.1 r4.2.2.2.2.2
theorem Ky {aT α1 α2 α3 iy:Sort _} {p0 p1 p2 p3 p4 p5 p6 p7 p8:aT→α1→α2→α3→iy→Prop} {P:Prop} (h:∃ a0,∃ a1,∃ a2,∃ a3,∃ a4,p0 a0 a1 a2 a3 a4∧p1 a0 a1 a2 a3 a4∧p2 a0 a1 a2 a3 a4∧p3 a0 a1 a2 a3 a4∧p4 a0 a1 a2 a3 a4∧p5 a0 a1 a2 a3 a4∧p6 a0 a1 a2 a3 a4∧p7 a0 a1 a2 a3 a4∧p8 a0 a1 a2 a3 a4) (k:∀ a0,∀ a1,∀ a2,∀ a3,∀ a4,p0 a0 a1 a2 a3 a4→p1 a0 a1 a2 a3 a4→p2 a0 a1 a2 a3 a4→p3 a0 a1 a2 a3 a4→p4 a0 a1 a2 a3 a4→p5 a0 a1 a2 a3 a4→p6 a0 a1 a2 a3 a4→p7 a0 a1 a2 a3 a4→p8 a0 a1 a2 a3 a4→P):P:=h.elim fun a0 r0=>r0.elim fun a1 r1=>r1.elim fun a2 r2=>r2.elim fun a3 r3=>r3.elim fun a4 r4=>k a0 a1 a2 a3 a4 r4.1 r4.2.1 r4.2.2.1 r4.2.2.2.1 r4.2.2.2.2.1 r4.2.2.2.2.2.1 r4.2.2.2.2.2.2.1 r4.2.2.2.2.2.2.2.1 r4.2.2.2.2.2.2.2.2
theorem Kz {aT α1 α2 α3 iy nU:Sort _} {p0 p1 p2 p3 p4 p5 p6 p7 p8 p9:aT→α1→α2→α3→iy→nU→Prop} {P:Prop} (h:∃ a0,∃ a1,∃ a2,∃ a3,∃ a4,∃ a5,p0 a0 a1 a2 a3 a4 a5∧p1 a0 a1 a2 a3 a4 a5∧p2 a0 a1 a2 a3 a4 a5∧p3 a0 a1 a2 a3 a4 a5∧p4 a0 a1 a2 a3 a4 a5∧p5 a0 a1 a2 a3 a4 a5∧p6 a0 a1 a2 a3 a4 a5∧p7 a0 a1 a2 a3 a4 a5∧p8 a0 a1 a2 a3 a4 a5∧p9 a0 a1 a2 a3 a4 a5) (k:∀ a0,∀ a1,∀ a2,∀ a3,∀ a4,∀ a5,p0 a0 a1 a2 a3 a4 a5→p1 a0 a1 a2 a3 a4 a5→p2 a0 a1 a2 a3 a4 a5→p3 a0 a1 a2 a3 a4 a5→p4 a0 a1 a2 a3 a4 a5→p5 a0 a1 a2 a3 a4 a5→p6 a0 a1 a2 a3 a4 a5→p7 a0 a1 a2 a3 a4 a5→p8 a0 a1 a2 a3 a4 a5→p9 a0 a1 a2 a3 a4 a5→P):P:=h.elim fun a0 r0=>r0.elim fun a1 r1=>r1.elim fun a2 r2=>r2.elim fun a3 r3=>r3.elim fun a4 r4=>r4.elim fun a5 r5=>k a0 a1 a2 a3 a4 a5 r5.1 r5.2.1 r5.2.2.1 r5.2.2.2.1 r5.2.2.2.2.1 r5.2.2.2.2.2.1 r5.2.2.2.2.2.2.1 r5.2.2.2.2.2.2.2.1 r5.2.2.2.2.2.2.2.2.1 r5.2.2.2.2.2.2.2.2.2
theorem KA {aT α1 α2 α3 iy nU:Sort _} {p0 p1 p2 p3 p4 p5 p6 p7 p8 p9 CW CX CY:aT→α1→α2→α3→iy→nU→Prop} {P:Prop} (h:∃ a0,∃ a1,∃ a2,∃ a3,∃ a4,∃ a5,p0 a0 a1 a2 a3 a4 a5∧p1 a0 a1 a2 a3 a4 a5∧p2 a0 a1 a2 a3 a4 a5∧p3 a0 a1 a2 a3 a4 a5∧p4 a0 a1 a2 a3 a4 a5∧p5 a0 a1 a2 a3 a4 a5∧p6 a0 a1 a2 a3 a4 a5∧p7 a0 a1 a2 a3 a4 a5∧p8 a0 a1 a2 a3 a4 a5∧p9 a0 a1 a2 a3 a4 a5∧CW a0 a1 a2 a3 a4 a5∧CX a0 a1 a2 a3 a4 a5∧CY a0 a1 a2 a3 a4 a5) (k:∀ a0,∀ a1,∀ a2,∀ a3,∀ a4,∀ a5,p0 a0 a1 a2 a3 a4 a5→p1 a0 a1 a2 a3 a4 a5→p2 a0 a1 a2 a3 a4 a5→p3 a0 a1 a2 a3 a4 a5→p4 a0 a1 a2 a3 a4 a5→p5 a0 a1 a2 a3 a4 a5→p6 a0 a1 a2 a3 a4 a5→p7 a0 a1 a2 a3 a4 a5→p8 a0 a1 a2 a3 a4 a5→p9 a0 a1 a2 a3 a4 a5→CW a0 a1 a2 a3 a4 a5→CX a0 a1 a2 a3 a4 a5→CY a0 a1 a2 a3 a4 a5→P):P:=h.elim fun a0 r0=>r0.elim fun a1 r1=>r1.elim fun a2 r2=>r2.elim fun a3 r3=>r3.elim fun a4 r4=>r4.elim fun a5 r5=>k a0 a1 a2 a3 a4 a5 r5.1 r5.2.1 r5.2.2.1 r5.2.2.2.1 r5.2.2.2.2.1 r5.2.2.2.2.2.1 r5.2.2.2.2.2.2.1 r5.2.2.2.2.2.2.2.1 r5.2.2.2.2.2.2.2.2.1 r5.2.2.2.2.2.2.2.2.2.1 r5.2.2.2.2.2.2.2.2.2.2.1 r5.2.2.2.2.2.2.2.2.2.2.2.1 r5.2.2.2.2.2.2.2.2.2.2.2.2
end EV
namespace EV
open PySem
inductive AV where
 |none|bool (b:Bool)|int (i:Int)|str (s:Str)|fix (v:Value)|loc (n:Nat)|jn (o:Option Int)
 deriving Inhabited
inductive AO where
 |list (vs:List AV)
 |tup (vs:List AV)
 |dict (es:List (Int×AV)) (fr:Nat)
 |set (xs:List Int)
 |cell (v:Option AV)
 |inst (C:Addr) (d:Nat)
 |ns (m:List (Str×AV))
 |slots (C:Addr) (d:Nat) (vs:List (Option AV))
 |jG (l:Nat) (i:Nat)
 |meth (self:Nat)
 |dead
 deriving Inhabited
noncomputable def ob {α β:Type} (x:Option α) (f:α→Option β):Option β:=match x with
 |some a=>f a
 | .none=>.none
noncomputable def aV {α γ β:Type} (x:Option (α×γ)) (f:α→γ→Option β):Option β:=match x with
 |some a=>f a.1 a.2
 | .none=>.none
noncomputable def alt {α β:Type} (x:Option α) (f:α→Option β) (d:Option β):Option β:=match x with
 |some a=>f a
 | .none=>d
noncomputable def dh {α:Type} (i k:Nat) (f:i=k→Option α):Option α:=if h:i=k then f h else .none
noncomputable def lE:List Nat→List Nat→Bool
 |[],[]=>true
 |x::xs,y::ys=>match Nat.beq x y with|true=>lE xs ys|false=>false
 |_,_=>false
noncomputable def sE (a b:Str):Bool:=lE a.cps.toList b.cps.toList
noncomputable def lk {α:Type}:List (Str×α)→Str→Option α
 |[],_=>.none
 |p::r,x=>match sE x p.1 with|true=>.some p.2|false=>lk r x
noncomputable def put {α:Type}:List (Str×α)→Str→α→List (Str×α)
 |[],x,v=>[(x,v)]
 |p::r,x,v=>match sE x p.1 with|true=>(p.1,v)::r|false=>p::put r x v
noncomputable def iE (a b:Int):Bool:=match a,b with
 | .ofNat m,.ofNat n=>Nat.beq m n
 | .negSucc m,.negSucc n=>Nat.beq m n
 |_,_=>false
noncomputable def bf (a b:Int):Bool:=match a,b with
 | .ofNat m,.ofNat n=>Nat.blt m n
 | .ofNat _,.negSucc _=>false
 | .negSucc _,.ofNat _=>true
 | .negSucc m,.negSucc n=>Nat.blt n m
noncomputable def c7 {α:Type}:List (Int×α)→Int→Option α
 |[],_=>.none
 |p::r,x=>match iE x p.1 with|true=>.some p.2|false=>c7 r x
noncomputable def dput {α:Type}:List (Int×α)→Int→α→List (Int×α)
 |[],x,v=>[(x,v)]
 |p::r,x,v=>match iE x p.1 with|true=>(p.1,v)::r|false=>p::dput r x v
noncomputable def jH {α:Type}:List (Int×α)→Int→List (Int×α)
 |[],_=>[]
 |p::r,x=>match iE x p.1 with|true=>r|false=>p::jH r x
noncomputable abbrev AH:=List AO
structure St where
 lo:List (Str×AV)
 hp:AH
 deriving Inhabited
structure au where
 names:List (Str×NameKind)
 cells:List (Str×Nat)
 quiet:Bool:=true
 deriving Inhabited
structure Fn where
 params:List Str
 dflt:List (Str×AV)
 vararg:Option Str
 names:List (Str×NameKind)
 body:List Stmt
 deriving Inhabited
structure lB where
 slots:Option (List Str)
 attrs:List Str
 meths:List (Str×Addr)
 deriving Inhabited
structure Cx where
 glob:List (Str×AV)
 fn:Addr→Option Fn
 cls:Addr→Option lB
 ro:Nat
 ct:Addr→List AV→AH→Option (AV×AH)
 deep:Bool:=false
inductive Fl where
 |next|brk|cont|ret (v:AV)
 deriving Inhabited
inductive It where
 |range (i left step:Int)
 |lst (l:Nat) (i:Nat)
 |fh (l:Nat) (i:Nat)
 |keys (d:Nat) (i:Nat)
 |vals (d:Nat) (i:Nat)
 |enum (l:Nat) (i:Nat)
 deriving Inhabited
structure Rec where
 ev:PySem.Expr→au→St→Option (AV×St)
 tr:PySem.Expr→au→St→Option (Bool×St)
 ex:List Stmt→au→St→Option (Fl×St)
 wh:PySem.Expr→List Stmt→List Stmt→au→St→Option (Fl×St)
 fo:PySem.Expr→It→List Stmt→List Stmt→au→St→Option (Fl×St)
 co:PySem.Expr→Nat→It→Nat→au→St→Option St
 ca:AV→List AV→AH→Option (AV×AH)
 fu:Nat
noncomputable def lim (n:Nat):Bool:=Nat.ble n 100000
noncomputable def bL (h:AH) (ro:Nat) (l:Nat) (o:AO):Option AH:=
 match Nat.ble ro l with
 |true=>match h[l]? with
  |some _=>some (h.set l o)
  | .none=>.none
 |false=>.none
noncomputable def kind (ae:au) (x:Str):Option NameKind:=lk ae.names x
noncomputable def nW (o:Option AO):Option (Option AV):=ob o fun o=>dh o.ctorIdx 4 fun h=>AO.cell.elim (motive:=fun _=>Option (Option AV)) o h fun v=>some v
noncomputable def uK (ae:au) (x:Str) (s:St):Option AV:=ob (lk ae.cells x) fun c=>ob (nW s.hp[c]?) fun v=>v
noncomputable def load (C:Cx) (ae:au) (x:Str) (s:St):Option AV:=ob (kind ae x) fun k=>match k with
 | .local=>lk s.lo x
 | .cell=>uK ae x s
 | .free=>uK ae x s
 | .globalImplicit=>lk C.glob x
 |_=>.none
noncomputable def CZ (C:Cx) (ae:au) (x:Str) (v:AV) (s:St):Option St:=ob (lk ae.cells x) fun c=>ob (nW s.hp[c]?) fun _=>ob (bL s.hp C.ro c (.cell (some v))) fun h=>some { s with hp:=h}
noncomputable def store (C:Cx) (ae:au) (x:Str) (v:AV) (s:St):Option St:=ob (kind ae x) fun k=>match k with
 | .local=>some { s with lo:=put s.lo x v}
 | .cell=>CZ C ae x v s
 |_=>.none
noncomputable def dP:AV→Option Int
 | .int i=>some i
 |_=>.none
noncomputable def iO:AV→Option Str
 | .str s=>some s
 |_=>.none
noncomputable def cT:AV→Option Nat
 | .loc l=>some l
 |_=>.none
noncomputable def isNil:AV→Bool
 | .none=>true
 |_=>false
noncomputable def bO (o:Option AO):Option (List AV):=ob o fun o=>dh o.ctorIdx 0 fun h=>AO.list.elim (motive:=fun _=>Option (List AV)) o h fun vs=>some vs
noncomputable def dY (o:Option AO):Option (List AV):=ob o fun o=>dh o.ctorIdx 1 fun h=>AO.tup.elim (motive:=fun _=>Option (List AV)) o h fun vs=>some vs
noncomputable def iz (o:Option AO):Option (List (Int×AV)×Nat):=ob o fun o=>dh o.ctorIdx 2 fun h=>AO.dict.elim (motive:=fun _=>Option (List (Int×AV)×Nat)) o h fun es n=>some (es,n)
noncomputable def pD (o:Option AO):Option (List Int):=ob o fun o=>dh o.ctorIdx 3 fun h=>AO.set.elim (motive:=fun _=>Option (List Int)) o h fun xs=>some xs
noncomputable def rP:Nat→Bool
 |0=>true
 |_+1=>false
noncomputable def mT (o:Option AO):Option (List (Int×AV)):=aV (iz o) fun es n=>match rP n with
 |true=>some es
 |false=>.none
noncomputable def nX (h:AH) (v:AV):Option (List AV):=ob (cT v) fun l=>alt (bO h[l]?) some (dY h[l]?)
noncomputable def gR (h:AH) (v:AV):Option (List AV):=ob (cT v) fun l=>bO h[l]?
noncomputable def truthy (h:AH):AV→Option Bool
 | .none=>some false
 | .bool b=>some b
 | .int i=>some (!iE i 0)
 | .str s=>some (!Nat.beq s.cps.size 0)
 | .loc l=>ob (bO h[l]?) fun vs=>some (!vs.isEmpty)
 |_=>.none
noncomputable def yt:AV→Option Bool
 | .bool b=>some b
 |_=>.none
noncomputable def aeq (a b:AV):Option Bool:=match a with
 | .int i=>alt (dP b) (fun j=>some (iE i j)) (ob (iO b) fun _=>some false)
 | .str s=>alt (iO b) (fun z=>some (sE s z)) (ob (dP b) fun _=>some false)
 | .bool x=>ob (yt b) fun y=>some (x==y)
 |_=>.none
noncomputable def lC:List AV→List AV→Option Bool
 |[],bs=>some bs.isEmpty
 |a::as,bs=>match bs with
  |[]=>some false
  |b::bs=>ob (aeq a b) fun x=>ob (lC as bs) fun y=>some (x&&y)
noncomputable def j4 (x:AV):List AV→Option Bool
 |[]=>some false
 |b::bs=>ob (aeq x b) fun p=>ob (j4 x bs) fun q=>some (p||q)
noncomputable def iA (x:Int):List Int→Bool
 |[]=>false
 |y::ys=>match iE x y with|true=>true|false=>iA x ys
noncomputable def eqv (h:AH) (a b:AV):Option Bool:=alt (cT a) (fun _=>ob (gR h a) fun xs=>ob (gR h b) fun ys=>lC xs ys) (aeq a b)
noncomputable def KC (o:Option AO) (i:Int):Option Bool:=alt (iz o) (fun d=>some (c7 d.1 i).isSome) (ob (pD o) fun xs=>some (iA i xs))
noncomputable def nY (h:AH) (x v:AV):Option Bool:=ob (cT v) fun l=>alt (bO h[l]?) (fun vs=>j4 x vs) (ob (dP x) fun i=>KC h[l]? i)
noncomputable def isNone:AV→Option Bool
 | .none=>some true
 | .loc _=>some false
 | .int _=>some false
 | .str _=>some false
 | .bool _=>some false
 |_=>.none
noncomputable def yw (x:Option Bool):Option Bool:=ob x fun b=>some (!b)
noncomputable def C1 (o:CmpOp) (i j:Int):Option Bool:=match o with
 | .Lt=>some (bf i j)
 | .Gt=>some (bf j i)
 | .LtE=>some (!bf j i)
 | .GtE=>some (!bf i j)
 |_=>.none
noncomputable def yx (a b:AV):Option Bool:=match isNil b with
 |true=>isNone a
 |false=>.none
noncomputable def cmp (h:AH) (o:CmpOp) (a b:AV):Option Bool:=match o with
 | .Eq=>eqv h a b
 | .NotEq=>yw (eqv h a b)
 | .In=>nY h a b
 | .NotIn=>yw (nY h a b)
 | .Is=>yx a b
 | .IsNot=>yw (yx a b)
 |o=>ob (dP a) fun i=>ob (dP b) fun j=>C1 o i j
noncomputable def repl (vs:List AV):Nat→List AV
 |0=>[]
 |n+1=>vs++repl vs n
noncomputable def small (i:Int):Bool:=bf (-1000000000000) i&&bf i 1000000000000
noncomputable def rsh (a b:Int):Int:=match bf b (Builtin.Int.intBits a:Nat) with
 |true=>a.fdiv (2 ^ b.toNat)
 |false=>match bf a 0 with|true=> -1|false=>0
noncomputable def binI (o:Operator) (a b:Int):Option Int:=match o with
 | .Add=>some (a+b)
 | .Sub=>some (a- b)
 | .Mult=>match small a&&small b with|true=>some (a*b)|false=>.none
 | .Mod=>match iE b 0 with|true=>.none|false=>some (Int.fmod a b)
 | .RShift=>match bf b 0 with|true=>.none|false=>some (rsh a b)
 | .BitAnd=>some (Builtin.bitAnd a b)
 | .BitOr=>some (Builtin.bitOr a b)
 |_=>.none
noncomputable def isAdd:Operator→Bool
 | .Add=>true
 |_=>false
noncomputable def isMul:Operator→Bool
 | .Mult=>true
 |_=>false
noncomputable def KD (o:Operator) (a b:Str):Option Str:=match isAdd o&&lim (a.cps.size+b.cps.size) with|true=>some (a++b)|false=>.none
noncomputable def newL (h:AH) (vs:List AV):AV×AH:=(.loc h.length,h++[.list vs])
noncomputable def uL (h:AH) (o:Operator) (xs ys:List AV):Option (AV×AH):=match isAdd o&&lim (xs.length+ys.length) with|true=>some (newL h (xs++ys))|false=>.none
noncomputable def yy (h:AH) (o:Operator) (xs:List AV) (n:Int):Option (AV×AH):=match isMul o&& !(bf n 0||bf 1000 n|| !Nat.ble xs.length 100) with|true=>some (newL h (repl xs n.toNat))|false=>.none
noncomputable def binop (h:AH) (o:Operator) (a b:AV):Option (AV×AH):=match a with
 | .int i=>ob (dP b) fun j=>ob (binI o i j) fun v=>some (.int v,h)
 | .str x=>ob (iO b) fun y=>ob (KD o x y) fun v=>some (.str v,h)
 | .loc l=>ob (bO h[l]?) fun xs=>alt (dP b) (fun n=>yy h o xs n) (ob (gR h b) fun ys=>uL h o xs ys)
 |_=>.none
noncomputable def charAt (s:Str) (n:Nat):Option Str:=ob s.cps[n]? fun c=>some ⟨#[c]⟩
noncomputable def strAt (s:Str) (i:Int):Option Str:=
 match bf i 0 with
 |false=>charAt s i.toNat
 |true=>match bf (i+s.cps.size) 0 with
  |true=>.none
  |false=>charAt s (i+s.cps.size).toNat
noncomputable def uM (vs:List AV) (i:Int):Option AV:=match bf i 0 with
 |false=>vs[i.toNat]?
 |true=>match iE i (-1) with|true=>vs.getLast?|false=>.none
noncomputable def KG (vs:List AV) (i:Int):Option AV:=match bf i 0 with
 |true=>.none
 |false=>vs[i.toNat]?
noncomputable def yz (o:Option AO) (i:Int):Option AV:=alt (bO o) (fun vs=>uM vs i) (alt (dY o) (fun vs=>KG vs i) (ob (iz o) fun d=>c7 d.1 i))
noncomputable def getItem (h:AH) (a b:AV):Option AV:=ob (dP b) fun i=>match a with
 | .str s=>ob (strAt s i) fun x=>some (.str x)
 | .loc l=>yz h[l]? i
 |_=>.none
noncomputable def KH (C:Cx) (h:AH) (l:Nat) (vs:List AV) (i:Int) (v:AV):Option AH:=match bf i 0|| !Nat.blt i.toNat vs.length with
 |true=>.none
 |false=>bL h C.ro l (.list (vs.set i.toNat v))
noncomputable def C2 (C:Cx) (h:AH) (l:Nat) (es:List (Int×AV)) (i:Int) (v:AV):Option AH:=match lim (es.length+1) with
 |true=>bL h C.ro l (.dict (dput es i v) 0)
 |false=>.none
noncomputable def setItem (C:Cx) (h:AH) (a b v:AV):Option AH:=ob (cT a) fun l=>ob (dP b) fun i=>alt (bO h[l]?) (fun vs=>KH C h l vs i v) (ob (mT h[l]?) fun es=>C2 C h l es i v)
noncomputable def dD {α:Type} (lo hi:Option Int) (l:List α):List α:=(l.drop (W.kms_lo lo l.length)).take (W.kms_hi hi l.length- W.kms_lo lo l.length)
noncomputable def rQ:AV→Option (Option Int)
 | .none=>some .none
 | .int i=>some (some i)
 |_=>.none
noncomputable def KI (h:AH) (a:AV) (l u:Option Int):Option (AV×AH):=match a with
 | .str s=>some (.str ⟨(dD l u s.cps.toList).toArray⟩,h)
 | .loc a=>ob (bO h[a]?) fun vs=>some (newL h (dD l u vs))
 |_=>.none
noncomputable def slice (h:AH) (a lo up:AV):Option (AV×AH):=ob (rQ lo) fun l=>ob (rQ up) fun u=>KI h a l u
noncomputable def jI (x:Str):List Str→Bool
 |[]=>false
 |y::r=>match sE x y with|true=>true|false=>jI x r
noncomputable def lD (x:Str):List Str→Nat→Option Nat
 |[],_=>.none
 |y::r,i=>match sE x y with|true=>some i|false=>lD x r (i+1)
noncomputable def C3:AV→Bool
 | .fix _=>false
 |_=>true
noncomputable def uN (o:Option AO):Option (Addr×Nat):=ob o fun o=>dh o.ctorIdx 5 fun h=>AO.inst.elim (motive:=fun _=>Option (Addr×Nat)) o h fun c d=>some (c,d)
noncomputable def yC (o:Option AO):Option (Addr×Nat×List (Option AV)):=ob o fun o=>dh o.ctorIdx 7 fun h=>AO.slots.elim (motive:=fun _=>Option (Addr×Nat×List (Option AV))) o h fun c d vs=>some (c,d,vs)
noncomputable def pF (o:Option AO):Option (List (Str×AV)):=ob o fun o=>dh o.ctorIdx 6 fun h=>AO.ns.elim (motive:=fun _=>Option (List (Str×AV))) o h fun m=>some m
noncomputable def C4 (v:AV):Option AV:=match C3 v with|true=>some v|false=>.none
noncomputable def KJ (C:Cx) (h:AH) (x:Str) (c:Addr) (d:Nat):Option AV:=ob (C.cls c) fun k=>match jI x k.attrs with
 |true=>ob (pF h[d]?) fun m=>ob (lk m x) C4
 |false=>.none
noncomputable def KL (C:Cx) (h:AH) (x:Str) (c:Addr) (d:Nat) (vs:List (Option AV)):Option AV:=ob (C.cls c) fun k=>ob k.slots fun ns=>ob (lD x ns 0) fun i=>ob vs[i]? fun o=>ob o fun v=>ob (pF h[d]?) fun _=>C4 v
noncomputable def uO (C:Cx) (h:AH) (x:Str) (a:AV):Option AV:=ob (cT a) fun l=>alt (uN h[l]?) (fun p=>KJ C h x p.1 p.2) (ob (yC h[l]?) fun q=>KL C h x q.1 q.2.1 q.2.2)
noncomputable def KN (C:Cx) (h:AH) (x:Str) (v:AV) (c:Addr) (d:Nat):Option AH:=ob (C.cls c) fun k=>match jI x k.attrs with
 |true=>ob (pF h[d]?) fun m=>match Nat.ble m.length 50 with
  |true=>bL h C.ro d (.ns (put m x v))
  |false=>.none
 |false=>.none
noncomputable def KO (C:Cx) (h:AH) (x:Str) (v:AV) (l:Nat) (c:Addr) (d:Nat) (vs:List (Option AV)):Option AH:=ob (C.cls c) fun k=>ob k.slots fun ns=>ob (lD x ns 0) fun i=>ob (pF h[d]?) fun _=>match Nat.blt i vs.length with
 |true=>bL h C.ro l (.slots c d (vs.set i (some v)))
 |false=>.none
noncomputable def uP (C:Cx) (h:AH) (x:Str) (v:AV) (a:AV):Option AH:=ob (cT a) fun l=>alt (uN h[l]?) (fun p=>KN C h x v p.1 p.2) (ob (yC h[l]?) fun q=>KO C h x v l q.1 q.2.1 q.2.2)
noncomputable def strsOf:List AV→Option (List Str)
 |[]=>some []
 |v::r=>ob (iO v) fun s=>ob (strsOf r) fun l=>some (s::l)
noncomputable def intsOf:List AV→Option (List Int)
 |[]=>some []
 |v::r=>ob (dP v) fun s=>ob (intsOf r) fun l=>some (s::l)
noncomputable def isSorted:List Int→Bool
 |[]=>true
 |x::r=>match r with
  |[]=>true
  |y::_=> !bf y x&&isSorted r
noncomputable def ins (x:Int):List Int→List Int
 |[]=>[x]
 |y::r=>match bf y x with|true=>y::ins x r|false=>x::y::r
noncomputable def j5:List Int→List Int
 |[]=>[]
 |x::r=>ins x (j5 r)
noncomputable def dj (i k:Int):Nat→List Int
 |0=>[]
 |n+1=>i::dj (i+k) k n
noncomputable def one {α:Type}:List α→Option α
 |[]=>.none
 |x::r=>match r with|[]=>some x|_::_=>.none
noncomputable def two {α:Type}:List α→Option (α×α)
 |[]=>.none
 |x::r=>ob (one r) fun y=>some (x,y)
noncomputable def three {α:Type}:List α→Option (α×α×α)
 |[]=>.none
 |x::r=>ob (two r) fun y=>some (x,y)
noncomputable def rR (i n:Int):Option (Int×Int×Int):=match Builtin.Range.small i n 1 with|true=>some (i,n,1)|false=>.none
noncomputable def KP (i n k:Int):Option (Int×Int×Int):=match !iE k 0&&Builtin.Range.small i n k&& !Builtin.divisionGoesByPylong (n- i) k with|true=>some (i,n,k)|false=>.none
noncomputable def KQ (is:List Int):Option (Int×Int×Int):=alt (one is) (fun n=>rR 0 n) (alt (two is) (fun p=>rR p.1 p.2) (ob (three is) fun p=>KP p.1 p.2.1 p.2.2))
noncomputable def jJ (vs:List AV):Option (Int×Int×Int):=ob (intsOf vs) KQ
inductive lF where
 |append|extend|pop|clear|get|add|lower|join
noncomputable def uQ:Nat→List (Str×lF)
 |0=>[("lower",.lower),("join",.join)]
 |1=>[("append",.append),("pop",.pop),("extend",.extend),("clear",.clear)]
 |2=>[("get",.get)]
 |_=>[("add",.add)]
noncomputable def mU (h:AH) (name:Str) (v:AV):Option lF:=match v with
 | .str _=>lk (uQ 0) name
 | .loc l=>alt (bO h[l]?) (fun _=>lk (uQ 1) name) (alt (iz h[l]?) (fun _=>lk (uQ 2) name) (ob (pD h[l]?) fun _=>lk (uQ 3) name))
 |_=>.none
noncomputable def lG:List Str→Nat
 |[]=>0
 |s::r=>s.cps.size+lG r
noncomputable def uR (h:Option AH):Option (AV×AH):=ob h fun h=>some (.none,h)
noncomputable def KR (h:AH) (s:Str):Option (AV×AH):=match lim (Txt.lower s).cps.size&&lim s.cps.size with
 |true=>some (.str (Txt.lower s),h)
 |false=>.none
noncomputable def yD (h:AH) (s:Str) (l:List Str):Option (AV×AH):=match lim (lG l+l.length*s.cps.size)&&lim (Txt.join s l).cps.size with
 |true=>some (.str (Txt.join s l),h)
 |false=>.none
noncomputable def KS (C:Cx) (h:AH) (l:Nat) (vs:List AV):Option (AV×AH):=ob vs.getLast? fun v=>ob (bL h C.ro l (.list vs.dropLast)) fun h'=>some (v,h')
noncomputable def KU (C:Cx) (h:AH) (l:Nat) (vs:List AV):Option (AV×AH):=match vs.isEmpty with
 |true=>.none
 |false=>uR (bL h C.ro l (.list []))
noncomputable def KV (C:Cx) (h:AH) (l:Nat) (vs:List AV) (x:AV):Option (AV×AH):=match lim (vs.length+1) with
 |true=>uR (bL h C.ro l (.list (vs++[x])))
 |false=>.none
noncomputable def yE (C:Cx) (h:AH) (l k:Nat) (vs ys:List AV):Option (AV×AH):=match lim (vs.length+ys.length)&&Nat.ble C.ro k with
 |true=>uR (bL h C.ro l (.list (vs++ys)))
 |false=>.none
noncomputable def KY (h:AH) (es:List (Int×AV)) (i:Int):Option (AV×AH):=alt (c7 es i) (fun v=>some (v,h)) (some (.none,h))
noncomputable def setAdd (i:Int) (xs:List Int):List Int:=match iA i xs with
 |true=>xs
 |false=>xs++[i]
noncomputable def KZ (C:Cx) (h:AH) (l:Nat) (xs:List Int) (i:Int):Option (AV×AH):=match Nat.ble xs.length 60 with
 |true=>uR (bL h C.ro l (.set (setAdd i xs)))
 |false=>.none
noncomputable def j6 (C:Cx) (h:AH) (m:lF) (o:AV) (args:List AV):Option (AV×AH):=match m with
 | .lower=>ob (iO o) fun s=>match args.isEmpty with|true=>KR h s|false=>.none
 | .join=>ob (iO o) fun s=>ob (one args) fun x=>ob (gR h x) fun vs=>ob (strsOf vs) fun l=>yD h s l
 | .pop=>ob (cT o) fun l=>ob (bO h[l]?) fun vs=>match args.isEmpty with|true=>KS C h l vs|false=>.none
 | .clear=>ob (cT o) fun l=>ob (bO h[l]?) fun vs=>match args.isEmpty with|true=>KU C h l vs|false=>.none
 | .append=>ob (cT o) fun l=>ob (bO h[l]?) fun vs=>ob (one args) fun x=>KV C h l vs x
 | .extend=>ob (cT o) fun l=>ob (bO h[l]?) fun vs=>ob (one args) fun x=>ob (cT x) fun k=>ob (bO h[k]?) fun ys=>yE C h l k vs ys
 | .get=>ob (cT o) fun l=>ob (one args) fun x=>ob (dP x) fun i=>aV (iz h[l]?) fun es _=>KY h es i
 | .add=>ob (cT o) fun l=>ob (one args) fun x=>ob (dP x) fun i=>ob (pD h[l]?) fun xs=>KZ C h l xs i
noncomputable def kJ (C:Cx) (h:AH) (name:Str) (a:AV):Option AV:=ob (cT a) fun l=>aV (uN h[l]?) fun c d=>ob (pF h[d]?) fun m=>match (lk m name).isNone with
 |true=>ob (C.cls c) fun k=>match k.slots.isNone with
  |true=>ob (lk k.meths name) fun f=>some (.fix (.ref f))
  |false=>.none
 |false=>.none
noncomputable def C5 (h:AH) (x:AV):Option (AV×AH):=match x with
 | .str s=>some (.int s.cps.size,h)
 |x=>ob (nX h x) fun vs=>match Nat.ble vs.length 16384 with|true=>some (.int vs.length,h)|false=>.none
noncomputable def rS (C:Cx) (h:AH) (l:Nat) (es:List (Int×AV)):Option (AV×AH):=match Nat.ble es.length 60&& !es.isEmpty&&Nat.ble C.ro l with
 |true=>some (newL h ((j5 (es.map (·.1))).map .int))
 |false=>.none
noncomputable def eG (a b:Int):Int:=match bf b a with|true=>b|false=>a
noncomputable def K0 (h:AH) (a b:Int):Option (AV×AH):=some (.int (eG a b),h)
noncomputable def K1 (h:AH) (i:Int):Option (AV×AH):=match small i&&lim (Str.ofString (toString i)).cps.size with|true=>some (.str (Str.ofString (toString i)),h)|false=>.none
noncomputable def K2 (h:AH) (vs:List AV):Option (AV×AH):=match Nat.ble vs.length 16384 with|true=>some (.loc h.length,h++[.tup vs])|false=>.none
noncomputable def K3 (C:Cx) (h:AH) (id:String) (args:List AV):Option (AV×AH):=match id== "len" with
 |true=>ob (one args) fun x=>C5 h x
 |false=>match id== "sorted" with
  |true=>ob (one args) fun x=>ob (cT x) fun l=>aV (iz h[l]?) fun es _=>rS C h l es
  |false=>match id== "iter" with
   |true=>ob (one args) fun x=>ob (cT x) fun l=>ob (bO h[l]?) fun _=>some (.loc h.length,h++[.jG l 0])
   |false=>match id== "min" with
    |true=>aV (two args) fun x y=>ob (dP x) fun a=>ob (dP y) fun b=>K0 h a b
    |false=>.none
noncomputable def K4 (h:AH) (t:String) (args:List AV):Option (AV×AH):=match t== "str" with
 |true=>ob (one args) fun x=>ob (dP x) fun i=>K1 h i
 |false=>match t== "bool" with
  |true=>ob (one args) fun x=>ob (gR h x) fun vs=>some (.bool (!vs.isEmpty),h)
  |false=>match t== "tuple" with
   |true=>ob (one args) fun x=>ob (gR h x) fun vs=>K2 h vs
   |false=>match t== "set" &&args.isEmpty with
    |true=>some (.loc h.length,h++[.set []])
    |false=>.none
noncomputable def prim (C:Cx) (h:AH) (f:Value) (args:List AV):Option (AV×AH):=match f with
 | .builtin id=>K3 C h id args
 | .type t=>K4 h t args
 |_=>.none
noncomputable def asName (e:PySem.Expr):Option (Str×Pos):=dh e.ctorIdx 23 fun h=>PySem.Expr.Name.elim (motive_1:=fun _=>Option (Str×Pos)) e h fun x p=>some (x,p)
noncomputable def rT (e:PySem.Expr):Option (PySem.Expr×PySem.Expr):=dh e.ctorIdx 21 fun h=>PySem.Expr.Subscript.elim (motive_1:=fun _=>Option (PySem.Expr×PySem.Expr)) e h fun o i _=>some (o,i)
noncomputable def jk (e:PySem.Expr):Option (PySem.Expr):=dh e.ctorIdx 22 fun h=>PySem.Expr.Starred.elim (motive_1:=fun _=>Option (PySem.Expr)) e h fun e _=>some e
noncomputable def uS (e:PySem.Expr):Option (List PySem.Expr):=dh e.ctorIdx 25 fun h=>PySem.Expr.Tuple.elim (motive_1:=fun _=>Option (List PySem.Expr)) e h fun es _ _=>some es
noncomputable def rU (e:PySem.Expr):Option (PySem.Expr×Str×Pos):=dh e.ctorIdx 20 fun h=>PySem.Expr.Attribute.elim (motive_1:=fun _=>Option (PySem.Expr×Str×Pos)) e h fun o m p=>some (o,m,p)
noncomputable def nZ (e:PySem.Expr):Option (PySem.Expr×List PySem.Expr×List Keyword×Pos):=dh e.ctorIdx 16 fun h=>PySem.Expr.Call.elim (motive_1:=fun _=>Option (PySem.Expr×List PySem.Expr×List Keyword×Pos)) e h fun f as ks p=>some (f,as,ks,p)
noncomputable def cJ (R:Rec) (ae:au):List PySem.Expr→St→Option (List AV×St)
 |[],s=>some ([],s)
 |e::r,s=>aV (R.ev e ae s) fun v s=>aV (cJ R ae r s) fun vs s=>some (v::vs,s)
noncomputable def pG (R:Rec) (ae:au):List PySem.Expr→St→Option (List AV×St)
 |[],s=>some ([],s)
 |e::r,s=>alt (jk e) (fun x=>aV (R.ev x ae s) fun v s=>ob (nX s.hp v) fun here=>aV (pG R ae r s) fun vs s=>some (here++vs,s))
  (aV (R.ev e ae s) fun v s=>aV (pG R ae r s) fun vs s=>some (v::vs,s))
noncomputable def noStar:List PySem.Expr→Bool
 |[]=>true
 |e::r=>match jk e with|some _=>false| .none=>noStar r
noncomputable def uT (e:PySem.Expr):Option (Str×List PySem.Expr):=ob (nZ e) fun p=>match p.2.2.1 with
 |[]=>aV (asName p.1) fun x _=>some (x,p.2.1)
 |_::_=>.none
noncomputable def yF (f:Value) (t:String):Bool:=match f with
 | .type u=>u==t
 |_=>false
noncomputable def C6 (v:AV) (t:String):Bool:=match v with
 | .fix f=>yF f t
 |_=>false
noncomputable def C7:NameKind→Bool
 | .globalImplicit=>true
 |_=>false
noncomputable def globT (C:Cx) (ae:au) (f:Str) (t:String):Option Unit:=ob (kind ae f) fun k=>ob (lk C.glob f) fun v=>match C7 k&&C6 v t with
 |true=>some ()
 |false=>.none
noncomputable def bQ (C:Cx) (ae:au) (e:PySem.Expr):Option (List PySem.Expr):=aV (uT e) fun f as=>ob (globT C ae f "range") fun _=>match noStar as with|true=>some as|false=>.none
noncomputable def kK (C:Cx) (ae:au) (e:PySem.Expr):Option PySem.Expr:=aV (uT e) fun f as=>ob (globT C ae f "enumerate") fun _=>match noStar as with|true=>one as|false=>.none
noncomputable def K5 (p:Option (Str×List PySem.Expr)):Bool:=match p with
 |some p=>p.2.isEmpty&&sE p.1 "super"
 | .none=>false
noncomputable def yG (e:PySem.Expr):Bool:=K5 (uT e)
noncomputable def K6 (q:PySem.Expr×Str×Pos) (p:Pos):Option PySem.Expr:=match sE q.2.1 "values" && !yG q.1&&Nat.beq q.2.2.endLine p.line with
 |true=>some q.1
 |false=>.none
noncomputable def pH (e:PySem.Expr):Option PySem.Expr:=ob (nZ e) fun p=>match p.2.1.isEmpty&&p.2.2.1.isEmpty with
 |true=>ob (rU p.1) fun q=>K6 q p.2.2.2
 |false=>.none
noncomputable def lH (e:PySem.Expr):Bool:=Nat.beq e.ctorIdx 7
noncomputable def C8 (R:Rec) (as:List PySem.Expr) (ae:au) (s:St):Option (It×St):=aV (cJ R ae as s) fun vs s=>ob (jJ vs) fun p=>some (.range p.1 (Builtin.Range.rangeSize p.1 p.2.1 p.2.2) p.2.2,s)
noncomputable def n5 (R:Rec) (e:PySem.Expr) (ae:au) (s:St):Option (Nat×St):=aV (R.ev e ae s) fun v s=>ob (cT v) fun l=>some (l,s)
noncomputable def C9 (R:Rec) (e:PySem.Expr) (ae:au) (s:St):Option (It×St):=aV (n5 R e ae s) fun l s=>ob (dY s.hp[l]?) fun _=>some (.enum l 0,s)
noncomputable def Dc (R:Rec) (e:PySem.Expr) (ae:au) (s:St):Option (It×St):=aV (n5 R e ae s) fun l s=>ob (iz s.hp[l]?) fun _=>some (.vals l 0,s)
noncomputable def uU (R:Rec) (e:PySem.Expr) (ae:au) (s:St):Option (It×St):=match lH e with
 |true=>.none
 |false=>aV (n5 R e ae s) fun l s=>alt (bO s.hp[l]?) (fun _=>some (.lst l 0,s)) (alt (dY s.hp[l]?) (fun _=>some (.fh l 0,s)) (ob (iz s.hp[l]?) fun _=>some (.keys l 0,s)))
noncomputable def iter (C:Cx) (R:Rec) (ae:au) (e:PySem.Expr) (s:St):Option (It×St):=alt (bQ C ae e) (fun as=>C8 R as ae s) (alt (kK C ae e) (fun x=>C9 R x ae s) (alt (pH e) (fun o=>Dc R o ae s) (uU R e ae s)))
noncomputable def yH (o:Option AO):Option (List (Int×AV)):=aV (iz o) fun es n=>match rP n with
 |true=>.none
 |false=>some es
noncomputable def next (h:AH):It→Option (Option (List AV×It))
 | .range i left step=>match bf 0 left with
  |true=>some (some ([.int i],.range (i+step) (left- 1) step))
  |false=>some .none
 | .lst l i=>ob (bO h[l]?) fun vs=>some (vs[i]?.map fun v=>([v],.lst l (i+1)))
 | .fh l i=>ob (dY h[l]?) fun vs=>some (vs[i]?.map fun v=>([v],.fh l (i+1)))
 | .keys d i=>ob (yH h[d]?) fun es=>some (es[i]?.map fun p=>([.int p.1],.keys d (i+1)))
 | .vals d i=>ob (yH h[d]?) fun es=>some (es[i]?.map fun p=>([p.2],.vals d (i+1)))
 | .enum l i=>ob (dY h[l]?) fun vs=>some (vs[i]?.map fun v=>([.int i,v],.enum l (i+1)))
noncomputable def uV (it:It):Option Nat:=match it with
 | .keys d _=>some d
 | .vals d _=>some d
 |_=>.none
noncomputable def Dd (o:Option AO):Option (List (Int×AV)):=aV (iz o) fun es n=>match Nat.beq n 1 with
 |true=>some es
 |false=>.none
noncomputable def freeze (it:It) (h:AH):Option AH:=alt (uV it) (fun d=>ob (mT h[d]?) fun es=>some (h.set d (.dict es 1))) (some h)
noncomputable def kL (it:It) (h:AH):Option AH:=alt (uV it) (fun d=>ob (Dd h[d]?) fun es=>some (h.set d (.dict es 0))) (some h)
noncomputable def storeAll (C:Cx) (ae:au):List PySem.Expr→List AV→St→Option St
 |[],vs,s=>match vs.isEmpty with|true=>some s|false=>.none
 |e::es,vs,s=>aV (asName e) fun x _=>match vs with
  |v::vs=>ob (store C ae x v s) fun s=>storeAll C ae es vs s
  |[]=>.none
noncomputable def K7 (C:Cx) (ae:au) (es:List PySem.Expr) (vs:List AV) (s:St):Option St:=alt (one vs) (fun v=>ob (cT v) fun l=>ob (dY s.hp[l]?) fun ws=>storeAll C ae es ws s) (aV (two vs) fun v w=>storeAll C ae es [v,w] s)
noncomputable def fC (C:Cx) (ae:au) (t:PySem.Expr) (vs:List AV) (s:St):Option St:=alt (asName t) (fun p=>ob (one vs) fun v=>store C ae p.1 v s) (ob (uS t) fun es=>K7 C ae es vs s)
noncomputable def K8 (C:Cx) (R:Rec) (ae:au) (v:AV) (s:St) (o:PySem.Expr) (x:Str):Option St:=aV (R.ev o ae s) fun ov s=>ob (uP C s.hp x v ov) fun h=>some { s with hp:=h}
noncomputable def yI (C:Cx) (R:Rec) (ae:au) (v:AV) (s:St) (o i:PySem.Expr):Option St:=aV (R.ev o ae s) fun ov s=>aV (R.ev i ae s) fun iv s=>ob (setItem C s.hp ov iv v) fun h=>some { s with hp:=h}
noncomputable def assign (C:Cx) (R:Rec) (ae:au) (t:PySem.Expr) (v:AV) (s:St):Option St:=alt (asName t) (fun p=>store C ae p.1 v s) (alt (rU t) (fun q=>K8 C R ae v s q.1 q.2.1) (aV (rT t) fun o i=>yI C R ae v s o i))
noncomputable def pI (C:Cx) (R:Rec) (ae:au):List PySem.Expr→AV→St→Option St
 |[],_,s=>some s
 |t::r,v,s=>ob (assign C R ae t v s) fun s=>pI C R ae r v s
noncomputable def yJ:BoolOp→Bool
 | .And=>true
 | .Or=>false
noncomputable def allTrue (R:Rec) (ae:au) (op:BoolOp):List PySem.Expr→St→Option (Bool×St)
 |[],s=>some (yJ op,s)
 |x::r,s=>aV (R.tr x ae s) fun b s=>match Bool.xor b (yJ op) with
  |true=>some (b,s)
  |false=>allTrue R ae op r s
noncomputable def boolOp (R:Rec) (ae:au) (op:BoolOp):List PySem.Expr→St→Option (AV×St)
 |[],_=>.none
 |x::r,s=>aV (R.ev x ae s) fun v s=>match r.isEmpty with
  |true=>some (v,s)
  |false=>ob (truthy s.hp v) fun b=>match Bool.xor b (yJ op) with
   |true=>some (v,s)
   |false=>boolOp R ae op r s
noncomputable def jl:List Str→Bool
 |[]=>true
 |x::r=> !jI x r&&jl r
noncomputable def mV (ae:au):List (Str×NameKind)→List (Str×Nat)→Option (List (Str×Nat))
 |[],acc=>some acc
 |(x,.free)::r,acc=>match lk ae.cells x with
  |some c=>mV ae r ((x,c)::acc)
  | .none=>.none
 |_::r,acc=>mV ae r acc
noncomputable def fD (n:Nat):List (Str×NameKind)→List (Str×Nat)→List (Str×Nat)×Nat
 |[],acc=>(acc,n)
 |(x,.cell)::r,acc=>fD (n+1) r ((x,n)::acc)
 |_::r,acc=>fD n r acc
noncomputable def jm (ae:au) (p:Str×NameKind):Str×NameKind:=match p.2 with
 | .free=>match kind ae p.1 with
  |some .cell=>(p.1,.cell)
  |_=>p
 |_=>p
noncomputable def plainNames:List (Str×NameKind)→Bool
 |[]=>true
 |p::r=> !sE p.1 "__debug__" && !sE p.1 "__classdict__" &&plainNames r
noncomputable def pJ (scope:Scope):Bool:=(match scope.kind with| .function=>true|_=>false)&&plainNames scope.names&&jl (scope.names.map (·.1))
noncomputable def De:It→Bool
 | .enum _ _=>false
 |_=>true
noncomputable def pK:It→Bool
 | .range _ _ _=>true
 | .lst _ _=>true
 | .fh _ _=>true
 |_=>false
noncomputable def cF:List (Str×NameKind)→List Str
 |[]=>[]
 |(x,.cell)::r=>x::cF r
 |_::r=>cF r
noncomputable def compEnv (ae:au) (names:List (Str×NameKind)) (cl:List (Str×Nat)) (n:Nat):au:={ names:=names.map (jm ae),cells:=(fD (n+1) names cl).1,quiet:=true}
noncomputable def uW (names:List (Str×NameKind)) (acc:AO) (hf:AH):St:={ lo:=[],hp:=(hf++[acc])++(cF names).map fun _=>.cell .none}
noncomputable def K9 (R:Rec) (e:PySem.Expr) (names:List (Str×NameKind)) (acc:AO) (ae:au) (it:It) (cl:List (Str×Nat)) (s:St) (hf:AH):Option (AV×St):=
 ob (R.co e 0 it hf.length (compEnv ae names cl hf.length) (uW names acc hf)) fun s'=>ob (kL it s'.hp) fun h=>some (.loc hf.length,{ s with hp:=h})
noncomputable def comp (C:Cx) (R:Rec) (e:PySem.Expr) (gens:List Comprehension) (scope:Scope) (acc:AO) (ae:au) (s:St):Option (AV×St):=ob gens.head? fun g=>match ae.quiet&&iE g.is_async 0&&pJ scope with
 |true=>aV (iter C R ae g.iter s) fun it s=>match De it with
  |true=>ob (mV ae scope.names []) fun cl=>ob (freeze it s.hp) fun hf=>K9 R e scope.names acc ae it cl s hf
  |false=>.none
 |false=>.none
noncomputable def iP (R:Rec) (ae:au):List PySem.Expr→St→Option (Bool×St)
 |[],s=>some (true,s)
 |c::r,s=>aV (R.tr c ae s) fun b s=>match b with
  |true=>iP R ae r s
  |false=>some (false,s)
noncomputable def clauses:PySem.Expr→List Comprehension
 | .ListComp _ gens _ _=>gens
 | .DictComp _ _ gens _ _=>gens
 |_=>[]
noncomputable def uX (C:Cx) (R:Rec) (elt:PySem.Expr) (a:Nat) (ae:au) (s:St):Option St:=aV (R.ev elt ae s) fun v s=>ob (bO s.hp[a]?) fun vs=>match lim (vs.length+1) with
 |true=>ob (bL s.hp C.ro a (.list (vs++[v]))) fun h=>some { s with hp:=h}
 |false=>.none
noncomputable def uY (C:Cx) (R:Rec) (k v:PySem.Expr) (a:Nat) (ae:au) (s:St):Option St:=aV (R.ev k ae s) fun kv s=>ob (dP kv) fun i=>aV (R.ev v ae s) fun vv s=>ob (mT s.hp[a]?) fun es=>match lim (es.length+1) with
 |true=>ob (bL s.hp C.ro a (.dict (dput es i vv) 0)) fun h=>some { s with hp:=h}
 |false=>.none
noncomputable def emit (C:Cx) (R:Rec) (e:PySem.Expr) (a:Nat) (ae:au) (s:St):Option St:=match e with
 | .ListComp elt _ _ _=>uX C R elt a ae s
 | .DictComp k v _ _ _=>uY C R k v a ae s
 |_=>.none
noncomputable def yK (C:Cx) (R:Rec) (e:PySem.Expr) (d a:Nat) (ae:au) (g:Comprehension) (s:St):Option St:=match iE g.is_async 0 with
 |true=>aV (iter C R ae g.iter s) fun it s=>match pK it with
  |true=>R.co e (d+1) it a ae s
  |false=>.none
 |false=>.none
noncomputable def uZ (C:Cx) (R:Rec) (e:PySem.Expr) (d a:Nat) (ae:au) (s:St):Option St:=alt (clauses e)[d+1]? (fun g=>yK C R e d a ae g s) (emit C R e a ae s)
noncomputable def Df (C:Cx) (R:Rec) (e:PySem.Expr) (d a:Nat) (ae:au) (ok:Bool) (s:St):Option St:=match ok with
 |true=>uZ C R e d a ae s
 |false=>some s
noncomputable def Dg (C:Cx) (R:Rec) (e:PySem.Expr) (d:Nat) (it:It) (a:Nat) (ae:au) (g:Comprehension) (s:St):Option St:=ob (next s.hp it) fun r=>
 alt r (fun p=>ob (fC C ae g.target p.1 s) fun s=>aV (iP R ae g.ifs s) fun ok s=>ob (Df C R e d a ae ok s) fun s=>R.co e d p.2 a ae s) (some s)
noncomputable def pL (C:Cx) (R:Rec) (e:PySem.Expr) (d:Nat) (it:It) (a:Nat) (ae:au) (s:St):Option St:=ob (clauses e)[d]? fun g=>match iE g.is_async 0 with
 |true=>Dg C R e d it a ae g s
 |false=>.none
noncomputable def Dh (C:Cx) (ae:au) (e:PySem.Expr):Bool:=(bQ C ae e).isNone&&(kK C ae e).isNone&&(pH e).isNone
noncomputable def yL (ae:au) (p:Int×Int×Int) (s:St):Option (AV×St):=match ae.quiet&&bf (Builtin.Range.rangeSize p.1 p.2.1 p.2.2) 1000&& !bf (Builtin.Range.rangeSize p.1 p.2.1 p.2.2) 0 with
 |true=>some (.loc s.hp.length,{ s with hp:=s.hp++[.list ((dj p.1 p.2.2 (Builtin.Range.rangeSize p.1 p.2.1 p.2.2).toNat).map .int)]})
 |false=>.none
noncomputable def mW (C:Cx) (R:Rec) (ae:au) (f:Value) (as:List PySem.Expr) (s:St):Option (AV×St):=match yF f "list" with
 |true=>ob (one as) fun x=>ob (bQ C ae x) fun rs=>aV (cJ R ae rs s) fun vs s=>ob (jJ vs) fun p=>yL ae p s
 |false=>.none
noncomputable abbrev rW:=yG
noncomputable def jo (C:Cx):AV→Bool
 | .fix (.ref a)=>(C.fn a).isSome||(C.cls a).isSome
 | .fix (.builtin _)=>true
 | .fix (.type _)=>true
 |_=>false
noncomputable def yM:List PySem.Expr→Bool
 |[]=>true
 |e::r=>match jk e with|some _=>r.isEmpty| .none=>true
noncomputable def rX (C:Cx) (R:Rec) (ae:au) (f:AV) (vs:List AV) (s:St):Option (AV×St):=
 match ae.quiet&&jo C f with
 |true=>aV (R.ca f vs s.hp) fun v h=>some (v,{ s with hp:=h})
 |false=>.none
noncomputable def n6 (R:Rec) (ae:au) (l:PySem.Expr) (op:CmpOp) (r:PySem.Expr) (s:St):Option (Bool×St):=
 match lH r with
 |true=>.none
 |false=>aV (R.ev l ae s) fun a s=>aV (R.ev r ae s) fun b s=>ob (cmp s.hp op a b) fun x=>some (x,s)
noncomputable def lI (R:Rec) (ae:au) (e:Option PySem.Expr) (s:St):Option (AV×St):=
 match e with
 |some l=>R.ev l ae s
 | .none=>some (.none,s)
noncomputable def isSlice (e:PySem.Expr):Bool:=Nat.beq e.ctorIdx 26
noncomputable def aP:Option Int→AV
 |some i=>.int i
 | .none=>.str "none"
noncomputable def rY:Option Int→Option Int→Option Int
 |some a,some b=>some (Builtin.bitOr a b)
 |_,_=>.none
noncomputable def rZ (e:PySem.Expr):Option (Const):=dh e.ctorIdx 19 fun h=>PySem.Expr.Constant.elim (motive_1:=fun _=>Option (Const)) e h fun c _ _=>some c
noncomputable def u5:Const→Option Str
 | .str z=>some z
 |_=>.none
noncomputable def Di:Const→Option Int
 | .int z=>some z
 |_=>.none
noncomputable def u6 (e:PySem.Expr):Option (PySem.Expr×Operator×PySem.Expr):=dh e.ctorIdx 2 fun h=>PySem.Expr.BinOp.elim (motive_1:=fun _=>Option (PySem.Expr×Operator×PySem.Expr)) e h fun l o r _=>some (l,o,r)
noncomputable def yN (e:PySem.Expr):Option (PySem.Expr×List CmpOp×List PySem.Expr):=dh e.ctorIdx 15 fun h=>PySem.Expr.Compare.elim (motive_1:=fun _=>Option (PySem.Expr×List CmpOp×List PySem.Expr)) e h fun l o r _=>some (l,o,r)
noncomputable def Dj (e:PySem.Expr):Option (List PySem.Expr):=dh e.ctorIdx 24 fun h=>PySem.Expr.List.elim (motive_1:=fun _=>Option (List PySem.Expr)) e h fun es _=>some es
noncomputable def isStr (x:Option Str) (y:Str):Bool:=match x with
 |some z=>sE z y
 | .none=>false
noncomputable def lJ (e:PySem.Expr):Bool:=isStr (ob (rZ e) u5) "none"
noncomputable def u7 (e:PySem.Expr):Option (Str×Str):=aV (rT e) fun o i=>aV (asName o) fun x _=>aV (asName i) fun j _=>some (x,j)
noncomputable def lK (C:Cx) (ae:au) (s:St) (e:PySem.Expr):Option AV:=aV (u7 e) fun x i=>ob (load C ae x s) fun o=>ob (load C ae i s) fun k=>getItem s.hp o k
noncomputable def Dk (a b:Option (Str×Str)):Bool:=match a with
 |some p=>match b with
  |some q=>sE p.1 q.1&&sE p.2 q.2
  | .none=>false
 | .none=>false
noncomputable def r7 (a b:PySem.Expr):Bool:=Dk (u7 a) (u7 b)
noncomputable def lM (C:Cx) (ae:au) (s:St):Nat→PySem.Expr→Option Int
 |0,_=>.none
 |k+1,e=>alt (rZ e) Di (alt (asName e) (fun p=>ob (load C ae p.1 s) dP) (ob (u6 e) fun q=>ob (lM C ae s k q.1) fun a=>ob (lM C ae s k q.2.2) fun b=>binI q.2.1 a b))
noncomputable def pM:AV→Option (Option Int)
 | .jn a=>some a
 |_=>.none
noncomputable def isIn:CmpOp→Bool
 | .In=>true
 |_=>false
noncomputable def Dl:Operator→Bool
 | .BitOr=>true
 |_=>false
noncomputable def La (C:Cx) (ae:au) (e1 e2:PySem.Expr) (s:St):Option (AV×St):=ob (lK C ae s e1) fun a=>ob (lK C ae s e2) fun b=>ob (pM a) fun a=>ob (pM b) fun b=>some (.jn (rY a b),{ s with hp:=s.hp++[.list [aP a,aP b]]})
noncomputable def u9 (C:Cx) (ae:au) (t o:PySem.Expr) (s:St):Option (Option (AV×St)):=ob (yN t) fun q=>ob (one q.2.1) fun op=>ob (one q.2.2) fun l=>ob (Dj l) fun es=>aV (two es) fun e1 e2=>ob (u6 o) fun z=>
 match isIn op&&Dl z.2.1&&lJ q.1&&r7 e1 z.1&&r7 e2 z.2.2 with
 |true=>some (La C ae e1 e2 s)
 |false=>.none
noncomputable def Dm (x:Bool) (i:Int):Option Int:=match x with
 |true=>.none
 |false=>some i
noncomputable def Dn (C:Cx) (R:Rec) (ae:au) (t o:PySem.Expr) (s:St):Option (AV×St):=aV (R.tr t ae s) fun x s=>ob (lM C ae s 4 o) fun i=>some (.jn (Dm x i),s)
noncomputable def r8 (C:Cx) (R:Rec) (ae:au) (t b o:PySem.Expr) (s:St):Option (Option (AV×St)):=match lJ b with
 |false=>.none
 |true=>alt (u9 C ae t o s) some (some (Dn C R ae t o s))
noncomputable def Dp (c:Const) (s:St):Option (AV×St):=match c with
 | .none=>some (.none,s)
 | .bool b=>some (.bool b,s)
 | .int i=>some (.int i,s)
 | .str x=>match lim x.cps.size with
  |true=>some (.str x,s)
  |false=>.none
 |_=>.none
noncomputable def Dq (C:Cx) (x:Str) (ae:au) (s:St):Option (AV×St):=match load C ae x s with
 |some v=>some (v,s)
 | .none=>.none
noncomputable def Dr (C:Cx) (R:Rec) (t v:PySem.Expr) (ae:au) (s:St):Option (AV×St):=aV (asName t) fun x _=>match R.ev v ae s with
 |some (w,s)=>match store C ae x w s with
  |some s=>some (w,s)
  | .none=>.none
 | .none=>.none
noncomputable def Ds (R:Rec) (l:PySem.Expr) (op:Operator) (r:PySem.Expr) (ae:au) (s:St):Option (AV×St):=match R.ev l ae s with
 |some (a,s)=>match R.ev r ae s with
  |some (b,s)=>match binop s.hp op a b with
   |some (v,h)=>some (v,{ s with hp:=h})
   | .none=>.none
  | .none=>.none
 | .none=>.none
noncomputable def Lb (R:Rec) (x:PySem.Expr) (ae:au) (s:St):Option (AV×St):=match R.ev x ae s with
 |some (.int i,s)=>some (.int (-i),s)
 |_=>.none
noncomputable def Dt (R:Rec) (op:UnaryOp) (x:PySem.Expr) (ae:au) (s:St):Option (AV×St):=match op with
 | .USub=>Lb R x ae s
 |_=>.none
noncomputable def mX (C:Cx) (R:Rec) (t b o:PySem.Expr) (ae:au) (s:St):Option (AV×St):=alt (r8 C R ae t b o s) (fun r=>r) (match R.tr t ae s with
 |some (true,s)=>R.ev b ae s
 |some (false,s)=>R.ev o ae s
 | .none=>.none)
noncomputable def yO (R:Rec) (k v:PySem.Expr) (ae:au) (s:St):Option (AV×St):=match R.ev k ae s with
 |some (.int kv,s)=>match R.ev v ae s with
  |some (vv,s)=>some (.loc s.hp.length,{ s with hp:=s.hp++[.dict [(kv,vv)] 0]})
  | .none=>.none
 |_=>.none
noncomputable def Du (R:Rec) (ks:List (Option PySem.Expr)) (vs:List PySem.Expr) (ae:au) (s:St):Option (AV×St):=match ks with
 |[]=>match vs with
  |[]=>some (.loc s.hp.length,{ s with hp:=s.hp++[.dict [] 0]})
  |_::_=>.none
 |ko::kr=>match ko with
  |some k=>match kr with
   |[]=>ob (one vs) fun v=>yO R k v ae s
   |_::_=>.none
  | .none=>.none
noncomputable def n7 (R:Rec) (f:List AV→AO) (es:List PySem.Expr) (ae:au) (s:St):Option (AV×St):=match noStar es&&lim es.length with
 |true=>match cJ R ae es s with
  |some (vs,s)=>some (.loc s.hp.length,{ s with hp:=s.hp++[f vs]})
  | .none=>.none
 |false=>.none
noncomputable def yP (R:Rec) (l:PySem.Expr) (ops:List CmpOp) (rs:List PySem.Expr) (ae:au) (s:St):Option (Bool×St):=ob (one ops) fun op=>ob (one rs) fun r=>n6 R ae l op r s
noncomputable def yQ (C:Cx) (R:Rec) (as:List PySem.Expr) (ov:AV) (mi:lF) (ae:au) (s:St):Option (AV×St):=match noStar as with
 |true=>match cJ R ae as s with
  |some (vs,s)=>match j6 C s.hp mi ov vs with
   |some (v,h)=>some (v,{ s with hp:=h})
   | .none=>.none
  | .none=>.none
 |false=>.none
noncomputable def Dv (C:Cx) (R:Rec) (as:List PySem.Expr) (ov f:AV) (ae:au) (s:St):Option (AV×St):=match yM as with
 |true=>match pG R ae as s with
  |some (vs,s)=>rX C R ae f (ov::vs) s
  | .none=>.none
 |false=>.none
noncomputable def Lc (C:Cx) (R:Rec) (m:Str) (as:List PySem.Expr) (ov:AV) (ae:au) (s:St):Option (AV×St):=alt (kJ C s.hp m ov) (fun f=>Dv C R as ov f ae s) (ob (mU s.hp m ov) fun mi=>yQ C R as ov mi ae s)
noncomputable def vc (C:Cx) (R:Rec) (o:PySem.Expr) (m:Str) (ap:Pos) (as:List PySem.Expr) (pos:Pos) (ae:au) (s:St):Option (AV×St):=match rW o|| !Nat.beq ap.endLine pos.line|| !Nat.blt as.length 30 with
 |true=>.none
 |false=>match R.ev o ae s with
  |some (ov,s)=>Lc C R m as ov ae s
  | .none=>.none
noncomputable def Ld (C:Cx) (R:Rec) (as:List PySem.Expr) (f:Value) (ae:au) (s:St):Option (AV×St):=alt (mW C R ae f as s) some (match noStar as&&as.all (Dh C ae) with
 |true=>match cJ R ae as s with
  |some (vs,s)=>rX C R ae (.fix f) vs s
  | .none=>.none
 |false=>.none)
noncomputable def r9 (C:Cx) (R:Rec) (x:Str) (as:List PySem.Expr) (ae:au) (s:St):Option (AV×St):=match load C ae x s with
 |some (.fix f)=>Ld C R as f ae s
 |_=>.none
noncomputable def Dw (C:Cx) (R:Rec) (f:PySem.Expr) (as:List PySem.Expr) (ks:List Keyword) (pos:Pos) (ae:au) (s:St):Option (AV×St):=match ks.isEmpty with
 |true=>alt (rU f) (fun q=>vc C R q.1 q.2.1 q.2.2 as pos ae s) (aV (asName f) fun x _=>r9 C R x as ae s)
 |false=>.none
noncomputable def Le (h:AH) (ov:AV) (s:St):Option (AV×St):=match ov with
 | .loc l=>match h[l]? with
  |some (.jG _ _)=>some (.loc h.length,{ s with hp:=h++[.meth l]})
  |_=>.none
 |_=>.none
noncomputable def Dy (C:Cx) (R:Rec) (o:PySem.Expr) (x:Str) (ae:au) (s:St):Option (AV×St):=match rW o with
 |true=>.none
 |false=>match R.ev o ae s with
  |some (ov,s)=>alt (uO C s.hp x ov) (fun v=>some (v,s)) (match sE x "__next__" with
   |true=>Le s.hp ov s
   |false=>.none)
  | .none=>.none
noncomputable def Lf (e:PySem.Expr):Option (Option PySem.Expr×Option PySem.Expr×Option PySem.Expr):=dh e.ctorIdx 26 fun h=>PySem.Expr.Slice.elim (motive_1:=fun _=>Option (Option PySem.Expr×Option PySem.Expr×Option PySem.Expr)) e h fun l u st _=>some (l,u,st)
noncomputable def sliceOf (e:PySem.Expr):Option (Option PySem.Expr×Option PySem.Expr):=ob (Lf e) fun q=>match q.2.2 with
 | .none=>some (q.1,q.2.1)
 |some _=>.none
noncomputable def Dz (R:Rec) (o:PySem.Expr) (l u:Option PySem.Expr) (ae:au) (s:St):Option (AV×St):=match R.ev o ae s with
 |some (ov,s)=>match lI R ae l s with
  |some (lv,s)=>match lI R ae u s with
   |some (uv,s)=>match slice s.hp ov lv uv with
    |some (v,h)=>some (v,{ s with hp:=h})
    | .none=>.none
   | .none=>.none
  | .none=>.none
 | .none=>.none
noncomputable def vd (R:Rec) (o i:PySem.Expr) (ae:au) (s:St):Option (AV×St):=match R.ev o ae s with
 |some (ov,s)=>match R.ev i ae s with
  |some (iv,s)=>match getItem s.hp ov iv with
   |some v=>some (v,s)
   | .none=>.none
  | .none=>.none
 | .none=>.none
noncomputable def vf (R:Rec) (o i:PySem.Expr) (ae:au) (s:St):Option (AV×St):=match isSlice i with
 |true=>aV (sliceOf i) fun l u=>Dz R o l u ae s
 |false=>vd R o i ae s
noncomputable def boolOf (r:Option (Bool×St)):Option (AV×St):=match r with
 |some (x,s)=>some (.bool x,s)
 | .none=>.none
noncomputable def yR (C:Cx) (R:Rec) (e:PySem.Expr) (ae:au) (s:St):Option (AV×St):=
 match e with
 | .Constant c _ _=>Dp c s
 | .Name x _=>Dq C x ae s
 | .BoolOp op vs _=>boolOp R ae op vs s
 | .NamedExpr t v _=>Dr C R t v ae s
 | .BinOp l op r _=>Ds R l op r ae s
 | .UnaryOp op x _=>Dt R op x ae s
 | .IfExp t b o _=>mX C R t b o ae s
 | .Dict ks vs _=>Du R ks vs ae s
 | .List es _=>n7 R .list es ae s
 | .Tuple es _ _=>n7 R .tup es ae s
 | .ListComp elt gens sc p=>comp C R (.ListComp elt gens sc p) gens sc (.list []) ae s
 | .DictComp k v gens sc p=>comp C R (.DictComp k v gens sc p) gens sc (.dict [] 0) ae s
 | .Compare l ops rs _=>boolOf (yP R l ops rs ae s)
 | .Call f as ks pos=>Dw C R f as ks pos ae s
 | .Attribute o x _=>Dy C R o x ae s
 | .Subscript o i _=>vf R o i ae s
 |_=>.none
noncomputable def yS (R:Rec) (e:PySem.Expr) (ae:au) (s:St):Option (Bool×St):=match R.ev e ae s with
 |some (v,s)=>match truthy s.hp v with
  |some b=>some (b,s)
  | .none=>.none
 | .none=>.none
noncomputable def Lg (R:Rec) (x:PySem.Expr) (ae:au) (s:St):Option (Bool×St):=match R.tr x ae s with
 |some (b,s)=>some (!b,s)
 | .none=>.none
noncomputable def Lh (R:Rec) (op:UnaryOp) (x:PySem.Expr) (p:Pos) (ae:au) (s:St):Option (Bool×St):=match op with
 | .Not=>Lg R x ae s
 |op=>yS R (.UnaryOp op x p) ae s
noncomputable def yT (C:Cx) (R:Rec) (e:PySem.Expr) (ae:au) (s:St):Option (Bool×St):=
 match e with
 | .UnaryOp op x p=>Lh R op x p ae s
 | .BoolOp op vs _=>allTrue R ae op vs s
 | .IfExp .. =>.none
 | .Compare l ops rs _=>yP R l ops rs ae s
 |e=>yS R e ae s
noncomputable def Li (e:PySem.Expr):Bool:=Nat.beq e.ctorIdx 25||Nat.beq e.ctorIdx 24
noncomputable def vg:List PySem.Expr→Bool
 |[]=>true
 |e::r=>match Li e with|true=>false|false=>vg r
noncomputable def mY (ae:au) (x:Str):Bool:=match kind ae x with
 |some .local=>true
 |_=>false
noncomputable def Lj (p:Option (PySem.Expr×PySem.Expr)):Option ((Str×Pos)×(Str×Pos)):=aV p fun x y=>ob (asName x) fun a=>ob (asName y) fun b=>some (a,b)
noncomputable def yU (e:PySem.Expr):Option ((Str×Pos)×(Str×Pos)):=ob (uS e) fun es=>Lj (two es)
noncomputable def Lk (C:Cx) (ae:au) (a b c d:Str) (s:St):Option St:=ob (load C ae c s) fun x=>ob (load C ae d s) fun y=>ob (store C ae b y s) fun s=>store C ae a x s
noncomputable def vh (C:Cx) (ae:au) (a b:Str×Pos) (c d:Str) (s:St):Option St:=
 match mY ae a.1&&mY ae b.1&& !sE a.1 b.1&&Nat.beq b.2.line a.2.line&&ae.quiet with
 |true=>Lk C ae a.1 b.1 c d s
 |false=>.none
noncomputable def DA (C:Cx) (ae:au) (ts:List PySem.Expr) (v:PySem.Expr) (s:St):Option (Option St):=
 ob (one ts) fun t=>aV (yU t) fun a b=>aV (yU v) fun c d=>some (vh C ae a b c.1 d.1 s)
noncomputable def vj (C:Cx) (ae:au) (hn:Str):Bool:=(globT C ae hn "StopIteration").isSome
noncomputable def lN:PySem.Expr→Bool
 | .ListComp .. =>true
 | .SetComp .. =>true
 | .DictComp .. =>true
 |_=>false
noncomputable def Ll (R:Rec) (e:PySem.Expr) (ae:au) (s:St):Option (Fl×St):=match lN e with
 |true=>.none
 |false=>match R.ev e ae s with
  |some (_,s)=>some (.next,s)
  | .none=>.none
noncomputable def yV (R:Rec) (e:PySem.Expr) (ae:au) (s:St):Option (Fl×St):=match R.ev e ae s with
 |some (v,s)=>some (.ret v,s)
 | .none=>.none
noncomputable def DB (R:Rec) (e:Option PySem.Expr) (ae:au) (s:St):Option (Fl×St):=match e with
 |some e=>yV R e ae s
 | .none=>some (.ret .none,s)
noncomputable def lO (s:Option St):Option (Fl×St):=match s with
 |some s=>some (.next,s)
 | .none=>.none
noncomputable def DC (s:St) (h:Option AH):Option (Fl×St):=match h with
 |some h=>some (.next,{ s with hp:=h})
 | .none=>.none
noncomputable def Lm (C:Cx) (R:Rec) (ts:List PySem.Expr) (v:PySem.Expr) (ae:au) (s:St):Option (Fl×St):=match noStar ts&&vg ts with
 |true=>match R.ev v ae s with
  |some (x,s)=>lO (pI C R ae ts x s)
  | .none=>.none
 |false=>.none
noncomputable def DE (C:Cx) (R:Rec) (ts:List PySem.Expr) (v:PySem.Expr) (ae:au) (s:St):Option (Fl×St):=alt (DA C ae ts v s) lO (Lm C R ts v ae s)
noncomputable def Ln (op:Operator) (a b:Int):Option Int:=match op with
 | .Add=>some (a+b)
 | .Sub=>some (a- b)
 |_=>.none
noncomputable def se (R:Rec) (op:Operator) (a:Int) (v:PySem.Expr) (ae:au) (s:St):Option (Int×St):=match R.ev v ae s with
 |some (.int b,s)=>ob (Ln op a b) fun c=>some (c,s)
 |_=>.none
noncomputable def sq (C:Cx) (R:Rec) (x:Str) (op:Operator) (v:PySem.Expr) (ae:au) (s:St):Option (Fl×St):=match load C ae x s with
 |some (.int a)=>aV (se R op a v ae s) fun c s=>lO (store C ae x (.int c) s)
 |_=>.none
noncomputable def Lp (C:Cx) (R:Rec) (o:PySem.Expr) (x:Str) (op:Operator) (v:PySem.Expr) (ae:au) (s:St):Option (Fl×St):=match R.ev o ae s with
 |some (ov,s)=>match uO C s.hp x ov with
  |some (.int a)=>aV (se R op a v ae s) fun c s=>DC s (uP C s.hp x (.int c) ov)
  |_=>.none
 | .none=>.none
noncomputable def DF (C:Cx) (R:Rec) (t:PySem.Expr) (op:Operator) (v:PySem.Expr) (ae:au) (s:St):Option (Fl×St):=alt (asName t) (fun p=>sq C R p.1 op v ae s) (ob (rU t) fun q=>Lp C R q.1 q.2.1 op v ae s)
noncomputable def Lq (C:Cx) (l:Nat) (k:Int) (s:St):Option (Fl×St):=ob (mT s.hp[l]?) fun es=>ob (c7 es k) fun _=>DC s (bL s.hp C.ro l (.dict (jH es k) 0))
noncomputable def Lr (C:Cx) (R:Rec) (o i:PySem.Expr) (ae:au) (s:St):Option (Fl×St):=match R.ev o ae s with
 |some (.loc l,s)=>match R.ev i ae s with
  |some (.int k,s)=>Lq C l k s
  |_=>.none
 |_=>.none
noncomputable def DG (C:Cx) (R:Rec) (ts:List PySem.Expr) (ae:au) (s:St):Option (Fl×St):=ob (one ts) fun t=>aV (rT t) fun o i=>Lr C R o i ae s
noncomputable def DH (R:Rec) (t:PySem.Expr) (b o:List Stmt) (ae:au) (s:St):Option (Fl×St):=match R.tr t ae s with
 |some (true,s)=>R.ex b ae s
 |some (false,s)=>R.ex o ae s
 | .none=>.none
noncomputable def yW (it:It) (r:Option (Fl×St)):Option (Fl×St):=match r with
 |some (f,s)=>match kL it s.hp with
  |some h=>some (f,{ s with hp:=h})
  | .none=>.none
 | .none=>.none
noncomputable def yX (C:Cx) (R:Rec) (t it:PySem.Expr) (b o:List Stmt) (ae:au) (s:St):Option (Fl×St):=match ae.quiet with
 |true=>match iter C R ae it s with
  |some (i,s)=>match freeze i s.hp with
   |some h=>yW i (R.fo t i b o ae { s with hp:=h})
   | .none=>.none
  | .none=>.none
 |false=>.none
noncomputable def DI (e:PySem.Expr):Option PySem.Expr:=ob (nZ e) fun p=>match p.2.1.isEmpty&&p.2.2.1.isEmpty with
 |true=>ob (rT p.1) fun _=>some p.1
 |false=>.none
noncomputable def DJ (st:Stmt):Option (List PySem.Expr×PySem.Expr):=dh st.ctorIdx 5 fun h=>PySem.Stmt.Assign.elim (motive_2:=fun _=>Option (List PySem.Expr×PySem.Expr)) st h fun ts v _=>some (ts,v)
noncomputable def DK (st:Stmt):Option (Str×PySem.Expr):=aV (DJ st) fun ts v=>ob (one ts) fun t=>aV (asName t) fun x _=>ob (DI v) fun f=>some (x,f)
noncomputable def Ls (st:Stmt):Bool:=Nat.beq st.ctorIdx 26
noncomputable def yY (b:List Stmt):Option (Str×PySem.Expr):=aV (two b) fun x y=>match Ls y with
 |true=>DK x
 |false=>.none
noncomputable def vm:Option PySem.Expr→Option (Option Str)
 | .none=>some .none
 |some e=>aV (asName e) fun x _=>some (some x)
noncomputable def DL:ExceptHandler→Option (Option Str×List Stmt)
 | .ExceptHandler t nm hb _=>match nm with
  | .none=>match hb with
   |[]=>.none
   |b::r=>ob (vm t) fun x=>some (x,b::r)
  |some _=>.none
noncomputable def DM (e:PySem.Expr):Option PySem.Expr:=ob (nZ e) fun p=>match p.2.2.1.isEmpty with
 |true=>ob (one p.2.1) fun _=>some e
 |false=>.none
noncomputable def DN (st:Stmt):Option (Option PySem.Expr):=dh st.ctorIdx 3 fun h=>PySem.Stmt.Return.elim (motive_2:=fun _=>Option (Option PySem.Expr)) st h fun e _=>some e
noncomputable def Lu (st:Stmt):Option PySem.Expr:=ob (DN st) fun e=>ob e DM
noncomputable def Lv (C:Cx) (R:Rec) (hb:List Stmt) (x:Str) (l xs i:Nat) (ae:au) (s:St) (vs:List AV):Option (Fl×St):=alt vs[i]?
 (fun v=>ob (bL s.hp C.ro l (.jG xs (i+1))) fun h=>ob (store C ae x v { s with hp:=h}) fun s=>some (.brk,s))
 (ob (bL s.hp C.ro l .dead) fun h=>R.ex hb { ae with quiet:=false} { s with hp:=h})
noncomputable def Lw (C:Cx) (R:Rec) (hb:List Stmt) (x:Str) (m:Nat) (ae:au) (s:St):Option (Fl×St):=match s.hp[m]? with
 |some (.meth l)=>match s.hp[l]? with
  |some (.jG xs i)=>ob (gR s.hp (.loc xs)) fun vs=>Lv C R hb x l xs i ae s vs
  |_=>.none
 |_=>.none
noncomputable def yZ (C:Cx) (R:Rec) (hn:Str) (hb:List Stmt) (x:Str) (f:PySem.Expr) (ae:au) (s:St):Option (Fl×St):=match ae.quiet&&vj C ae hn with
 |true=>match R.ev f ae s with
  |some (.loc m,s)=>Lw C R hb x m ae s
  |_=>.none
 |false=>.none
noncomputable def DO (R:Rec) (b:List Stmt) (ae:au) (s:St):Option (Fl×St):=ob (one b) fun st=>ob (Lu st) fun e=>yV R e ae s
noncomputable def Lx (C:Cx) (R:Rec) (hx:Option Str) (hb b:List Stmt) (ae:au) (s:St):Option (Fl×St):=match hx with
 |some hn=>aV (yY b) fun x f=>yZ C R hn hb x f ae s
 | .none=>DO R b ae s
noncomputable def Ly (C:Cx) (R:Rec) (b:List Stmt) (hs:List ExceptHandler) (o f:List Stmt) (ae:au) (s:St):Option (Fl×St):=match o.isEmpty&&f.isEmpty with
 |true=>ob (one hs) fun h=>aV (DL h) fun hx hb=>Lx C R hx hb b ae s
 |false=>.none
noncomputable def cG (C:Cx) (R:Rec) (st:Stmt) (ae:au) (s:St):Option (Fl×St):=
 match st with
 | .Expr e _=>Ll R e ae s
 | .Pass _=>some (.next,s)
 | .Break _=>some (.brk,s)
 | .Continue _=>some (.cont,s)
 | .Return e _=>DB R e ae s
 | .Assign ts v _=>DE C R ts v ae s
 | .AugAssign t op v _=>DF C R t op v ae s
 | .Delete ts _=>DG C R ts ae s
 | .If t b o _=>DH R t b o ae s
 | .While t b o _=>R.wh t b o ae s
 | .For t it b o _=>yX C R t it b o ae s
 | .Try b hs o f _=>Ly C R b hs o f ae s
 |_=>.none
noncomputable def pN (f:Fl) (s:St) (k:Option (Fl×St)):Option (Fl×St):=match f with
 | .next=>k
 |f=>some (f,s)
noncomputable def y9 (C:Cx) (R:Rec) (l:List Stmt) (ae:au) (s:St):Option (Fl×St):=match l with
 |[]=>some (.next,s)
 |st::r=>aV (cG C R st ae s) fun f s=>pN f s (R.ex r ae s)
noncomputable def vn (f:Fl) (s:St) (k:Option (Fl×St)):Option (Fl×St):=match f with
 | .next=>k
 | .cont=>k
 | .brk=>some (.next,s)
 | .ret v=>some (.ret v,s)
noncomputable def pO (R:Rec) (t:PySem.Expr) (b o:List Stmt) (ae:au) (s:St):Option (Fl×St):=aV (R.tr t ae s) fun c s=>match c with
 |true=>aV (R.ex b ae s) fun f s=>vn f s (R.wh t b o ae s)
 |false=>R.ex o ae s
noncomputable def lP (C:Cx) (R:Rec) (t:PySem.Expr) (it:It) (b o:List Stmt) (ae:au) (s:St):Option (Fl×St):=ob (next s.hp it) fun r=>
 alt r (fun p=>ob (fC C ae t p.1 s) fun s=>aV (R.ex b ae s) fun f s=>vn f s (R.fo t p.2 b o ae s)) (R.ex o ae s)
noncomputable def sr:List Str→List (Str×AV)→Option (List (Str×AV))
 |[],_=>some []
 |p::r,d=>ob (lk d p) fun v=>ob (sr r d) fun l=>some ((p,v)::l)
noncomputable def f9:List Str→List AV→List (Str×AV)→Option (List (Str×AV)×List AV)
 |[],vs,_=>some ([],vs)
 |p::ps,vs,d=>match vs with
  |[]=>ob (sr (p::ps) d) fun l=>some (l,[])
  |v::vs=>aV (f9 ps vs d) fun l r=>some ((p,v)::l,r)
noncomputable def DP (k:NameKind) (p:Str×AV) (l:List (Str×AV)):Option (List (Str×AV)):=match k with
 | .local=>some (p::l)
 | .cell=>some l
 |_=>.none
noncomputable def gA (names:List (Str×NameKind)):List (Str×AV)→Option (List (Str×AV))
 |[]=>some []
 |p::r=>ob (lk names p.1) fun k=>ob (gA names r) fun l=>DP k p l
noncomputable def za (fl:Fl) (s:St):Option (AV×AH):=match fl with
 | .ret v=>some (v,s.hp)
 | .next=>some (.none,s.hp)
 |_=>.none
noncomputable def DQ (R:Rec) (f:Fn) (bs:List (Str×AV)) (h:AH):Option (AV×AH):=ob (gA f.names bs) fun lo=>match jl (bs.map (·.1)) with
 |true=>aV (R.ex f.body { names:=f.names,cells:=(fD h.length f.names []).1} { lo:=lo,hp:=h++(cF f.names).map fun x=>.cell (lk bs x)}) za
 |false=>.none
noncomputable def Lz (C:Cx) (va:Option Str) (bs:List (Str×AV)) (rest:List AV) (h:AH):Option (List (Str×AV)×AH):=match va with
 |some x=>match lim rest.length&&Nat.blt C.ro h.length with
  |true=>some (bs++[(x,AV.loc h.length)],h++[.tup rest])
  |false=>.none
 | .none=>match rest.isEmpty with
  |true=>some (bs,h)
  |false=>.none
noncomputable def fE (C:Cx) (R:Rec) (f:Fn) (args:List AV) (h:AH):Option (AV×AH):=aV (f9 f.params args f.dflt) fun bs rest=>aV (Lz C f.vararg bs rest h) fun bs h=>DQ R f bs h
noncomputable def zb:AV→Option Value
 | .fix f=>some f
 |_=>.none
noncomputable def kM (f:Value):Option Addr:=dh f.ctorIdx 10 fun h=>Value.ref.elim (motive:=fun _=>Option Addr) f h fun a=>some a
noncomputable def slotsOf (k:lB) (a:Addr) (d:Nat):AO:=match k.slots with
 |some ns=>.slots a d (ns.map fun _=>.none)
 | .none=>.inst a d
noncomputable def LA (R:Rec) (k:lB) (a:Addr) (args:List AV) (h:AH):Option (AV×AH):=ob (lk k.meths "__init__") fun i=>
 aV (R.ca (.fix (.ref i)) (.loc (h.length+1)::args) (h++[.ns [],slotsOf k a h.length])) fun v h'=>match isNil v with
  |true=>some (.loc (h.length+1),h')
  |false=>.none
noncomputable def make (C:Cx) (R:Rec) (k:lB) (a:Addr) (args:List AV) (h:AH):Option (AV×AH):=match C.deep||Nat.blt C.ro h.length with
 |true=>LA R k a args h
 |false=>.none
noncomputable def vp (C:Cx) (R:Rec) (a:Addr) (args:List AV) (h:AH):Option (AV×AH):=match Nat.ble 90 R.fu with
 |true=>C.ct a args h
 |false=>.none
noncomputable def LB (C:Cx) (R:Rec) (a:Addr) (args:List AV) (h:AH):Option (AV×AH):=alt (vp C R a args h) some (alt (C.fn a) (fun fn=>fE C R fn args h) (ob (C.cls a) fun k=>make C R k a args h))
noncomputable def zc (C:Cx) (R:Rec) (f:AV) (args:List AV) (h:AH):Option (AV×AH):=ob (zb f) fun f=>alt (kM f) (fun a=>LB C R a args h) (prim C h f args)
noncomputable def step (C:Cx) (R:Rec):Rec where
 ev:=yR C R
 tr:=yT C R
 ex:=y9 C R
 wh:=pO R
 fo:=lP C R
 co:=pL C R
 ca:=zc C R
 fu:=R.fu+1
noncomputable def stuck:Rec:=⟨fun _ _ _=>.none,fun _ _ _=>.none,fun _ _ _=>.none,fun _ _ _ _ _=>.none,fun _ _ _ _ _ _=>.none,fun _ _ _ _ _ _=>.none,fun _ _ _=>.none,0⟩
noncomputable def run (C:Cx):Nat→Rec
 |0=>stuck
 |n+1=>step C (run C n)
theorem DR (C:Cx) (n:Nat):run C (n+1)=step C (run C n):=rfl
noncomputable def S (s:String):Str:=Str.ofString s
noncomputable def cH:List Stmt:=PySem.Challenge.pw_un0050_01.main.body
noncomputable def b9 (n:String):List Stmt→Stmt
 |[]=>.Pass default
 |st::r=>match st with
  | .FunctionDef m .. =>match sE m (S n) with|true=>st|false=>b9 n r
  |_=>b9 n r
noncomputable def fj (n:String):List Stmt→List Stmt
 |[]=>[]
 |st::r=>match st with
  | .ClassDef m _ _ b .. =>match sE m (S n) with|true=>b|false=>fj n r
  |_=>fj n r
noncomputable def gB (d:List (Str×AV)):Stmt→Fn
 | .FunctionDef _ a b _ _ _ sc .. =>{ params:=a.args.map (·.arg),dflt:=d,vararg:=a.vararg.map (·.arg),names:=sc.names,body:=b}
 |_=>default
noncomputable def fT:Fn:=gB [] (b9 "_safe_string" cH)
noncomputable def iQ:Fn:=gB [] (b9 "_substitution_cost" cH)
noncomputable def bg:Fn:=gB [] (b9 "_levenshtein_distance" cH)
noncomputable def pP:Fn:=gB [] (b9 "__init__" (fj "_NodeInfo" cH))
noncomputable def su:Fn:=gB [(S "graph",.none)] (b9 "__init__" (fj "TopologicalSorter" cH))
noncomputable def pQ:Fn:=gB [] (b9 "_get_nodeinfo" (fj "TopologicalSorter" cH))
noncomputable def pR:Fn:=gB [] (b9 "add" (fj "TopologicalSorter" cH))
noncomputable def pS:Fn:=gB [] (b9 "prepare" (fj "TopologicalSorter" cH))
noncomputable def pT:Fn:=gB [] (b9 "get_ready" (fj "TopologicalSorter" cH))
noncomputable def pU:Fn:=gB [] (b9 "is_active" (fj "TopologicalSorter" cH))
noncomputable def pW:Fn:=gB [] (b9 "done" (fj "TopologicalSorter" cH))
noncomputable def pX:Fn:=gB [] (b9 "_find_cycle" (fj "TopologicalSorter" cH))
noncomputable def gg:Fn:=gB [] (b9 "S_IFMT" cH)
noncomputable def fMode:Fn:=gB [] (b9 "filemode" cH)
noncomputable def j7:Fn:=gB [] (b9 "_law_held" cH)
noncomputable def bw:Fn:=gB [] (b9 "_law_due" cH)
noncomputable def aU:Fn:=gB [] (b9 "law" cH)
noncomputable def vt:List (Nat×Fn):=[(29,fT),(36,iQ),(43,bg),(58,pP),(95,su),(102,pQ),(109,pR),(114,pS),(121,pT),(128,pU),(142,pW),(149,pX),(170,gg),(210,fMode),(217,j7),(222,bw),(227,aU)]
noncomputable def jK {α:Type}:List (Nat×α)→Nat→Option α
 |[],_=>.none
 |p::r,a=>match Nat.beq a p.1 with|true=>some p.2|false=>jK r a
noncomputable def vA:List (Nat×lB):=[
 (62,⟨some [S "node",S "npredecessors",S "successors"],[],[(S "__init__",58)]⟩),
 (159,⟨none,[S "_node2info",S "_ready_nodes",S "_npassedout",S "_nfinished"],[(S "__init__",95),(S "_get_nodeinfo",102),(S "add",109),(S "prepare",114),(S "get_ready",121),(S "is_active",128),(S "done",142),(S "_find_cycle",149)]⟩)]
noncomputable def gS:List (List (Int×String)):=[[(40960,"l"),(49152,"s"),(32768,"-"),(24576,"b"),(16384,"d"),(8192,"c"),(4096,"p")],[(256,"r")],[(128,"w")],[(2112,"s"),(2048,"S"),(64,"x")],[(32,"r")],[(16,"w")],[(1032,"s"),(1024,"S"),(8,"x")],[(4,"r")],[(2,"w")],[(513,"t"),(512,"T"),(1,"x")]]
noncomputable def DS:List (Int×String)→List AO
 |[]=>[]
 |(b,c)::r=>.tup [.int b,.str (S c)]::DS r
noncomputable def DT:Nat→List (List (Int×String))→List AO
 |_,[]=>[]
 |n,r::t=>.tup ((List.range r.length).map fun i=>.loc (n+i))::DT (n+r.length) t
noncomputable def b5:List AO:=.tup ((List.range 10).map fun i=>.loc (1+i))::(DT 11 gS++DS gS.flatten)
noncomputable def sy:List (Str×AV):=[
 (S "_MAX_STRING_SIZE",.int 40),(S "_MOVE_COST",.int 2),(S "_CASE_COST",.int 1),(S "_NODE_OUT",.int (-1)),(S "_NODE_DONE",.int (-2)),(S "S_IFREG",.int 32768),
 (S "_safe_string",.fix (.ref 29)),(S "_substitution_cost",.fix (.ref 36)),(S "_levenshtein_distance",.fix (.ref 43)),(S "S_IFMT",.fix (.ref 170)),(S "filemode",.fix (.ref 210)),(S "_law_held",.fix (.ref 217)),(S "_law_due",.fix (.ref 222)),
 (S "_NodeInfo",.fix (.ref 62)),(S "TopologicalSorter",.fix (.ref 159)),
 (S "len",.fix (.builtin "len")),(S "sorted",.fix (.builtin "sorted")),(S "iter",.fix (.builtin "iter")),(S "min",.fix (.builtin "min")),
 (S "range",.fix (.type "range")),(S "list",.fix (.type "list")),(S "tuple",.fix (.type "tuple")),(S "set",.fix (.type "set")),(S "str",.fix (.type "str")),(S "bool",.fix (.type "bool")),(S "enumerate",.fix (.type "enumerate")),(S "StopIteration",.fix (.type "StopIteration"))]
noncomputable def vB:List (Str×AV):=sy++[(S "_filemode_table",.loc 0)]
noncomputable def C0:Cx where
 glob:=vB
 fn:=jK vt
 cls:=jK vA
 ro:=34
 ct:=fun _ _ _=>none
noncomputable def CQ (k:Nat):Cx where
 glob:=sy
 fn:=jK vt
 cls:=jK vA
 ro:=k
 ct:=fun _ _ _=>none
 deep:=true
noncomputable def CT:Cx:={ C0 with ro:=33}
noncomputable def iR (what:Str):Str:=S "<" ++what++S " filemode() failed>"
noncomputable def hp0 (xs:List Int):AH:=b5++[.list (xs.map .int)]
section
variable {β:Type} {P:Prop} {r:β}
theorem eV {x:Option (AV×St)} {F:AV→St→Option β} (h:(match x with|some (v,s)=>F v s| .none=>.none)=some r) (k:∀ v s,x=some (v,s)→F v s=some r→P):P:=by
 induction x with
 |none=>cases h
 |some p=>exact k p.1 p.2 rfl h
theorem eF {x:Option (Fl×St)} {F:Fl→St→Option β} (h:(match x with|some (v,s)=>F v s| .none=>.none)=some r) (k:∀ v s,x=some (v,s)→F v s=some r→P):P:=by
 induction x with
 |none=>cases h
 |some p=>exact k p.1 p.2 rfl h
theorem eB {x:Option (Bool×St)} {F:Bool→St→Option β} (h:(match x with|some (v,s)=>F v s| .none=>.none)=some r) (k:∀ v s,x=some (v,s)→F v s=some r→P):P:=by
 induction x with
 |none=>cases h
 |some p=>exact k p.1 p.2 rfl h
theorem eI {x:Option (It×St)} {F:It→St→Option β} (h:(match x with|some (v,s)=>F v s| .none=>.none)=some r) (k:∀ v s,x=some (v,s)→F v s=some r→P):P:=by
 induction x with
 |none=>cases h
 |some p=>exact k p.1 p.2 rfl h
theorem eH {x:Option (AV×AH)} {F:AV→AH→Option β} (h:(match x with|some (v,s)=>F v s| .none=>.none)=some r) (k:∀ v s,x=some (v,s)→F v s=some r→P):P:=by
 induction x with
 |none=>cases h
 |some p=>exact k p.1 p.2 rfl h
theorem eL {x:Option (List AV×St)} {F:List AV→St→Option β} (h:(match x with|some (v,s)=>F v s| .none=>.none)=some r) (k:∀ v s,x=some (v,s)→F v s=some r→P):P:=by
 induction x with
 |none=>cases h
 |some p=>exact k p.1 p.2 rfl h
theorem eA {x:Option AV} {F:AV→Option β} (h:(match x with|some v=>F v| .none=>.none)=some r) (k:∀ v,x=some v→F v=some r→P):P:=by
 induction x with
 |none=>cases h
 |some p=>exact k p rfl h
theorem eS {x:Option St} {F:St→Option β} (h:(match x with|some v=>F v| .none=>.none)=some r) (k:∀ v,x=some v→F v=some r→P):P:=by
 induction x with
 |none=>cases h
 |some p=>exact k p rfl h
theorem eM {x:Option AH} {F:AH→Option β} (h:(match x with|some v=>F v| .none=>.none)=some r) (k:∀ v,x=some v→F v=some r→P):P:=by
 induction x with
 |none=>cases h
 |some p=>exact k p rfl h
theorem eN {x:Option Bool} {F:Bool→Option β} (h:(match x with|some v=>F v| .none=>.none)=some r) (k:∀ v,x=some v→F v=some r→P):P:=by
 induction x with
 |none=>cases h
 |some p=>exact k p rfl h
theorem eU {x:Option Nat} {F:Nat→Option β} (h:(match x with|some v=>F v| .none=>.none)=some r) (k:∀ v,x=some v→F v=some r→P):P:=by
 induction x with
 |none=>cases h
 |some p=>exact k p rfl h
theorem eT (h:(match x with|true=>F|false=>.none)=some r) (k:x=true→F=some r→P):P:=by
 induction x with
 |false=>cases h
 |true=>exact k rfl h
theorem eE (h:(match x with|true=>.none|false=>F)=some r) (k:x=false→F=some r→P):P:=by
 induction x with
 |true=>cases h
 |false=>exact k rfl h
theorem ah (h:ob x F=some r) (k:∀ a,x=some a→F a=some r→P):P:=by
 rcases x with _|a
 ·cases h
 ·exact k a rfl h
theorem aQ (h:aV x F=some r) (k:∀ a b,x=some (a,b)→F a b=some r→P):P:=by
 rcases x with _|a
 ·cases h
 ·exact k a.1 a.2 rfl h
theorem e0 (h:(.none:Option β)=some r):P:=by cases h
theorem dF (h:dh i k f=some r) (K:∀ q,f q=some r→P):P:=by
 by_cases q:i=k
 ·exact K q ((dif_pos q).symm.trans h)
 ·exact e0 ((dif_neg q).symm.trans h)
theorem bA (h:alt x F d=some r) (k:∀ a,x=some a→F a=some r→P) (l:x=none→d=some r→P):P:=by
 rcases x with _|a
 ·exact l rfl h
 ·exact k a rfl h
theorem pin (h:some (a,b)=some (c,d)):a=c∧b=d:=Prod.mk.inj (Option.some.inj h)
theorem bE (h:(match x with|true=>F|false=>G)=some r) (k:x=true→F=some r→P) (l:x=false→G=some r→P):P:=by
 rcases x with _|_
 ·exact l rfl h
 ·exact k rfl h
@[elab_as_elim] theorem idE {s t:String} {G:String→Prop} (h:(s==t)=true) (k:G t):G s:=eq_of_beq h▸k
theorem aG (h:x=some a) (k:F a=z):ob x F=z:=h▸k
theorem bG (h:x=some (a,c)) (k:F a c=z):aV x F=z:=h▸k
theorem dG (h:x=some a) (k:F a=z):alt x F d=z:=h▸k
theorem dH (h:x=none) (k:d=z):alt x F d=z:=h▸k
theorem one_eq (e:one l=some x):l=[x]:=by
 rcases l with _|⟨a,l⟩
 ·exact e0 e
 ·rcases l with _|⟨b,l⟩
  ·exact congrArg (fun z=>[z]) (Option.some.inj e)
  ·exact e0 e
theorem lQ (e:cT a=some i):a=.loc i:=by
 induction a with
 |loc j=>exact congrArg AV.loc (Option.some.inj e)
 |_=>exact e0 e
theorem zd (e:s.hp[l]?=some (.tup ws)) (h:storeAll C ae es ws s=some s'):fC C ae (.Tuple es k p) [.loc l] s=some s':=dH rfl (aG (a:=es) rfl (dG (a:=.loc l) rfl (aG (a:=l) rfl (aG (congrArg dY e) h))))
section
variable {h:AH} {l i:Nat} {vs ws:List AV} {v w:AV}
theorem LC (e:h[l]?=some (.tup vs)) (k:vs[i]?=none):next h (.fh l i)=some none:=aG (congrArg dY e) (by show some (vs[i]?.map _)=_;rw [k];rfl)
theorem LD (e:h[l]?=some (.tup vs)) (k:vs[i]?=some v):next h (.fh l i)=some (some ([v],.fh l (i+1))):=aG (congrArg dY e) (by show some (vs[i]?.map _)=_;rw [k];rfl)
theorem DU (e:h[l]?=some (.list vs)) (k:vs[i]?=none):next h (.lst l i)=some none:=aG (congrArg bO e) (by show some (vs[i]?.map _)=_;rw [k];rfl)
theorem DV (e:h[l]?=some (.list vs)) (k:vs[i]?=some v):next h (.lst l i)=some (some ([v],.lst l (i+1))):=aG (congrArg bO e) (by show some (vs[i]?.map _)=_;rw [k];rfl)
theorem LF (e:h[l]?=some (.tup vs)) (k:vs[i]?=none):next h (.enum l i)=some none:=aG (congrArg dY e) (by show some (vs[i]?.map _)=_;rw [k];rfl)
theorem LG (e:h[l]?=some (.tup vs)) (k:vs[i]?=some v):next h (.enum l i)=some (some ([.int (i:Nat),v],.enum l (i+1))):=aG (congrArg dY e) (by show some (vs[i]?.map _)=_;rw [k];rfl)
theorem sA (e:h[l]?=some (.list vs)):gR h (.loc l)=some vs:=congrArg bO e
theorem LH (e:h[l]?=some (.list vs)):nX h (.loc l)=some vs:=dG (congrArg bO e) rfl
theorem ze (e:h[l]?=some (.list vs)):nY h a (.loc l)=j4 a vs:=dG (congrArg bO e) rfl
theorem zf (e:aeq v w=some p) (k:j4 v vs=some q):j4 v (w::vs)=some (p||q):=aG e (aG k rfl)
theorem DW (e:aeq v w=some p) (k:lC vs ws=some q):lC (v::vs) (w::ws)=some (p&&q):=aG e (aG k rfl)
theorem LI (e:strsOf vs=some zs):strsOf (.str z::vs)=some (z::zs):=aG rfl (aG e rfl)
theorem DX (e:h[l]?=some (.list vs)):truthy h (.loc l)=some (!vs.isEmpty):=aG (congrArg bO e) rfl
theorem DY (h1:gR h v=some vs) (h2:strsOf vs=some zs) (h3:(lim (lG zs+zs.length*s.cps.size)&&lim (Txt.join s zs).cps.size)=true):j6 C h .join (.str s) [v]=some (.str (Txt.join s zs),h):=by show ob (gR h v) (fun vs=>ob (strsOf vs) fun l=>yD h s l)=_;exact aG h1 (aG h2 (by unfold yD;rw [h3]))
theorem LJ (h1:bQ C ae e=none) (h2:kK C ae e=some x) (h5:R.ev x ae s=some (.loc l,s')) (h6:s'.hp[l]?=some (.tup vs)):iter C R ae e s=some (.enum l 0,s'):=dH h1 (dG h2 (by unfold C9 n5;exact bG (a:=l) (c:=s') (bG h5 rfl) (aG (congrArg dY h6) rfl)))
theorem mZ (h1:bQ C ae e=none) (h2:kK C ae e=none) (h3:pH e=none) (h4:lH e=false) (h5:R.ev e ae s=some (.loc l,s')) (h6:s'.hp[l]?=some (.list vs)):iter C R ae e s=some (.lst l 0,s'):=dH h1 (dH h2 (dH h3 (by unfold uU n5;rw [h4];exact bG (a:=l) (c:=s') (bG h5 rfl) (dG (congrArg bO h6) rfl))))
theorem DZ (h1:bQ C ae e=none) (h2:kK C ae e=none) (h3:pH e=none) (h4:lH e=false) (h5:R.ev e ae s=some (.loc l,s')) (h6:s'.hp[l]?=some (.tup vs)):iter C R ae e s=some (.fh l 0,s'):=dH h1 (dH h2 (dH h3 (by unfold uU n5;rw [h4];exact bG (a:=l) (c:=s') (bG h5 rfl) (dH (congrArg bO h6) (dG (congrArg dY h6) rfl)))))
end
theorem gU (h:asName e=some p):e=.Name p.1 p.2:=dF h fun z=>PySem.Expr.Name.elim (motive_1:=fun e=>∀ z:e.ctorIdx=23,PySem.Expr.Name.elim (motive_1:=fun _=>Option (Str×Pos)) e z (fun x p=>some (x,p))=some p→e=.Name p.1 p.2) e z (fun x y _ h=>Option.some.inj h▸rfl) z
theorem vC (e:nW o=some v):o=some (.cell v):=ah e fun x hx e=>hx.trans (congrArg some (dF e fun z=>AO.cell.elim (motive:=fun x=>∀ z:x.ctorIdx=4,AO.cell.elim (motive:=fun _=>Option (Option AV)) x z (fun v=>some v)=some v→x=.cell v) x z (fun w _ h=>congrArg AO.cell (Option.some.inj h)) z))
theorem vD (h:rT e=some (o,i)):∃ p,e=.Subscript o i p:=dF h fun z=>PySem.Expr.Subscript.elim (motive_1:=fun e=>∀ z:e.ctorIdx=21,PySem.Expr.Subscript.elim (motive_1:=fun _=>Option (PySem.Expr×PySem.Expr)) e z (fun o i _=>some (o,i))=some (o,i)→∃ p,e=.Subscript o i p) e z (fun o' i' p _ h=>⟨p,by rw [(pin h).1,(pin h).2]⟩) z
theorem D0 (h:rZ e=some c):∃ k p,e=.Constant c k p:=dF h fun z=>PySem.Expr.Constant.elim (motive_1:=fun e=>∀ z:e.ctorIdx=19,PySem.Expr.Constant.elim (motive_1:=fun _=>Option (Const)) e z (fun c _ _=>some c)=some c→∃ k p,e=.Constant c k p) e z (fun c k p _ h=>⟨k,p,Option.some.inj h▸rfl⟩) z
theorem LK (h:u5 c=some z):c=.str z:=by
 induction c with
 |str w=>exact Option.some.inj h▸rfl
 |_=>exact e0 h
theorem LL (h:Di c=some z):c=.int z:=by
 induction c with
 |int w=>exact Option.some.inj h▸rfl
 |_=>exact e0 h
theorem D3 (h:u6 e=some q):∃ p,e=.BinOp q.1 q.2.1 q.2.2 p:=dF h fun z=>PySem.Expr.BinOp.elim (motive_1:=fun e=>∀ z:e.ctorIdx=2,PySem.Expr.BinOp.elim (motive_1:=fun _=>Option (PySem.Expr×Operator×PySem.Expr)) e z (fun l o r _=>some (l,o,r))=some q→∃ p,e=.BinOp q.1 q.2.1 q.2.2 p) e z (fun l o r p _ h=>⟨p,Option.some.inj h▸rfl⟩) z
theorem LM (h:yN e=some q):∃ p,e=.Compare q.1 q.2.1 q.2.2 p:=dF h fun z=>PySem.Expr.Compare.elim (motive_1:=fun e=>∀ z:e.ctorIdx=15,PySem.Expr.Compare.elim (motive_1:=fun _=>Option (PySem.Expr×List CmpOp×List PySem.Expr)) e z (fun l o r _=>some (l,o,r))=some q→∃ p,e=.Compare q.1 q.2.1 q.2.2 p) e z (fun l o r p _ h=>⟨p,Option.some.inj h▸rfl⟩) z
theorem LN (h:Dj e=some es):∃ p,e=.List es p:=dF h fun z=>PySem.Expr.List.elim (motive_1:=fun e=>∀ z:e.ctorIdx=24,PySem.Expr.List.elim (motive_1:=fun _=>Option (List PySem.Expr)) e z (fun es _=>some es)=some es→∃ p,e=.List es p) e z (fun l p _ h=>⟨p,Option.some.inj h▸rfl⟩) z
theorem vF (e:pM a=some o):a=.jn o:=by
 induction a with
 |jn j=>exact congrArg AV.jn (Option.some.inj e)
 |_=>exact e0 e
theorem LO (h:isIn o=true):o=.In:=by
 induction o with
 |In=>rfl
 |_=>exact Bool.noConfusion h
theorem LQ (h:Dl o=true):o=.BitOr:=by
 induction o with
 |BitOr=>rfl
 |_=>exact Bool.noConfusion h
theorem zg (h:u7 e=some (x,j)):∃ p q r,e=.Subscript (.Name x p) (.Name j q) r:=aQ h fun o i hs h=>aQ h fun y p hy h=>aQ h fun k q hk h=>by refine aJ (vD hs) fun r z=>?_;exact ⟨p,q,r,by rw [z,gU hy,gU hk,(pin h).1,(pin h).2]⟩
theorem LR (h:Dk a b=true) (e:a=some p) (E:∀{x y:Str},sE x y=true→x=y):b=some p:=by
 rw [e] at h;rcases b with _|q
 ·exact Bool.noConfusion h
 ·have h:(sE p.1 q.1&&sE p.2 q.2)=true:=h;rw [Bool.and_eq_true] at h;rw [show q=(q.1,q.2) from rfl,← E h.1,← E h.2]
theorem zh (h:jk e=some x):∃ p,e=.Starred x p:=dF h fun z=>PySem.Expr.Starred.elim (motive_1:=fun e=>∀ z:e.ctorIdx=22,PySem.Expr.Starred.elim (motive_1:=fun _=>Option (PySem.Expr)) e z (fun e _=>some e)=some x→∃ p,e=.Starred x p) e z (fun l p _ h=>⟨p,Option.some.inj h▸rfl⟩) z
theorem zj (h:uS e=some es):∃ c p,e=.Tuple es c p:=dF h fun z=>PySem.Expr.Tuple.elim (motive_1:=fun e=>∀ z:e.ctorIdx=25,PySem.Expr.Tuple.elim (motive_1:=fun _=>Option (List PySem.Expr)) e z (fun es _ _=>some es)=some es→∃ c p,e=.Tuple es c p) e z (fun l c p _ h=>⟨c,p,Option.some.inj h▸rfl⟩) z
theorem vG (h:rU e=some q):e=.Attribute q.1 q.2.1 q.2.2:=dF h fun z=>PySem.Expr.Attribute.elim (motive_1:=fun e=>∀ z:e.ctorIdx=20,PySem.Expr.Attribute.elim (motive_1:=fun _=>Option (PySem.Expr×Str×Pos)) e z (fun o m p=>some (o,m,p))=some q→e=.Attribute q.1 q.2.1 q.2.2) e z (fun o m p _ h=>Option.some.inj h▸rfl) z
theorem zl (h:nZ e=some q):e=.Call q.1 q.2.1 q.2.2.1 q.2.2.2:=dF h fun z=>PySem.Expr.Call.elim (motive_1:=fun e=>∀ z:e.ctorIdx=16,PySem.Expr.Call.elim (motive_1:=fun _=>Option (PySem.Expr×List PySem.Expr×List Keyword×Pos)) e z (fun f as ks p=>some (f,as,ks,p))=some q→e=.Call q.1 q.2.1 q.2.2.1 q.2.2.2) e z (fun f as ks p _ h=>Option.some.inj h▸rfl) z
theorem D4 (h:uT e=some (f,as)):∃ p p',e=.Call (.Name f p') as [] p:=ah h fun q hq h=>by
  obtain ⟨g,bs,ks,p⟩:=q;rcases ks with _|⟨k,ks⟩
  ·refine aQ h fun x p' hx h=>⟨p,p',?_⟩;have z:=pin h;rw [zl hq,show g=_ from gU hx,z.1,show bs=as from z.2]
  ·exact e0 h
theorem D5 (h:yF f t=true):f=.type t:=by
 induction f using Value.casesOn with
 |type u=>exact eq_of_beq h▸rfl
 |_=>exact Bool.noConfusion h
theorem LS (h:C6 v t=true):v=.fix (.type t):=by
 induction v with
 |fix f=>exact congrArg _ (D5 h)
 |_=>exact Bool.noConfusion h
theorem LU (h:C7 k=true):k=.globalImplicit:=by
 induction k with
 |globalImplicit=>rfl
 |_=>exact Bool.noConfusion h
theorem zm (h:globT C ae f t=some u):kind ae f=some .globalImplicit∧lk C.glob f=some (.fix (.type t)):=ah h fun k hk h=>ah h fun v hv h=>eT h fun q _=>by rw [Bool.and_eq_true] at q;exact ⟨LU q.1▸hk,LS q.2▸hv⟩
theorem zo (h:bQ C ae e=some as):∃ f p p',e=.Call (.Name f p') as [] p∧kind ae f=some .globalImplicit∧lk C.glob f=some (.fix (.type "range"))∧noStar as=true:=aQ h fun f bs hc h=>ah h fun u hu h=>eT h fun hn h=>by refine dX (D4 hc) fun p p' q=>?_;have z:=zm hu;exact ⟨f,p,p',Option.some.inj h▸q,z.1,z.2,Option.some.inj h▸hn⟩
theorem LV (h:kK C ae e=some a):∃ f p p',e=.Call (.Name f p') [a] [] p∧kind ae f=some .globalImplicit∧lk C.glob f=some (.fix (.type "enumerate"))∧noStar [a]=true:=aQ h fun f bs hc h=>ah h fun u hu h=>eT h fun hn h=>by refine dX (D4 hc) fun p p' q=>?_;have z:=zm hu;exact ⟨f,p,p',one_eq h▸q,z.1,z.2,one_eq h▸hn⟩
theorem zp (h:n5 R e ae s=some (l,s')):R.ev e ae s=some (.loc l,s'):=aQ h fun v s hv h=>ah h fun l hl h=>by have z:=pin h;rw [hv,lQ hl,z.1,z.2]
theorem m5 (e:dP a=some i):a=.int i:=by
 induction a with
 |int j=>exact congrArg AV.int (Option.some.inj e)
 |_=>exact e0 e
theorem pY (e:iO a=some i):a=.str i:=by
 induction a with
 |str j=>exact congrArg AV.str (Option.some.inj e)
 |_=>exact e0 e
theorem D6 (e:zb a=some f):a=.fix f:=by
 induction a with
 |fix g=>exact congrArg AV.fix (Option.some.inj e)
 |_=>exact e0 e
theorem pZ (e:kM f=some a):f=.ref a:=dF e fun z=>Value.ref.elim (motive:=fun f=>∀ z:f.ctorIdx=10,Value.ref.elim (motive:=fun _=>Option Addr) f z (fun a=>some a)=some a→f=.ref a) f z (fun b _ h=>congrArg Value.ref (Option.some.inj h)) z
theorem LW (e:yt a=some i):a=.bool i:=by
 induction a with
 |bool j=>exact congrArg AV.bool (Option.some.inj e)
 |_=>exact e0 e
theorem D7 (e:isNil a=true):a=.none:=by
 induction a with
 |none=>rfl
 |_=>exact Bool.noConfusion e
theorem lR (e:bO o=some vs):o=some (.list vs):=ah e fun x hx e=>hx.trans (congrArg some (dF e fun z=>AO.list.elim (motive:=fun x=>∀ z:x.ctorIdx=0,AO.list.elim (motive:=fun _=>Option (List AV)) x z (fun vs=>some vs)=some vs→x=.list vs) x z (fun w _ h=>congrArg AO.list (Option.some.inj h)) z))
theorem m6 (e:dY o=some vs):o=some (.tup vs):=ah e fun x hx e=>hx.trans (congrArg some (dF e fun z=>AO.tup.elim (motive:=fun x=>∀ z:x.ctorIdx=1,AO.tup.elim (motive:=fun _=>Option (List AV)) x z (fun vs=>some vs)=some vs→x=.tup vs) x z (fun w _ h=>congrArg AO.tup (Option.some.inj h)) z))
theorem qc (e:iz o=some p):o=some (.dict p.1 p.2):=ah e fun x hx e=>hx.trans (congrArg some (dF e fun z=>AO.dict.elim (motive:=fun x=>∀ z:x.ctorIdx=2,AO.dict.elim (motive:=fun _=>Option (List (Int×AV)×Nat)) x z (fun es n=>some (es,n))=some p→x=.dict p.1 p.2) x z (fun w n _ h=>Option.some.inj h▸rfl) z))
theorem D8 (e:pD o=some vs):o=some (.set vs):=ah e fun x hx e=>hx.trans (congrArg some (dF e fun z=>AO.set.elim (motive:=fun x=>∀ z:x.ctorIdx=3,AO.set.elim (motive:=fun _=>Option (List Int)) x z (fun xs=>some xs)=some vs→x=.set vs) x z (fun w _ h=>congrArg AO.set (Option.some.inj h)) z))
theorem zq (e:uN o=some p):o=some (.inst p.1 p.2):=ah e fun x hx e=>hx.trans (congrArg some (dF e fun z=>AO.inst.elim (motive:=fun x=>∀ z:x.ctorIdx=5,AO.inst.elim (motive:=fun _=>Option (Addr×Nat)) x z (fun c d=>some (c,d))=some p→x=.inst p.1 p.2) x z (fun w n _ h=>Option.some.inj h▸rfl) z))
theorem zu (e:yC o=some p):o=some (.slots p.1 p.2.1 p.2.2):=ah e fun x hx e=>hx.trans (congrArg some (dF e fun z=>AO.slots.elim (motive:=fun x=>∀ z:x.ctorIdx=7,AO.slots.elim (motive:=fun _=>Option (Addr×Nat×List (Option AV))) x z (fun c d vs=>some (c,d,vs))=some p→x=.slots p.1 p.2.1 p.2.2) x z (fun w n vs _ h=>Option.some.inj h▸rfl) z))
theorem qd (e:pF o=some m):o=some (.ns m):=ah e fun x hx e=>hx.trans (congrArg some (dF e fun z=>AO.ns.elim (motive:=fun x=>∀ z:x.ctorIdx=6,AO.ns.elim (motive:=fun _=>Option (List (Str×AV))) x z (fun m=>some m)=some m→x=.ns m) x z (fun w _ h=>congrArg AO.ns (Option.some.inj h)) z))
theorem D9 (e:rP n=true):n=0:=by
 rcases n with _|n
 ·rfl
 ·exact Bool.noConfusion e
theorem zw (e:mT o=some es):o=some (.dict es 0):=aQ e fun w n h e=>eT e fun z e=>by obtain rfl:=Option.some.inj e;exact (qc h).trans (congrArg (fun n=>some (AO.dict w n)) (D9 z))
theorem two_eq {α:Type} {l:List α} {p:α×α} (e:two l=some p):l=[p.1,p.2]:=by
 rcases l with _|⟨a,l⟩
 ·exact e0 e
 ·exact ah e fun y h e=>(one_eq h▸congrArg (fun z:α×α=>[z.1,z.2]) (Option.some.inj e))
theorem Ea (e:two l=some (x,y)):l=[x,y]:=two_eq e
theorem nil_eq (e:l.isEmpty=true):l=[]:=by
 rcases l with _|⟨a,l⟩
 ·rfl
 ·exact Bool.noConfusion e
theorem lT (e:lk ((y,v)::l) x=some m) (k:sE x y=true→v=m→P) (j:lk l x=some m→P):P:=by
 have e:(match sE x y with|true=>some v|false=>lk l x)=some m:=e;cases h:sE x y
 ·rw [h] at e;exact j e
 ·rw [h] at e;exact k h (Option.some.inj e)
theorem gh {α γ:Type} {a c:α} {b d:γ} {G:α→γ→Prop} (h:some (a,b)=some (c,d)) (k:G a b):G c d:=(pin h).1▸(pin h).2▸k
theorem iS {α:Type} {a c:α} {G:α→Prop} (h:some a=some c) (k:G a):G c:=Option.some.inj h▸k
end
theorem LX {β:Type} {P:Prop} {r:β} {x0:EV.AV} {F0:(Nat)→Option β} (e:(match x0 with|(EV.AV.loc a0)=>F0 a0|_=>.none)=some r) (k0:∀ a0,x0=(EV.AV.loc a0)→F0 a0=some r→P):P:=by
 induction x0 with
 |loc z1=>
  exact k0 _ rfl e
 |_=>
  exact e0 e
theorem LY {β:Type} {P:Prop} {r:β} {x0:Bool} {F0:Option β} {F1:Option β} (e:(match x0 with|Bool.true=>F0|Bool.false=>F1)=some r) (k0:x0=Bool.true→F0=some r→P) (k1:x0=Bool.false→F1=some r→P):P:=by
 induction x0 with
 |true=>
  exact k0 rfl e
 |false=>
  exact k1 rfl e
theorem Eb {β:Type} {P:Prop} {r:β} {x0:Option EV.AV} {F0:(Int)→Option β} (e:(match x0 with|(Option.some (EV.AV.int a0))=>F0 a0|_=>.none)=some r) (k0:∀ a0,x0=(Option.some (EV.AV.int a0))→F0 a0=some r→P):P:=by
 induction x0 with
 |some z1=>
  induction z1 with
  |int z2=>
   exact k0 _ rfl e
  |_=>
   exact e0 e
 |_=>
  exact e0 e
theorem vH {β:Type} {P:Prop} {r:β} {x0:Option (EV.AV×EV.St)} {F0:(Int)→(EV.St)→Option β} (e:(match x0 with|(Option.some ((EV.AV.int a0),a1))=>F0 a0 a1|_=>.none)=some r) (k0:∀ a0 a1,x0=(Option.some ((EV.AV.int a0),a1))→F0 a0 a1=some r→P):P:=by
 induction x0 with
 |some z1=>
  induction z1 with
  |mk z2 z3=>
   induction z2 with
   |int z4=>
    exact k0 _ _ rfl e
   |_=>
    exact e0 e
 |_=>
  exact e0 e
theorem Ec {β:Type} {P:Prop} {r:β} {x0:Option (Bool×EV.St)} {F0:(EV.St)→Option β} {F1:(EV.St)→Option β} (e:(match x0 with|(Option.some (Bool.true,a0))=>F0 a0|(Option.some (Bool.false,a0))=>F1 a0|Option.none=>.none)=some r) (k0:∀ a0,x0=(Option.some (Bool.true,a0))→F0 a0=some r→P) (k1:∀ a0,x0=(Option.some (Bool.false,a0))→F1 a0=some r→P):P:=by
 induction x0 with
 |some z1=>
  induction z1 with
  |mk z2 z3=>
   induction z2 with
   |true=>
    exact k0 _ rfl e
   |false=>
    exact k1 _ rfl e
 |none=>
  exact e0 e
theorem LZ {β:Type} {P:Prop} {r:β} {x0:Option EV.AV} {F0:(PySem.Value)→Option β} (e:(match x0 with|(Option.some (EV.AV.fix a0))=>F0 a0|_=>.none)=some r) (k0:∀ a0,x0=(Option.some (EV.AV.fix a0))→F0 a0=some r→P):P:=by
 induction x0 with
 |some z1=>
  induction z1 with
  |fix z2=>
   exact k0 _ rfl e
  |_=>
   exact e0 e
 |_=>
  exact e0 e
theorem Ed {β:Type} {P:Prop} {r:β} {x0:Option EV.AO} {F0:(Nat)→(Nat)→Option β} (e:(match x0 with|(Option.some (EV.AO.jG a0 a1))=>F0 a0 a1|_=>.none)=some r) (k0:∀ a0 a1,x0=(Option.some (EV.AO.jG a0 a1))→F0 a0 a1=some r→P):P:=by
 induction x0 with
 |some z1=>
  induction z1 with
  |jG z2 z3=>
   exact k0 _ _ rfl e
  |_=>
   exact e0 e
 |_=>
  exact e0 e
theorem Ef {β:Type} {P:Prop} {r:β} {x0:Option (EV.AV×EV.St)} {F0:(Nat)→(EV.St)→Option β} (e:(match x0 with|(Option.some ((EV.AV.loc a0),a1))=>F0 a0 a1|_=>.none)=some r) (k0:∀ a0 a1,x0=(Option.some ((EV.AV.loc a0),a1))→F0 a0 a1=some r→P):P:=by
 induction x0 with
 |some z1=>
  induction z1 with
  |mk z2 z3=>
   induction z2 with
   |loc z4=>
    exact k0 _ _ rfl e
   |_=>
    exact e0 e
 |_=>
  exact e0 e
theorem L0 {β:Type} {P:Prop} {r:β} {x0:Option EV.AO} {F0:(Nat)→Option β} (e:(match x0 with|(Option.some (EV.AO.meth a0))=>F0 a0|_=>.none)=some r) (k0:∀ a0,x0=(Option.some (EV.AO.meth a0))→F0 a0=some r→P):P:=by
 induction x0 with
 |some z1=>
  induction z1 with
  |meth z2=>
   exact k0 _ rfl e
  |_=>
   exact e0 e
 |_=>
  exact e0 e
end EV
namespace EV
open PySem PySem.W PySem.Calls PyProof.Rows
section
theorem Eg:∀{a b:List Nat},lE a b=true↔a=b
 |[],[]=>by simp [lE]
 |x::xs,[]=>by simp [lE]
 |[],y::ys=>by simp [lE]
 |x::xs,y::ys=>by
  unfold lE;cases h:Nat.beq x y with
  |true=>
   have:=Nat.eq_of_beq_eq_true h;subst this;simp [Eg (a:=xs) (b:=ys)]
  |false=>
   have:=Nat.ne_of_beq_eq_false h;simp [this]
theorem dm:sE a b=true↔a=b:=by
 unfold sE;rw [Eg];constructor
 ·intro h;cases a;cases b;simp at h;congr
 ·rintro rfl;rfl
theorem iB (a:Str):sE a a=true:=dm.mpr rfl
theorem vI (h:a≠b):sE a b=false:=by
 cases q:sE a b with
 |false=>rfl
 |true=>exact absurd (dm.mp q) h
theorem qe (a b:Str):sE a b=decide (a=b):=by
 by_cases h:a=b
 ·rw [h,iB];simp
 ·rw [vI h];simp [h]
theorem vJ (a b:Str):sE a b=(a==b):=by
 by_cases h:a=b
 ·rw [h,iB];simp
 ·rw [vI h];simp [h]
theorem dI:iE a b=true↔a=b:=by cases a <;>cases b <;>simp [iE] <;>lia
theorem lU (a b:Int):iE a b=decide (a=b):=by
 by_cases h:a=b
 ·rw [dI.mpr h];simp [h]
 ·cases q:iE a b with
  |false=>simp [h]
  |true=>exact absurd (dI.mp q) h
theorem lV:bf a b=true↔a<b:=Z.ltB_iff a b
theorem dZ (a b:Int):bf a b=decide (a<b):=by
 by_cases h:a<b
 ·rw [lV.mpr h];simp [h]
 ·cases q:bf a b with
  |false=>simp [h]
  |true=>exact absurd (lV.mp q) h
theorem kN (x:Str):∀ l:List (Str×α),lk l x=l.lookup x
 |[]=>rfl
 |p::r=>by
  unfold lk;rw [List.lookup_cons,vJ];cases h:(x==p.1) with
  |true=>rfl
  |false=>exact kN x r
theorem vK (x y:Str) (v:α):∀ l:List (Str×α),lk (put l x v) y=if y=x then some v else lk l y
 |[]=>by
  show (match sE y x with|true=>some v|false=>lk [] y)=_;rw [qe];by_cases h:y=x <;>simp [h,lk]
 |p::r=>by
  unfold put;rw [qe];by_cases h:x=p.1
  ·rw [decide_eq_true h];show (match sE y p.1 with|true=>some v|false=>lk r y)=if y=x then some v else (match sE y p.1 with|true=>some p.2|false=>lk r y)
   rw [qe,← h];by_cases q:y=x <;>simp [q]
  ·rw [decide_eq_false h];show (match sE y p.1 with|true=>some p.2|false=>lk (put r x v) y)=if y=x then some v else (match sE y p.1 with|true=>some p.2|false=>lk r y)
   rw [vK x y v r,qe];by_cases q:y=p.1
   ·have:y≠x:=fun e=>h (e.symm.trans q);subst q;simp [this]
   ·simp [q]
inductive VR (φ:List Addr):AV→Value→Prop
 |none:VR φ .none .none
 |bool (b:Bool):VR φ (.bool b) (.bool b)
 |int (i:Int) (t:Tok):VR φ (.int i) (.int i t)
 |str (s:Str) (t:Tok) (h:s.cps.size≤100000):VR φ (.str s) (.str s t)
 |fix (v:Value):VR φ (.fix v) v
 |loc {n:Nat} {a:Addr} (h:φ[n]?=some a):VR φ (.loc n) (.ref a)
 |iT (i:Int) (t:Tok):VR φ (.jn (some i)) (.int i t)
 |gV (t:Tok):VR φ (.jn .none) (.str "none" t)
inductive aF (φ:List Addr):List AV→List Value→Prop
 |nil:aF φ [] []
 |cons {v:AV} {u:Value} {vs:List AV} {us:List Value}:VR φ v u→aF φ vs us→aF φ (v::vs) (u::us)
theorem sC (h:aF φ [] us):us=[]:=by cases h;rfl
theorem m7 (h:aF φ (v::vs) us):∃ u r,us=u::r∧VR φ v u∧aF φ vs r:=by cases h with|cons a b=>exact ⟨_,_,rfl,a,b⟩
inductive b7 (φ:List Addr):List (Int×AV)→List (Int×Value)→Prop
 |nil:b7 φ [] []
 |cons {k:Int} {v:AV} {u:Value} {vs:List (Int×AV)} {us:List (Int×Value)}:VR φ v u→b7 φ vs us→b7 φ ((k,v)::vs) ((k,u)::us)
inductive m8 (φ:List Addr):List (Option AV)→List (Option Value)→Prop
 |nil:m8 φ [] []
 |some {v:AV} {u:Value} {vs:List (Option AV)} {us:List (Option Value)}:VR φ v u→m8 φ vs us→m8 φ (some v::vs) (some u::us)
 |none {vs:List (Option AV)} {us:List (Option Value)}:m8 φ vs us→m8 φ (none::vs) (none::us)
noncomputable def L1 (φ:List Addr):AV→Value→Prop
 | .none,u=>u=.none
 | .bool b,u=>u=.bool b
 | .int i,u=>∃ t,u=.int i t
 | .str s,u=>∃ t,u=.str s t∧s.cps.size≤100000
 | .fix v,u=>u=v
 | .loc n,u=>∃ a,u=.ref a∧φ[n]?=some a
 | .jn (some i),u=>∃ t,u=.int i t
 | .jn .none,u=>∃ t,u=.str "none" t
theorem VR.inv (h:VR φ v u):L1 φ v u:=by
 cases h with
 |none=>exact rfl
 |bool b=>exact rfl
 |int i t=>exact ⟨t,rfl⟩
 |str s t q=>exact ⟨t,rfl,q⟩
 |fix=>exact rfl
 |loc q=>exact ⟨_,rfl,q⟩
 |iT i t=>exact ⟨t,rfl⟩
 |gV t=>exact ⟨t,rfl⟩
section
variable {φ:List Addr} {a:AV} {u:Value} {P:Value→Prop}
@[elab_as_elim] theorem VR.jL (h:VR φ (.int i) u) (k:∀ t,P (.int i t)):P u:=by refine aJ h.inv fun t q=>?_;exact q▸k t
@[elab_as_elim] theorem VR.str' (h:VR φ (.str i) u) (k:∀ t,i.cps.size≤100000→P (.str i t)):P u:=by refine aC h.inv fun t q z=>?_;exact q▸k t z
@[elab_as_elim] theorem VR.loc' (h:VR φ (.loc l) u) (k:∀ b,φ[l]?=some b→P (.ref b)):P u:=by refine aC h.inv fun t q z=>?_;exact q▸k t z
@[elab_as_elim] theorem VR.zx (h:VR φ .none u) (k:P .none):P u:=(show u=.none from h.inv)▸k
@[elab_as_elim] theorem VR.n8 (h:VR φ (.fix v) u) (k:P v):P u:=(show u=v from h.inv)▸k
@[elab_as_elim] theorem VR.bool' (h:VR φ (.bool b) u) (k:P (.bool b)):P u:=(show u=.bool b from h.inv)▸k
theorem VR.is (h:VR φ a u) (e:a=b):VR φ b u:=e▸h
@[elab_as_elim] theorem gW (e:dP a=some i) (h:VR φ a u) (k:∀ t,P (.int i t)):P u:=(h.is (m5 e)).jL k
@[elab_as_elim] theorem m9 (e:iO a=some i) (h:VR φ a u) (k:∀ t,i.cps.size≤100000→P (.str i t)):P u:=(h.is (pY e)).str' k
@[elab_as_elim] theorem Eh (e:yt a=some i) (h:VR φ a u) (k:P (.bool i)):P u:=(h.is (LW e)).bool' k
@[elab_as_elim] theorem gC (e:cT a=some l) (h:VR φ a u) (k:∀ b,φ[l]?=some b→P (.ref b)):P u:=(h.is (lQ e)).loc' k
variable {as:List AV} {us:List Value} {G:List Value→Prop}
@[elab_as_elim] theorem fL (h:aF φ (a::as) us) (k:∀ u us,VR φ a u→aF φ as us→G (u::us)):G us:=by refine bK (m7 h) fun _ _ q x y=>?_;exact q▸k _ _ x y
@[elab_as_elim] theorem jq (h:aF φ [] us) (k:G []):G us:=sC h▸k
@[elab_as_elim] theorem sD (e:as.isEmpty=true) (h:aF φ as us) (k:G []):G us:=jq (nil_eq e▸h:aF φ [] us) k
@[elab_as_elim] theorem j8 (e:one as=some a) (h:aF φ as us) (k:∀ u,VR φ a u→G [u]):G us:=fL (one_eq e▸h:aF φ [a] us) fun u _ x y=>jq (G:=fun r=>G (u::r)) y (k u x)
@[elab_as_elim] theorem L2 (e:two as=some p) (h:aF φ as us) (k:∀ u v,VR φ p.1 u→VR φ p.2 v→G [u,v]):G us:=fL (two_eq e▸h:aF φ [p.1,p.2] us) fun u _ x y=>fL (G:=fun r=>G (u::r)) y fun v _ y z=>jq (G:=fun r=>G (u::v::r)) z (k u v x y)
end
noncomputable def Ext (φ ψ:List Addr):Prop:=∀(n:Nat) (a:Addr),φ[n]?=some a→ψ[n]?=some a
theorem Ext.refl (φ:List Addr):Ext φ φ:=fun _ _ h=>h
theorem Ext.trans (x:Ext φ ψ) (y:Ext ψ χ):Ext φ χ:=fun n a h=>y n a (x n a h)
theorem Ext.app (φ l:List Addr):Ext φ (φ++l):=fun n a h=>by rw [List.getElem?_append_left (List.getElem?_eq_some_iff.mp h).1];exact h
theorem VR.mono (e:Ext φ ψ) (h:VR φ v u):VR ψ v u:=by
 cases h with
 |none=>exact .none
 |bool b=>exact .bool b
 |int i t=>exact .int i t
 |str s t q=>exact .str s t q
 |fix=>exact .fix _
 |loc h=>exact .loc (e _ _ h)
 |iT i t=>exact .iT i t
 |gV t=>exact .gV t
theorem aF.mono (e:Ext φ ψ) (h:aF φ v u):aF ψ v u:=by
 induction h with
 |nil=>exact .nil
 |cons a _ ih=>exact .cons (a.mono e) ih
theorem b7.mono (e:Ext φ ψ) (h:b7 φ v u):b7 ψ v u:=by
 induction h with
 |nil=>exact .nil
 |cons a _ ih=>exact .cons (a.mono e) ih
theorem m8.mono (e:Ext φ ψ) (h:m8 φ v u):m8 ψ v u:=by
 induction h with
 |nil=>exact .nil
 |some a _ ih=>exact .some (a.mono e) ih
 |none _ ih=>exact .none ih
theorem aF.length (h:aF φ v u):u.length=v.length:=by
 induction h with
 |nil=>rfl
 |cons _ _ ih=>simp [ih]
theorem b7.length (h:b7 φ v u):u.length=v.length:=by
 induction h with
 |nil=>rfl
 |cons _ _ ih=>simp [ih]
theorem aF.get (h:aF φ v u):∀{i:Nat} {x:AV},v[i]?=some x→∃ y,u[i]?=some y∧VR φ x y:=by
 induction h with
 |nil=>intro i x e;simp at e
 |cons a _ ih=>
  intro i x e;cases i with
  |zero=>simp at e;subst e;exact ⟨_,by simp,a⟩
  |succ i=>simp at e;refine aC (ih e) fun y h1 h2=>?_;exact ⟨y,by simpa using h1,h2⟩
theorem aF.get_none {φ:List Addr} {v:List AV} {u:List Value} (h:aF φ v u) {i:Nat} (e:v[i]?=none):u[i]?=none:=by rw [List.getElem?_eq_none_iff] at e ⊢;rw [h.length];exact e
theorem aF.append (h:aF φ v u) (h':aF φ v' u'):aF φ (v++v') (u++u'):=by
 induction h with
 |nil=>exact h'
 |cons a _ ih=>exact .cons a ih
theorem aF.set (h:aF φ v u) (a:VR φ x y):∀ i:Nat,aF φ (v.set i x) (u.set i y):=by
 induction h with
 |nil=>intro i;exact .nil
 |cons b r ih=>
  intro i;cases i with
  |zero=>exact .cons a r
  |succ i=>exact .cons b (ih i)
theorem b7.get (h:b7 φ v u):∀{i:Nat} {x:Int×AV},v[i]?=some x→∃ y,u[i]?=some (x.1,y)∧VR φ x.2 y:=by
 induction h with
 |nil=>intro i x e;simp at e
 |cons a _ ih=>
  intro i x e;cases i with
  |zero=>simp at e;subst e;exact ⟨_,by simp,a⟩
  |succ i=>simp at e;refine aC (ih e) fun y h1 h2=>?_;exact ⟨y,by simpa using h1,h2⟩
noncomputable abbrev n9 (its:Array Value) (n:Nat):Obj:={ cls:=.type "tuple",data:=.seq its n}
noncomputable abbrev kO (a:Addr) (i:Nat):Obj:={ cls:=.type "list_iterator",data:=.fields #[.ref a,.int i 0]}
noncomputable abbrev lW (f:String) (a:Addr) (x:List Value):Obj:={ cls:=.type "method-wrapper",data:=.fields (#[.builtin f,.ref a]++x.toArray)}
noncomputable def MR (φ:List Addr) (lo:List (Str×AV)) (m:Str→Option Value):Prop:=∀ x v,lk lo x=some v→∃ u,m x=some u∧VR φ v u
theorem MR.mono {φ ψ:List Addr} (e:Ext φ ψ) {lo:List (Str×AV)} {m:Str→Option Value} (h:MR φ lo m):MR ψ lo m:=fun x v q=>let ⟨u,a,b⟩:=h x v q;⟨u,a,b.mono e⟩
theorem MR.put {φ:List Addr} {lo:List (Str×AV)} {m:Str→Option Value} (h:MR φ lo m) {x:Str} {v:AV} {u:Value} (a:VR φ v u):MR φ (put lo x v) (fun y=>if y=x then some u else m y):=fun y w q=>by
 rw [vK] at q;by_cases e:y=x
 ·rw [if_pos e] at q;cases q;exact ⟨u,by simp [e],a⟩
 ·rw [if_neg e] at q;refine aC (h y w q) fun z h1 h2=>?_;exact ⟨z,by simp [e,h1],h2⟩
variable (prog:Program) (w:World)
noncomputable def OR (φ:List Addr):AO→Obj→Prop
 | .list vs,o=>∃ us n,o=listOf (List.toArray us) n∧aF φ vs us∧vs.length≤100000
 | .tup vs,o=>∃ us n,o=n9 (List.toArray us) n∧aF φ vs us∧vs.length≤100000
 | .dict es _,o=>∃ kvs,o.IsDictOf (intKind prog w) kvs∧b7 φ es kvs∧es.length≤100000
 | .set xs,o=>o.SetObjOf (intKind prog w) (fun k=>iA k xs) xs.length∧xs.length≤61
 | .cell .none,o=>o.data=.cell none
 | .cell (some v),o=>∃ u,o.data=.cell (some u)∧VR φ v u
 | .inst C d,o=>∃ dx,φ[d]?=some dx∧o=instObj C dx
 | .ns m,o=>∃ es n,o=dictOf es n∧StrKeys es.toArray∧(∀ x v,lk m x=some v→∃ u,getL x es=some (some u)∧VR φ v u)∧(∀ x,lk m x=none→getL x es=some none)∧es.length≤60∧es.length≤m.length
 | .slots C d vs,o=>∃ dx us,φ[d]?=some dx∧o=⟨.ref C,some dx,.plain,us⟩∧us.size≤vs.length∧vs.length≤100∧∀(i:Nat) (v:AV),vs[i]?=some (some v)→∃ u,us[i]?=some (some u)∧VR φ v u
 | .jG l i,o=>∃ a,φ[l]?=some a∧o=kO a i
 | .meth l,o=>∃ a,φ[l]?=some a∧o=lW "list_iterator.__next__" a []
 | .dead,_=>True
variable {prog w}
theorem OR.mono (e:Ext φ ψ) (h:OR prog w φ ao o):OR prog w ψ ao o:=by
 cases ao with
 |list vs=>refine bK h fun us n a b c=>?_;exact ⟨us,n,a,b.mono e,c⟩
 |tup vs=>refine bK h fun us n a b c=>?_;exact ⟨us,n,a,b.mono e,c⟩
 |dict es fr=>refine aZ h fun us a b c=>?_;exact ⟨us,a,b.mono e,c⟩
 |set xs=>exact h
 |cell v=>cases v with
  |none=>exact h
  |some v=>refine aC h fun u a b=>?_;exact ⟨u,a,b.mono e⟩
 |inst C d=>refine aC h fun dx a b=>?_;exact ⟨dx,e _ _ a,b⟩
 |ns m=>refine nT h fun es n a k b c f f2=>?_;exact ⟨es,n,a,k,fun x v q=>let ⟨u,p,r⟩:=b x v q;⟨u,p,r.mono e⟩,c,f,f2⟩
 |slots C d vs=>refine kI h fun dx us a b z l c=>?_;exact ⟨dx,us,e _ _ a,b,z,l,fun i v q=>let ⟨u,p,r⟩:=c i v q;⟨u,p,r.mono e⟩⟩
 |jG l i=>refine aC h fun a b c=>?_;exact ⟨a,e _ _ b,c⟩
 |meth l=>refine aC h fun a b c=>?_;exact ⟨a,e _ _ b,c⟩
 |dead=>exact True.intro
structure Md where
 g:Heap
 L:Addr
 lc:Addr
 extra:List (Addr×Obj)
 mF:Option (Str→Option Value)
 pin:Nat→Option Obj
 ro:Nat
 fr:List (Addr×Obj)
inductive c8:List (Addr×Obj)→List (Addr×Obj)→Prop
 |nil:c8 [] []
 |cons {a:Addr} {o:Obj} {sl:Array (Option Value)} {l l':List (Addr×Obj)}:c8 l l'→c8 ((a,o)::l) ((a,{ o with slots:=sl})::l')
theorem c8.refl:∀ l:List (Addr×Obj),c8 l l
 |[]=>.nil
 |(_,o)::r=>.cons (sl:=o.slots) (c8.refl r)
theorem c8.trans (x:c8 a b):∀{c:List (Addr×Obj)},c8 b c→c8 a c:=by
 induction x with
 |nil=>intro c y;exact y
 |cons _ ih=>intro c y;cases y with|cons y=>exact .cons (ih y)
theorem c8.addrs (x:c8 a b):b.map (·.1)=a.map (·.1):=by
 induction x with
 |nil=>rfl
 |cons _ ih=>simp [ih]
theorem c8.mem (x:c8 a b) (h:p∈a):∃ sl,(p.1,{ p.2 with slots:=sl})∈b:=by
 induction x with
 |nil=>cases h
 |cons _ ih=>
  cases h with
  |head=>exact ⟨_,.head _⟩
  |tail _ h=>refine aJ (ih h) fun sl q=>?_;exact ⟨sl,.tail _ q⟩
theorem c8.mem' (x:c8 a b) (h:q∈b):∃ p∈a,p.1=q.1∧q.2.data=p.2.data:=by
 induction x with
 |nil=>cases h
 |cons _ ih=>
  cases h with
  |head=>exact ⟨_,.head _,rfl,rfl⟩
  |tail _ h=>refine aC (ih h) fun p m r=>?_;exact ⟨p,.tail _ m,r⟩
noncomputable def vL (φ:List Addr) (lo:List (Str×AV)) (o:Obj):Prop:=∃ es ep,o.data=.dict es ep∧StrKeys es∧MR φ lo (nsFind es)
noncomputable def Lo (D:Md) (φ:List Addr) (lo:List (Str×AV)) (m:Str→Option Value) (nl:List (Addr×Obj)):Prop:=∃ fr,c8 D.fr fr∧match D.mF with
 |none=>D.lc=D.L∧nl=D.extra++fr∧MR φ lo m
 |some mF=>m=mF∧∃ oc,nl=(D.lc,oc)::(D.extra++fr)∧vL φ lo oc
theorem Lo.mono {D:Md} {φ ψ:List Addr} (e:Ext φ ψ) {lo:List (Str×AV)} {m:Str→Option Value} {nl:List (Addr×Obj)} (h:Lo D φ lo m nl):Lo D ψ lo m nl:=by
 refine aC h fun fr hf h=>?_;refine ⟨fr,hf,?_⟩;split at h
 ·exact ⟨h.1,h.2.1,h.2.2.mono e⟩
 ·refine mR h fun a oc b es ep c d f=>?_;exact ⟨a,oc,b,es,ep,c,d,f.mono e⟩
variable (prog w)
structure bH (D:Md) (φ:List Addr) (s:St) (h:Heap) (m:Str→Option Value) (os:List Obj) (nl:List (Addr×Obj)):Prop where
 fr:Fr D.g D.L h m
 news:News D.g D.L h ((φ.zip os).drop D.ro++nl)
 rd:∀ n a o,n<D.ro→φ[n]?=some a→os[n]?=some o→D.g.get? a=some o
 len:os.length=s.hp.length
 br:φ.length=s.hp.length
 c9:D.ro≤s.hp.length
 rel:∀(n:Nat) (ao:AO) (o:Obj),s.hp[n]?=some ao→os[n]?=some o→OR prog w φ ao o
 pin:∀ n o,D.pin n=some o→os[n]?=some o∧∃ es k,s.hp[n]?=some (.dict es (k+1))
 nd:(φ.drop D.ro++nl.map (·.1)).Nodup
 lo:Lo D φ s.lo m nl
 big:∀(n:Nat) (a:Addr),φ[n]?=some a→2<a
 cV:2<D.g.objs.size
inductive Rep (D:Md) (φ:List Addr) (s:St) (h:Heap):Prop
 |mk (m:Str→Option Value) (os:List Obj) (nl:List (Addr×Obj)) (R:bH prog w D φ s h m os nl):Rep D φ s h
variable {prog w}
section
variable {D:Md} {φ:List Addr} {s:St} {h h':Heap} {m:Str→Option Value} {os:List Obj} {nl:List (Addr×Obj)}
theorem bH.addr (R:bH prog w D φ s h m os nl) {n:Nat} {ao:AO} (e:s.hp[n]?=some ao):∃ a o,φ[n]?=some a∧os[n]?=some o∧OR prog w φ ao o∧h.get? a=some o:=by
 have hn:=(List.getElem?_eq_some_iff.mp e).1;have h1:n<φ.length:=by rw [R.br];exact hn
 have h2:n<os.length:=by rw [R.len];exact hn
 refine ⟨φ[n],os[n],List.getElem?_eq_getElem h1,List.getElem?_eq_getElem h2,R.rel n ao _ e (List.getElem?_eq_getElem h2),?_⟩;by_cases q:n<D.ro
 ·exact R.fr.keep _ _ (R.rd n _ _ q (List.getElem?_eq_getElem h1) (List.getElem?_eq_getElem h2))
 ·refine (R.news (φ[n],os[n]) (List.mem_append_left _ ?_)).1;have:((φ.zip os).drop D.ro)[n- D.ro]?=some (φ[n],os[n]):=by rw [List.getElem?_drop,Nat.add_sub_cancel' (Nat.le_of_not_lt q),List.getElem?_zip_eq_some];exact ⟨List.getElem?_eq_getElem h1,List.getElem?_eq_getElem h2⟩
  exact List.mem_of_getElem? this
theorem bH.at (R:bH prog w D φ s h m os nl) {n:Nat} {ao:AO} {a:Addr} (e:s.hp[n]?=some ao) (ha:φ[n]?=some a):∃ o,os[n]?=some o∧OR prog w φ ao o∧h.get? a=some o:=by refine fK (R.addr e) fun a' o h1 h2 h3 h4=>?_;rw [ha] at h1;cases h1;exact ⟨o,h2,h3,h4⟩
theorem Rep.at (R:Rep prog w D φ s h) {n:Nat} {ao:AO} {a:Addr} (e:s.hp[n]?=some ao) (ha:φ[n]?=some a):∃ o,OR prog w φ ao o∧h.get? a=some o:=by obtain ⟨m,os,nl,R⟩:=R;refine aZ (R.at e ha) fun o _ h1 h2=>?_;exact ⟨o,h1,h2⟩
theorem bH.grow (R:bH prog w D φ s h m os nl) (F:Fr D.g D.L h' m) (N:News D.g D.L h' ((φ.zip os).drop D.ro++nl)):bH prog w D φ s h' m os nl:=⟨F,N,R.rd,R.len,R.br,R.c9,R.rel,R.pin,R.nd,R.lo,R.big,R.cV⟩
theorem Fr.ext (F:Fr g L h m) (k:∀ b o,h.get? b=some o→h'.get? b=some o):Fr g L h' m:=⟨F.ns.keeps k,fun b o e=>k b o (F.keep b o e),F.above⟩
theorem News.ext (N:News g L h news) (k:∀ b o,h.get? b=some o→h'.get? b=some o):News g L h' news:=fun p hp=>⟨k _ _ (N p hp).1,(N p hp).2⟩
theorem bH.ext (R:bH prog w D φ s h m os nl) (k:∀ b o,h.get? b=some o→h'.get? b=some o):bH prog w D φ s h' m os nl:=R.grow (Fr.ext R.fr k) (News.ext R.news k)
theorem Rep.ext (R:Rep prog w D φ s h) (k:∀ b o,h.get? b=some o→h'.get? b=some o):Rep prog w D φ s h':=let ⟨m,os,nl,R⟩:=R;⟨m,os,nl,R.ext k⟩
theorem Rep.push (R:Rep prog w D φ s h) (o:Obj):Rep prog w D φ s (h.push o):=R.ext fun _ _ e=>Heap.get?_push_of_some o e
theorem bH.alloc (R:bH prog w D φ s h m os nl) (F:Fr D.g D.L h' m) (N:News D.g D.L h' ((l,o)::((φ.zip os).drop D.ro++nl))) (hl:l∉φ.drop D.ro++nl.map (·.1)) (hl2:2<l) (ho:OR prog w (φ++[l]) ao o):bH prog w D (φ++[l]) { s with hp:=s.hp++[ao]} h' m (os++[o]) nl:=by
 have hz:((φ++[l]).zip (os++[o])).drop D.ro=(φ.zip os).drop D.ro++[(l,o)]:=by rw [List.zip_append (by rw [R.br,R.len]),List.drop_append_of_le_length (by rw [List.length_zip,R.br,R.len,Nat.min_self];exact R.c9)];rfl
 refine ⟨F,?_,?_,by simp [R.len],by simp [R.br],by simp;have:=R.c9;(exact Nat.le_succ_of_le this),?_,?_,?_,?_,?_,R.cV⟩
 ·rw [hz];intro p hp;refine N p ?_;simp only [List.mem_append,List.mem_cons,List.not_mem_nil,or_false] at hp ⊢;rcases hp with (hp|hp)|hp
  ·exact .inr (.inl hp)
  ·exact .inl hp
  ·exact .inr (.inr hp)
 ·intro n a o' hn h1 h2;have:n<s.hp.length:=Nat.lt_of_lt_of_le hn R.c9;rw [List.getElem?_append_left (by rw [R.br];exact this)] at h1;rw [List.getElem?_append_left (by rw [R.len];exact this)] at h2;exact R.rd n a o' hn h1 h2
 ·intro n j9 o' h1 h2;by_cases q:n<s.hp.length
  ·simp only [List.getElem?_append_left q] at h1;rw [List.getElem?_append_left (by rw [R.len];exact q)] at h2;exact (R.rel n j9 o' h1 h2).mono (Ext.app _ _)
  ·have hn:n=s.hp.length:=by have:=(List.getElem?_eq_some_iff.mp h1).1;simp at this;lia
   subst hn;simp at h1;rw [← R.len] at h2;simp at h2;subst h1;subst h2;exact ho
 ·intro n o' hp;refine mQ (R.pin n o' hp) fun h1 es k h2=>?_;exact ⟨by rw [List.getElem?_append_left (List.getElem?_eq_some_iff.mp h1).1];exact h1,es,k,by rw [List.getElem?_append_left (List.getElem?_eq_some_iff.mp h2).1];exact h2⟩
 ·rw [List.drop_append_of_le_length (by rw [R.br];exact R.c9),List.append_assoc];have:=R.nd;rw [List.nodup_append] at this ⊢;refine ⟨this.1,?_,?_⟩
  ·rw [List.singleton_append,List.nodup_cons];exact ⟨fun q=>hl (List.mem_append_right _ q),this.2.1⟩
  ·intro a ha b hb;simp only [List.singleton_append,List.mem_cons] at hb;rcases hb with rfl|hb
   ·rintro rfl;exact hl (List.mem_append_left _ ha)
   ·exact this.2.2 a ha b hb
 ·exact R.lo.mono (Ext.app _ _)
 ·intro n a e;by_cases q:n<φ.length
  ·rw [List.getElem?_append_left q] at e;exact R.big n a e
  ·have hn:n=φ.length:=by have:=(List.getElem?_eq_some_iff.mp e).1;simp at this;lia
   subst hn;simp at e;subst e;exact hl2
theorem bH.hsz (R:bH prog w D φ s h m os nl):2<h.objs.size:=by refine fZ R.fr.ns fun oL _ _ hL _=>?_;exact Nat.lt_trans (Nat.lt_of_lt_of_le R.cV R.fr.above) (Heap.lt_size hL)
theorem qg (R:bH prog w D φ s h m os nl) (ha:a∈φ.drop D.ro++nl.map (·.1)):∃ o,(a,o)∈(φ.zip os).drop D.ro++nl:=by
 rcases List.mem_append.mp ha with q|q
 ·obtain ⟨i,hi,e⟩:=List.mem_iff_getElem.mp q;have h1:D.ro+i<φ.length:=by rw [List.length_drop] at hi;omega
  have h2:D.ro+i<os.length:=by rw [R.len,← R.br];exact h1
  refine ⟨os[D.ro+i],List.mem_append_left _ ?_⟩;have:((φ.zip os).drop D.ro)[i]?=some (a,os[D.ro+i]):=by rw [List.getElem?_drop,List.getElem?_zip_eq_some];refine ⟨?_,List.getElem?_eq_getElem h2⟩;rw [List.getElem_drop] at e;rw [← e];exact List.getElem?_eq_getElem h1
  exact List.mem_of_getElem? this
 ·refine aC (List.mem_map.mp q) fun p hp q1=>?_;subst q1;exact ⟨p.2,List.mem_append_right _ hp⟩
theorem ng (R:bH prog w D φ s h m os nl) (hl:∀ p∈(φ.zip os).drop D.ro++nl,p.1<l):l∉φ.drop D.ro++nl.map (·.1):=fun q=>by refine aJ (qg R q) fun o ho=>?_;exact Nat.lt_irrefl _ (hl _ ho)
theorem bH.lt_size (R:bH prog w D φ s h m os nl):∀ p∈(φ.zip os).drop D.ro++nl,p.1<h.objs.size:=fun p hp=>Heap.lt_size (R.news p hp).1
theorem bH.kP (R:bH prog w D φ s h m os nl) (ho:OR prog w (φ++[h.objs.size]) ao o) (hf:o.isFreed=false:=by rfl):
  bH prog w D (φ++[h.objs.size]) { s with hp:=s.hp++[ao]} (h.push o) m (os++[o]) nl:=
 R.alloc (R.fr.push o) (News.push R.fr R.news o hf) (ng R R.lt_size) R.hsz ho
theorem Rep.kP (R:Rep prog w D φ s h) (ho:OR prog w (φ++[h.objs.size]) ao o) (hf:o.isFreed=false:=by rfl):
  Rep prog w D (φ++[h.objs.size]) { s with hp:=s.hp++[ao]} (h.push o):=let ⟨_,_,_,R⟩:=R;⟨_,_,_,R.kP ho hf⟩
theorem bH.split (R:bH prog w D φ s h m os nl) (hr:D.ro≤n) (ha:φ[n]?=some a) (ho:os[n]?=some o):∃ pre post,(φ.zip os).drop D.ro++nl=pre++(a,o)::post∧(∀ o',(φ.zip (os.set n o')).drop D.ro++nl=pre++(a,o')::post)∧(∀ p∈pre,p.1≠a)∧∀ p∈post,p.1≠a:=by
 have hz:((φ.zip os).drop D.ro)[n- D.ro]?=some (a,o):=by rw [List.getElem?_drop,Nat.add_sub_cancel' hr,List.getElem?_zip_eq_some];exact ⟨ha,ho⟩
 have hlt:=(List.getElem?_eq_some_iff.mp hz).1;refine ⟨((φ.zip os).drop D.ro).take (n- D.ro),((φ.zip os).drop D.ro).drop (n- D.ro+1)++nl,?_,fun o'=>?_,?_,?_⟩
 ·have:=List.take_append_drop (n- D.ro) ((φ.zip os).drop D.ro);rw [List.drop_eq_getElem_cons hlt] at this;have e:((φ.zip os).drop D.ro)[n- D.ro]=(a,o):=Option.some.inj ((List.getElem?_eq_getElem hlt).symm.trans hz);rw [e] at this
  calc (φ.zip os).drop D.ro++nl=(((φ.zip os).drop D.ro).take (n- D.ro)++(a,o)::((φ.zip os).drop D.ro).drop (n- D.ro+1))++nl:=by rw [this]
   _=_:=by simp
 ·have e1:φ.zip (os.set n o')=(φ.zip os).set n (a,o'):=by
   apply List.ext_getElem?;intro i;rw [List.getElem?_set];by_cases q:n=i
   ·subst q;have hl:n< (φ.zip os).length:=by rw [List.length_zip];have h1:=(List.getElem?_eq_some_iff.mp ha).1;have h2:=(List.getElem?_eq_some_iff.mp ho).1;lia
    rw [if_pos rfl,if_pos hl,List.getElem?_zip_eq_some];refine ⟨ha,?_⟩;rw [List.getElem?_set,if_pos rfl,if_pos (List.getElem?_eq_some_iff.mp ho).1]
   ·rw [if_neg q];show (List.zipWith Prod.mk φ (os.set n o'))[i]?=(List.zipWith Prod.mk φ os)[i]?;rw [List.getElem?_zipWith,List.getElem?_zipWith,List.getElem?_set_ne q]
  rw [e1,List.drop_set,if_neg (Nat.not_lt.mpr hr)];rw [List.set_eq_take_append_cons_drop,if_pos hlt];simp
 all_goals
  have nd:=R.nd;have e1:((φ.zip os).drop D.ro).map (·.1)=φ.drop D.ro:=by rw [List.map_drop,List.map_fst_zip];rw [R.br,R.len];exact Nat.le_refl _
  rw [← e1] at nd;have:=List.take_append_drop (n- D.ro) ((φ.zip os).drop D.ro);rw [List.drop_eq_getElem_cons hlt] at this;have e:((φ.zip os).drop D.ro)[n- D.ro]=(a,o):=Option.some.inj ((List.getElem?_eq_getElem hlt).symm.trans hz);rw [e] at this;rw [← this] at nd;simp only [List.map_append,List.map_cons,List.append_assoc,List.cons_append] at nd;rw [List.nodup_append] at nd
 ·intro p hp q;exact nd.2.2 p.1 (List.mem_map_of_mem hp) a (.head _) q
 ·intro p hp q;have:=(List.nodup_cons.mp nd.2.1).1;apply this;rw [← q];rcases List.mem_append.mp hp with z|z
  ·exact List.mem_append_left _ (List.mem_map_of_mem z)
  ·exact List.mem_append_right _ (List.mem_map_of_mem z)
theorem Ei:∀{pre post:List (Addr×Obj)},(∀ p∈pre,p.1≠a)→(∀ p∈post,p.1≠a)→Upd a o o' (pre++(a,o)::post) (pre++(a,o')::post)
 |[],_,_,h2=>.head h2
 |p::pre,_,h1,h2=>.tail (h1 p (.head _)) (Ei (fun q hq=>h1 q (.tail _ hq)) h2)
theorem Ej:∀{pre post:List (Addr×Obj)},(∀ p∈pre,p.1≠a)→(∀ p∈post,p.1≠a)→UpdF a o (pre++(a,o)::post) (fun o'=>pre++(a,o')::post)
 |[],_,_,h2=>.head h2
 |p::pre,_,h1,h2=>.tail (h1 p (.head _)) (Ej (fun q hq=>h1 q (.tail _ hq)) h2)
structure Wr (D:Md) (φ:List Addr) (s:St) (m:Str→Option Value) (os:List Obj) (nl:List (Addr×Obj)) (n:Nat) (a:Addr) (o:Obj):Prop where
 upd:∀ o',Upd a o o' ((φ.zip os).drop D.ro++nl) ((φ.zip (os.set n o')).drop D.ro++nl)
 qh:UpdF a o ((φ.zip os).drop D.ro++nl) (fun o'=>(φ.zip (os.set n o')).drop D.ro++nl)
 fin:∀ h' o' j9,Fr D.g D.L h' m→News D.g D.L h' ((φ.zip (os.set n o')).drop D.ro++nl)→OR prog w φ j9 o'→bH prog w D φ { s with hp:=s.hp.set n j9} h' m (os.set n o') nl
theorem bH.wr (R:bH prog w D φ s h m os nl) (hr:D.ro≤n) (he:s.hp[n]?=some ao) (ha:φ[n]?=some a) (ho:os[n]?=some o) (hp:∀ es k,ao≠ .dict es (k+1)):Wr (prog:=prog) (w:=w) D φ s m os nl n a o:=by
 refine fK (R.split hr ha ho) fun pre post e1 e2 h1 h2=>?_;refine ⟨fun o'=>?_,?_,fun h' o' j9 F N hO=>?_⟩
 ·rw [e1,e2 o'];exact Ei h1 h2
 ·have:(fun o'=>(φ.zip (os.set n o')).drop D.ro++nl)=fun o'=>pre++(a,o')::post:=funext e2;rw [this,e1];exact Ej h1 h2
 ·refine ⟨F,N,?_,by simp [R.len],by simp [R.br],by simp [R.c9],?_,?_,R.nd,R.lo,R.big,R.cV⟩
  ·intro k b x hk hb hx;rw [List.getElem?_set_ne (by lia)] at hx;exact R.rd k b x hk hb hx
  ·intro k ak x hk hx;by_cases q:n=k
   ·subst q;have l1:=(List.getElem?_eq_some_iff.mp he).1;have l2:=(List.getElem?_eq_some_iff.mp ho).1;simp only [List.getElem?_set_self l1] at hk;rw [List.getElem?_set_self l2] at hx;cases hk;cases hx;exact hO
   ·simp only [List.getElem?_set_ne q] at hk;rw [List.getElem?_set_ne q] at hx;exact R.rel k ak x hk hx
  ·intro k x hk;refine mQ (R.pin k x hk) fun p1 es j p2=>?_;have q:n≠k:=by
    rintro rfl
    rw [he] at p2;exact hp es j (Option.some.inj p2)
   exact ⟨by rw [List.getElem?_set_ne q];exact p1,es,j,by simp only [List.getElem?_set_ne q];exact p2⟩
end
theorem lX (e:bL h ro l o=some h'):ro≤l∧h'=h.set l o∧∃ o',h[l]?=some o':=eT e fun q e=>by
  cases z:h[l]? with
  |none=>rw [z] at e;exact e0 e
  |some o'=>rw [z] at e;exact ⟨Nat.le_of_ble_eq_true q,(Option.some.inj e).symm,o',rfl⟩
end
noncomputable def bu (a b:Shared):Prop:=b.gens=a.gens∧b.drawn=a.drawn∧b.os=a.os
theorem bu.refl (a:Shared):bu a a:=⟨rfl,rfl,rfl⟩
theorem bu.trans (x:bu a b) (y:bu b c):bu a c:=⟨y.1.trans x.1,y.2.1.trans x.2.1,y.2.2.trans x.2.2⟩
theorem bu.of (a:Shared) (h:Heap) (t:Nat):bu a { a with heap:=h,toks:=t}:=⟨rfl,rfl,rfl⟩
section
variable (prog:Program) (w:World)
inductive Res {α:Type} (D:Md) (φ:List Addr) (sh:Shared) (P:List Addr→St→α→Prop) (a:α) (sh':Shared):Prop
 |mk (m:bu sh sh') (φ':List Addr) (s':St) (x:Ext φ φ') (R:Rep prog w D φ' s' sh'.heap) (p:P φ' s' a):Res D φ sh P a sh'
noncomputable def Ek {α:Type} (D:Md) (A:Around) (t:Sem α) (φ:List Addr) (sh:Shared) (P:List Addr→St→α→Prop):Prop:=wpAny (model prog w) A t (Res prog w D φ sh P) (fun _ _=>False) sh
noncomputable def WP {α:Type} (D:Md) (A:Around) (t:Sem α) (φ:List Addr) (s:St) (P:List Addr→St→α→Prop):Prop:=
 ∀ sh,Rep prog w D φ s sh.heap→Ek prog w D A t φ sh P
noncomputable def CP (D:Md) (A:Around) (c:Code) (φ:List Addr) (s:St) (P:List Addr→St→Flow→Prop):Prop:=
 ∀ sh,Rep prog w D φ s sh.heap→codeAny (model prog w) A c (fun r sh'=>match r with| .ok f=>Res prog w D φ sh P f sh'| .error _=>False) sh
end
section
variable {prog:Program} {w:World} {α β:Type} {D:Md} {A:Around} {φ:List Addr} {s:St} {P:List Addr→St→α→Prop}
theorem kQ {M:Model} {t:Sem α} {Q Q':α→Shared→Prop} {E:Value→Shared→Prop} {s:Shared} (h:wpAny M A t Q (fun _ _=>False) s) (hQ:∀ a s,Q a s→Q' a s):wpAny M A t Q' E s:=wpAny_mono h hQ fun _ _ x=>x.elim
theorem Res.next (e:Ext φ φ') (m:bu sh aO) (h:Res prog w D φ' aO Q b sh'):Res prog w D φ sh Q b sh':=match h with|⟨a,x,y,p,q,z⟩=>⟨m.trans a,x,y,e.trans p,q,z⟩
theorem WP.use {t:Sem α} {sh:Shared} {Q:α→Shared→Prop} {E:Value→Shared→Prop} (h:WP prog w D A t φ s P) (R:Rep prog w D φ s sh.heap) (k:∀ a sh' φ' s',bu sh sh'→Ext φ φ'→Rep prog w D φ' s' sh'.heap→P φ' s' a→Q a sh'):wpAny (model prog w) A t Q E sh:=kQ (h sh R) fun a sh' ⟨m,φ',s',e,R',p⟩=>k a sh' φ' s' m e R' p
theorem WP.mono {t:Sem α} {P':List Addr→St→α→Prop} (h:WP prog w D A t φ s P) (k:∀ φ' s' a,Ext φ φ'→P φ' s' a→P' φ' s' a):WP prog w D A t φ s P':=fun sh R=>kQ (h sh R) fun _ _ ⟨m,φ',s',e,R',p⟩=>⟨m,φ',s',e,R',k _ _ _ e p⟩
theorem WP.pure' (h:P φ s a):WP prog w D A (pure a) φ s P:=fun sh R=>wpAny_pure ⟨.refl _,φ,s,.refl _,R,h⟩
theorem WP.bind {t:Sem α} {f:α→Sem β} {Q:List Addr→St→β→Prop} (h:WP prog w D A t φ s P) (k:∀ φ' s' a,Ext φ φ'→P φ' s' a→WP prog w D A (f a) φ' s' Q):WP prog w D A (t>>=f) φ s Q:=fun sh R=>wpAny_bind (kQ (h sh R) fun a sh' ⟨m,φ',s',e,R',p⟩=>kQ (k φ' s' a e p sh' R') fun _ _ z=>z.next e m)
theorem WP.oh {t:Sem α} {s₁:St} {B:List Addr→α→Prop} {sh:Shared} {Q:α→Shared→Prop} {E:Value→Shared→Prop} (h:WP prog w D A t φ s (fun φ' s'' u=>s''=s₁∧B φ' u)) (R:Rep prog w D φ s sh.heap) (k:∀ a sh' φ',bu sh sh'→Ext φ φ'→Rep prog w D φ' s₁ sh'.heap→B φ' a→Q a sh'):wpAny (model prog w) A t Q E sh:=h.use R fun a sh' φ' s' m x R p=>k a sh' φ' m x (p.1▸R) p.2
theorem WP.kR (h:WP prog w D A t φ s (fun _ s'' u=>s''=s₁∧u=b)) (R:Rep prog w D φ s sh.heap) (k:∀ sh' φ',bu sh sh'→Ext φ φ'→Rep prog w D φ' s₁ sh'.heap→Q b sh'):wpAny (model prog w) A t Q E sh:=h.use R fun a sh' φ' s' m x R p=>p.2▸k sh' φ' m x (p.1▸R)
theorem WP.El (h:WP prog w D A t φ s (fun _ s'' _=>s''=s₁)) (R:Rep prog w D φ s sh.heap) (k:∀ a sh' φ',bu sh sh'→Ext φ φ'→Rep prog w D φ' s₁ sh'.heap→Q a sh'):wpAny (model prog w) A t Q E sh:=h.use R fun a sh' φ' s' m x R p=>k a sh' φ' m x (p▸R)
theorem WP.eK {t:Sem α} {s₁:St} {B:α→Prop} {sh:Shared} {Q:α→Shared→Prop} {E:Value→Shared→Prop} (h:WP prog w D A t φ s (fun φ' s'' u=>φ'=φ∧s''=s₁∧B u)) (R:Rep prog w D φ s sh.heap) (k:∀ a sh',bu sh sh'→Rep prog w D φ s₁ sh'.heap→B a→Q a sh'):wpAny (model prog w) A t Q E sh:=h.use R fun a sh' φ' s' m x R p=>k a sh' m (p.1▸p.2.1▸R) p.2.2
theorem WP.kg (h:WP prog w D A t φ s (fun φ' s'' _=>φ'=φ∧s''=s₁)) (R:Rep prog w D φ s sh.heap) (k:∀ a sh',bu sh sh'→Rep prog w D φ s₁ sh'.heap→Q a sh'):wpAny (model prog w) A t Q E sh:=h.use R fun a sh' φ' s' m x R p=>k a sh' m (p.1▸p.2▸R)
theorem WP.L3 (h:WP prog w D A t φ s (fun φ' s'' u=>φ'=φ∧s''=s∧u=b)) (R:Rep prog w D φ s sh.heap) (k:∀ sh',bu sh sh'→Rep prog w D φ s sh'.heap→Q b sh'):wpAny (model prog w) A t Q E sh:=h.eK R fun _ sh' m R q=>q▸k sh' m R
theorem fU (e:t=t') (h:wpAny M A t' Q E sh):wpAny M A t Q E sh:=e▸h
theorem WP.rest {t:Sem α} {Q:List Addr→St→α→Prop} {iC:List Addr} {sh d7:Shared} (h:WP prog w D A t φ s Q) (R:Rep prog w D φ s sh.heap) (x:Ext iC φ) (m:bu d7 sh):wpAny (model prog w) A t (Res prog w D iC d7 Q) (fun _ _=>False) sh:=kQ (h sh R) fun _ _ z=>z.next x m
theorem WP.zy {t:Sem α} {f:α→Sem β} {s₁:St} {B:List Addr→α→Prop} {Q:List Addr→St→β→Prop} (h:WP prog w D A t φ s (fun φ' s'' u=>s''=s₁∧B φ' u)) (k:∀ φ' a,Ext φ φ'→B φ' a→WP prog w D A (f a) φ' s₁ Q):WP prog w D A (t>>=f) φ s Q:=h.bind fun φ' s' a x p=>p.1▸k φ' a x p.2
theorem WP.bindB (h:WP prog w D A t φ s (fun _ s'' u=>s''=s₁∧u=b)) (k:∀ φ',Ext φ φ'→WP prog w D A (f b) φ' s₁ Q):WP prog w D A (t>>=f) φ s Q:=h.bind fun φ' s' a x p=>p.1▸p.2▸k φ' x
theorem WP.L4 {t:Sem α} {f:α→Sem β} {s₁:St} {B:α→Prop} {Q:List Addr→St→β→Prop} (h:WP prog w D A t φ s (fun φ' s'' u=>φ'=φ∧s''=s₁∧B u)) (k:∀ a,B a→WP prog w D A (f a) φ s₁ Q):WP prog w D A (t>>=f) φ s Q:=h.bind fun φ' s' a x p=>p.1▸p.2.1▸k a p.2.2
theorem WP.Em (h:WP prog w D A t φ s (fun φ' s'' _=>φ'=φ∧s''=s₁)) (k:∀ a,WP prog w D A (f a) φ s₁ Q):WP prog w D A (t>>=f) φ s Q:=h.bind fun φ' s' a x p=>p.1▸p.2▸k a
theorem Res.keep (R:Rep prog w D φ s sh'.heap) (m:bu sh sh') (h:P φ s a):Res prog w D φ sh P a sh':=⟨m,φ,s,.refl _,R,h⟩
end
structure kh (D:Md) (env:Env) (ae:au) (φ:List Addr):Prop where
 kind:env.scope.kind=.function
 names:env.scope.names=ae.names
 locals:env.locals=D.lc
 globals:env.globals=mainGlobals
 builtins:env.builtins=builtinsNs
 frame:env.frame=some D.L
 cells:∀ x c,lk ae.cells x=some c→∃ a,env.cells.lookup x=some a∧φ[c]?=some a
 ok:∀ x k,lk ae.names x=some k→x≠ "__debug__" ∧x≠ "__classdict__"
theorem kh.mono (e:Ext φ ψ) (h:kh D env ae φ):kh D env ae ψ:=⟨h.kind,h.names,h.locals,h.globals,h.builtins,h.frame,fun x c q=>let ⟨a,p,r⟩:=h.cells x c q;⟨a,p,e _ _ r⟩,h.ok⟩
structure Wo where
 prog:Program
 w:World
 K:Frag
 p:Program
 loose:List Str
 mean:ExcName→Option Value
 mg:Str→Option Value
 mb:Str→Option Value
noncomputable def vM (fr:List (Addr×Obj)) (outer:List Env):Prop:=(∀ p∈fr,2<p.1∧∃ es ep,p.2.data=.dict es ep)∧∀ env∈outer,env.scope.kind≠ .module∧∃ a o es ep,env.frame=some a∧(a,o)∈fr∧o.data=.dict es ep
structure Cy (W:Wo) (D:Md) (A:Around):Prop where
 x:W.K.In D.g
 t:Top W.p W.loose W.mean W.mg W.mb D.g
 b:∃ outer bW,A.frames=some (bW::outer)∧bW.frame=some D.L∧bW.scope.kind=.function∧vM D.fr outer
structure dw (n:Nat) (A:Around):Prop where
 depth:A.depth+n<900
 units:A.units+8*n<9000
theorem dw.less (h:dw n A) (q:m≤n):dw m A:=⟨by have:=h.depth;lia,by have:=h.units;lia⟩
structure Good (W:Wo) (n:Nat) (D:Md) (A:Around) (env:Env) (ae:au) (φ:List Addr):Prop where
 ev:kh D env ae φ
 cy:Cy W D A
 room:dw n A
 quiet:ae.quiet=true→A.handled=none
theorem Good.mono (h:Good W n D A env ae φ) (e:Ext φ ψ):Good W n D A env ae ψ:=⟨h.ev.mono e,h.cy,h.room,h.quiet⟩
theorem Good.less (h:Good W n D A env ae φ) (q:m≤n):Good W m D A env ae φ:=⟨h.ev,h.cy,h.room.less q,h.quiet⟩
structure aH (W:Wo) (C:Cx) (D:Md) (φ:List Addr):Prop where
 glob:∀ x v,lk C.glob x=some v→∃ u,VR φ v u∧(W.mg x=some u∨(W.mg x=none∧W.mb x=some u))
 ro:C.ro=D.ro
 deep:C.deep=true→D.fr≠[]
theorem aH.mono (h:aH W C D φ) (e:Ext φ ψ):aH W C D ψ:=⟨fun x v q=>let ⟨u,a,b⟩:=h.glob x v q;⟨u,a.mono e,b⟩,h.ro,h.deep⟩
section
variable {W:Wo} {C:Cx} {n:Nat} {D:Md} {A:Around} {env:Env} {ae:au} {φ:List Addr} {s:St} {sh:Shared}
theorem kh.kindOf (h:kh D env ae φ) (x:Str):env.kindOf x=lk ae.names x:=by unfold Env.kindOf;rw [h.names,kN]
theorem Rep.keeps (R:Rep W.prog W.w D φ s h):∀ b o,D.g.get? b=some o→h.get? b=some o:=let ⟨_,_,_,R⟩:=R;R.fr.keep
theorem Rep.locals (R:Rep W.prog W.w D φ s h):∃ m,h.Ns D.lc m∧MR φ s.lo m:=by
 refine hide fun _ kk=>?_;obtain ⟨m,os,nl,R⟩:=R;refine aC R.lo fun fr hfr lo=>?_;refine kk ?_;split at lo
 ·exact ⟨m,lo.1▸R.fr.ns,lo.2.2⟩
 ·refine mR lo fun _ oc hn es ep hd hk hm=>?_;refine ⟨nsFind es,⟨oc,es,ep,(R.news (D.lc,oc) ?_).1,hd,hk,fun _=>rfl⟩,hm⟩;rw [hn];exact List.mem_append_right _ (.head _)
theorem En (e:load C ae x s=some v):(lk ae.names x=some .local∧lk s.lo x=some v)∨(∃ c,(lk ae.names x=some .cell∨lk ae.names x=some .free)∧lk ae.cells x=some c∧s.hp[c]?=some (.cell (some v)))∨(lk ae.names x=some .globalImplicit∧lk C.glob x=some v):=ah e fun k hk e=>by
  induction k with
  |«local»=>exact .inl ⟨hk,e⟩
  |cell=>exact ah e fun c hc e=>ah e fun u hu e=>.inr (.inl ⟨c,.inl hk,hc,e▸vC hu⟩)
  |free=>exact ah e fun c hc e=>ah e fun u hu e=>.inr (.inl ⟨c,.inr hk,hc,e▸vC hu⟩)
  |globalImplicit=>exact .inr (.inr ⟨hk,e⟩)
  |_=>exact e0 e
theorem L5 (G:Good W n D A env ae φ) (Gl:aH W C D φ) (e:lk C.glob x=some v) (R:Rep W.prog W.w D φ s sh.heap) (k:∀ u,VR φ v u→Q u sh):wpAny (model W.prog W.w) A (loadGlobal env x) Q E sh:=by
 refine aC (Gl.glob x v e) fun u h1 h2=>?_;have g:=G.cy.t.g.keeps R.keeps;rw [← G.ev.globals] at g;rcases h2 with h2|⟨h2,h3⟩
 ·exact loadGlobal_global g h2 (k u h1)
 ·have b:=G.cy.t.b.keeps R.keeps;rw [← G.ev.builtins] at b;exact loadGlobal_builtin g h2 b h3 (k u h1)
theorem Eo (G:Good W n D A env ae φ) (Gl:aH W C D φ) (e:load C ae x s=some v):WP W.prog W.w D A (loadName env x) φ s (fun φ' s' u=>φ'=φ∧s'=s∧VR φ v u):=by
 intro sh R;have hk:=G.ev.kindOf x;rcases En e with ⟨hl,e⟩|⟨c,hl,hc,hu⟩|⟨hl,e⟩
 ·refine aC R.locals fun m hn hm=>?_;refine hide fun _ kk=>?_;refine aC (hm x v e) fun u h1 h2=>?_;refine kk ?_;rw [← G.ev.locals] at hn;exact wpAny_loadName_local G.ev.kind (hk.trans hl) hn h1 ⟨.refl _,φ,s,.refl _,R,rfl,rfl,h2⟩
 ·refine aC (G.ev.cells x c hc) fun a h1 h2=>?_;refine aC (R.at hu h2) fun o q1 h5=>?_;refine aC q1 fun u' h3 h4=>?_;rcases hl with hl|hl
  ·exact wpAny_loadName_cell G.ev.kind (hk.trans hl) h1 ⟨o,h5,h3⟩ ⟨.refl _,φ,s,.refl _,R,rfl,rfl,h4⟩
  ·exact wpAny_loadName_free G.ev.kind (hk.trans hl) h1 ⟨o,h5,h3⟩ ⟨.refl _,φ,s,.refl _,R,rfl,rfl,h4⟩ (by simpa using (G.ev.ok _ _ hl).2)
 ·unfold Ek loadName;simp only [Env.blockKind,G.ev.kind,hk.trans hl,ScopeKind.isAnnotationScope,Bool.false_and,Bool.false_eq_true,if_false];exact L5 G Gl e R fun u h1=>⟨.refl _,φ,s,.refl _,R,rfl,rfl,h1⟩
theorem Rep.L6 (R:Rep W.prog W.w D φ s h) (a:VR φ v u) (hn:∀ m,h.Ns D.lc m→h'.Ns D.lc (fun y=>if y=x then some u else m y)) (hs:Heap.SameBut D.lc h h'):Rep W.prog W.w D φ { s with lo:=put s.lo x v} h':=by
 obtain ⟨m,os,nl,R⟩:=R;refine aC R.lo fun fr hfr lo=>?_;split at lo
 ·rename_i hm;refine cP lo fun h1 h2 h3=>?_;rw [h1] at hn hs;refine ⟨_,os,nl,R.fr.set (hn _ R.fr.ns) hs,R.news.set hs,R.rd,R.len,R.br,R.c9,R.rel,R.pin,R.nd,?_,R.big,R.cV⟩;refine ⟨fr,hfr,?_⟩;rw [hm];exact ⟨h1,h2,h3.put a⟩
 ·rename_i mF hm;refine mR lo fun h1 oc h2 es ep hd hk hM=>?_;have hin:(D.lc,oc)∈(φ.zip os).drop D.ro++nl:=by rw [h2];exact List.mem_append_right _ (.head _)
  refine iN (hn _ ⟨oc,es,ep,(R.news _ hin).1,hd,hk,fun _=>rfl⟩) fun o' es' Ep ho' hd' hk' hf'=>?_;have hne:=(R.news _ hin).2.1;have nd:=R.nd;rw [h2] at nd;simp only [List.map_cons] at nd;rw [List.nodup_append,List.nodup_cons] at nd;have F':Fr D.g D.L h' m:=⟨R.fr.ns.sameBut hs (Ne.symm hne),fun b o e=>(hs.2 b fun q=>by have:=(R.news _ hin).2.2;rw [← q,e] at this;cases this).trans (R.fr.keep b o e),R.fr.above⟩;refine ⟨m,os,(D.lc,o')::(D.extra++fr),F',?_,R.rd,R.len,R.br,R.c9,R.rel,R.pin,?_,?_,R.big,R.cV⟩
  ·intro p hp;rcases List.mem_append.mp hp with q|q
   ·have P:=R.news p (List.mem_append_left _ q);refine ⟨(hs.2 _ fun z=>?_).trans P.1,P.2⟩;have e1:((φ.zip os).drop D.ro).map (·.1)=φ.drop D.ro:=by rw [List.map_drop,List.map_fst_zip];rw [R.br,R.len];exact Nat.le_refl _
    have:p.1∈φ.drop D.ro:=by rw [← e1];exact List.mem_map_of_mem q
    exact nd.2.2 _ this _ (.head _) z
   ·rcases List.mem_cons.mp q with rfl|q
    ·exact ⟨ho',(R.news _ hin).2⟩
    ·have P:=R.news p (by rw [h2];exact List.mem_append_right _ (.tail _ q));refine ⟨(hs.2 _ fun z=>?_).trans P.1,P.2⟩;exact nd.2.1.1 (by rw [← z];exact List.mem_map_of_mem q)
  ·have:=R.nd;rw [h2] at this;exact this
  ·refine ⟨fr,hfr,?_⟩;rw [hm];exact ⟨h1,o',rfl,es',Ep,hd',hk',fun y v q=>by rw [show nsFind es' y=_ from hf' y];exact hM.put a y v q⟩
theorem sF (G:Good W n D A env ae φ) (Gl:aH W C D φ) (a:VR φ v u) (e:store C ae x v s=some s'):WP W.prog W.w D A (storeName env x u) φ s (fun φ' s'' _=>φ'=φ∧s''=s'):=by
 intro sh R;have hk:=G.ev.kindOf x;refine ah e fun k hl e=>?_;induction k with
 |«local»=>
  obtain rfl:=Option.some.inj e;refine aC R.locals fun m hn _=>?_;rw [← G.ev.locals] at hn;refine wpAny_storeName_local (hk.trans hl) hn (fun h' hn' hs=>⟨⟨rfl,rfl,rfl⟩,φ,_,.refl _,?_,rfl,rfl⟩) (by rw [G.ev.kind];rfl);rw [G.ev.locals] at hs hn';refine R.L6 a (fun m' hm'=>?_) hs;refine iN hn' fun o es ep h1 h2 h3 h4=>?_;refine ⟨o,es,ep,h1,h2,h3,fun y=>?_⟩;rw [h4 y];rw [G.ev.locals] at hn;refine iN hn fun o1 es1 ZT a1 a2 a3 a4=>?_;refine iN hm' fun o2 zz ZU b1 b2 b3 b4=>?_;rw [a1] at b1;cases b1;rw [a2] at b2;cases b2;simp only [← a4 y,← b4 y]
 |cell=>
  refine ah e fun c hc e=>ah e fun v₀ hu e=>ah e fun h₁ hs e=>?_;have hu:=vC hu;obtain rfl:=Option.some.inj e;refine cP (lX hs) fun ro q1 _=>?_;subst q1;refine aC (G.ev.cells x c hc) fun ca h1 h2=>?_;obtain ⟨m,os,nl,R⟩:=R;refine aZ (R.at hu h2) fun o h3 h4 h5=>?_;have X:=R.wr (Gl.ro▸ro) hu h2 h3 (fun es k q=>by cases q);have hd:∃ v₁,o.data=.cell v₁:=by
   cases v₀ with
   |none=>exact ⟨_,h4⟩
   |some v₀=>refine aC h4 fun u₀ q _=>?_;exact ⟨_,q⟩
  refine aJ hd fun v₁ hd=>?_;refine wpAny_storeName_cell G.ev.kind (hk.trans hl) h1 ⟨o,h5,hd⟩ fun h' hv hsb=>?_;refine aC hv fun o' ho' hd'=>?_;refine fK X.qh.split fun pre post e1 e2 q1 q2=>?_;have hmem:=R.news (ca,o) (by rw [e1];exact List.mem_append_right _ (.head _));refine ⟨⟨rfl,rfl,rfl⟩,φ,_,.refl _,⟨m,_,nl,X.fin h' o' (.cell (some v)) ⟨R.fr.ns.sameBut hsb (Ne.symm hmem.2.1),fun b ob e=>(hsb.2 b (fun q=>?_)).trans (R.fr.keep b ob e),R.fr.above⟩ ?_ ⟨u,hd',a⟩⟩,rfl,rfl⟩
  ·rw [q,hmem.2.2] at e;cases e
  ·have:=e2 o';rw [this];have N:=R.news;rw [e1] at N;intro p hp;rcases List.mem_append.mp hp with z|z
   ·have P:=N p (List.mem_append_left _ z);exact ⟨(hsb.2 _ (q1 p z)).trans P.1,P.2⟩
   ·rcases List.mem_cons.mp z with rfl|z
    ·exact ⟨ho',hmem.2⟩
    ·have P:=N p (List.mem_append_right _ (.tail _ z));exact ⟨(hsb.2 _ (q2 p z)).trans P.1,P.2⟩
 |_=>exact e0 e
end
section
variable {W:Wo} {C:Cx} {n:Nat} {D:Md} {A:Around} {env:Env} {ae:au} {φ:List Addr} {s:St}
section
variable {h:Heap} {l:Nat} {a:Addr} {P:Prop}
theorem Rep.listE (R:Rep W.prog W.w D φ s h) (e:bO s.hp[l]?=some vs) (ha:φ[l]?=some a) (k:∀ us n,aF φ vs us→us.length=vs.length→vs.length≤100000→h.get? a=some (listOf (List.toArray us) n)→P):P:=by refine aC (R.at (lR e) ha) fun _ q1 g=>?_;refine bK q1 fun us n q r z=>?_;exact k us n r r.length z (q▸g)
theorem Rep.oq (R:Rep W.prog W.w D φ s h) (e:dY s.hp[l]?=some vs) (ha:φ[l]?=some a) (k:∀ us n,aF φ vs us→us.length=vs.length→vs.length≤100000→h.get? a=some (n9 (List.toArray us) n)→P):P:=by refine aC (R.at (m6 e) ha) fun _ q1 g=>?_;refine bK q1 fun us n q r z=>?_;exact k us n r r.length z (q▸g)
theorem Rep.qi (R:Rep W.prog W.w D φ s h) (e:iz s.hp[l]?=some p) (ha:φ[l]?=some a) (k:∀ o kvs,o.IsDictOf (intKind W.prog W.w) kvs→b7 φ p.1 kvs→p.1.length≤100000→h.get? a=some o→P):P:=by refine aC (R.at (qc e) ha) fun o q1 g=>?_;refine aZ q1 fun kvs q r z=>?_;exact k o kvs q r z g
theorem Rep.vN (R:Rep W.prog W.w D φ s h) (e:pD s.hp[l]?=some xs) (ha:φ[l]?=some a) (k:∀ o,o.SetObjOf (intKind W.prog W.w) (fun k=>iA k xs) xs.length→xs.length≤61→h.get? a=some o→P):P:=by refine aC (R.at (D8 e) ha) fun o q1 g=>?_;refine aN q1 fun q z=>?_;exact k o q z g
@[elab_as_elim] theorem Rep.qj (R:Rep W.prog W.w D φ s h) {v:AV} {vs:List AV} (e:gR s.hp v=some vs) {u:Value} (r:VR φ v u) {G:Value→Prop} (k:∀ a us n,aF φ vs us→us.length=vs.length→vs.length≤100000→h.get? a=some (listOf (List.toArray us) n)→G (.ref a)):G u:=ah e fun _ h e=>gC h r fun a ha=>R.listE e ha fun us n r hl z g=>k a us n r hl z g
end
theorem Er (a b:Int):iE a b=(a==b):=by rw [lU];rfl
theorem Es (e:aeq a b=some x) (h1:VR φ a ua) (h2:VR φ b ub) (A:Around) (sh:Shared):SeqAt.EqAt A sh ua ub x∧SeqAt.RcAt A sh ua ub x∧SeqAt.RcNeAt A sh ua ub (!x):=by
 induction a with
 |int i=>
  refine bA e (fun j h e=>?_) fun _ e=>ah e fun z h e=>?_
  ·exact h1.jL fun t=>gW h h2 fun t'=>iS (G:=fun x=>SeqAt.EqAt A sh (.int i t) (.int j t') x∧SeqAt.RcAt A sh (.int i t) (.int j t') x∧SeqAt.RcNeAt A sh (.int i t) (.int j t') (!x)) e (Er i j▸⟨SeqAt.EqAt.int_int _ _ _ _,SeqAt.RcAt.int_int _ _ _ _,SeqAt.RcNeAt.int_int _ _ _ _⟩)
  ·exact h1.jL fun t=>m9 h h2 fun t' _=>Option.some.inj e▸⟨SeqAt.EqAt.int_str _ _ _ _,SeqAt.RcAt.int_str _ _ _ _,SeqAt.RcNeAt.int_str _ _ _ _⟩
 |str i=>
  refine bA e (fun j h e=>?_) fun _ e=>ah e fun z h e=>?_
  ·exact h1.str' fun t _=>m9 h h2 fun t' _=>iS (G:=fun x=>SeqAt.EqAt A sh (.str i t) (.str j t') x∧SeqAt.RcAt A sh (.str i t) (.str j t') x∧SeqAt.RcNeAt A sh (.str i t) (.str j t') (!x)) e (vJ i j▸⟨SeqAt.EqAt.str_str _ _ _ _,SeqAt.RcAt.str_str _ _ _ _,SeqAt.RcNeAt.str_str _ _ _ _⟩)
  ·exact h1.str' fun t _=>gW h h2 fun t'=>Option.some.inj e▸⟨SeqAt.EqAt.str_int _ _ _ _,SeqAt.RcAt.str_int _ _ _ _,SeqAt.RcNeAt.str_int _ _ _ _⟩
 |bool i=>exact ah e fun j h e=>h1.bool' (Eh h h2 (Option.some.inj e▸⟨SeqAt.EqAt.bool_bool _ _,SeqAt.RcAt.bool_bool _ _,SeqAt.RcNeAt.bool_bool _ _⟩))
 |_=>exact e0 e
theorem L7 (h1:aF φ as us) (h2:aF φ bs vs):∀{x:Bool},lC as bs=some x→us.length=vs.length→∃ e:Nat→Bool,(List.range us.length).all e=x∧∀(A:Around) (sh:Shared) (j:Nat) (q1:j<us.length) (q2:j<vs.length),SeqAt.EqAt A sh us[j] vs[j] (e j):=by
 induction h1 generalizing bs vs with
 |nil=>
  intro x e hl;cases h2 with
  |nil=>exact ⟨fun _=>true,Option.some.inj e,fun _ _ j q _=>nomatch q⟩
  |cons _ _=>exact nomatch hl
 |cons a r ih=>
  intro x e hl;cases h2 with
  |nil=>exact nomatch hl
  |cons b t=>
   refine ah e fun p hp e=>ah e fun q hq e=>?_;refine aC (ih t hq (Nat.succ.inj hl)) fun f f1 f2=>?_;refine ⟨fun j=>match j with|0=>p|j+1=>f j,?_,fun A sh j=>Nat.casesOn j (fun q1 q2=>(Es hp a b A sh).1) fun j q1 q2=>f2 A sh j (Nat.lt_of_succ_lt_succ q1) (Nat.lt_of_succ_lt_succ q2)⟩;rw [← Option.some.inj e,← f1,List.length_cons,List.range_succ_eq_map,List.all_cons,List.all_map];rfl
theorem L8:∀{x:Bool},lC as bs=some x→as.length≠bs.length→x=false:=by
 induction as generalizing bs with
 |nil=>
  intro x e h;rcases bs with _|⟨b,bs⟩
  ·exact absurd rfl h
  ·exact (Option.some.inj e).symm
 |cons a as ih=>
  intro x e h;rcases bs with _|⟨b,bs⟩
  ·exact (Option.some.inj e).symm
  ·refine ah e fun p hp e=>ah e fun q hq e=>?_;have z:=ih hq fun z=>h (congrArg Nat.succ z);rw [← Option.some.inj e,z,Bool.and_false]
theorem Ma (e:gR h (.loc l)=some vs):h[l]?=some (.list vs):=lR e
theorem cQ {h:Heap} {a:Addr} {us:List Value} {n:Nat} (e:h.get? a=some (listOf (List.toArray us) n)):h.IsList a us.toArray:=⟨_,e,rfl,n,rfl⟩
theorem qk {h:Heap} {a:Addr} {us:List Value} {n:Nat} (e:h.get? a=some (n9 (List.toArray us) n)):h.IsTuple a us.toArray:=⟨_,e,rfl,n,rfl⟩
theorem vO (h:dw n A):A.units<cLine:=by have:=h.units;have q:cLine=9900:=rfl;lia
theorem Et {a b:AV} {ua ub:Value} {x:Bool} {sh:Shared} (hr:dw n A) (R:Rep W.prog W.w D φ s sh.heap) (e:eqv s.hp a b=some x) (h1:VR φ a ua) (h2:VR φ b ub):SeqAt.RcAt A sh ua ub x∧SeqAt.RcNeAt A sh ua ub (!x):=by
 refine bA e (fun _ _ e=>ah e fun xs hx e=>ah e fun ys hy e=>R.qj hx h1 fun a us n r1 _ _ g1=>R.qj hy h2 fun a' us' n' r2 _ _ g2=>?_) fun _ e=>(Es e h1 h2 A sh).2;by_cases hl:xs.length=ys.length
 ·have hl':us.length=us'.length:=by rw [r1.length,r2.length,hl]
  refine aC (L7 r1 r2 e hl') fun f f1 f2=>?_;have sz:us.toArray.size=us'.toArray.size:=by simpa using hl'
  have Mb:(List.range us.toArray.size).all f=x:=by simpa using f1
  rw [← Mb];exact ⟨SeqAt.RcAt.lists (cQ g1) (cQ g2) sz (vO hr) fun j q1 q2=>by simpa using f2 A.in1 sh j (by simpa using q1) (by simpa using q2),
   SeqAt.RcNeAt.lists (cQ g1) (cQ g2) sz (vO hr) fun j q1 q2=>by simpa using f2 A.in1 sh j (by simpa using q1) (by simpa using q2)⟩
 ·have:=L8 e hl;subst this;have sz:(us.toArray.size !=us'.toArray.size)=true:=by simp only [List.size_toArray,r1.length,r2.length,bne_iff_ne,ne_eq];exact hl
  exact ⟨SeqAt.RcAt.lists_lengths (cQ g1) (cQ g2) sz (vO hr),SeqAt.RcNeAt.lists_lengths (cQ g1) (cQ g2) sz (vO hr)⟩
noncomputable def vq:Value→Value→Bool
 | .int a _,.int b _=>a==b
 | .str a _,.str b _=>a==b
 | .bool a,.bool b=>a==b
 |_,_=>false
theorem Eu (a b:Int):(b==a)=iE a b:=(decide_eq_decide.mpr eq_comm).trans (lU a b).symm
theorem Ew (a b:Str):(b==a)=sE a b:=(decide_eq_decide.mpr eq_comm).trans (qe a b).symm
theorem Ex (e:aeq a b=some x) (h1:VR φ a ua) (h2:VR φ b ub) (A:Around) (sh:Shared):vq ub ua=x∧SeqAt.EqAt A sh ub ua x:=by
 induction a with
 |int i=>
  refine bA e (fun j h e=>?_) fun _ e=>ah e fun z h e=>?_
  ·exact h1.jL fun t=>gW h h2 fun t'=>iS (G:=fun x=>(j==i)=x∧SeqAt.EqAt A sh (.int j t') (.int i t) x) e ⟨Eu i j,Eu i j▸SeqAt.EqAt.int_int _ _ _ _⟩
  ·exact h1.jL fun t=>m9 h h2 fun t' _=>Option.some.inj e▸⟨rfl,SeqAt.EqAt.str_int _ _ _ _⟩
 |str i=>
  refine bA e (fun j h e=>?_) fun _ e=>ah e fun z h e=>?_
  ·exact h1.str' fun t _=>m9 h h2 fun t' _=>iS (G:=fun x=>(j==i)=x∧SeqAt.EqAt A sh (.str j t') (.str i t) x) e ⟨Ew i j,Ew i j▸SeqAt.EqAt.str_str _ _ _ _⟩
  ·exact h1.str' fun t _=>gW h h2 fun t'=>Option.some.inj e▸⟨rfl,SeqAt.EqAt.int_str _ _ _ _⟩
 |bool i=>exact ah e fun j h e=>h1.bool' (Eh h h2 (iS (G:=fun x=>(j==i)=x∧SeqAt.EqAt A sh (.bool j) (.bool i) x) e (have z:(j==i)=(i==j):=by cases i <;>cases j <;>rfl
   ⟨z,z▸SeqAt.EqAt.bool_bool _ _⟩)))
 |_=>exact e0 e
theorem Mc (hx:VR φ x ux) (h:aF φ vs us):∀{b:Bool},j4 x vs=some b→us.any (fun y=>vq y ux)=b∧∀(A:Around) (sh:Shared) (y:Value),y∈us→SeqAt.EqAt A sh y ux (vq y ux):=by
 induction h with
 |nil=>intro b e;exact ⟨Option.some.inj e,fun _ _ _ q=>nomatch q⟩
 |cons a r ih=>
  intro b e;refine ah e fun p hp e=>ah e fun q hq e=>?_;refine aN (ih hq) fun i1 i2=>?_;refine ⟨?_,fun A sh y hy=>(List.mem_cons.mp hy).elim (fun z=>?_) fun hy=>i2 A sh y hy⟩
  ·rw [List.any_cons,i1,(Ex hp hx a callerA {}).1];exact Option.some.inj e
  ·have:=Ex hp hx a A sh;rw [z,this.1];exact this.2
end
section
variable {φ:List Addr}
theorem b7.zA (h:b7 φ es kvs) (i:Int):match c7 es i with|some v=>∃ u,valueAt kvs i=some u∧VR φ v u|none=>valueAt kvs i=none:=by
 induction h with
 |nil=>rfl
 | @cons k v u vs us a r ih=>
  unfold c7;rw [lU];by_cases q:i=k
  ·rw [decide_eq_true q];exact ⟨u,by simp [PySem.valueAt,q],a⟩
  ·rw [decide_eq_false q];have e:PySem.valueAt ((k,u)::us) i=PySem.valueAt us i:=by have:¬k=i:=fun z=>q z.symm;simp [PySem.valueAt,List.find?_cons,this]
   rw [e];exact ih
theorem b7.find (h:b7 φ es kvs) (e:c7 es i=some v):∃ u,valueAt kvs i=some u∧VR φ v u:=by have:=h.zA i;rw [e] at this;exact this
theorem b7.miss (h:b7 φ es kvs) (e:c7 es i=none):valueAt kvs i=none:=by have:=h.zA i;rw [e] at this;exact this
theorem b7.isSome (h:b7 φ es kvs) (i:Int):(valueAt kvs i).isSome=(c7 es i).isSome:=by
 have:=h.zA i;cases q:c7 es i with
 |none=>rw [q] at this;rw [this];rfl
 |some v=>rw [q] at this;refine aC this fun u e _=>?_;rw [e];rfl
theorem b7.keys (h:b7 φ es kvs):kvs.map (·.1)=es.map (·.1):=by
 induction h with
 |nil=>rfl
 |cons _ _ ih=>simp [ih]
theorem b7.append (h:b7 φ es kvs) (h':b7 φ es' kvs'):b7 φ (es++es') (kvs++kvs'):=by
 induction h with
 |nil=>exact h'
 |cons a _ ih=>exact .cons a ih
theorem Ey:∀{es:List (Int×AV)},i∉es.map (·.1)→dput es i v=es++[(i,v)]
 |[],_=>rfl
 |p::r,h=>by
  simp only [List.map_cons,List.mem_cons,not_or] at h;unfold dput;rw [lU,decide_eq_false h.1];show p::dput r i v=_;rw [Ey h.2];rfl
theorem Me:∀{es:List (Int×AV)},i∉es.map (·.1)→jH es i=es
 |[],_=>rfl
 |p::r,h=>by
  simp only [List.map_cons,List.mem_cons,not_or] at h;unfold jH;rw [lU,decide_eq_false h.1];show p::jH r i=_;rw [Me h.2]
theorem b7.store (h:b7 φ es kvs) (a:VR φ v u) (hn:(kvs.map (·.1)).Nodup):b7 φ (dput es i v) (stored kvs i u):=by
 by_cases q:i∈kvs.map (·.1)
 ·have any:(kvs.any fun kv=>decide (kv.1=i))=true:=by refine aC (List.mem_map.mp q) fun p hp q1=>?_;subst q1;exact List.any_eq_true.mpr ⟨p,hp,by simp⟩
  unfold stored;rw [if_pos any];clear any;induction h with
  |nil=>simp at q
  | @cons k v' u' vs us b r ih=>
   simp only [List.map_cons,List.nodup_cons] at hn;unfold dput;rw [lU,List.map_cons];by_cases z:i=k
   ·subst z;rw [decide_eq_true rfl];simp only [if_true];rw [map_store_of_not_mem us i u hn.1];exact .cons a r
   ·rw [decide_eq_false z];have z':¬k=i:=fun e=>z e.symm;simp only [if_neg z'];refine .cons b (ih hn.2 ?_);simp only [List.map_cons,List.mem_cons] at q;exact q.resolve_left z
 ·have any:(kvs.any fun kv=>decide (kv.1=i))=false:=by rw [List.any_eq_false];intro p hp e;exact q (List.mem_map.mpr ⟨p,hp,by simpa using e⟩)
  unfold stored;rw [if_neg (by rw [any];simp),Ey (by rw [← h.keys];exact q)];exact h.append (.cons a .nil)
theorem b7.erase (h:b7 φ es kvs) (hn:(kvs.map (·.1)).Nodup):b7 φ (jH es i) (without kvs i):=by
 induction h with
 |nil=>exact .nil
 | @cons k v u vs us a r ih=>
  simp only [List.map_cons,List.nodup_cons] at hn;unfold jH without;rw [lU,List.filter_cons];by_cases z:i=k
  ·subst z;rw [decide_eq_true rfl];simp only [ne_eq,not_true_eq_false,decide_false,Bool.false_eq_true,if_false];have:=without_of_not_mem us i hn.1;unfold without at this;rw [this];exact r
  ·rw [decide_eq_false z];have z':¬k=i:=fun e=>z e.symm;rw [if_pos (by simpa using z')];exact .cons a (ih hn.2)
theorem zB (i:Int) (v:AV):∀ es:List (Int×AV),(dput es i v).length≤es.length+1
 |[]=>by simp [dput]
 |p::r=>by
  unfold dput;cases iE i p.1 with
  |true=>simp
  |false=>simp;exact zB i v r
theorem Ez (i:Int):∀ es:List (Int×AV),(jH es i).length≤es.length
 |[]=>by simp [jH]
 |p::r=>by
  unfold jH;cases iE i p.1 with
  |true=>simp
  |false=>simp;exact Ez i r
theorem zC {prog:Program} {w:World} {o:Obj} {kvs:List (Int×Value)} (h:o.IsDictOf (intKind prog w) kvs):(kvs.map (·.1)).Nodup:=let ⟨_,_,_,_,_,_,n⟩:=h;n
theorem gD (h:lim n=true):n≤100000:=Nat.le_of_ble_eq_true h
theorem cW (h:n≤200001):n≤sizeLine:=by rw [sizeLine_eq];(exact Nat.le_trans h (by decide))
end
section
variable {W:Wo} {C:Cx} {n:Nat} {D:Md} {A:Around} {env:Env} {ae:au} {φ:List Addr} {s:St} {sh:Shared}
noncomputable def Val (s':St) (v:AV):List Addr→St→Value→Prop:=fun φ' s'' u=>s''=s'∧VR φ' v u
theorem WP.iD (h:WP W.prog W.w D A t φ s (Val s₁ v)) (R:Rep W.prog W.w D φ s sh.heap) (k:∀ a sh' φ',bu sh sh'→Ext φ φ'→Rep W.prog W.w D φ' s₁ sh'.heap→VR φ' v a→Q a sh'):wpAny (model W.prog W.w) A t Q E sh:=h.oh R k
theorem WP.sG (h:WP W.prog W.w D A t φ s (Val s₁ (.int i))) (R:Rep W.prog W.w D φ s sh.heap) (k:∀ tk sh' φ',bu sh sh'→Ext φ φ'→Rep W.prog W.w D φ' s₁ sh'.heap→Q (.int i tk) sh'):wpAny (model W.prog W.w) A t Q E sh:=h.oh R fun a sh' φ' m x R r=>by refine aJ r.inv fun tk q1=>?_;subst q1;exact k tk sh' φ' m x R
theorem WP.vP (h:WP W.prog W.w D A t φ s (Val s₁ (.loc l))) (R:Rep W.prog W.w D φ s sh.heap) (k:∀ a sh' φ',bu sh sh'→Ext φ φ'→Rep W.prog W.w D φ' s₁ sh'.heap→φ'[l]?=some a→Q (.ref a) sh'):wpAny (model W.prog W.w) A t Q E sh:=h.oh R fun a sh' φ' m x R r=>by refine aC r.inv fun b q1 q=>?_;subst q1;exact k b sh' φ' m x R q
theorem WP.lY (h:WP W.prog W.w D A t φ s (Val s₁ v)) (k:∀ φ' a,Ext φ φ'→VR φ' v a→WP W.prog W.w D A (f a) φ' s₁ Q):WP W.prog W.w D A (t>>=f) φ s Q:=h.zy k
theorem fF (e:some (a,b)=some (v,s')) (h:WP W.prog W.w D A t φ s (Val b a)):WP W.prog W.w D A t φ s (Val s' v):=(pin e).1▸(pin e).2▸h
theorem WP.of (h:∀ sh,Rep W.prog W.w D φ s sh.heap→wpAny (model W.prog W.w) A t (Res W.prog W.w D φ sh P) (fun _ _=>False) sh):WP W.prog W.w D A t φ s P:=h
theorem jM (m:bu sh sh') (x:Ext φ φ') (R:Rep W.prog W.w D φ' s' sh'.heap) (r:VR φ' v u):Res W.prog W.w D φ sh (Val s' v) u sh':=⟨m,φ',s',x,R,rfl,r⟩
theorem ql (R:Rep W.prog W.w D φ s h) {l:Nat} {a:Addr} (ha:φ[l]?=some a):(a==sysModules)=false:=by obtain ⟨m,os,nl,R⟩:=R;have:=R.big l a ha;exact beq_false_of_ne (fun e=>by subst e;exact absurd this (by decide))
theorem iU (m:bu sh sh') (R:Rep W.prog W.w D φ s sh'.heap) (h:P φ s a):Res W.prog W.w D φ sh P a sh':=⟨m,φ,s,.refl _,R,h⟩
theorem EA (R:Rep W.prog W.w D φ s sh.heap) {a b:AV} {ua ub:Value} {y:Bool} (e:nY s.hp a b=some y) (h1:VR φ a ua) (h2:VR φ b ub) {Q:Value→Shared→Prop} {E:Value→Shared→Prop}:((∀ t,Q (.bool y) { sh with toks:=t})→wpAny (model W.prog W.w) A (compareOp .In ua ub) Q E sh)∧((∀ t,Q (.bool (!y)) { sh with toks:=t})→wpAny (model W.prog W.w) A (compareOp .NotIn ua ub) Q E sh):=by
 refine ah e fun l hl e=>gC hl h2 fun b ha=>bA e (fun vs hv e=>R.listE hv ha fun us k r1 _ _ g=>?_) fun _ e=>ah e fun i hi e=>gW hi h1 fun t=>bA e (fun d hd e=>R.qi hd ha fun o kvs hk r1 _ g=>?_) fun _ e=>ah e fun xs hx e=>R.vN hx ha fun o hS hz g=>?_
 ·refine aN (Mc h1 r1 e) fun q1 q2=>?_;have sz:us.toArray.any (fun z=>vq z ua)=y:=by simpa using q1
  have q3:∀ z∈us.toArray,SeqAt.EqAt A.in1 sh z ua (vq z ua):=fun z hz=>q2 A.in1 sh z (List.mem_toArray.mp hz);exact ⟨fun k=>SeqAt.in_listAt _ (cQ g) q3 (sz.symm▸k sh.toks),fun k=>SeqAt.notIn_listAt _ (cQ g) q3 (sz.symm▸k sh.toks)⟩
 ·have hm:=(Heap.dictOf_iff.mpr ⟨o,g,hk⟩:sh.heap.DictOf (intKind W.prog W.w) _ kvs).mapOf;have q:=(r1.isSome i).trans (Option.some.inj e);exact ⟨fun k=>wpAny_in_of (intKind_is _ _ i t) (ql R ha) hm (q.symm▸k _),fun k=>wpAny_notIn_of (intKind_is _ _ i t) (ql R ha) hm (q.symm▸k _)⟩
 ·have hm:=hS.setOf g (Nat.lt_of_le_of_lt hz (by decide:61<scanBound));have q:=Option.some.inj e;exact ⟨fun k=>wpAny_inSet_of (intKind_is _ _ i t) rfl hm (q.symm▸k _),fun k=>wpAny_notInSet_of (intKind_is _ _ i t) rfl hm (q.symm▸k _)⟩
theorem le_dec (a b:Int):decide (a≤b)= !bf b a:=by rw [dZ,← decide_not];exact decide_eq_decide.mpr Int.not_lt.symm
theorem Mf (e:C1 op i j=some x) (k:Q (.bool x) sh):wpAny (model W.prog W.w) A (compareOp op (.int i t) (.int j u)) Q E sh:=by
 induction op with
 |Lt=>exact lt_int (((dZ i j).symm.trans (Option.some.inj e)).symm▸k)
 |Gt=>exact gt_int (((dZ j i).symm.trans (Option.some.inj e)).symm▸k)
 |LtE=>exact le_int (((le_dec i j).trans (Option.some.inj e)).symm▸k)
 |GtE=>exact ge_int (((le_dec j i).trans (Option.some.inj e)).symm▸k)
 |_=>exact e0 e
theorem Mg (e:isNone a=some x) (h:VR φ a u):(x=true∧u=.none)∨x=false∧u≠ .none:=by
 induction a with
 |none=>exact .inl ⟨(Option.some.inj e).symm,h.inv⟩
 |loc l=>exact h.loc' fun _ _=>.inr ⟨(Option.some.inj e).symm,nofun⟩
 |int l=>exact h.jL fun _=>.inr ⟨(Option.some.inj e).symm,nofun⟩
 |str l=>exact h.str' fun _ _=>.inr ⟨(Option.some.inj e).symm,nofun⟩
 |bool l=>exact h.bool' (.inr ⟨(Option.some.inj e).symm,nofun⟩)
 |_=>exact e0 e
theorem EB (e:yx a b=some x) (h1:VR φ a ua) (h2:VR φ b ub):(Q (.bool x) sh→wpAny (model W.prog W.w) A (compareOp .Is ua ub) Q E sh)∧(Q (.bool (!x)) sh→wpAny (model W.prog W.w) A (compareOp .IsNot ua ub) Q E sh):=eT e fun hn e=>(h2.is (D7 hn)).zx ((Mg e h1).elim (fun ⟨p,q⟩=>q.symm▸p.symm▸⟨wpAny_is_self rfl,wpAny_isNot_self rfl⟩) fun ⟨p,q⟩=>p.symm▸⟨is_none_ne q,isnot_none_ne q⟩)
theorem EC (hr:dw n A) (e:cmp s.hp op a b=some x) (h1:VR φ a ua) (h2:VR φ b ub):WP W.prog W.w D A (compareOp op ua ub) φ s (fun φ' s' u=>φ'=φ∧s'=s∧u=.bool x):=by
 intro sh R;have fin:∀ y,y=x→∀ t:Nat,Res W.prog W.w D φ sh (fun φ' s' u=>φ'=φ∧s'=s∧u=.bool x) (Value.bool y) { sh with toks:=t}:=fun y q t=>iU ⟨rfl,rfl,rfl⟩ R ⟨rfl,rfl,congrArg _ q⟩;induction op with
 |Eq=>exact (Et hr R e h1 h2).1 _ _ _ _ (fin _ rfl sh.toks)
 |NotEq=>exact ah e fun y hy e=>(Et hr R hy h1 h2).2 _ _ _ _ (fin _ (Option.some.inj e) sh.toks)
 |In=>exact (EA R e h1 h2).1 (fin _ rfl)
 |NotIn=>exact ah e fun y hy e=>(EA R hy h1 h2).2 (fin _ (Option.some.inj e))
 |Is=>exact (EB e h1 h2).1 (fin _ rfl sh.toks)
 |IsNot=>exact ah e fun y hy e=>(EB hy h1 h2).2 (fin _ (Option.some.inj e) sh.toks)
 |_=>exact ah e fun i hi e=>ah e fun j hj e=>gW hi h1 fun t=>gW hj h2 fun u=>Mf e (fin _ rfl sh.toks)
end
section
variable {W:Wo} {C:Cx} {n:Nat} {D:Md} {A:Around} {env:Env} {ae:au} {φ:List Addr} {s:St} {sh:Shared}
theorem ED {x:Str} (q:x.cps.size≤100000):¬(x.length:Int)≥2 ^ 63:=by unfold Str.length;lia
theorem Mh {us:List Value} {vs:List AV} (l:us.length=vs.length) (q:vs.length≤100000):(us.toArray.size:Int) <2 ^ 63:=by rw [List.size_toArray];omega
theorem Mi (x:Str):((x.length:Int) !=0)= !Nat.beq x.cps.size 0:=by unfold Str.length;cases x.cps.size <;>rfl
theorem emp_eq {us:List Value} {vs:List AV} (l:us.length=vs.length):us.toArray.isEmpty=vs.isEmpty:=by rcases us with _|⟨u,us⟩ <;>rcases vs with _|⟨v,vs⟩ <;>first|rfl|exact nomatch l
theorem vQ {a:AV} {ua:Value} {x:Bool} (e:truthy s.hp a=some x) (h1:VR φ a ua):WP W.prog W.w D A (PySem.truthy ua) φ s (fun φ' s' u=>φ'=φ∧s'=s∧u=x):=by
 intro sh R;have fin:∀ b:Bool,some b=some x→∀ t:Nat,Res W.prog W.w D φ sh (fun φ' s' u=>φ'=φ∧s'=s∧u=x) b { sh with toks:=t}:=fun b hb t=>iU ⟨rfl,rfl,rfl⟩ R ⟨rfl,rfl,Option.some.inj hb⟩;induction a with
 |none=>exact h1.zx (truthy_none (fin _ e sh.toks))
 |bool b=>exact h1.bool' (wpAny_truthy_bool (fin _ e sh.toks))
 |int i=>exact h1.jL fun t=>PySem.P.truthy_int (fin _ ((congrArg some (congrArg not (Er i 0).symm)).trans e) sh.toks)
 |str i=>exact h1.str' fun t q=>PySem.P.truthy_str (ED q) (fin _ ((congrArg some (Mi i)).trans e) _)
 |loc l=>exact ah e fun vs hv e=>h1.loc' fun a ha=>R.listE hv ha fun us k r l q g=>wpAny_truthy_list (cQ g) (Mh l q) (fin _ ((congrArg (fun z=>some (!z)) (emp_eq l)).trans e) _)
 |_=>exact e0 e
theorem sH {slice:PySem.Expr} (hs:∀ l u p,slice≠ .Slice l u .none p) (o i:Value):subscripted slice false o i=operate [o,i] (PySem.getItem o i):=by cases slice <;>first|rfl|(rename_i l u st p;cases st with|none=>exact absurd rfl (hs l u p)|some st=>rfl)
theorem EE (b:Bool) (o i:Value):subscripted (.Slice l u .none p) b o i=operate [i,o] (PySem.getItem o i):=by cases b <;>rfl
theorem EF (h0:0≤i) (h1:i.toNat<k):seqIndex? i k=some i.toNat:=by
 unfold seqIndex?;have a:¬i<0:=by lia
 simp only [if_neg a];rw [if_pos];simp only [Bool.and_eq_true,decide_eq_true_eq];lia
theorem seqIndex_neg {i:Int} {k:Nat} (h0:i<0) (h1:0≤i+k):seqIndex? i k=some (i+k).toNat:=by unfold seqIndex?;simp only [if_pos h0];rw [if_pos];simp only [Bool.and_eq_true,decide_eq_true_eq];lia
theorem ou (h:bf i 0=false):0≤i:=by rw [dZ] at h;exact Int.not_lt.mp (of_decide_eq_false h)
theorem EG (e:charAt x k=some y):∃ c,x.cps[k]?=some c∧k<x.cps.size∧y=⟨#[c]⟩:=ah e fun c h e=>⟨c,h,(Array.getElem?_eq_some_iff.mp h).1,(Option.some.inj e).symm⟩
theorem Mj {x y:Str} {i:Int} (q:x.cps.size≤100000) (e:strAt x i=some y):∃ c,y=⟨#[c]⟩∧(decide (i< -(2 ^ 63:Int))||decide (i≥2 ^ 63))=false∧(seqIndex? i x.length).bind (x.cps[·]?)=some c:=by
 unfold strAt at e;cases hi:bf i 0 with
 |false=>
  rw [hi] at e;refine aZ (EG e) fun c h1 h2 h3=>?_;have hi:=ou hi;refine ⟨c,h3,?_,?_⟩
  ·rw [decide_eq_false (by lia),decide_eq_false (by lia)];rfl
  ·rw [show x.length=x.cps.size from rfl,EF hi h2];exact h1
 |true=>
  rw [hi] at e;have hi:i<0:=lV.mp hi;refine eE e fun hj e=>?_;refine aZ (EG e) fun c h1 h2 h3=>?_;have hj:=ou hj;refine ⟨c,h3,?_,?_⟩
  ·rw [decide_eq_false (by lia),decide_eq_false (by lia)];rfl
  ·rw [show x.length=x.cps.size from rfl,seqIndex_neg hi hj];exact h1
theorem EH {α:Type} {l:List α} {i:Int} {x:α} (q:l.length≤100000) (h0:0≤i) (e:l[i.toNat]?=some x): -(2 ^ 63)≤i∧i<2 ^ 63∧i.toNat<l.length:=by have:=(List.getElem?_eq_some_iff.mp e).1;lia
theorem Mk {us:List Value} {vs:List AV} {v:AV} (l:us.length=vs.length) (e:vs.getLast?=some v):vs[vs.length- 1]?=some v∧ -(us.toArray.size:Int)≤ -1∧((-1:Int)+us.toArray.size).toNat=vs.length- 1:=by rw [List.getLast?_eq_getElem?] at e;have:=(List.getElem?_eq_some_iff.mp e).1;rw [List.size_toArray];exact ⟨e,by lia,by lia⟩
theorem qm {us:List Value} {k:Nat} {u:Value} (h:us[k]?=some u):us.toArray[k]?=some u:=by rw [List.getElem?_toArray];exact h
theorem EI {value slice:PySem.Expr} (hs:∀ l u p,slice≠ .Slice l u .none p) {a b v:AV} {ua ub:Value} (e:getItem s.hp a b=some v) (h1:VR φ a ua) (h2:VR φ b ub):WP W.prog W.w D A (subscriptTail value slice ua ub) φ s (fun φ' s' u=>φ'=φ∧s'=s∧VR φ v u):=by
 intro sh R;have fin:∀ u:Value,VR φ v u→∀ t:Nat,Res W.prog W.w D φ sh (fun φ' s' u=>φ'=φ∧s'=s∧VR φ v u) u { sh with toks:=t}:=fun b hb t=>iU ⟨rfl,rfl,rfl⟩ R ⟨rfl,rfl,hb⟩;refine ah e fun i hi e=>gW hi h2 fun t=>?_;induction a with
 |str x=>
  refine ah e fun y hy e=>h1.str' fun t' q=>?_;refine aZ (Mj q hy) fun c z1 z2 z3=>?_;exact tail_any (typeIs_str sh x t') F.slot_str_getitem.lookup (PySem.P.getItem_str z2 z3 (fin _ (by rw [← Option.some.inj e,z1];exact .str _ _ (by decide:1≤100000)) _)) (sH hs _ _)
 |loc l=>
  refine h1.loc' fun a ha=>bA e (fun vs hv e=>R.listE hv ha fun us k r1 hl q g=>?_) fun _ e=>bA e (fun vs hv e=>R.oq hv ha fun us k r1 hl q g=>?_) fun _ e=>ah e fun d hd e=>R.qi hd ha fun o kvs hk r1 _ g=>?_
  ·unfold uM at e;cases hi:bf i 0 with
   |false=>
    rw [hi] at e;have hi:=ou hi;refine hide fun _ kk=>?_;refine aC (r1.get e) fun u hu hr=>?_;refine kk ?_;exact tail_any (cQ g).typeIs slot_list_getitem.lookup (wpAny_getItem_list (cQ g) hi (EH q hi e).2.1 (qm hu) (fin _ hr sh.toks)) (sH hs _ _)
   |true=>
    rw [hi] at e;refine eT e fun hm e=>?_;refine cP (Mk hl e) fun z1 z2 z3=>?_;refine aC (r1.get z1) fun u hu hr=>?_;rw [dI.mp hm];exact tail_any (cQ g).typeIs slot_list_getitem.lookup (wpAny_getItem_list_neg (cQ g) (by decide) z2 (by decide) (z3.symm▸qm hu) (fin _ hr sh.toks)) (sH hs _ _)
  ·refine eE e fun hi e=>?_;have hi:=ou hi;refine aC (r1.get e) fun u hu hr=>?_;refine cP (EH q hi e) fun z1 z2 z3=>?_;exact tail_any (qk g).typeIs slot_tuple_getitem.lookup (PyProof.Rows.getItem_tuple (qk g) z1 z2 (EF hi (show i.toNat<us.length from hl.symm▸z3)) (qm hu) (fin _ hr sh.toks)) (sH hs _ _)
  ·have hm:=(Heap.dictOf_iff.mpr ⟨o,g,hk⟩:sh.heap.DictOf (intKind W.prog W.w) _ kvs);refine aC (r1.find e) fun u hu hr=>?_;exact tail_any hm.typeIs slot_dict_getitem.lookup (wpAny_getItem_of (intKind_is _ _ i t) hm.mapOf hu (fin _ hr _)) (sH hs _ _)
 |_=>exact e0 e
theorem Rep.open {h:Heap} (R:Rep W.prog W.w D φ s h) {l:Nat} {ao:AO} {a:Addr} (hr:D.ro≤l) (he:s.hp[l]?=some ao) (ha:φ[l]?=some a) (hp:∀ es k,ao≠ .dict es (k+1)):∃ m os nl o,OR W.prog W.w φ ao o∧h.get? a=some o∧bH W.prog W.w D φ s h m os nl∧Wr (prog:=W.prog) (w:=W.w) D φ s m os nl l a o:=by refine hide fun _ kk=>?_;obtain ⟨m,os,nl,R⟩:=R;refine aZ (R.at he ha) fun o h1 h2 h3=>?_;refine kk ?_;exact ⟨m,os,nl,o,h2,h3,R,R.wr hr he ha h1 hp⟩
theorem Rep.qo {h:Heap} (Gl:aH W C D φ) (R:Rep W.prog W.w D φ s h) {l:Nat} {a:Addr} {vs:List AV} {ao:AO} {dz:AH} (e:bO s.hp[l]?=some vs) (ha:φ[l]?=some a) (hs:bL s.hp C.ro l ao=some dz) {P:Prop} (k:∀ m us n L F,aF φ vs us→us.length=vs.length→vs.length≤100000→h.get? a=some (listOf (List.toArray us) n)→Fr D.g D.L h m→News D.g D.L h L→UpdF a (listOf (List.toArray us) n) L F→(∀ o',Upd a (listOf (List.toArray us) n) o' L (F o'))→(∀ b o k,D.ro≤k→φ[k]?=some b→h.get? b=some o→(∃ ao,s.hp[k]?=some ao)→(b,o)∈L)→(∀ h'' o',Fr D.g D.L h'' m→News D.g D.L h'' (F o')→OR W.prog W.w φ ao o'→Rep W.prog W.w D φ { s with hp:=dz} h'')→P):P:=by
 refine cP (lX hs) fun ro q _=>?_;refine lA (R.open (Gl.ro▸ro) (lR e) ha (fun es k q=>nomatch q)) fun m os nl o q1 g R X=>?_;refine bK q1 fun us n q2 r z=>?_;exact k m us n _ _ r r.length z (q2▸g) R.fr R.news (q2▸X.qh) (fun o'=>q2▸X.upd o') (fun b o k hr hb g ⟨ao,hk⟩=>by
  refine aZ (R.at hk hb) fun o2 h1 _ h3=>?_;exact Option.some.inj (h3.symm.trans g)▸List.mem_append_left _ (List.mem_of_getElem? (i:=k- D.ro) (by rw [List.getElem?_drop,Nat.add_sub_cancel' hr,List.getElem?_zip_eq_some];exact ⟨hb,h1⟩)))
  fun h'' o' F N O=>⟨m,_,nl,q▸X.fin h'' o' ao F N O⟩
theorem Rep.EJ {h:Heap} (Gl:aH W C D φ) (R:Rep W.prog W.w D φ s h) {l:Nat} {a:Addr} {es:List (Int×AV)} {ao:AO} {dz:AH} (e:mT s.hp[l]?=some es) (ha:φ[l]?=some a) (hs:bL s.hp C.ro l ao=some dz) {P:Prop} (k:∀ m o kvs L F,o.IsDictOf (intKind W.prog W.w) kvs→b7 φ es kvs→es.length≤100000→h.get? a=some o→Fr D.g D.L h m→News D.g D.L h L→UpdF a o L F→(∀ h'' o',Fr D.g D.L h'' m→News D.g D.L h'' (F o')→OR W.prog W.w φ ao o'→Rep W.prog W.w D φ { s with hp:=dz} h'')→P):P:=by refine cP (lX hs) fun ro q _=>?_;refine lA (R.open (Gl.ro▸ro) (zw e) ha (fun es k q=>nomatch q)) fun m os nl o q1 g R X=>?_;refine aZ q1 fun kvs hd r z=>?_;exact k m o kvs _ _ hd r z g R.fr R.news X.qh fun h'' o' F N O=>⟨m,_,nl,q▸X.fin h'' o' ao F N O⟩
theorem Rep.Ml {h:Heap} (Gl:aH W C D φ) (R:Rep W.prog W.w D φ s h) {l:Nat} {a:Addr} {xs:List Int} {ao:AO} {dz:AH} (e:pD s.hp[l]?=some xs) (ha:φ[l]?=some a) (hs:bL s.hp C.ro l ao=some dz) {P:Prop} (k:∀ m o L F,o.SetObjOf (intKind W.prog W.w) (fun k=>iA k xs) xs.length→xs.length≤61→h.get? a=some o→Fr D.g D.L h m→News D.g D.L h L→UpdF a o L F→(∀ h'' o',Fr D.g D.L h'' m→News D.g D.L h'' (F o')→OR W.prog W.w φ ao o'→Rep W.prog W.w D φ { s with hp:=dz} h'')→P):P:=by refine cP (lX hs) fun ro q _=>?_;refine lA (R.open (Gl.ro▸ro) (D8 e) ha (fun es k q=>nomatch q)) fun m os nl o q1 g R X=>?_;refine aN q1 fun hS hz=>?_;exact k m o _ _ hS hz g R.fr R.news X.qh fun h'' o' F N O=>⟨m,_,nl,q▸X.fin h'' o' ao F N O⟩
theorem Mm (Gl:aH W C D φ) {a b v:AV} {ua ub uv:Value} {h':AH} (e:setItem C s.hp a b v=some h') (h1:VR φ a ua) (h2:VR φ b ub) (h3:VR φ v uv):WP W.prog W.w D A (PySem.setItem ua ub uv) φ s (fun φ' s' _=>φ'=φ∧s'={ s with hp:=h'}):=by
 intro sh R;refine ah e fun l hl e=>ah e fun i hi e=>gC hl h1 fun a ha=>gW hi h2 fun t=>bA e (fun vs hv e=>?_) fun _ e=>ah e fun es hd e=>?_
 ·refine eE e fun hc e=>R.qo Gl hv ha e fun m us k L F r1 len q g Fr N X _ _ fin=>?_;rw [Bool.or_eq_false_iff] at hc;have hi:0≤i:=ou hc.1;have hb:i.toNat<vs.length:=Nat.le_of_ble_eq_true ((Bool.not_eq_false' _).mp hc.2);have hs:us.toArray.size=us.length:=List.size_toArray;refine ki_setAt g hi (by lia) (by lia) ?_;refine fK X.split fun pre post e1 e2 q1 q2=>?_;rw [e1] at N;have z:=N (_,_) (List.mem_append_right _ (.head _));exact ⟨⟨rfl,rfl,rfl⟩,φ,_,.refl _,fin _ (listOf (us.set i.toNat uv).toArray k) (Fr.change (Heap.SameBut.update ..) z.2.1 z.2.2) ((e2 (listOf (us.set i.toNat uv).toArray k)).symm▸ki_turn _ N q1 q2 (List.setIfInBounds_toArray ..) (by simp)) ⟨_,_,rfl,r1.set h3 _,(List.length_set).symm▸q⟩,rfl,rfl⟩
 ·refine eT e fun hlim e=>R.EJ Gl hd ha e fun m o kvs L F hk r1 q g Fr N X fin=>?_;exact kda_set Fr N X hk (intKind_is _ _ i t) (cW (Nat.le_trans (Nat.le_of_eq r1.length) (Nat.le_trans q (by decide)))) fun h' o' F' N' hd'=>⟨⟨rfl,rfl,rfl⟩,φ,_,.refl _,fin h' o' F' N' ⟨_,hd',r1.store h3 (zC hk),Nat.le_trans (zB i v es) (gD hlim)⟩,rfl,rfl⟩
theorem EK (h:small i=true): -1000000000000<i∧i<1000000000000:=by unfold small at h;rw [Bool.and_eq_true] at h;exact ⟨lV.mp h.1,lV.mp h.2⟩
theorem kj (R:Rep W.prog W.w D φ s h) (l:Addr):VR (φ++[l]) (.loc s.hp.length) (.ref l):=by obtain ⟨_,_,_,R⟩:=R;refine .loc ?_;rw [← R.br];simp
end
end EV
namespace EV
open PySem PySem.W PySem.Calls PyProof.Rows PySem.Builtin PySem.Builtin.Str
section
variable {W:Wo} {C:Cx} {n:Nat} {D:Md} {A:Around} {env:Env} {ae:au} {φ:List Addr} {s:St} {sh:Shared}
theorem OR.ofList (h:aF φ vs us) (l:vs.length≤100000):OR prog w φ (.list vs) (PySem.W.listOf us.toArray k):=⟨us,k,rfl,h,l⟩
theorem OR.zD (h:aF φ vs us) (l:vs.length≤100000):OR prog w φ (.tup vs) (n9 us.toArray k):=⟨us,k,rfl,h,l⟩
theorem EL (xs:List AV):∀ n:Nat,(repl xs n).length=xs.length*n
 |0=>by simp [repl]
 |n+1=>by rw [repl,List.length_append,EL xs n,Nat.mul_succ];(exact Nat.add_comm ..)
theorem aF.repl (h:aF φ xs us):∀ n:Nat,∃ vs:List Value,(List.foldl (fun x1 x2=>x1++x2) #[] (List.replicate n us.toArray))=vs.toArray∧aF φ (repl xs n) vs:=by
 have gen:∀(n:Nat) (acc:List Value),(List.foldl (fun x1 x2=>x1++x2) acc.toArray (List.replicate n us.toArray))=(acc++(List.replicate n us).flatten).toArray:=by
  intro n;induction n with
  |zero=>intro acc;simp
  |succ n ih=>
   intro acc;rw [List.replicate_succ,List.foldl_cons];have:acc.toArray++us.toArray=(acc++us).toArray:=by simp
   rw [this,ih,List.replicate_succ,List.flatten_cons];simp
 intro n;refine ⟨(List.replicate n us).flatten,by rw [show (#[]:Array Value)=([]:List Value).toArray from rfl,gen];simp,?_⟩;induction n with
 |zero=>exact .nil
 |succ n ih=>rw [EV.repl,List.replicate_succ,List.flatten_cons];exact h.append ih
theorem Mn (hb:¬b<0) (h:Q (.int (rsh a b) sh.toks) { sh with toks:=sh.toks+1}):
  wpAny (model prog w) A (binaryOp .RShift (.int a t) (.int b u)) Q E sh:=by
 refine AutoIntOpsIf.rshift ?_;rw [if_neg hb];unfold rsh at h;rw [dZ] at h;by_cases q:b< (Builtin.Int.intBits a:Nat)
 ·rw [decide_eq_true q] at h;rw [if_neg (by lia)];exact h
 ·rw [decide_eq_false q] at h;rw [if_pos (by lia)];rw [dZ] at h;by_cases z:a<0
  ·rw [decide_eq_true z] at h;rw [if_pos z];exact h
  ·rw [decide_eq_false z] at h;rw [if_neg z];exact h
theorem Mp (h:iE a 0=false):a≠0:=by rw [lU] at h;exact of_decide_eq_false h
theorem EM (e:binI op a b=some v) (k:∀ t t',Q (.int v t) { sh with toks:=t'}):wpAny (model W.prog W.w) A (binaryOp op (.int a t) (.int b u)) Q E sh:=by
 induction op with
 |Add=>exact add_int (iS (G:=fun v=>∀ t t',Q (.int v t) { sh with toks:=t'}) e.symm k _ _)
 |Sub=>exact PyProof.Rows.sub_int (iS (G:=fun v=>∀ t t',Q (.int v t) { sh with toks:=t'}) e.symm k _ _)
 |Mult=>exact eT e fun hs e=>PyProof.Rows.mul_int (iS (G:=fun v=>∀ t t',Q (.int v t) { sh with toks:=t'}) e.symm k _ _) (.of_left (by
   rw [Bool.and_eq_true] at hs;have:=EK hs.1;exact intBits_le_64 (by lia) (by lia)))
 |Mod=>exact eE e fun hb e=>mod_int' (Mp hb) (iS (G:=fun v=>∀ t t',Q (.int v t) { sh with toks:=t'}) e.symm k _ _)
 |RShift=>exact eE e fun hb e=>Mn (Int.not_lt.mpr (ou hb)) (iS (G:=fun v=>∀ t t',Q (.int v t) { sh with toks:=t'}) e.symm k _ _)
 |BitAnd=>exact and_int (iS (G:=fun v=>∀ t t',Q (.int v t) { sh with toks:=t'}) e.symm k _ _)
 |BitOr=>exact or_int (iS (G:=fun v=>∀ t t',Q (.int v t) { sh with toks:=t'}) e.symm k _ _)
 |_=>exact e0 e
theorem EN (h:isAdd o=true):o=.Add:=by
 induction o with
 |Add=>rfl
 |_=>exact Bool.noConfusion h
theorem Mq (h:isMul o=true):o=.Mult:=by
 induction o with
 |Mult=>rfl
 |_=>exact Bool.noConfusion h
theorem Rep.newL {h h'':Heap} {m:Str→Option Value} {os:List Obj} {nl:List (Addr×Obj)} (R:bH W.prog W.w D φ s h m os nl) {vs:List AV} {us:List Value} {k:Nat} (r:aF φ vs us) (l:vs.length≤100000) (F:Fr D.g D.L h'' m) (N:News D.g D.L h'' ((h.objs.size,PySem.W.listOf us.toArray k)::((φ.zip os).drop D.ro++nl))) {sh sh':Shared} (hh:sh.heap=h) (hs:sh'={ sh with heap:=h'',toks:=sh'.toks}) {dz:AH} {v:AV} (e:some (EV.newL s.hp vs)=some (v,dz)):Res W.prog W.w D φ sh (Val { s with hp:=dz} v) (.ref h.objs.size) sh':=by subst hh;rw [hs];exact gh (G:=fun v dz=>Res W.prog W.w D φ sh (Val { s with hp:=dz} v) (.ref sh.heap.objs.size) { sh with heap:=h'',toks:=sh'.toks}) e ⟨⟨rfl,rfl,rfl⟩,_,_,Ext.app φ [sh.heap.objs.size],⟨m,_,nl,R.alloc F N (ng R R.lt_size) R.hsz (OR.ofList (r.mono (Ext.app _ _)) l)⟩,rfl,kj ⟨m,os,nl,R⟩ _⟩
theorem EO:∀ k,repl ([]:List AV) k=[]
 |0=>rfl
 |k+1=>EO k
theorem Mr (r:aF φ xs us) (k:Nat):∃ vs:List Value,(List.foldl (fun x1 x2=>x1++x2) #[] (List.replicate (if us.toArray.isEmpty=true then 0 else k) us.toArray))=vs.toArray∧aF φ (repl xs k) vs:=by
 by_cases hz:us.toArray.isEmpty=true
 ·rw [if_pos hz];have l:=r.length;rcases us with _|⟨u,us⟩
  ·rcases xs with _|⟨x,xs⟩
   ·exact ⟨[],rfl,by rw [EO];exact .nil⟩
   ·exact nomatch l
  ·exact Bool.noConfusion hz
 ·rw [if_neg hz];exact r.repl _
theorem Ms (hc:(!(bf x 0||bf 1000 x|| !Nat.ble k 100))=true):0≤x∧x≤1000∧k≤100∧k*x.toNat≤100000:=by simp only [Bool.not_or,Bool.not_not,Bool.and_eq_true,Bool.not_eq_true',dZ,decide_eq_false_iff_not] at hc;have hc3:k≤100:=Nat.le_of_ble_eq_true hc.2;have ZV:k*x.toNat≤100*1000:=Nat.mul_le_mul hc3 (by lia);lia
theorem Mt (R:Rep W.prog W.w D φ s sh.heap) (e:yy s.hp op xs x=some (v,h')) (r:aF φ xs us) (len:us.length=xs.length) (g:sh.heap.get? b=some (PySem.W.listOf us.toArray k)):wpAny (model W.prog W.w) A (binaryOp op (.ref b) (.int x t)) (Res W.prog W.w D φ sh (Val { s with hp:=h'} v)) (fun _ _=>False) sh:=by refine eT e fun hc e=>?_;rw [Bool.and_eq_true] at hc;rw [Mq hc.1];refine nQ (Ms hc.2) fun c1 c2 c3 c4=>?_;obtain ⟨m,os,nl,Rw⟩:=R;refine aC (Mr r x.toNat) fun vs hv1 hv2=>?_;refine PyProof.Rows.mul_list Rw.fr Rw.news g (by lia) (by lia) (by simp only [List.size_toArray,len];(exact Nat.le_trans c4 (by decide))) (fun h'' F' N'=>?_);rw [hv1] at N';exact Rep.newL Rw hv2 (by rw [EL];exact c4) F' N' rfl rfl e
theorem Mu (R:Rep W.prog W.w D φ s sh.heap) (e:uL s.hp op xs ys=some (v,h')) (r:aF φ xs us) (len:us.length=xs.length) (g:sh.heap.get? b=some (PySem.W.listOf us.toArray k)) (r':aF φ ys us') (len':us'.length=ys.length) (g':sh.heap.get? b'=some (PySem.W.listOf us'.toArray k')):wpAny (model W.prog W.w) A (binaryOp op (.ref b) (.ref b')) (Res W.prog W.w D φ sh (Val { s with hp:=h'} v)) (fun _ _=>False) sh:=by refine eT e fun hc e=>?_;rw [Bool.and_eq_true] at hc;rw [EN hc.1];have hl:=gD hc.2;obtain ⟨m,os,nl,Rw⟩:=R;exact add_lists Rw.fr Rw.news (cQ g) (cQ g') (fun h'' F' N'=>Rep.newL Rw (k:=0) (r.append r') (List.length_append▸hl) F' N' rfl rfl e) (cW (by rw [len,len'];(exact Nat.le_trans hl (by decide))))
theorem ER (e:binop s.hp op a b=some (v,h')) (h1:VR φ a ua) (h2:VR φ b ub):WP W.prog W.w D A (binaryOp op ua ub) φ s (Val { s with hp:=h'} v):=by
 intro sh R;induction a with
 |int i=>exact ah e fun j hj e=>ah e fun x hx e=>h1.jL fun t=>gW hj h2 fun u=>EM hx fun t t'=>gh (G:=fun v hp=>Res W.prog W.w D φ sh (Val { s with hp:=hp} v) (.int x t) { sh with toks:=t'}) e (jM ⟨rfl,rfl,rfl⟩ (.refl _) R (.int _ _))
 |str x=>
  refine ah e fun y hy e=>ah e fun z hz e=>eT hz fun hc hz=>h1.str' fun t q=>m9 hy h2 fun u q'=>?_;rw [Bool.and_eq_true] at hc;rw [EN hc.1];have hl:=gD hc.2;refine PyProof.Rows.add_str (fun t' tk=>gh (G:=fun v hp=>Res W.prog W.w D φ sh (Val { s with hp:=hp} v) _ _) e (Option.some.inj hz▸jM ⟨rfl,rfl,rfl⟩ (.refl _) R (.str _ _ ?_))) (cW (by unfold Str.length;(exact Nat.le_trans hl (by decide))));show (Str.append _ _).cps.size≤_;unfold Str.append;simpa using hl
 |loc l=>
  refine ah e fun xs hx e=>h1.loc' fun a ha=>R.listE hx ha fun us k r len _ g=>bA e (fun n hn e=>?_) fun _ e=>ah e fun ys hy e=>?_
  ·exact gW hn h2 fun t=>Mt R e r len g
  ·exact R.qj hy h2 fun a' us' k' r' len' _ g'=>Mu R e r len g r' len' g'
 |_=>exact e0 e
theorem Mv:WP W.prog W.w D A (unaryOp .USub (.int i t)) φ s (Val s (.int (-i))):=fun sh R=>PySem.P.neg_int (iU ⟨rfl,rfl,rfl⟩ R ⟨rfl,.int _ _⟩)
theorem aF.drop (h:aF φ xs us):∀ k:Nat,aF φ (xs.drop k) (us.drop k):=by
 induction h with
 |nil=>intro k;simp;exact .nil
 |cons a r ih=>intro k;cases k with|zero=>exact .cons a r|succ k=>exact ih k
theorem aF.take (h:aF φ xs us):∀ k:Nat,aF φ (xs.take k) (us.take k):=by
 induction h with
 |nil=>intro k;simp;exact .nil
 |cons a r ih=>intro k;cases k with|zero=>exact .nil|succ k=>exact .cons a (ih k)
theorem indices_eq (lo hi:Option Int) (n:Nat):strSliceIndices lo hi 1 n=sliceRange (sliceBounds lo hi none n).1 (sliceBounds lo hi none n).2.1 (sliceBounds lo hi none n).2.2:=rfl
theorem Mw (x:Str) (lo hi:Option Int):Txt.slice x lo hi=⟨(dD lo hi x.cps.toList).toArray⟩:=by
 have e:(strSliceIndices lo hi 1 x.length).filterMap (x.cps[·]?)=dD lo hi x.cps.toList:=by rw [indices_eq,kms_bounds];show (sliceRange ((kms_lo lo x.length:Nat):Int) ((kms_hi hi x.length:Nat):Int) 1).filterMap (x.cps[·]?)=_;rw [sliceRange_one,pick_run];unfold dD;rw [Array.length_toList];rfl
 unfold Txt.slice;split
 ·rename_i h;have hl:(strSliceIndices lo hi 1 x.length).length=x.length:=by simpa using h
  rw [indices_eq,kms_bounds] at hl;have hl:(sliceRange ((kms_lo lo x.length:Nat):Int) ((kms_hi hi x.length:Nat):Int) 1).length=x.length:=hl;rw [sliceRange_one] at hl;simp only [List.length_map,List.length_range] at hl;have b1:kms_hi hi x.length≤x.length:=by unfold kms_hi;split;exact Nat.le_refl _;split <;>omega
  unfold dD;rw [Array.length_toList];have:x.cps.size=x.length:=rfl;rw [this];by_cases z:x.length=0
  ·have:x.cps= #[]:=by apply Array.eq_empty_of_size_eq_zero;exact z
   cases x;simp at this;subst this;simp
  ·have h1:kms_lo lo x.length=0:=by lia
   have h2:kms_hi hi x.length=x.length:=by lia
   rw [h1,h2,List.drop_zero,Nat.sub_zero,List.take_of_length_le (by rw [Array.length_toList];exact Nat.le_refl _)]
 ·rw [e]
theorem ES (lo hi:Option Int) (l:List α):(dD lo hi l).length≤l.length:=by unfold dD;rw [List.length_take,List.length_drop];lia
theorem part_of (e:rQ a=some x) (h:VR φ a u):IsPart u x:=by
 induction a with
 |none=>exact h.zx (Option.some.inj e▸ .none)
 |int i=>exact h.jL fun t=>Option.some.inj e▸ .int _ _
 |_=>exact e0 e
theorem ET (h:IsPart u x):∃ y:Option (Int×Tok),u=partValue y∧y.map (·.1)=x:=by
 cases h with
 |none=>exact ⟨none,rfl,rfl⟩
 |int i t=>exact ⟨some (i,t),rfl,rfl⟩
theorem Mx {value:PySem.Expr} {l u:Option PySem.Expr} {p:Pos} {a lo up v:AV} {ua ul uu:Value} {h':AH} (e:slice s.hp a lo up=some (v,h')) (h1:VR φ a ua) (h2:VR φ lo ul) (h3:VR φ up uu):∀ sh,Rep W.prog W.w D φ s sh.heap→wpAny (model W.prog W.w) A (newFields "slice" [ul,uu,.none]) (fun i sh'=>wpAny (model W.prog W.w) A (subscriptTail value (.Slice l u .none p) ua i) (Res W.prog W.w D φ sh (Val { s with hp:=h'} v)) (fun _ _=>False) sh') (fun _ _=>False) sh:=by
 intro sh R;refine wpAny_newObj_type ?_ (by show (3:Nat)≤sizeLine+2;decide);have R':=R.push { cls:=.type "slice",data:=.fields #[ul,uu,.none]};refine ah e fun xl hl e=>ah e fun xu hu e=>?_;have p1:=part_of hl h2;have p2:=part_of hu h3;induction a with
 |str x=>
  refine h1.str' fun t hx=>?_;refine aC (ET p1) fun yl el pl=>?_;refine aC (ET p2) fun yu eu pu=>?_;have key:sliceMade x t yl yu none=(if ((1:Int)==1&&(strSliceIndices xl xu 1 x.length).length==x.length)=true then .val (.str x t) else .str ⟨((strSliceIndices xl xu 1 x.length).filterMap (x.cps[·]?)).toArray⟩):=by unfold sliceMade slicePicked;rw [pl,pu];rfl
  refine tail_any (typeIs_str _ x t) F.slot_str_getitem.lookup (wpAny_getItem_str_slice (l:=yl) (u:=yu) (st:=none) ⟨_,Heap.get?_push_size _ rfl,rfl,by rw [el,eu];rfl⟩ rfl ?_) (EE _ _ _);rw [key];have q1:=Txt.slice_le x xl xu;have q2:=Mw x xl xu;unfold Txt.slice at q1 q2;refine post_val_or_str ⟨Nat.le_trans q1 (cW (Nat.le_trans hx (by decide))),fun t' k=>?_⟩;rw [q2];exact gh (G:=fun v hp=>Res W.prog W.w D φ sh (Val { s with hp:=hp} v) _ _) e ⟨⟨rfl,rfl,rfl⟩,φ,s,.refl _,R',rfl,.str _ _ (by have:=ES xl xu x.cps.toList;rw [Array.length_toList] at this;exact Nat.le_trans (Nat.le_of_eq (List.size_toArray ..)) (Nat.le_trans this hx))⟩
 |loc l=>
  refine h1.loc' fun b ha=>ah e fun vs hv e=>R'.listE hv ha fun us k r1 len q g=>?_;refine tail_any (cQ g).typeIs slot_list_getitem.lookup (wpAny_getItem_list_slice (cQ g) ⟨_,Heap.get?_push_size _ rfl,rfl,rfl⟩ p1 p2 .none (by simp) ?_ (hsz:=cW (by simp only [List.size_toArray];lia))) (EE _ _ _);have r2:aF φ (dD xl xu vs) (kms_pick us xl xu):=by unfold dD kms_pick;rw [len];exact (r1.drop _).take _
  rw [kms_pick_eq];exact gh (G:=fun v hp=>Res W.prog W.w D φ sh (Val { s with hp:=hp} v) _ _) e ⟨⟨rfl,rfl,rfl⟩,_,_,Ext.app φ _,R'.kP (OR.ofList (k:=0) (r2.mono (Ext.app _ _)) (Nat.le_trans (ES _ _ _) q)),rfl,kj R' _⟩
 |_=>exact e0 e
end
end EV
namespace EV
open PySem
section
variable (C:Cx) (n:Nat) (ae:au) (s:St)
theorem EU (t:PySem.Expr) (b o:List Stmt):(run C (n+1)).wh t b o ae s=pO (run C n) t b o ae s:=rfl
theorem sI (t:PySem.Expr) (it:It) (b o:List Stmt):(run C (n+1)).fo t it b o ae s=lP C (run C n) t it b o ae s:=rfl
theorem qp (e:PySem.Expr) (d:Nat) (it:It) (a:Nat):(run C (n+1)).co e d it a ae s=pL C (run C n) e d it a ae s:=rfl
theorem My:(run C n).fu=n:=by induction n with
 |zero=>rfl
 |succ n ih=>show (run C n).fu+1=_;rw [ih]
end
theorem qt:∀ a b:List Nat,lE a b=decide (a=b)
 |[],[]=>rfl
 |[],_::_=>rfl
 |_::_,[]=>rfl
 |x::r,y::t=>by
  show (match Nat.beq x y with|true=>lE r t|false=>false)=_;cases h:Nat.beq x y with
  |true=>
   have:=Nat.eq_of_beq_eq_true h;subst this;simp [qt r t]
  |false=>
   have:=Nat.ne_of_beq_eq_false h;simp [this]
theorem toNat_inj {a b:Char} (h:a.toNat=b.toNat):a=b:=Char.ext (UInt32.toNat_inj.mp h)
theorem EW:∀{a b:List Char},a.map Char.toNat=b.map Char.toNat→a=b
 |[],[],_=>rfl
 |[],_::_,h=>by cases h
 |_::_,[],h=>by cases h
 |x::r,y::t,h=>by
  simp only [List.map_cons,List.cons.injEq] at h;rw [toNat_inj h.1,EW h.2]
theorem ZW (h:Str.ofString a=Str.ofString b):a=b:=by rw [PySem.Str.ofString_eq_toList,PySem.Str.ofString_eq_toList] at h;have h1:=congrArg (fun s:Str=>s.cps.toList) h;have h2:=EW h1;exact String.toList_inj.mp h2
theorem vR (a b:Str):sE a b=sE b a:=by unfold sE;rw [qt,qt];exact decide_eq_decide.mpr eq_comm
theorem EX (h:sE a b=true):sE a c=sE b c:=by unfold sE at*;rw [qt] at h;rw [of_decide_eq_true h]
theorem aL (x y:Str) (v:α):∀ l:List (Str×α),lk (put l x v) y=match sE y x with|true=>some v|false=>lk l y
 |[]=>rfl
 |p::r=>by
  unfold put;split
  ·rename_i h;show (match sE y p.1 with|true=>some v|false=>lk r y)=match sE y x with|true=>some v|false=>(match sE y p.1 with|true=>some p.2|false=>lk r y)
   rw [vR y p.1,vR y x,EX h];cases sE p.1 y <;>rfl
  ·rename_i h;show (match sE y p.1 with|true=>some p.2|false=>lk (put r x v) y)=match sE y x with|true=>some v|false=>(match sE y p.1 with|true=>some p.2|false=>lk r y)
   cases h1:sE y p.1 with
   |true=>
    have:sE y x=false:=by
     cases h2:sE y x with
     |false=>rfl
     |true=>
      rw [vR] at h1 h2;rw [EX h2] at h;rw [vR,h] at h1;cases h1
    rw [this]
   |false=>exact aL x y v r
noncomputable def dJ (x y:Str):Int:=match sE x y with|true=>0|false=>match sE (Txt.lower x) (Txt.lower y) with|true=>1|false=>2
noncomputable def out (r:Option (Fl×St)):Option (AV×AH):=aV r za
theorem vU (k:alt (vp C (run C n) a vs h) some (alt (C.fn a) (fun fn=>fE C (run C n) fn vs h) (ob (C.cls a) fun k=>make C (run C n) k a vs h))=z):(run C (n+1)).ca (.fix (.ref a)) vs h=z:=k
theorem zE (b:Bool):(match b with|true=>none|false=>none:Option β)=none:=by cases b <;>rfl
noncomputable def bh (f:Fn):au:=⟨f.names,[],true⟩
theorem Mz (f:Fn):(bh f).quiet=true:=rfl
noncomputable def aY (l:List Stmt) (i:Nat):Stmt:=l.getD i default
noncomputable def fG:Stmt→PySem.Expr
 | .While t _ _ _=>t
 | .For t _ _ _ _=>t
 | .If t _ _ _=>t
 |_=>default
noncomputable def bX:Stmt→List Stmt
 | .While _ b _ _=>b
 | .For _ _ b _ _=>b
 | .If _ b _ _=>b
 |_=>[]
noncomputable def eO:Stmt→PySem.Expr
 | .For _ i _ _ _=>i
 |_=>default
theorem lZ (h:AH) (a b:Int):binop h .Add (.int a) (.int b)=some (.int (a+b),h):=rfl
theorem nh (h:AH) (a b:Int):binop h .Sub (.int a) (.int b)=some (.int (a- b),h):=rfl
theorem qu (h:AH) (a b:Int):binop h .BitAnd (.int a) (.int b)=some (.int (Builtin.bitAnd a b),h):=rfl
theorem MA (h:AH) (a b:Int):binop h .Mod (.int a) (.int b)=match iE b 0 with|true=>.none|false=>some (.int (Int.fmod a b),h):=by show ob (match iE b 0 with|true=>none|false=>some (Int.fmod a b)) _=_;cases iE b 0 <;>rfl
theorem MB (h:AH) (a b:Int):binop h .RShift (.int a) (.int b)=match bf b 0 with|true=>.none|false=>some (.int (rsh a b),h):=by show ob (match bf b 0 with|true=>none|false=>some (rsh a b)) _=_;cases bf b 0 <;>rfl
theorem ow (h:AH) (s:Str) (i:Int):getItem h (.str s) (.int i)=match strAt s i with|some x=>some (.str x)| .none=>.none:=by show ob (strAt s i) _=_;cases strAt s i <;>rfl
theorem jr (h:AH) (l:Nat) (i:Int):getItem h (.loc l) (.int i)=yz h[l]? i:=rfl
theorem MC (k:Nat):jo (CQ k) (.fix (.ref 36))=true:=rfl
theorem fH (C:Cx) (f:String):jo C (.fix (.builtin f))=true:=rfl
theorem EY (C:Cx) (f:String):jo C (.fix (.type f))=true:=rfl
theorem vV (h:AH) (a b:Int):cmp h .Lt (.int a) (.int b)=some (bf a b):=rfl
theorem oz (h:AH) (a b:Int):cmp h .Gt (.int a) (.int b)=some (bf b a):=rfl
theorem ni (h:AH) (a b:Int):cmp h .GtE (.int a) (.int b)=some (!bf a b):=rfl
theorem iV (h:AH) (a b:Int):cmp h .Eq (.int a) (.int b)=some (iE a b):=rfl
theorem nj (h:AH) (a b:Str):cmp h .Eq (.str a) (.str b)=some (sE a b):=rfl
theorem MD (h:AH) (a b:Int):cmp h .NotEq (.int a) (.int b)=some (!iE a b):=rfl
theorem vW (C:Cx) (h:AH) (x:Str) (s:Str):kJ C h x (.str s)=none:=rfl
theorem vX (h:AH) (s:Str):mU h (Str.ofString "lower") (.str s)=some .lower:=rfl
theorem EZ (h:AH) (s:Str):mU h (Str.ofString "join") (.str s)=some .join:=rfl
theorem ME (C:Cx) (h:AH) (s:Str):j6 C h .lower (.str s) []=match lim (Txt.lower s).cps.size&&lim s.cps.size with|true=>some (.str (Txt.lower s),h)|false=>.none:=rfl
theorem E0 (h:AH) (i:Int):truthy h (.int i)=some (!iE i 0):=rfl
noncomputable def T (l:List Nat):Str:=⟨l.toArray⟩
theorem truthy_T (h:AH) (l:List Nat):truthy h (.str (T l))=some (!l.isEmpty):=by cases l <;>rfl
theorem E1 (j:Nat):bf (j:Int) 0=false:=rfl
theorem MF (k:Nat) (R:Rec) (a b:Str) (h:AH):fE (CQ k) R iQ [.str a,.str b] h=out (R.ex iQ.body (bh iQ) ⟨[(S "ch_a",.str a),(S "ch_b",.str b)],h++[]⟩):=rfl
noncomputable def iF (a:Str):Prop:=lim (Txt.lower a).cps.size=true∧lim a.cps.size=true
section
variable {C:Cx} {n:Nat} {ae:au} {s s1 s2 s3 s4:St} {e l r x y:PySem.Expr} {v a b:AV} {p q:Pos}
theorem bx {k}:(run C (n+1)).ev (.Constant (.int i) k p) ae s=some (.int i,s):=rfl
theorem zF {k}:(run C (n+1)).ev (.Constant .none k p) ae s=some (.none,s):=rfl
theorem E2 {k}:(run C (n+1)).ev (.Constant (.bool c) k p) ae s=some (.bool c,s):=rfl
theorem jN {k} (h:lim z.cps.size=true):(run C (n+1)).ev (.Constant (.str z) k p) ae s=some (.str z,s):=by show (match lim z.cps.size with|true=>some (AV.str z,s)|false=>none)=_;rw [h]
theorem aq (h:load C ae z s=some v):(run C (n+1)).ev (.Name z p) ae s=some (v,s):=by show (match load C ae z s with|some v=>some (v,s)|none=>none)=_;rw [h]
theorem az (k:lk ae.names z=some .local) (h:lk g z=some v):load C ae z ⟨g,h'⟩=some v:=aG k h
theorem bR (k:lk ae.names z=some .globalImplicit) (h:lk C.glob z=some v):load C ae z s=some v:=aG k h
theorem b8:lk (put lo z v) z=some v:=by rw [aL,iB]
theorem bT (h:sE z w=false) (k:lk lo z=some u):lk (put lo w v) z=some u:=by rw [aL,h];exact k
theorem cg (k:lk ae.names z=some .local):store C ae z v ⟨g,h⟩=some ⟨put g z v,h⟩:=aG k rfl
theorem bV (h1:(run C n).ev l ae s=some (a,s1)) (h2:(run C n).ev r ae s1=some (b,⟨g,h⟩)) (h3:binop h o a b=some (w,h')):(run C (n+1)).ev (.BinOp l o r p) ae s=some (w,⟨g,h'⟩):=by show (match (run C n).ev l ae s with|some (a,s)=>(match (run C n).ev r ae s with|some (b,s)=>(match binop s.hp o a b with|some (v,h)=>some (v,{ s with hp:=h})|none=>none)|none=>none)|none=>none)=_;rw [h1];dsimp only;rw [h2];dsimp only;rw [h3]
theorem bD (hd:lH r=false) (h1:(run C n).ev l ae s=some (a,s1)) (h2:(run C n).ev r ae s1=some (b,s2)) (h3:cmp s2.hp o a b=some c):n6 (run C n) ae l o r s=some (c,s2):=by unfold n6;rw [hd];exact bG h1 (bG h2 (aG h3 rfl))
theorem MG (h:n6 (run C n) ae l o r s=some (c,s2)):(run C (n+1)).ev (.Compare l [o] [r] p) ae s=some (.bool c,s2):=by show (match n6 (run C n) ae l o r s with|some (x,s)=>some (AV.bool x,s)|none=>none)=_;rw [h]
theorem bF (h:n6 (run C n) ae l o r s=some (c,s2)):(run C (n+1)).tr (.Compare l [o] [r] p) ae s=some (c,s2):=h
theorem MH (h:(run C n).tr x ae s=some (c,s1)):(run C (n+1)).tr (.UnaryOp .Not x p) ae s=some (!c,s1):=by show (match (run C n).tr x ae s with|some (b,s)=>some (!b,s)|none=>none)=_;rw [h]
theorem jO (h:allTrue (run C n) ae o vs s=some (c,s1)):(run C (n+1)).tr (.BoolOp o vs p) ae s=some (c,s1):=h
theorem zG:allTrue (run C n) ae .And [] s=some (true,s):=rfl
theorem vY:allTrue (run C n) ae .Or [] s=some (false,s):=rfl
theorem jP (h:(run C n).tr x ae s=some (true,s1)) (k:allTrue (run C n) ae .And vs s1=z):allTrue (run C n) ae .And (x::vs) s=z:=bG h k
theorem jt (h:(run C n).tr x ae s=some (false,s1)):allTrue (run C n) ae .And (x::vs) s=some (false,s1):=bG h rfl
theorem nk (h:(run C n).tr x ae s=some (false,s1)) (k:allTrue (run C n) ae .Or vs s1=z):allTrue (run C n) ae .Or (x::vs) s=z:=bG h k
theorem ZX (h:(run C n).tr x ae s=some (true,s1)):allTrue (run C n) ae .Or (x::vs) s=some (true,s1):=bG h rfl
theorem vZ (h:z=some (v,s1)) (k:truthy s1.hp v=some c):(match (generalizing:=false) z with|some (v,s)=>(match truthy s.hp v with|some b=>some (b,s)|none=>none)|none=>none)=some (c,s1):=by rw [h];dsimp only;rw [k]
theorem v5 (h:(run C n).ev (.Name z p) ae s=some (v,s1)) (k:truthy s1.hp v=some c):(run C (n+1)).tr (.Name z p) ae s=some (c,s1):=vZ h k
theorem kT (h:(run C n).ev (.Subscript x y p) ae s=some (v,s1)) (k:truthy s1.hp v=some c):(run C (n+1)).tr (.Subscript x y p) ae s=some (c,s1):=vZ h k
theorem E3 (h:(run C n).ev (.BinOp x o y p) ae s=some (v,s1)) (k:truthy s1.hp v=some c):(run C (n+1)).tr (.BinOp x o y p) ae s=some (c,s1):=vZ h k
theorem ZY {ks} (h:(run C n).ev (.Call x as ks p) ae s=some (v,s1)) (k:truthy s1.hp v=some c):(run C (n+1)).tr (.Call x as ks p) ae s=some (c,s1):=vZ h k
theorem bS (hs:isSlice y=false) (h1:(run C n).ev x ae s=some (a,s1)) (h2:(run C n).ev y ae s1=some (b,s2)) (h3:getItem s2.hp a b=some v):(run C (n+1)).ev (.Subscript x y p) ae s=some (v,s2):=by show vf (run C n) x y ae s=_;unfold vf;rw [hs];show vd (run C n) x y ae s=_;unfold vd;rw [h1];dsimp only;rw [h2];dsimp only;rw [h3]
theorem gX (h:(run C n).ev z ae s=some (v,s1)):lI (run C n) ae (some z) s=some (v,s1):=h
theorem gY:lI (run C n) ae none s=some (.none,s):=rfl
theorem gZ (h1:(run C n).ev x ae s=some (a,s1)) (h2:lI (run C n) ae lo s1=some (lv,s2)) (h3:lI (run C n) ae up s2=some (uv,⟨g,h⟩)) (h4:slice h a lv uv=some (w,h')):(run C (n+1)).ev (.Subscript x (.Slice lo up none q) p) ae s=some (w,⟨g,h'⟩):=by
 show (match (run C n).ev x ae s with
  |some (ov,s)=>match lI (run C n) ae lo s with
   |some (lv,s)=>match lI (run C n) ae up s with
    |some (uv,s)=>match slice s.hp ov lv uv with
     |some (v,h)=>some (v,{ s with hp:=h})
     | .none=>.none
    | .none=>.none
   | .none=>.none
  | .none=>none)=_
 rw [h1];dsimp only;rw [h2];dsimp only;rw [h3];dsimp only;rw [h4]
theorem bJ:cJ (run C n) ae [] s=some ([],s):=rfl
theorem bq (h1:(run C n).ev x ae s=some (v,s1)) (h2:cJ (run C n) ae es s1=some (vs,s2)):cJ (run C n) ae (x::es) s=some (v::vs,s2):=bG h1 (bG h2 rfl)
theorem cX (h0:load C ae z s=some (.fix f)) (hl:mW C (run C n) ae f as s=none) (hn:(noStar as&&as.all (Dh C ae))=true) (h1:cJ (run C n) ae as s=some (vs,⟨g,h⟩)) (hq:ae.quiet=true) (hk:jo C (.fix f)=true) (h2:(run C n).ca (.fix f) vs h=some (v,h')):(run C (n+1)).ev (.Call (.Name z q) as [] p) ae s=some (v,⟨g,h'⟩):=by show r9 C (run C n) z as ae s=_;unfold r9;rw [h0];refine dH hl ?_;rw [hn];dsimp only;rw [h1];dsimp only;unfold rX;rw [hq,hk];exact bG h2 rfl
theorem nq (h:boolOp (run C n) ae o vs s=some (v,s1)):(run C (n+1)).ev (.BoolOp o vs p) ae s=some (v,s1):=h
theorem zH (h:(run C n).ev x ae s=some (v,s1)):boolOp (run C n) ae o [x] s=some (v,s1):=bG h rfl
theorem zI (h:(run C n).ev x ae s=some (v,s1)) (k:truthy s1.hp v=some true):boolOp (run C n) ae .Or (x::y::vs) s=some (v,s1):=bG h (aG k rfl)
theorem zJ (h:(run C n).ev x ae s=some (v,s1)) (k:truthy s1.hp v=some false) (j:boolOp (run C n) ae .Or (y::vs) s1=z):boolOp (run C n) ae .Or (x::y::vs) s=z:=bG h (aG k j)
theorem fV (h1:(run C n).ev x ae s=some (v,s1)) (h2:store C ae z v s1=some s2):cG C (run C n) (.Assign [.Name z p] x q) ae s=some (.next,s2):=by show (match (run C n).ev x ae s with|some (x,s)=>lO (ob (store C ae z x s) some)|none=>none)=_;rw [h1];dsimp only;rw [h2];rfl
theorem E4 (h1:(run C n).ev e ae s=some (v,s1)) (h2:(run C n).ev x ae s1=some (a,s2)) (h3:(run C n).ev y ae s2=some (b,⟨g,h⟩)) (h4:setItem C h a b v=some h'):cG C (run C n) (.Assign [.Subscript x y p] e q) ae s=some (.next,⟨g,h'⟩):=by show (match (run C n).ev e ae s with|some (v,s)=>lO (ob (yI C (run C n) ae v s x y) some)|none=>none)=_;rw [h1];dsimp only;rw [show yI C (run C n) ae v s1 x y=some ⟨g,h'⟩ from bG h2 (bG h3 (aG h4 rfl))];rfl
theorem MI (h0:load C ae z s=some (.int i)) (h1:(run C n).ev x ae s=some (.int j,s1)) (h2:store C ae z (.int (i+j)) s1=some s2):cG C (run C n) (.AugAssign (.Name z p) .Add x q) ae s=some (.next,s2):=by show sq C (run C n) z .Add x ae s=_;unfold sq;rw [h0];refine bG (a:=i+j) (c:=s1) ?_ (by rw [h2];rfl);unfold se;rw [h1];rfl
theorem MJ (h0:load C ae z s=some (.int i)) (h1:(run C n).ev x ae s=some (.int j,s1)) (h2:store C ae z (.int (i- j)) s1=some s2):cG C (run C n) (.AugAssign (.Name z p) .Sub x q) ae s=some (.next,s2):=by show sq C (run C n) z .Sub x ae s=_;unfold sq;rw [h0];refine bG (a:=i- j) (c:=s1) ?_ (by rw [h2];rfl);unfold se;rw [h1];rfl
theorem jQ (h:(run C n).ev x ae s=some (v,s1)):cG C (run C n) (.Return (some x) p) ae s=some (.ret v,s1):=by show (match (run C n).ev x ae s with|some (v,s)=>some (Fl.ret v,s)|none=>none)=_;rw [h]
theorem jR (h:(run C n).tr x ae s=some (true,s1)) (k:(run C n).ex bo ae s1=z):cG C (run C n) (.If x bo el p) ae s=z:=by show (match (run C n).tr x ae s with|some (true,s)=>(run C n).ex bo ae s|some (false,s)=>(run C n).ex el ae s|none=>none)=_;rw [h];exact k
theorem d8 (h:(run C n).tr x ae s=some (false,s1)) (k:(run C n).ex el ae s1=z):cG C (run C n) (.If x bo el p) ae s=z:=by show (match (run C n).tr x ae s with|some (true,s)=>(run C n).ex bo ae s|some (false,s)=>(run C n).ex el ae s|none=>none)=_;rw [h];exact k
theorem bY:(run C (n+1)).ex [] ae s=some (.next,s):=rfl
theorem bM (h:cG C (run C n) st ae s=some (.next,s1)) (k:(run C n).ex rs ae s1=z):(run C (n+1)).ex (st::rs) ae s=z:=show aV (cG C (run C n) st ae s) (fun f s=>pN f s ((run C n).ex rs ae s))=_ from bG h k
theorem iW (h:cG C (run C n) st ae s=some (.ret v,s1)):(run C (n+1)).ex (st::rs) ae s=some (.ret v,s1):=show aV (cG C (run C n) st ae s) (fun f s=>pN f s ((run C n).ex rs ae s))=_ from bG h rfl
theorem E5 (h:(run C n).tr x ae s=some (true,s1)) (h2:(run C n).ex bo ae s1=some (.next,s2)) (k:(run C n).wh x bo el ae s2=z):(run C (n+1)).wh x bo el ae s=z:=by rw [EU];unfold pO;exact bG h (bG h2 k)
theorem qw (h:(run C n).tr x ae s=some (false,s1)) (k:(run C n).ex el ae s1=z):(run C (n+1)).wh x bo el ae s=z:=by rw [EU];unfold pO;exact bG h k
theorem MK {z w:Str} {r:Pos} (h1:(run C n).ev x ae s=some (v,s1)) (h2:store C ae z v s1=some s2) (h3:store C ae w v s2=some s3):cG C (run C n) (.Assign [.Name z p,.Name w r] x q) ae s=some (.next,s3):=by show (match (run C n).ev x ae s with|some (x,s)=>lO (ob (store C ae z x s) fun s=>ob (store C ae w x s) some)|none=>none)=_;rw [h1];dsimp only;rw [show ob (store C ae z v s1) (fun s=>ob (store C ae w v s) some)=some s3 from aG h2 (aG h3 rfl)];rfl
theorem sJ (h1:next s.hp it=some (some (vs,it'))) (h2:fC C ae t vs s=some s1) (h3:(run C n).ex bo ae s1=some (.next,s2)) (k:(run C n).fo t it' bo el ae s2=z):(run C (n+1)).fo t it bo el ae s=z:=by rw [sI];unfold lP;exact aG h1 (dG (a:=(vs,it')) rfl (aG h2 (bG h3 k)))
theorem zK (h1:next s.hp it=some none) (k:(run C n).ex el ae s=z):(run C (n+1)).fo t it bo el ae s=z:=by rw [sI];unfold lP;exact aG h1 (dH rfl k)
theorem oA (hq:ae.quiet=true) (hi:iter C (run C n) ae x s=some (it,⟨g,h0⟩)) (h2:freeze it h0=some h') (h3:(run C n).fo t it bo el ae ⟨g,h'⟩=some (f,⟨g',h1⟩)) (h4:kL it h1=some h''):cG C (run C n) (.For t x bo el p) ae s=some (f,⟨g',h''⟩):=by show yX C (run C n) t x bo el ae s=_;unfold yX;rw [hq];dsimp only;rw [hi];dsimp only;rw [h2];show yW it ((run C n).fo t it bo el ae ⟨g,h'⟩)=_;unfold yW;rw [h3];dsimp only;rw [h4]
theorem nu (hg:(rW x|| !Nat.beq q.endLine p.line|| !Nat.blt as.length 30)=false) (h1:(run C n).ev x ae s=some (a,⟨g0,h0⟩)) (hm:kJ C h0 m a=none) (hs:mU h0 m a=some mi) (hn:noStar as=true) (h2:cJ (run C n) ae as ⟨g0,h0⟩=some (vs,⟨g,h⟩)) (h3:j6 C h mi a vs=some (v,h')):(run C (n+1)).ev (.Call (.Attribute x m q) as [] p) ae s=some (v,⟨g,h'⟩):=by show vc C (run C n) x m q as p ae s=_;unfold vc;rw [hg];dsimp only;rw [h1];refine dH hm (aG hs ?_);unfold yQ;rw [hn];dsimp only;rw [h2];dsimp only;rw [h3]
theorem x_call {ks} (h:(run C n).ev (.Call f as ks p) ae s=some (v,s1)):cG C (run C n) (.Expr (.Call f as ks p) q) ae s=some (.next,s1):=by show (match (run C n).ev (.Call f as ks p) ae s with|some (_,s)=>some (Fl.next,s)|none=>none)=_;rw [h]
theorem E6:cG C (run C n) (.Break p) ae s=some (.brk,s):=rfl
theorem qx (h:cG C (run C n) st ae s=some (.brk,s1)):(run C (n+1)).ex (st::rs) ae s=some (.brk,s1):=show aV (cG C (run C n) st ae s) (fun f s=>pN f s ((run C n).ex rs ae s))=_ from bG h rfl
theorem ML (h1:next s.hp it=some (some (vs,it'))) (h2:fC C ae t vs s=some s1) (h3:(run C n).ex bo ae s1=some (.brk,s2)):(run C (n+1)).fo t it bo el ae s=some (.next,s2):=by rw [sI];unfold lP;exact aG h1 (dG (a:=(vs,it')) rfl (aG h2 (bG h3 rfl)))
end
theorem MM (h:(run C n).ev (.Call f [x] [] cp) ae s=some (v,s1)):cG C (run C n) (.Try [.Return (some (.Call f [x] [] cp)) rp] [.ExceptHandler none none (b::r) ep] [] [] p) ae s=some (.ret v,s1):=jQ (p:=rp) h
theorem MN (h0:load C ae z s=some (.fix f)) (hl:mW C (run C n) ae f as s=some (v,s1)):(run C (n+1)).ev (.Call (.Name z q) as [] p) ae s=some (v,s1):=by show r9 C (run C n) z as ae s=_;unfold r9;rw [h0];exact dG hl rfl
theorem v7 (h:(run C n).tr x ae s=some (c,s1)) (k:(!c)=d):(run C (n+1)).tr (.UnaryOp .Not x p) ae s=some (d,s1):=by rw [← k];exact MH h
theorem eW (h:cG C (run C n) st ae s=some (.next,s1)):(run C (n+1)).ex (st::r) ae s=(run C n).ex r ae s1:=bM h rfl
theorem v8 (h:cG C (run C n) st ae s=some (.ret v,s1)):(run C (n+1)).ex (st::r) ae s=some (.ret v,s1):=iW h
theorem MO (k n:Nat) (a b:Str) (h:AH) (ha:iF a) (hb:iF b):fE (CQ k) (run (CQ k) (n+8)) iQ [.str a,.str b] h=some (.int (dJ a b),h):=by
 refine aN ha fun a1 a2=>?_;refine aN hb fun b1 b2=>?_;rw [MF,List.append_nil];have lw:∀{s:Str},lim (Txt.lower s).cps.size=true→lim s.cps.size=true→j6 (CQ k) h .lower (.str s) []=some (.str (Txt.lower s),h):=fun {s} e1 e2=>(ME _ _ _).trans (by rw [e1,e2];rfl);have e:(run (CQ k) (n+8)).ex iQ.body (bh iQ) ⟨[(S "ch_a",.str a),(S "ch_b",.str b)],h⟩=some (.ret (.int (dJ a b)),⟨[(S "ch_a",.str a),(S "ch_b",.str b)],h⟩):=by
  generalize hq:iQ.body=q
  conv at hq=>lhs;whnf
  subst hq;unfold dJ;cases h1:sE a b with
  |true=>exact iW (jR (bF (bD rfl (aq (az rfl rfl)) (aq (az rfl rfl)) ((nj _ _ _).trans (congrArg some h1)))) (iW (jQ bx)))
  |false=>
   refine bM (d8 (bF (bD rfl (aq (az rfl rfl)) (aq (az rfl rfl)) ((nj _ _ _).trans (congrArg some h1)))) bY) ?_;cases h2:sE (Txt.lower a) (Txt.lower b) with
   |true=>exact iW (jR (bF (bD rfl (nu rfl (aq (az rfl rfl)) (vW _ _ _ _) (vX _ _) rfl bJ (lw a1 a2)) (nu rfl (aq (az rfl rfl)) (vW _ _ _ _) (vX _ _) rfl bJ (lw b1 b2)) ((nj _ _ _).trans (congrArg some h2)))) (iW (jQ (aq (bR rfl rfl)))))
   |false=>exact bM (d8 (bF (bD rfl (nu rfl (aq (az rfl rfl)) (vW _ _ _ _) (vX _ _) rfl bJ (lw a1 a2)) (nu rfl (aq (az rfl rfl)) (vW _ _ _ _) (vX _ _) rfl bJ (lw b1 b2)) ((nj _ _ _).trans (congrArg some h2)))) bY) (iW (jQ (aq (bR rfl rfl))))
 rw [e];rfl
theorem MP (k n:Nat) (a b:Str) (h:AH) (ha:iF a) (hb:iF b):(run (CQ k) (n+9)).ca (.fix (.ref 36)) [.str a,.str b] h=some (.int (dJ a b),h):=by refine vU (dH (zE _) (dG (a:=iQ) rfl ?_));exact MO k n a b h ha hb
end EV
namespace EV
open PySem PySem.W PySem.Calls PyProof.Rows PySem.Builtin PySem.Builtin.Str
structure oB (K:Frag) (c:Addr) (k:lB):Prop where
 makes:makesIn K c=true
 v9:isClsIn K c=true
 setattr:findIn K (.ref c) "__setattr__" =some (some (.builtin "object.__setattr__"))
 over:plainOver K c=true
 plain:plainGet K c "" =true
 keep:keepIn K (.ref c)=true
 init:∃ f,lk k.meths "__init__" =some f∧findIn K (.ref c) "__init__" =some (some (.ref f))∧isFn K (.ref f)=true
 attr:∀ x,jI x k.attrs=true→findIn K (.ref c) x=some none∧hasDictIn K c=true∧takerIn K c x=some none
 slot:∀ ns,k.slots=some ns→∀ x i,lD x ns 0=some i→∃ p,findIn K (.ref c) x=some (some (.ref p))∧specialIn K (.ref p) "__get__" =some (some (.builtin "member_descriptor.__get__"))∧takesIn K (.ref p)=some true∧slotIn K p c=some i∧takerIn K c x=some (some (.ref p))∧typeIn K (.ref p)=some (.type "member_descriptor")
 meth:∀ x f,lk k.meths x=some f→findIn K (.ref c) x=some (some (.ref f))∧isFn K (.ref f)=true∧fnIn K f=true∧keepIn K (.ref f)=true
 zL:∀ ns,k.slots=some ns→ns.length≤100
 bound:k.slots=none→∀ x f,lk k.meths x=some f→hasDictIn K c=true∧specialIn K (.ref f) "__get__" =some (some (.builtin "function.__get__"))∧takesIn K (.ref f)=some false∧copiedNames.contains x=false
noncomputable def qy (W:Wo) (C:Cx):Prop:=∀ c k,C.cls c=some k→oB W.K c k
theorem MQ:∀{ns:List Str} {b i:Nat},lD x ns b=some i→b≤i∧i<b+ns.length
 |[],_,_,e=>by cases e
 |y::r,b,i,e=>by
  unfold lD at e;split at e
  ·obtain rfl:=Option.some.inj e;simp
  ·have:=MQ e;simp;lia
theorem E7 (h:VR φ v u) (hf:C3 v=true):handedIn u=true:=by
 cases h with
 |fix=>cases hf
 |_=>rfl
theorem zM:∀{es:List DictEntry},(∀ e∈es,∃ n t,e.key=.str n t)→getL x (putL name hsh (.str name tk) v es)=if x=name then some (some v) else getL x es
 |[],_=>by
  show (match (([⟨hsh,.str name tk,v⟩]:List DictEntry).find? (·.key.isStr x)) with|some e=>some (some e.val)|none=>_)=_;by_cases h:x=name
  ·subst h;simp [Value.isStr]
  ·have:¬name=x:=fun e=>h e.symm;simp [Value.isStr,h,this,getL,DictEntry.refKey,putL]
 |e::r,hk=>by
  refine dX (hk e (.head _)) fun n t he=>?_;have ih:=zM (name:=name) (x:=x) (hsh:=hsh) (tk:=tk) (v:=v) (es:=r) fun z hz=>hk z (.tail _ hz);have hany:∀ l:List DictEntry,(∀ e∈l,∃ n t,e.key=.str n t)→l.any (·.refKey)=false:=by intro l hl;rw [List.any_eq_false];intro z hz;refine dX (hl z hz) fun n t q=>?_;simp [DictEntry.refKey,q]
  have look:∀ l:List DictEntry,(∀ e∈l,∃ n t,e.key=.str n t)→getL x l=some ((l.find? (·.key.isStr x)).map (·.val)):=by
   intro l hl;unfold getL;cases q:l.find? (·.key.isStr x) with
   |none=>simp [hany l hl]
   |some z=>rfl
  have E8:∀ l:List DictEntry,(∀ e∈l,∃ n t,e.key=.str n t)→∀ e∈putL name hsh (.str name tk) v l,∃ n t,e.key=.str n t:=by
   intro l;induction l with
   |nil=>intro _ z hz;simp [putL] at hz;subst hz;exact ⟨_,_,rfl⟩
   |cons y l ih=>
    intro hl z hz;unfold putL at hz;split at hz
    ·rcases List.mem_cons.mp hz with rfl|hz
     ·exact hl y (.head _)
     ·exact hl z (.tail _ hz)
    ·rcases List.mem_cons.mp hz with rfl|hz
     ·exact hl _ (.head _)
     ·exact ih (fun w hw=>hl w (.tail _ hw)) z hz
  rw [look _ (E8 _ hk),look _ hk];rw [look _ (E8 r fun z hz=>hk z (.tail _ hz)),look r fun z hz=>hk z (.tail _ hz)] at ih;unfold putL;by_cases h1:n=name
  ·have q:e.key.isStr name=true:=by rw [he,h1];simp [Value.isStr]
   rw [q];simp only [if_true,List.find?_cons];by_cases h2:x=name
   ·have:e.key.isStr x=true:=by rw [h2];exact q
    rw [this];simp [h2]
   ·have:e.key.isStr x=false:=by rw [he,h1];simp [Value.isStr];exact fun z=>h2 z.symm
    rw [this];simp [h2]
  ·have q:e.key.isStr name=false:=by rw [he];simp [Value.isStr,h1]
   rw [q];simp only [Bool.false_eq_true,if_false,List.find?_cons];by_cases h2:x=n
   ·have:e.key.isStr x=true:=by rw [he,h2];simp [Value.isStr]
    have h3:¬x=name:=fun z=>h1 (h2▸z);rw [this];simp [h3]
   ·have:e.key.isStr x=false:=by rw [he];simp [Value.isStr];exact fun z=>h2 z.symm
    rw [this];simp only;exact ih
theorem MS:∀{l:List DictEntry},StrKeys l.toArray→StrKeys (putL name hsh (.str name tk) v l).toArray:=by
 intro l hl e he;have:∀ l:List DictEntry,(∀ e∈l,∃ n t,e.key=.str n t)→∀ e∈putL name hsh (.str name tk) v l,∃ n t,e.key=.str n t:=by
  intro l;induction l with
  |nil=>intro _ z hz;simp [putL] at hz;subst hz;exact ⟨_,_,rfl⟩
  |cons y l ih=>
   intro hl z hz;unfold putL at hz;split at hz
   ·rcases List.mem_cons.mp hz with rfl|hz
    ·exact hl y (.head _)
    ·exact hl z (.tail _ hz)
   ·rcases List.mem_cons.mp hz with rfl|hz
    ·exact hl _ (.head _)
    ·exact ih (fun w hw=>hl w (.tail _ hw)) z hz
 exact this l (fun e he=>hl e (by simpa using he)) e (by simpa using he)
theorem zN (name:Str) (hsh:Int) (key v:Value):∀ l:List DictEntry,(putL name hsh key v l).length≤l.length+1
 |[]=>by simp [putL]
 |e::r=>by
  unfold putL;split
  ·simp
  ·simp;exact zN name hsh key v r
section
variable {W:Wo} {C:Cx} {n:Nat} {D:Md} {A:Around} {env:Env} {ae:au} {φ:List Addr} {s:St} {sh:Shared}
theorem E9:∀{m:List (Str×α)} {v₀:α},lk m x=some v₀→(put m x v).length=m.length
 |[],_,e=>by cases e
 |p::r,v₀,e=>by
  unfold lk at e;unfold put;split at e
  ·rfl
  ·simp [E9 (v:=v) e]
theorem Fb:∀{m:List (Str×α)},lk m x=none→(put m x v).length=m.length+1
 |[],_=>rfl
 |p::r,e=>by
  unfold lk at e;unfold put;split at e
  ·cases e
  ·simp [Fb (v:=v) e]
theorem Fc:∀{l:List DictEntry},getL name l=some (some u)→(putL name hsh key v l).length=l.length
 |[],e=>by simp [getL] at e
 |z::r,e=>by
  unfold putL;by_cases q:z.key.isStr name=true
  ·rw [if_pos q];rfl
  ·rw [if_neg q];have:getL name r=some (some u):=by
    unfold getL at e ⊢;simp only [List.find?_cons,q] at e;split at e
    ·rename_i y hy;rw [hy];exact e
    ·split at e <;>cases e
   simp [Fc (hsh:=hsh) (key:=key) (v:=v) this]
theorem zO {h:Heap} (R:Rep W.prog W.w D φ s h) {l d:Nat} {c a:Addr} {m:List (Str×AV)} (e:s.hp[l]?=some (.inst c d)) (ed:s.hp[d]?=some (.ns m)) (ha:φ[l]?=some a):∃ dx es k,φ[d]?=some dx∧InstAt h a (instObj c dx) c (some (dictOf es k))∧h.get? dx=some (dictOf es k)∧StrKeys es.toArray∧(∀ x v,lk m x=some v→∃ u,getL x es=some (some u)∧VR φ v u)∧(∀ x,lk m x=none→getL x es=some none)∧es.length≤60:=by refine aC (R.at e ha) fun o q1 g=>?_;refine aC q1 fun dx h1 q2=>?_;subst q2;refine aC (R.at ed h1) fun o' q1 g'=>?_;refine nT q1 fun es k q2 k0 k1 k2 k3 _=>?_;subst q2;exact ⟨dx,es,k,h1,⟨g,rfl,rfl,g'⟩,g',k0,k1,k2,k3⟩
theorem Fd {h:Heap} (R:Rep W.prog W.w D φ s h) {l d:Nat} {c a:Addr} {vs:List (Option AV)} {m:List (Str×AV)} (e:s.hp[l]?=some (.slots c d vs)) (ed:s.hp[d]?=some (.ns m)) (ha:φ[l]?=some a):∃ dx us od,InstAt h a ⟨.ref c,some dx,.plain,us⟩ c (some od)∧us.size≤vs.length∧vs.length≤100∧(∀(i:Nat) (v:AV),vs[i]?=some (some v)→∃ u,us[i]?=some (some u)∧VR φ v u):=by refine aC (R.at e ha) fun o q1 g=>?_;refine kI q1 fun dx us h1 q2 h2 h3 h4=>?_;subst q2;refine aC (R.at ed h1) fun o' _ g'=>?_;exact ⟨dx,us,o',⟨g,rfl,rfl,g'⟩,h2,h3,h4⟩
theorem Fe (hc:qy W C) (cy:Cy W D A) {x:Str} {a v:AV} {ua:Value} {expr:Bool} (e:uO C s.hp x a=some v) (h1:VR φ a ua):WP W.prog W.w D A (getAttr ua x expr) φ s (fun φ' s' u=>φ'=φ∧s'=s∧VR φ v u):=by
 intro sh R;have XK:=cy.x.keeps R.keeps;have fin:∀ u,VR φ v u→Res W.prog W.w D φ sh (fun φ' s' u=>φ'=φ∧s'=s∧VR φ v u) u { sh with toks:=sh.toks+1}:=fun u hr=>iU ⟨rfl,rfl,rfl⟩ R ⟨rfl,rfl,hr⟩;refine ah e fun l hl e=>gC hl h1 fun a ha=>bA e (fun p hp e=>ah e fun k hk e=>eT e fun hm e=>ah e fun m hd e=>ah e fun v' hv e=>eT e fun hf e=>?_) fun _ e=>ah e fun q hq e=>ah e fun k hk e=>ah e fun ns hns e=>ah e fun i hi e=>ah e fun o ho e=>ah e fun v' hv e=>ah e fun m hd e=>eT e fun hf e=>?_
 ·rw [Option.some.inj e] at hv hf;have X:=hc p.1 k hk;refine cP (X.attr x hm) fun t1 t2 _=>?_;refine yr (zO R (zq hp) (qd hd) ha) fun dx es kk _ I _ _ k1 _=>?_;refine aC (k1 x v hv) fun u hu hr=>?_;exact get_value XK I (plainGet_of X.plain).1 (findObj_own t2 t1 rfl hu) (E7 hr hf) (fin u hr)
 ·rw [Option.some.inj e] at hv hf;have X:=hc q.1 k hk;refine CO (X.slot ns hns x i hi) fun p t1 t2 t3 t4 _ _=>?_;refine iN (Fd R (zu hq) (qd hd) ha) fun dx us od I _ _ k1=>?_;refine aC (k1 i v (ho.trans (congrArg some hv))) fun u hu hr=>?_;exact get_bind XK I (plainGet_of X.plain).1 (findObj_data X.v9 t1 t2 t3) (plainGet_of X.plain).2 (wpAny_call (slot_get (s:={ sh with toks:=sh.toks+1}) XK I t4 (v:=u) (by show (us[i]?).join=_;rw [hu];rfl) (handed_on (E7 hr hf) (fin u hr))))
theorem MT (h2:VR φ v uv) (k0:StrKeys es.toArray) (k1:∀ x v,lk m x=some v→∃ u,getL x es=some (some u)∧VR φ v u) (k2:∀ x,lk m x=none→getL x es=some none) (k4:es.length≤m.length) (hz:m.length≤50):OR W.prog W.w φ (.ns (put m x v)) (dictOf (putL x hsh (.str x tk) uv es) n):=by
 have ks:∀ e∈es,∃ n t,e.key=.str n t:=fun e he=>k0 e (List.mem_toArray.mpr he);have l:=zN x hsh (.str x tk) uv es;refine ⟨_,_,rfl,MS k0,fun y z q=>?_,fun y q=>?_,by lia,?_⟩
 ·rw [vK] at q;rw [zM ks];by_cases hy:y=x
  ·rw [if_pos hy] at q;rw [if_pos hy];exact ⟨_,rfl,Option.some.inj q▸h2⟩
  ·rw [if_neg hy] at q;rw [if_neg hy];exact k1 y z q
 ·rw [vK] at q;rw [zM ks];by_cases hy:y=x
  ·rw [if_pos hy] at q;exact e0 (Eq.symm q)
  ·rw [if_neg hy] at q;rw [if_neg hy];exact k2 y q
 ·cases q:lk m x with
  |none=>rw [Fb q];lia
  |some v₀=>
   refine aC (k1 x v₀ q) fun u hu _=>?_;rw [Fc hu,E9 q];exact k4
theorem MU {c:Addr} {d:Nat} {dx:Addr} {vs:List (Option AV)} {us:Array (Option Value)} {us':Array (Option Value)} {i:Nat} {v:AV} {uv:Value} (hdx:φ[d]?=some dx) (z1:us.size≤vs.length) (z2:vs.length≤100) (k1:∀(i:Nat) (v:AV),vs[i]?=some (some v)→∃ u,us[i]?=some (some u)∧VR φ v u) (h2:VR φ v uv) (hlt:i<vs.length) (e1:us'.size≤vs.length) (e2:us'[i]?=some (some uv)) (e3:∀ j u,i≠j→us[j]?=some (some u)→us'[j]?=some (some u)):OR W.prog W.w φ (.slots c d (vs.set i (some v))) ⟨.ref c,some dx,.plain,us'⟩:=⟨_,_,hdx,rfl,by rw [List.length_set];exact e1,by rw [List.length_set];exact z2,fun j z q=>by
  rw [List.getElem?_set] at q;by_cases hj:i=j
  ·rw [if_pos hj,if_pos hlt] at q;exact ⟨uv,hj▸e2,Option.some.inj (Option.some.inj q)▸h2⟩
  ·rw [if_neg hj] at q;refine aC (k1 j z q) fun u hu hr=>?_;exact ⟨u,e3 j u hj hu,hr⟩⟩
theorem Ff (hc:qy W C) (Gl:aH W C D φ) (cy:Cy W D A) {x:Str} {a v:AV} {ua uv:Value} {h':AH} (e:uP C s.hp x v a=some h') (h1:VR φ a ua) (h2:VR φ v uv):WP W.prog W.w D A (setAttr ua x uv) φ s (fun φ' s' _=>φ'=φ∧s'={ s with hp:=h'}):=by
 intro sh R;have XK:=cy.x.keeps R.keeps;refine ah e fun l hl e=>gC hl h1 fun a ha=>bA e (fun p hp e=>ah e fun k hk e=>eT e fun hm e=>ah e fun m hd e=>eT e fun hsz e=>?_) fun _ e=>ah e fun q hq e=>ah e fun k hk e=>ah e fun ns hns e=>ah e fun i hi e=>ah e fun m hd e=>eT e fun hlt e=>?_
 ·refine cP (lX e) fun ro z _=>?_;rw [z];have X:=hc p.1 k hk;refine cP (X.attr x hm) fun t1 t2 t3=>?_;refine CU (zO R (zq hp) (qd hd) ha) fun dx es kk hdx I g k0 k1 k2 k3=>?_;refine lA (R.open (Gl.ro▸ro) (qd hd) hdx (fun es k q=>nomatch q)) fun mm os nl o q1 g' Rw Wq=>?_;refine nT q1 fun es' MV y Fg qz Fi ZZ Fj=>?_;rw [y,g] at g';have g2:=Option.some.inj g';rw [y,← g2] at Wq;have hsz:m.length≤50:=Nat.le_of_ble_eq_true hsz;have e3:es=es'∧kk=MV:=by injection g2 with _ _ q _;injection q with q1 q2;exact ⟨by simpa using q1,q2⟩
  rw [← e3.1] at Fg qz Fi Fj;refine set_dict Rw.fr cy.x Rw.news I rfl X.setattr X.over t3 t2 ?_ rfl (Wq.upd _) ?_ fun h'' F' N'=>⟨⟨rfl,rfl,rfl⟩,φ,_,.refl _,⟨mm,_,nl,Wq.fin h'' _ (.ns (put m x v)) F' N' (MT h2 Fg qz Fi Fj hsz)⟩,rfl,rfl⟩
  ·cases q:lk m x with
   |none=>rw [k2 x q];rfl
   |some v=>refine aC (k1 x v q) fun u hu _=>?_;rw [hu];rfl
  ·have:=zN x (PyData.keyHash W.w.params x) (.str x (sh.toks+1)) uv es;lia
 ·have hlt:i<q.2.2.length:=Nat.le_of_ble_eq_true hlt;refine cP (lX e) fun ro z _=>?_;rw [z];have X:=hc q.1 k hk;refine CO (X.slot ns hns x i hi) fun p t1 t2 t3 t4 t5 t6=>?_;refine iN (Fd R (zu hq) (qd hd) ha) fun dx us od I z1 z2 k1=>?_;refine lA (R.open (Gl.ro▸ro) (zu hq) ha (fun es k q=>nomatch q)) fun mm os nl o q1 g' Rw Wq=>?_;refine bK q1 fun MW us' hdx y _=>?_;have g:=Option.some.inj (g'.symm.trans I.at_);have e3:MW=dx:=by rw [y] at g;injection g with _ q _ _;exact Option.some.inj q
  rw [g] at Wq;rw [e3] at hdx;refine set_slot Rw.fr cy.x Rw.news I X.setattr X.over t5 t6 t4 (by lia) rfl rfl (Wq.upd _) fun h'' F' N'=>⟨⟨rfl,rfl,rfl⟩,φ,_,.refl _,⟨mm,_,nl,Wq.fin h'' _ (.slots q.1 q.2.1 (q.2.2.set i (some v))) F' N' (MU hdx z1 z2 k1 h2 hlt ?_ ?_ ?_)⟩,rfl,rfl⟩
  ·simp;omega
  ·rw [Array.getElem?_setIfInBounds_self_of_lt (by simp;omega)]
  ·intro j u hj hu;rw [Array.getElem?_setIfInBounds_ne hj,Array.getElem?_append_left (Array.getElem?_eq_some_iff.mp hu).1];exact hu
end
end EV
namespace EV
open PySem PySem.W PySem.Calls PyProof.Rows
noncomputable def lF.id:lF→String
 | .append=> "list.append" | .extend=> "list.extend" | .pop=> "list.pop" | .clear=> "list.clear"
 | .get=> "dict.get" | .add=> "set.add" | .lower=> "str.lower" | .join=> "str.join"
theorem Fo (k:Int):∀(xs:List Int) (i:Int),iA k (xs++[i])=(iA k xs||decide (k=i))
 |[],i=>by
  show (match iE k i with|true=>true|false=>false)=_;rw [lU];by_cases h:k=i <;>simp [h,iA]
 |x::r,i=>by
  show (match iE k x with|true=>true|false=>iA k (r++[i]))=((match iE k x with|true=>true|false=>iA k r)||_);rw [Fo k r i];cases iE k x <;>rfl
theorem Fp:∀(l:List Value) (y:Value),kl_last (l++[y])=some (l,y)
 |[],y=>rfl
 |x::r,y=>by
  show (match kl_last (r++[y]) with|some (p,y)=>some (x::p,y)|none=>some ([],x))=_;rw [Fp r y]
theorem aF.last (h:aF φ vs us) (e:vs.getLast?=some v):∃ p y,us=p++[y]∧VR φ v y∧aF φ vs.dropLast p:=by
 induction h with
 |nil=>simp at e
 |cons a r ih=>
  rename_i v' u' vs' us';cases r with
  |nil=>simp at e;subst e;exact ⟨[],_,rfl,a,.nil⟩
  |cons b r'=>
   rw [List.getLast?_cons_cons] at e;refine bK (ih e) fun p y h1 h2 h3=>?_;exact ⟨u'::p,y,by rw [h1];rfl,h2,by rw [List.dropLast_cons_cons];exact .cons a h3⟩
theorem MX (h:aF φ vs us):∀{l:List Str},strsOf vs=some l→StrsAre us l:=by
 induction h with
 |nil=>intro l e;exact Option.some.inj e▸ .nil
 |cons a r ih=>
  intro l e;exact ah e fun x hx e=>ah e fun q hq e=>m9 hx a fun t z=>iS (G:=fun l=>StrsAre _ l) e (.cons _ _ (ih hq))
theorem Fq:∀ l:List Str,(l.map (·.length)).sum=lG l
 |[]=>rfl
 |s::r=>by
  simp only [List.map_cons,List.sum_cons];rw [Fq r];rfl
section
variable {W:Wo} {C:Cx} {n:Nat} {D:Md} {A:Around} {env:Env} {ae:au} {φ:List Addr} {s:St} {sh:Shared}
theorem MY (e:mU s.hp name o=some mi) (h1:VR φ o uo):WP W.prog W.w D A (getMethod uo name pl) φ s (fun φ' s' r=>φ'=φ∧s'=s∧r=(Value.builtin mi.id,[uo])):=by
 intro sh R;have fin:∀ m:lF,m=mi→Res W.prog W.w D φ sh (fun φ' s' r=>φ'=φ∧s'=s∧r=(Value.builtin mi.id,[uo])) (Value.builtin m.id,[uo]) sh:=fun m hm=>iU ⟨rfl,rfl,rfl⟩ R ⟨rfl,rfl,hm▸rfl⟩;induction o with
 |str x=>
  refine h1.str' (P:=fun uo=>(∀ m:lF,m=mi→Res W.prog W.w D φ sh (fun φ' s' r=>φ'=φ∧s'=s∧r=(Value.builtin mi.id,[uo])) (Value.builtin m.id,[uo]) sh)→wpAny _ _ (getMethod uo name pl) (Res W.prog W.w D φ sh (fun φ' s' r=>φ'=φ∧s'=s∧r=(Value.builtin mi.id,[uo]))) _ _) (fun t _ fin=>?_) fin;have ht:sh.TypeIs (.str x t) "str" :=typeIs_str _ _ _;have hd:∀ a,Value.str x t=.ref a→∃ o,sh.heap.get? a=some o∧o.dict=none:=fun a q=>Value.noConfusion q;revert ht hd fin;generalize Value.str x t=u;intro fin ht hd;exact lT e (fun q z=>dm.mp q▸getMethod_builtin ht F.plainAttrs_str F.slot_str_lower F.type_str_lower hd (fin _ z)) fun e=>lT e (fun q z=>dm.mp q▸getMethod_builtin ht F.plainAttrs_str F.slot_str_join F.type_str_join hd (fin _ z)) fun e=>e0 e
 |loc l=>
  refine h1.loc' (P:=fun uo=>(∀ m:lF,m=mi→Res W.prog W.w D φ sh (fun φ' s' r=>φ'=φ∧s'=s∧r=(Value.builtin mi.id,[uo])) (Value.builtin m.id,[uo]) sh)→wpAny _ _ (getMethod uo name pl) (Res W.prog W.w D φ sh (fun φ' s' r=>φ'=φ∧s'=s∧r=(Value.builtin mi.id,[uo]))) _ _) (fun a ha fin=>?_) fin;refine bA e (fun vs hv e=>R.listE hv ha fun us k _ _ _ g=>?_) fun _ e=>bA e (fun d hd e=>R.qi hd ha fun o kvs hk _ _ g=>?_) fun _ e=>ah e fun xs hx e=>R.vN hx ha fun o hS hz g=>?_
  ·have hd:∀ a',Value.ref a=.ref a'→∃ o,sh.heap.get? a'=some o∧o.dict=none:=fun a' q=>⟨_,Value.ref.inj q▸g,rfl⟩;exact lT e (fun q z=>dm.mp q▸getMethod_builtin (cQ g).typeIs F.plainAttrs_list F.slot_list_append F.type_list_append hd (fin _ z)) fun e=>
    lT e (fun q z=>dm.mp q▸getMethod_builtin (cQ g).typeIs F.plainAttrs_list F.slot_list_pop F.type_list_pop hd (fin _ z)) fun e=>
    lT e (fun q z=>dm.mp q▸getMethod_builtin (cQ g).typeIs F.plainAttrs_list F.slot_list_extend F.type_list_extend hd (fin _ z)) fun e=>
    lT e (fun q z=>dm.mp q▸getMethod_builtin (cQ g).typeIs F.plainAttrs_list F.slot_list_clear F.type_list_clear hd (fin _ z)) fun e=>e0 e
  ·have hm:=(Heap.dictOf_iff.mpr ⟨o,g,hk⟩:sh.heap.DictOf (intKind W.prog W.w) _ kvs);refine dB hk fun es ep q1 _=>?_;refine cP q1 fun _ hdn _=>?_;exact lT e (fun q z=>dm.mp q▸getMethod_builtin hm.typeIs F.plainAttrs_dict F.slot_dict_get F.type_dict_get (fun a' q=>⟨_,Value.ref.inj q▸g,hdn⟩) (fin _ z)) fun e=>e0 e
  ·have hm:=hS.setOf g (Nat.lt_of_le_of_lt hz (by decide:61<scanBound));exact lT e (fun q z=>dm.mp q▸getMethod_set_add hm (fin _ z)) fun e=>e0 e
 |_=>exact e0 e
theorem sL (e:some (AV.none,dz)=some (v,hp)) (R:Rep W.prog W.w D φ { s with hp:=dz} h''):Res W.prog W.w D φ sh (fun φ' s' u=>φ'=φ∧s'={ s with hp:=hp}∧VR φ v u) .none { sh with heap:=h'',toks:=t}:=gh (G:=fun v hp=>Res W.prog W.w D φ sh (fun φ' s' u=>φ'=φ∧s'={ s with hp:=hp}∧VR φ v u) .none { sh with heap:=h'',toks:=t}) e ⟨⟨rfl,rfl,rfl⟩,φ,_,.refl _,R,rfl,rfl,.none⟩
theorem MZ (i:Int) (xs:List Int):(fun k'=>iA k' xs||decide (k'=i))=fun k'=>iA k' (setAdd i xs):=by
 funext k';unfold setAdd;cases hh:iA i xs
 ·exact (Fo k' xs i).symm
 ·by_cases q:k'=i
  ·rw [q,hh];rfl
  ·rw [decide_eq_false q,Bool.or_false]
theorem M0 {us nA:List Value} {a b:Nat} (l:us.length=a) (l2:nA.length=b) (q:a+b≤100000):¬(!us.toArray.isEmpty&&Builtin.List.listTooLong (us.toArray.size+nA.toArray.size))=true∧us.length≤sizeLine∧us.toArray.size+nA.toArray.size≤sizeLine:=by have:=cW (n:=us.length+nA.length) (by lia);simp only [List.size_toArray];refine ⟨fun q=>?_,by (exact Nat.le_trans (Nat.le_add_right ..) this),this⟩;rw [Bool.and_eq_true] at q;have:=q.2;unfold Builtin.List.listTooLong at this;simp only [decide_eq_true_eq] at this;lia
theorem M1 (Gl:aH W C D φ) (e:j6 C s.hp mi o args=some (v,h')) (h1:VR φ o uo) (h2:aF φ args us):WP W.prog W.w D A (call (.builtin mi.id) (uo::us)) φ s (fun φ' s' u=>φ'=φ∧s'={ s with hp:=h'}∧VR φ v u):=by
 intro sh R;have fin:∀(a:AV) (x:Value) (t':Nat),some (a,s.hp)=some (v,h')→VR φ a x→Res W.prog W.w D φ sh (fun φ' s' u=>φ'=φ∧s'={ s with hp:=h'}∧VR φ v u) x { sh with toks:=t'}:=fun a x t' e q=>gh (G:=fun v h'=>Res W.prog W.w D φ sh (fun φ' s' u=>φ'=φ∧s'={ s with hp:=h'}∧VR φ v u) x { sh with toks:=t'}) e (iU ⟨rfl,rfl,rfl⟩ R ⟨rfl,rfl,q⟩);induction mi with
 |lower=>
  refine ah e fun x hx e=>eT e fun hn e=>eT e fun hc e=>m9 hx h1 fun t q=>sD hn h2 ?_;rw [Bool.and_eq_true] at hc;have a:=gD hc.1;exact SC.lower (by unfold Builtin.Str.tooLong;simp only [decide_eq_false_iff_not];unfold Str.length;have:=cW (n:=(Txt.lower x).cps.size) (by (exact Nat.le_trans a (by decide)));(exact Nat.not_lt_of_le this)) (fin _ _ _ e (.str _ _ a))
 |join=>
  refine ah e fun x hx e=>ah e fun y hy e=>ah e fun vs hv e=>ah e fun l hl e=>eT e fun hc e=>m9 hx h1 fun t q=>j8 hy h2 fun uy ry=>R.qj hv ry fun a us k r1 len q g=>?_;rw [Bool.and_eq_true] at hc;refine join_list (cQ g) (MX (by simpa using r1) hl) ?_ fun t' k'=>fin _ _ _ e (.str _ _ (gD hc.2));rw [Fq];exact Nat.le_trans (gD hc.1) (by decide)
 |pop=>
  refine ah e fun l hl e=>ah e fun vs hv e=>eT e fun hn e=>ah e fun x hx e=>ah e fun hp hs e=>gC hl h1 fun a ha=>sD hn h2 (R.qo Gl hv ha hs fun m us k L F r1 len q g Fr N X U _ fin=>?_);refine bK (r1.last hx) fun p y q1 r2 r3=>?_;subst q1;exact kl_pop Fr N (Fp p y) (U _) (cW (Nat.le_trans (Nat.le_of_eq len) (Nat.le_trans q (by decide)))) fun h' F' N'=>gh (G:=fun v h'=>Res W.prog W.w D φ sh (fun φ' s' u=>φ'=φ∧s'={ s with hp:=h'}∧VR φ v u) _ _) e ⟨⟨rfl,rfl,rfl⟩,φ,_,.refl _,fin _ _ F' N' ⟨_,_,rfl,r3,by rw [List.length_dropLast];exact Nat.le_trans (Nat.sub_le ..) q⟩,rfl,rfl,r2⟩
 |clear=>
  refine ah e fun l hl e=>ah e fun vs hv e=>eT e fun hn e=>eE e fun he e=>ah e fun hp hs e=>gC hl h1 fun a ha=>sD hn h2 (R.qo Gl hv ha hs fun m us k L F r1 len q g Fr N X U _ fin=>?_);exact kl_clear Fr N (U _) (fun z=>by rw [List.length_eq_zero_iff.mp (len.symm.trans z)] at he;exact Bool.noConfusion he) (cW (Nat.le_trans (Nat.le_of_eq len) (Nat.le_trans q (by decide)))) fun h' F' N'=>sL e (fin _ _ F' N' ⟨[],_,rfl,.nil,Nat.zero_le _⟩)
 |append=>
  refine ah e fun l hl e=>ah e fun vs hv e=>ah e fun x hx e=>eT e fun hc e=>ah e fun hp hs e=>gC hl h1 fun a ha=>j8 hx h2 fun ux rx=>R.qo Gl hv ha hs fun m us k L F r1 len q g Fr N X U _ fin=>?_;exact append_K Fr N (U _) (fun h' F' N'=>sL e (fin _ _ F' N' ⟨us++[ux],_,by rw [List.push_toArray],r1.append (.cons rx .nil),by rw [List.length_append];exact gD hc⟩)) (cW (by simp only [List.size_toArray];lia))
 |extend=>
  refine ah e fun l hl e=>ah e fun vs hv e=>ah e fun x hx e=>ah e fun k2 hk e=>ah e fun ys hy e=>eT e fun hc e=>ah e fun hp hs e=>gC hl h1 fun a ha=>j8 hx h2 fun ux rx=>gC hk rx fun b hb=>R.listE hy hb fun nA n2 r2 l6 q2 g2=>R.qo Gl hv ha hs fun m us k L F r1 len q g Fr N X U M fin=>?_;rw [Bool.and_eq_true] at hc;have hmem:=M b _ k2 (Gl.ro▸Nat.le_of_ble_eq_true hc.2) hb g2 ⟨_,lR hy⟩;refine cP (M0 len l6 (gD hc.1)) fun hd z1 z2=>?_;have fl:(vs++ys).length≤100000:=by rw [List.length_append];exact gD hc.1
  rcases nA with _|⟨u2,nA⟩
  ·refine kxn_extend Fr N hmem rfl (by simpa using U (PySem.W.listOf us.toArray k)) hd (cW (by show us.length≤_;lia)) (by have:=cW (n:=us.length+1) (by lia);simp only [List.size_toArray,List.length_nil];(exact Nat.le_succ_of_le z2)) fun h' F' N'=>sL e (fin _ (PySem.W.listOf us.toArray k) F' (by simpa using N') ⟨us,_,rfl,by have:=r1.append r2;rwa [List.append_nil] at this,fl⟩)
  ·exact kl_extend Fr N hmem rfl (fun z=>nomatch z) (U _) hd z1 (Nat.le_succ_of_le z2) fun h' F' N'=>sL e (fin _ _ F' N' ⟨us++u2::nA,_,rfl,r1.append r2,fl⟩)
 |get=>
  refine ah e fun l hl e=>ah e fun x hx e=>ah e fun i hi e=>aQ e fun es n hd e=>gC hl h1 fun a ha=>j8 hx h2 fun ux rx=>gW hi rx fun t=>R.qi hd ha fun o kvs hk r1 _ g=>?_;have hD:=(Heap.dictOf_iff.mpr ⟨o,g,hk⟩:sh.heap.DictOf (intKind W.prog W.w) a kvs);refine call_meetsIn PySem.F.slot_dict_get hD.typeIs PySem.F.entry_dict_get (PySem.F.args_dict_get_2 _ _) (meets_dict_get (intKind W.prog W.w) a (intKind_is _ _ i t) (ql R ha)) ⟨_,hD.mapOf,bA e (fun x hx e=>?_) fun hx e=>?_⟩
  ·refine aC (r1.find hx) fun u hu hr=>?_;exact hu.symm▸fin _ _ _ e hr
  ·exact (r1.miss hx).symm▸fin _ _ _ e .none
 |add=>
  refine ah e fun l hl e=>ah e fun x hx e=>ah e fun i hi e=>ah e fun xs hv e=>eT e fun hc e=>ah e fun hp hs e=>gC hl h1 fun a ha=>j8 hx h2 fun ux rx=>gW hi rx fun t=>R.Ml Gl hv ha hs fun m o L F hS hz g Fr N X fin=>?_;have Ft:=Nat.le_of_ble_eq_true hc;refine kse_add Fr N X hS (Nat.lt_of_le_of_lt (Nat.succ_le_succ Ft) (by decide:61<scanBound)) (intKind_is _ _ i t) rfl fun h' so' F' N' hS'=>sL e (fin _ so' F' N' ?_);rw [MZ] at hS';unfold setAdd at hS' ⊢;cases hh:iA i xs with
  |true=>rw [hh] at hS';exact ⟨hS',hz⟩
  |false=>rw [hh] at hS';exact ⟨by rw [List.length_append];exact hS',by rw [List.length_append];exact Nat.succ_le_succ Ft⟩
end
theorem M3 (l:Addr):Meets (Builtin.«bool.__new__» ⟨[.type "bool",.ref l],[]⟩) (fun _ R s=>∃ items:Array Value,s.heap.IsList l items∧items.size≤100000∧∀ t,R (.ok (.ret (.bool (!items.isEmpty)))) { s with toks:=t}):=by intro prog w A R s ⟨items,hl,hz,h⟩;unfold Builtin.«bool.__new__»;refine wpAny_bind (wpAny_of_eq (a:=true) (by first|rfl|rfl) ?_);refine wpAny_bind (wpAny_of_eq (a:=true) F.conv_sub_bool ?_);refine wpAny_bind (m:=someArgs "bool" 0 1 _) (wpAny_of_eq (a:=[.ref l]) (by first|rfl|rfl) ?_);exact wpAny_bind (wpAny_truthy_list hl (by omega) (wpAny_pure (h _)))
theorem zP (x:Int):∀ l:List Int,(ins x l).Perm (x::l)
 |[]=>.refl _
 |y::r=>by
  show (match bf y x with|true=>y::ins x r|false=>x::y::r).Perm _;cases bf y x with
  |true=>exact ((zP x r).cons y).trans (.swap x y r)
  |false=>exact .refl _
theorem zQ:∀ l:List Int,(j5 l).Perm l
 |[]=>.refl _
 |x::r=>(zP x (j5 r)).trans ((zQ r).cons x)
theorem Fv (x:Int):∀{l:List Int},l.Pairwise (·≤·)→(ins x l).Pairwise (·≤·)
 |[],_=>by simp [ins]
 |y::r,h=>by
  show (match bf y x with|true=>y::ins x r|false=>x::y::r).Pairwise _;have hy:=List.pairwise_cons.mp h;cases q:bf y x with
  |true=>
   have:=lV.mp q;refine List.pairwise_cons.mpr ⟨fun z hz=>?_,Fv x hy.2⟩;rcases List.mem_cons.mp ((zP x r).mem_iff.mp hz) with e|e
   ·lia
   ·exact hy.1 z e
  |false=>
   have:¬y<x:=by rw [dZ] at q;exact of_decide_eq_false q
   refine List.pairwise_cons.mpr ⟨fun z hz=>?_,h⟩;rcases List.mem_cons.mp hz with e|e
   ·lia
   ·have:=hy.1 z e;lia
theorem Fw:∀ l:List Int,(j5 l).Pairwise (·≤·)
 |[]=>.nil
 |x::r=>Fv x (Fw r)
theorem Fx:∀{l:List Int},l.Pairwise (·≤·)→lks_asc l=true
 |[],_=>rfl
 |a::r,h=>by
  have:=List.pairwise_cons.mp h;simp only [lks_asc,Bool.and_eq_true,List.all_eq_true,decide_eq_true_eq];exact ⟨this.1,Fx this.2⟩
theorem Fy (t:Nat→Tok):∀(q:List Int) (i:Nat),aF φ (q.map .int) (lks_vals q i t)
 |[],_=>.nil
 |a::r,i=>.cons (.int a _) (Fy t r (i+1))
theorem Fz:∀(vs:List Value) (ks:List Int),vs.length=ks.length→(∀(j:Nat) (v:Value),vs[j]?=some v→∃(k:Int) (t:Tok),ks[j]?=some k∧v=Value.int k t)→kf_ints vs=true∧lks_nums vs=ks
 |[],[],_,_=>⟨rfl,rfl⟩
 |v::vs,k::ks,hl,h=>by
  refine dB (h 0 v rfl) fun k' t h1 h2=>?_;simp at h1;subst h1;subst h2;refine aN (Fz vs ks (by simpa using hl) fun j v e=>by obtain ⟨k',t,p,q⟩:=h (j+1) v (by simpa using e);exact ⟨k',t,by simpa using p,q⟩) fun a b=>?_;exact ⟨a,by show k::lks_nums vs=_;rw [b]⟩
theorem M4 (h:small i=true):i.natAbs.log2<1920:=by
 refine aN (EK h) fun a b=>?_;have h1:i.natAbs<2 ^ 60:=by omega
 by_cases z:i.natAbs=0
 ·rw [z];decide
 ·have:=(Nat.log2_lt z).mpr h1
  (exact Nat.lt_of_lt_of_le this (by decide))
section
variable {W:Wo} {C:Cx} {n:Nat} {D:Md} {A:Around} {env:Env} {ae:au} {φ:List Addr} {s:St} {sh:Shared}
theorem mem_of {h:Heap} {m:Str→Option Value} {os:List Obj} {nl:List (Addr×Obj)} (R:bH W.prog W.w D φ s h m os nl) {l:Nat} {a:Addr} {o:Obj} (hr:D.ro≤l) (ha:φ[l]?=some a) (ho:os[l]?=some o):(a,o)∈(φ.zip os).drop D.ro++nl:=by
 refine List.mem_append_left _ ?_;have:((φ.zip os).drop D.ro)[l- D.ro]?=some (a,o):=by rw [List.getElem?_drop,Nat.add_sub_cancel' hr,List.getElem?_zip_eq_some];exact ⟨ha,ho⟩
 exact List.mem_of_getElem? this
theorem M5 (R:Rep W.prog W.w D φ s h) (l:Addr):(φ++[l])[s.hp.length]?=some l:=by obtain ⟨_,_,_,R⟩:=R;rw [← R.br];simp
theorem FA (R:Rep W.prog W.w D φ s h) {v:AV} {u:Value} {vs:List AV} (e:nX s.hp v=some vs) (r:VR φ v u) {P:Value→Prop} (k1:∀ a us n,aF φ vs us→us.length=vs.length→vs.length≤100000→h.get? a=some (PySem.W.listOf (List.toArray us) n)→P (.ref a)) (k2:∀ a us n,aF φ vs us→us.length=vs.length→vs.length≤100000→h.get? a=some (n9 (List.toArray us) n)→P (.ref a)):P u:=ah e fun _ hl e=>gC hl r fun a ha=>bA e (fun ws hv e=>R.listE (hv.trans e) ha fun us n r l q g=>k1 a us n r l q g) fun _ e=>R.oq e ha fun us n r l q g=>k2 a us n r l q g
theorem M6 (R:Rep W.prog W.w D φ s sh.heap) (e:C5 s.hp x=some (v,h')) (a:VR φ x u) (k:∀(a:AV) (x:Value) (t':Nat),some (a,s.hp)=some (v,h')→VR φ a x→Q x { sh with toks:=t'}):
  wpAny (model W.prog W.w) A (call (.builtin "len") [u]) Q E sh:=by
 have go:(ob (nX s.hp x) fun vs=>match Nat.ble vs.length 16384 with|true=>some (AV.int vs.length,s.hp)|false=>.none)=some (v,h')→wpAny (model W.prog W.w) A (call (.builtin "len") [u]) Q E sh:=fun e=>ah e fun vs hv e=>eT e fun hz e=>FA R hv a (P:=fun u=>wpAny (model W.prog W.w) A (call (.builtin "len") [u]) Q E sh)
   (fun a us n r l q g=>kun_lenL (cQ g) (k:=vs.length) (by rw [List.size_toArray,l]) (by have:=Nat.le_of_ble_eq_true hz;(exact Int.ofNat_le.2 this)) (k _ _ _ e (.int _ _)))
   (fun a us n r l q g=>kun_lenT (qk g) (k:=vs.length) (by rw [List.size_toArray,l]) (by have:=Nat.le_of_ble_eq_true hz;(exact Int.ofNat_le.2 this)) (k _ _ _ e (.int _ _)))
 induction x with
 |str x=>exact a.str' (P:=fun u=>wpAny (model W.prog W.w) A (call (.builtin "len") [u]) Q E sh) fun t q=>PySem.P.len_str (ED q) (k _ _ _ e (.int _ _))
 |_=>exact go e
theorem M7 {vs:List Value} {kvs:List (Int×Value)} (hl:vs.length=kvs.length) (hv:∀(j:Nat) (v:Value),vs[j]?=some v→∃(k:Int) (x:Value),kvs[j]?=some (k,x)∧Value.isInt k v=true):kf_ints vs=true∧lks_nums vs=kvs.map (·.1):=Fz vs (kvs.map (·.1)) (by simpa using hl) fun j u hu=>by refine dB (hv j u hu) fun k x hx hk=>?_;refine aJ (Value.isInt_shape hk) fun t q=>?_;exact ⟨k,t,by rw [List.getElem?_map,hx];rfl,q⟩
theorem M8 (hh:A.handled=none) (Gl:aH W C D φ) (R:Rep W.prog W.w D φ s sh.heap) (e:rS C s.hp l es=some (v,h')) (hd:iz s.hp[l]?=some (es,n)) (ha:φ[l]?=some a):wpAny (model W.prog W.w) A (call (.builtin "sorted") [.ref a]) (Res W.prog W.w D φ sh (Val { s with hp:=h'} v)) (fun _ _=>False) sh:=by
 refine eT e fun hc e=>?_;simp only [Bool.and_eq_true,Bool.not_eq_true'] at hc;have c1:=Nat.le_of_ble_eq_true hc.1.1;have c3:D.ro≤l:=Gl.ro▸Nat.le_of_ble_eq_true hc.2;have R0:=R;obtain ⟨m,os,nl,R⟩:=R;refine aZ (R.at (qc hd) ha) fun o ho q1 g=>?_;refine aZ q1 fun kvs hk r1 _=>?_;have len:=r1.length;have hD:=(Heap.dictOf_iff.mpr ⟨o,g,hk⟩:sh.heap.DictOf (intKind W.prog W.w) a kvs);refine aJ hD.dictAt fun ep hat=>?_;have hmem:=mem_of R c3 ha ho;refine kdu_sorted (kdl_dict (knd:=intKind W.prog W.w) (kvs:=kvs) (ep:=ep) (ql R0 ha)) hh R.fr R.news hat (cW (Nat.le_trans (Nat.le_of_eq len) (Nat.le_trans c1 (by decide)))) fun B h' tk vs F' N' hB hl M9=>?_;refine aN (M7 (vs:=vs) (kvs:=kvs) (by simpa using hl) fun j u hu=>let ⟨k,x,hx,hk⟩:=M9 j u hu;⟨k,x,hx,hk⟩) fun k1 k2=>?_;have hBn:B∉φ.drop D.ro++nl.map (·.1):=ng R hB;have hB2:2<B:=Nat.lt_trans (R.big _ _ ha) (hB _ hmem);refine lks_sort (its:=vs.toArray) (n:=0) (q:=j5 (es.map (·.1))) F' N' (fun t=>Upd.head (fun p hp=>Nat.ne_of_lt (hB p hp))) (by simpa using k1) ?_ ?_ ?_ fun t h'' Nc Nd=>?_
 ·unfold lks_ok;rw [Bool.and_eq_true];refine ⟨List.isPerm_iff.mpr ?_,Fx (Fw _)⟩;show (lks_nums vs).Perm _;rw [k2,r1.keys];exact (zQ _).symm
 ·show vs.isEmpty=false;rcases vs with _|⟨_,_⟩
  ·rcases es with _|⟨_,_⟩
   ·exact Bool.noConfusion hc.1.2
   ·exact nomatch hl.trans len
  ·rfl
 ·exact Nat.lt_of_le_of_lt (Nat.le_trans (Nat.le_of_eq (hl.trans len)) c1) (by decide)
 ·exact gh (G:=fun v h'=>Res W.prog W.w D φ sh (Val { s with hp:=h'} v) _ _) e ⟨⟨rfl,rfl,rfl⟩,_,_,Ext.app φ [B],⟨m,_,nl,R.alloc Nc Nd hBn hB2 (OR.ofList (Fy t _ 0) (by rw [List.length_map,(zQ _).length_eq,List.length_map];exact Nat.le_trans c1 (by decide)))⟩,rfl,.loc (M5 R0 B)⟩
theorem Nf (x y:Int):(if y<x then y else x)=eG x y:=by
 unfold eG;rw [dZ];by_cases q:y<x
 ·rw [if_pos q,decide_eq_true q]
 ·rw [if_neg q,decide_eq_false q]
theorem Ng (hh:A.handled=none) (Gl:aH W C D φ) (e:prim C s.hp f args=some (v,h')) (h2:aF φ args us):WP W.prog W.w D A (call f us) φ s (fun φ' s' u=>s'={ s with hp:=h'}∧VR φ' v u):=by
 intro sh R;have fin:∀(a:AV) (x:Value) (t':Nat),some (a,s.hp)=some (v,h')→VR φ a x→Res W.prog W.w D φ sh (Val { s with hp:=h'} v) x { sh with toks:=t'}:=fun a x t' e q=>gh (G:=fun v h'=>Res W.prog W.w D φ sh (Val { s with hp:=h'} v) x { sh with toks:=t'}) e (jM ⟨rfl,rfl,rfl⟩ (.refl _) R q);induction f using Value.casesOn with
 |builtin id=>
  refine bE e (fun q e=>ah e fun x hx e=>idE q (j8 hx h2 fun u r=>M6 R e r fin)) fun _ e=>bE e (fun q e=>ah e fun x hx e=>ah e fun l hl e=>aQ e fun es n hd e=>idE q (j8 hx h2 fun u r=>gC hl r fun a ha=>M8 hh Gl R e hd ha)) fun _ e=>bE e (fun q e=>ah e fun x hx e=>ah e fun l hl e=>ah e fun vs hv e=>idE q (j8 hx h2 fun u r=>gC hl r fun a ha=>R.listE hv ha fun us k r1 len _ g=>?a)) fun _ e=>eT e fun q e=>aQ e fun x y hx e=>ah e fun i hi e=>ah e fun j hj e=>idE q (L2 hx h2 fun u w r r'=>gW hi r fun t=>gW hj r' fun t'=>?b);case a=>refine call_function_entry (by decide+kernel) (by decide+kernel) kdk_entry_iter (kdk_args_iter _) ?_;unfold Builtin.«iter»;refine wpAny_bind (m:=someArgs "iter" 1 2 _) (wpAny_of_eq (a:=[Value.ref a]) (by first|rfl|kernel_rfl!) ?_);show wpAny _ _ (pyIter (.ref a)>>=_) _ _ _;refine wpAny_bind (wpAny_pyIter_list (cQ g) (wpAny_pure ⟨_,rfl,?_⟩));exact gh (G:=fun v h'=>Res W.prog W.w D φ sh (Val { s with hp:=h'} v) _ _) e ⟨⟨rfl,rfl,rfl⟩,_,_,Ext.app φ _,R.kP (ao:=.jG l 0) ⟨a,Ext.app φ _ _ _ ha,rfl⟩,rfl,kj R _⟩
  case b=>obtain ⟨m,os,nl,R⟩:=R;exact min_two_N hh R.fr R.news fun h' tk F' N'=>gh (G:=fun v h'=>Res W.prog W.w D φ sh (Val { s with hp:=h'} v) _ _) e ⟨⟨rfl,rfl,rfl⟩,φ,s,.refl _,⟨m,os,nl,R.grow F' N'⟩,rfl,by rw [← Nf];split <;>exact .int _ _⟩
 |type id=>
  refine bE e (fun q e=>ah e fun x hx e=>ah e fun i hi e=>eT e fun hc e=>idE q (j8 hx h2 fun u r=>gW hi r fun t=>?a)) fun _ e=>bE e (fun q e=>ah e fun x hx e=>ah e fun vs hv e=>idE q (j8 hx h2 fun u r=>R.qj hv r fun a us n r1 l z g=>?b)) fun _ e=>bE e (fun q e=>ah e fun x hx e=>ah e fun vs hv e=>eT e fun hz e=>idE q (j8 hx h2 fun u r=>R.qj hv r fun a us n r1 l z g=>?c)) fun _ e=>eT e fun q e=>?d;case a=>rw [Bool.and_eq_true] at hc;exact PySem.P.str_of_int (M4 hc.1) (fin _ _ _ e (.str _ _ (gD hc.2)))
  case b=>exact call_bool_1 (M3 a) ⟨us.toArray,cQ g,by rw [List.size_toArray,l];exact z,fun t=>⟨rfl,(emp_eq l).symm▸fin _ _ t e (.bool _)⟩⟩
  case c=>refine call_tuple_list (cQ g) (fun h' hk=>?_) (cW (by rw [List.size_toArray,l];exact Nat.le_trans z (by decide)));have R':=R.ext hk;exact gh (G:=fun v h'=>Res W.prog W.w D φ sh (Val { s with hp:=h'} v) _ _) e ⟨⟨rfl,rfl,rfl⟩,_,_,Ext.app φ _,R'.kP (OR.zD (k:=0) (r1.mono (Ext.app _ _)) z),rfl,kj R' _⟩
  case d=>rw [Bool.and_eq_true] at q;refine idE q.1 (sD q.2 h2 ?_);have R0:=R;obtain ⟨m,os,nl,R⟩:=R;refine newSet_N R.fr R.news fun h' led F' N'=>?_;exact gh (G:=fun v h'=>Res W.prog W.w D φ sh (Val { s with hp:=h'} v) _ _) e ⟨⟨rfl,rfl,rfl⟩,_,_,Ext.app φ [sh.heap.objs.size],⟨m,_,nl,R.alloc (ao:=.set []) F' N' (ng R R.lt_size) R.hsz ⟨setObjOf_fresh (knd:=intKind W.prog W.w) led,by simp⟩⟩,rfl,kj R0 _⟩
 |_=>exact e0 e
end
section
variable {W:Wo} {C:Cx} {n:Nat} {D:Md} {A:Around} {env:Env} {ae:au} {φ:List Addr} {s:St} {sh:Shared} {α β:Type}
theorem WP.hold (h:WP W.prog W.w D A t φ s P):WP W.prog W.w D A (holding vs t) φ s P:=fun sh R=>wpAny_holding (h sh R)
theorem WP.FD (h:WP W.prog W.w D A t φ s P):WP W.prog W.w D A (operate vs t) φ s P:=fun sh R=>wpAny_operating (h sh R)
theorem WP.after (h:WP W.prog W.w D A t φ s P):WP W.prog W.w D A (standAt p>>=fun _=>t) φ s P:=fun sh R=>wpAny_bind (wpAny_standAt (h sh R))
theorem WP.release:WP W.prog W.w D A (release vs keep) φ s (fun φ' s' _=>φ'=φ∧s'=s):=fun _ R=>wpAny_release (iU ⟨rfl,rfl,rfl⟩ R ⟨rfl,rfl⟩)
theorem WP.eq (e:t=t') (h:WP W.prog W.w D A t' φ s P):WP W.prog W.w D A t φ s P:=e▸h
theorem WP.go:WP W.prog W.w D A (letTemporaryGo base o r) φ s (fun φ' s' _=>φ'=φ∧s'=s):=fun _ R=>wpAny_letTemporaryGo (iU ⟨rfl,rfl,rfl⟩ R ⟨rfl,rfl⟩)
end
inductive FR (φ:List Addr):Fl→Flow→Prop
 |next:FR φ .next .next
 |brk:FR φ .brk .brk
 |cont:FR φ .cont .cont
 |ret {v:AV} {u:Value}:VR φ v u→FR φ (.ret v) (.ret u)
noncomputable def bB (W:Wo) (C:Cx) (k:Nat) (f:PySem.Expr→au→St→Option (AV×St)):Prop:=
 ∀{D:Md} {A:Around} {env:Env} {ae:au} {φ:List Addr} {s:St} {e:PySem.Expr} {v:AV} {s':St},Good W k D A env ae φ→aH W C D φ→f e ae s=some (v,s')→WP W.prog W.w D A (eval e env) φ s (Val s' v)
noncomputable def iX (W:Wo) (C:Cx) (k:Nat) (f:PySem.Expr→au→St→Option (Bool×St)):Prop:=
 ∀{D:Md} {A:Around} {env:Env} {ae:au} {φ:List Addr} {s:St} {e:PySem.Expr} {v:Bool} {s':St},Good W k D A env ae φ→aH W C D φ→f e ae s=some (v,s')→WP W.prog W.w D A (isTrue e env (eval e env)) φ s (fun _ s'' u=>s''=s'∧u=v)
noncomputable def gF (W:Wo) (C:Cx) (k:Nat) (f:List Stmt→au→St→Option (Fl×St)):Prop:=
 ∀{D:Md} {A:Around} {env:Env} {ae:au} {φ:List Addr} {s:St} {e:List Stmt} {v:Fl} {s':St},Good W k D A env ae φ→aH W C D φ→f e ae s=some (v,s')→WP W.prog W.w D A (execs e env) φ s (fun φ' s'' u=>s''=s'∧FR φ' v u)
noncomputable def ju (W:Wo) (D:Md) (A:Around) (c:Code) (φ:List Addr) (s:St) (P:List Addr→St→Value→Prop):Prop:=
 ∀ sh,Rep W.prog W.w D φ s sh.heap→codeAny (model W.prog W.w) A c (fun r sh'=>match r with| .ok (.ret v)=>Res W.prog W.w D φ sh P v sh'| .ok _=>False| .error _=>False) sh
noncomputable def kU (W:Wo) (C:Cx) (k:Nat) (f:AV→List AV→AH→Option (AV×AH)):Prop:=
 ∀{D:Md} {A:Around} {φ:List Addr} {s:St} {c v:AV} {uc:Value} {vs:List AV} {us:List Value} {h':AH},Cy W D A→dw k A→A.handled=none→aH W C D φ→f c vs s.hp=some (v,h')→VR φ c uc→aF φ vs us→WP W.prog W.w D A (call uc us) φ s (Val { s with hp:=h'} v)∧∀ a,uc=.ref a→fnIn W.K a=true→ju W D A (.call uc ⟨us,[]⟩) φ s (Val { s with hp:=h'} v)
section
variable {W:Wo} {C:Cx} {n:Nat} {D:Md} {A:Around} {env:Env} {ae:au} {φ:List Addr} {s:St} {sh:Shared} {R:Rec}
theorem qA (h:jk e=none):starEach (e::r) env=(false,eval e env)::starEach r env:=by
 induction e using PySem.Expr.casesOn with
 |Starred=>exact e0 (Eq.symm h)
 |_=>rfl
theorem ku (h:noStar (e::r)=true):jk e=none∧noStar r=true:=by
 have h:(match jk e with|some _=>false| .none=>noStar r)=true:=h;cases q:jk e
 ·rw [q] at h;exact ⟨rfl,h⟩
 ·rw [q] at h;exact Bool.noConfusion h
theorem Nh (h:noStar (e::r)=true):starEach (e::r) env=(false,eval e env)::starEach r env∧noStar r=true:=⟨qA (ku h).1,(ku h).2⟩
noncomputable def Vals (s':St) (vs:List AV):List Addr→St→List Value→Prop:=fun φ' s'' us=>s''=s'∧aF φ' vs us
theorem sM (e:some (a,b)=some (v,s')) (h:WP W.prog W.w D A t φ s (Vals b a)):WP W.prog W.w D A t φ s (Vals s' v):=(pin e).1▸(pin e).2▸h
theorem Ni (p:Pos) (t:Sem Value) (r:List (Bool×Sem Value)):backTo p ((false,t)::r)=(false,t)::backTo p r:=rfl
theorem qB (t:Sem Value) (r:List (Bool×Sem Value)):spliced ((false,t)::r)=(t>>=fun v=>holding [v] (spliced r)>>=fun z=>pure (v::z)):=by rw [spliced];simp only [Bool.false_eq_true,if_false,pure_bind];rfl
theorem FE (h:bB W C n R.ev) (G:Good W n D A env ae φ) (Gl:aH W C D φ) (hn:jk e=none) (hv:R.ev e ae s=some (v,s₁)) (k:∀ φ',Ext φ φ'→WP W.prog W.w D A (spliced (backTo p (starEach r env))) φ' s₁ (Vals s₂ ws)):WP W.prog W.w D A (spliced (backTo p (starEach (e::r) env))) φ s (Vals s₂ (v::ws)):=WP.eq ((congrArg (fun z=>spliced (backTo p z)) (qA hn)).trans (qB _ _)) ((h G Gl hv).lY fun φ₁ u x₁ hr=>(WP.hold (k φ₁ x₁)).zy fun cU us x₃ b=>WP.pure' ⟨rfl,.cons (hr.mono x₃) b⟩)
theorem Nj (h:bB W C n R.ev):∀{φ:List Addr} {s:St} {vs:List AV} {s':St} {p:Pos},Good W n D A env ae φ→aH W C D φ→noStar es=true→cJ R ae es s=some (vs,s')→WP W.prog W.w D A (spliced (backTo p (starEach es env))) φ s (Vals s' vs):=by
 induction es with
 |nil=>exact fun _ _ _ e=>sM e (WP.pure' ⟨rfl,.nil⟩)
 |cons e r ih=>exact fun G Gl hs he=>aQ he fun v s₁ hv he=>aQ he fun ws s₂ hw he=>sM he (FE h G Gl (ku hs).1 hv fun φ₁ x₁=>ih (G.mono x₁) (Gl.mono x₁) (ku hs).2 hw)
theorem FF (r:aF φ vs us) (hl:vs.length≤100000):WP W.prog W.w D A (newList us) φ s (Val { s with hp:=s.hp++[.list vs]} (.loc s.hp.length)):=fun sh R=>wpAny_newList ⟨⟨rfl,rfl,rfl⟩,_,_,Ext.app φ _,R.kP (OR.ofList (k:=0) (r.mono (Ext.app _ _)) hl),rfl,kj R _⟩ (cW (by rw [r.length];(exact Nat.le_trans hl (by decide))))
theorem Nl (r:aF φ vs us) (hl:vs.length≤100000):WP W.prog W.w D A (newTuple us) φ s (Val { s with hp:=s.hp++[.tup vs]} (.loc s.hp.length)):=fun sh R=>wpAny_newTuple ⟨⟨rfl,rfl,rfl⟩,_,_,Ext.app φ _,R.kP (OR.zD (k:=0) (r.mono (Ext.app _ _)) hl),rfl,kj R _⟩ (cW (by rw [r.length];(exact Nat.le_trans hl (by decide))))
theorem Nm (h:cJ R ae es s=some (vs,s')):vs.length=es.length:=by
 induction es generalizing s vs s' with
 |nil=>exact (pin h).1▸rfl
 |cons e r ih=>exact aQ h fun v s hv h=>aQ h fun ws s hw h=>(pin h).1▸congrArg Nat.succ (ih hw)
theorem FG (h:bB W C n R.ev) (hr:dw n A) (G:Good W n D A env ae φ) (Gl:aH W C D φ) (e:n6 R ae l op r s=some (x,s')) (p:Pos):WP W.prog W.w D A (eval l env>>=fun a=>holding [a] (markedBehindIn op r (eval r env))>>=fun b=>standAt p>>=fun _=>operate [a,b] (compareOp op a b)) φ s (Val s' (.bool x)):=by
 refine eE e fun bL e=>aQ e fun a s₁ ha e=>aQ e fun b s₂ hb e=>ah e fun y hy e=>iS (G:=fun q:Bool×St=>WP W.prog W.w D A _ φ s (Val q.2 (.bool q.1))) e ?_;refine (h G Gl ha).lY fun φ₁ u x₁ r1=>?_;have hm:behindInMarks op r=false:=by
  induction r using PySem.Expr.casesOn with
  |Set=>exact Bool.noConfusion bL
  |_=>rfl
 rw [markedBehindIn_of_false hm];exact (WP.hold (h (G.mono x₁) (Gl.mono x₁) hb)).lY fun φ₂ u₂ x₂ r2=>WP.after (WP.FD ((EC hr hy (r1.mono x₂) r2).mono fun cU s₃ u x₃ z=>⟨z.2.1,z.2.2▸ .bool _⟩))
end
noncomputable def Md.hid (D:Md) (p:Addr×Obj):Md:={ D with extra:=p::D.extra}
section
variable {W:Wo} {C:Cx} {n:Nat} {D:Md} {A:Around} {env:Env} {ae:au} {φ:List Addr} {s:St} {sh:Shared} {R:Rec} {h h':Heap} {p:Addr×Obj}
theorem Good.hid (G:Good W n D A env ae φ):Good W n (D.hid p) A env ae φ:=⟨⟨G.ev.kind,G.ev.names,G.ev.locals,G.ev.globals,G.ev.builtins,G.ev.frame,G.ev.cells,G.ev.ok⟩,⟨G.cy.x,G.cy.t,G.cy.b⟩,G.room,G.quiet⟩
theorem aH.hid (G:aH W C D φ):aH W C (D.hid p) φ:=⟨G.glob,G.ro,G.deep⟩
theorem Cy.hid (G:Cy W D A):Cy W (D.hid p) A:=⟨G.x,G.t,G.b⟩
theorem Lo.split (h:Lo (D.hid p) φ s.lo m nl):∃ pre post,nl=pre++p::post∧∀ q,Lo (D.hid q) φ s.lo m (pre++q::post)∧Lo D φ s.lo m (pre++post):=by
 refine aC h fun fr hfr h=>?_;cases hm:D.mF with
 |none=>
  have h:D.lc=D.L∧nl=p::(D.extra++fr)∧MR φ s.lo m:=by have e:(D.hid p).mF=none:=hm;rw [e] at h;exact h
  refine ⟨[],D.extra++fr,h.2.1,fun q=>⟨⟨fr,hfr,?_⟩,fr,hfr,?_⟩⟩
  ·have e:(D.hid q).mF=none:=hm;rw [e];exact ⟨h.1,rfl,h.2.2⟩
  ·rw [hm];exact ⟨h.1,rfl,h.2.2⟩
 |some mF=>
  have h:m=mF∧∃ oc,nl=(D.lc,oc)::p::(D.extra++fr)∧vL φ s.lo oc:=by have e:(D.hid p).mF=some mF:=hm;rw [e] at h;exact h
  refine rN h fun h1 oc h2 h3=>?_;refine ⟨[(D.lc,oc)],D.extra++fr,h2,fun q=>⟨⟨fr,hfr,?_⟩,fr,hfr,?_⟩⟩
  ·have e:(D.hid q).mF=some mF:=hm;rw [e];exact ⟨h1,oc,rfl,h3⟩
  ·rw [hm];exact ⟨h1,oc,rfl,h3⟩
theorem Lo.join (h:Lo D φ s.lo m nl):∃ pre post,nl=pre++post∧∀ q,Lo (D.hid q) φ s.lo m (pre++q::post):=by
 refine aC h fun fr hfr h=>?_;cases hm:D.mF with
 |none=>
  rw [hm] at h;refine ⟨[],D.extra++fr,h.2.1,fun q=>⟨fr,hfr,?_⟩⟩;have e:(D.hid q).mF=none:=hm;rw [e];exact ⟨h.1,rfl,h.2.2⟩
 |some mF=>
  rw [hm] at h;refine rN h fun h1 oc h2 h3=>?_;refine ⟨[(D.lc,oc)],D.extra++fr,h2,fun q=>⟨fr,hfr,?_⟩⟩;have e:(D.hid q).mF=some mF:=hm;rw [e];exact ⟨h1,oc,rfl,h3⟩
theorem Rep.Nn (R:Rep W.prog W.w D φ s h) (x:∀ m os nl,bH W.prog W.w D φ s h m os nl→Fr D.g D.L h' m∧News D.g D.L h' ((l,o)::((φ.zip os).drop D.ro++nl))∧l∉φ.drop D.ro++nl.map (·.1)):Rep W.prog W.w (D.hid (l,o)) φ s h':=by
 obtain ⟨m,os,nl,R⟩:=R;refine cP (x m os nl R) fun F N hl=>?_;refine dB R.lo.join fun pre post e1 e2=>?_;subst e1;refine ⟨m,os,pre++(l,o)::post,F,?_,R.rd,R.len,R.br,R.c9,R.rel,R.pin,?_,e2 _,R.big,R.cV⟩
 ·intro p hp;refine N p ?_;simp only [List.mem_append,List.mem_cons] at hp ⊢;rcases hp with hp|hp|hp|hp
  ·exact .inr (.inl hp)
  ·exact .inr (.inr (.inl hp))
  ·exact .inl hp
  ·exact .inr (.inr (.inr hp))
 ·have nd:=R.nd;have perm:(φ.drop D.ro++(pre++(l,o)::post).map (·.1)).Perm (l::(φ.drop D.ro++(pre++post).map (·.1))):=by simp only [List.map_append,List.map_cons,← List.append_assoc];exact List.perm_middle
  exact perm.nodup_iff.mpr (List.nodup_cons.mpr ⟨hl,nd⟩)
theorem Rep.hide (R:Rep W.prog W.w D φ s h) (hf:o.isFreed=false:=by rfl):Rep W.prog W.w (D.hid (h.objs.size,o)) φ s (h.push o):=R.Nn fun m os nl R=>⟨R.fr.push o,News.push R.fr R.news o hf,ng R R.lt_size⟩
theorem bH.FH {m:Str→Option Value} {os:List Obj} {nl:List (Addr×Obj)} (R:bH W.prog W.w (D.hid p) φ s h m os nl):p∈(φ.zip os).drop D.ro++nl:=by refine dB R.lo.split fun pre post e _=>?_;subst e;exact List.mem_append_right _ (List.mem_append_right _ (.head _))
theorem Rep.g6 (R:Rep W.prog W.w (D.hid p) φ s h):h.get? p.1=some p.2∧p.1≠D.L∧D.g.get? p.1=none:=by obtain ⟨m,os,nl,R⟩:=R;exact R.news _ R.FH
theorem bH.drop {m:Str→Option Value} {os:List Obj} {nl:List (Addr×Obj)} (R:bH W.prog W.w (D.hid p) φ s h m os nl):∃ nl',bH W.prog W.w D φ s h m os nl'∧p.1∉φ.drop D.ro++nl'.map (·.1)∧(∀ q,q∈nl↔(q=p∨q∈nl')):=by
 refine dB R.lo.split fun pre post e k=>?_;subst e;have nd:=R.nd;have perm:(φ.drop D.ro++(pre++p::post).map (·.1)).Perm (p.1::(φ.drop D.ro++(pre++post).map (·.1))):=by simp only [List.map_append,List.map_cons,← List.append_assoc];exact List.perm_middle
 have fM:=List.nodup_cons.mp (perm.nodup_iff.mp nd);refine ⟨pre++post,⟨R.fr,fun q hq=>R.news q ?_,R.rd,R.len,R.br,R.c9,R.rel,R.pin,fM.2,(k p).2,R.big,R.cV⟩,fM.1,fun q=>?_⟩
 ·rcases List.mem_append.mp hq with z|z
  ·exact List.mem_append_left _ z
  ·rcases List.mem_append.mp z with z|z
   ·exact List.mem_append_right _ (List.mem_append_left _ z)
   ·exact List.mem_append_right _ (List.mem_append_right _ (.tail _ z))
 ·simp only [List.mem_append,List.mem_cons];constructor
  ·rintro (z|z|z)
   ·exact .inr (.inl z)
   ·exact .inl z
   ·exact .inr (.inr z)
  ·rintro (z|z|z)
   ·exact .inr (.inl z)
   ·exact .inl z
   ·exact .inr (.inr z)
theorem Rep.drop (R:Rep W.prog W.w (D.hid p) φ s h):Rep W.prog W.w D φ s h:=let ⟨m,os,nl,R⟩:=R;let ⟨nl',R',_⟩:=R.drop;⟨m,os,nl',R'⟩
theorem Rep.bL (R:Rep W.prog W.w (D.hid (l,o)) φ s h) (hs:Heap.SameBut l h h') (ho:h'.get? l=some o'):Rep W.prog W.w (D.hid (l,o')) φ s h':=by
 refine cP R.g6 fun q1 q2 q3=>?_;obtain ⟨m,os,nl,R⟩:=R;refine aZ R.drop fun nl' R' hn _=>?_;refine dB R.lo.split fun pre post e k=>?_;subst e;have z1:((φ.zip os).drop D.ro).map (·.1)=φ.drop D.ro:=by rw [List.map_drop,List.map_fst_zip];rw [R.br,R.len];exact Nat.le_refl _
 have nd:=R.nd;have perm:(φ.drop D.ro++(pre++(l,o)::post).map (·.1)).Perm (l::(φ.drop D.ro++(pre++post).map (·.1))):=by simp only [List.map_append,List.map_cons,← List.append_assoc];exact List.perm_middle
 have fM:=(List.nodup_cons.mp (perm.nodup_iff.mp nd)).1;refine ⟨m,os,pre++(l,o')::post,⟨R.fr.ns.sameBut hs (Ne.symm q2),fun b ob e=>(hs.2 b (fun z=>?_)).trans (R.fr.keep b ob e),R.fr.above⟩,?_,R.rd,R.len,R.br,R.c9,R.rel,R.pin,?_,(k _).1,R.big,R.cV⟩
 ·have e':D.g.get? b=some ob:=e;rw [z,q3] at e';cases e'
 ·intro p hp;have old:∀ p,p∈(φ.zip os).drop D.ro++(pre++post)→p.1≠l:=fun p hp z=>fM (by
   rw [← z,← z1];rcases List.mem_append.mp hp with y|y
   ·exact List.mem_append_left _ (List.mem_map_of_mem y)
   ·exact List.mem_append_right _ (List.mem_map_of_mem y))
  have go:∀ p,p∈(φ.zip os).drop D.ro++(pre++post)→h'.get? p.1=some p.2∧p.1≠D.L∧D.g.get? p.1=none:=fun p hp=>by
   have P:=R.news p (by
    rcases List.mem_append.mp hp with z|z
    ·exact List.mem_append_left _ z
    ·rcases List.mem_append.mp z with z|z
     ·exact List.mem_append_right _ (List.mem_append_left _ z)
     ·exact List.mem_append_right _ (List.mem_append_right _ (.tail _ z)))
   exact ⟨(hs.2 _ (old p hp)).trans P.1,P.2⟩
  rcases List.mem_append.mp hp with z|z
  ·exact go p (List.mem_append_left _ z)
  ·rcases List.mem_append.mp z with z|z
   ·exact go p (List.mem_append_right _ (List.mem_append_left _ z))
   ·rcases List.mem_cons.mp z with rfl|z
    ·exact ⟨ho,q2,q3⟩
    ·exact go p (List.mem_append_right _ (List.mem_append_right _ z))
 ·show (φ.drop D.ro++(pre++(l,o')::post).map (·.1)).Nodup;have zR:(φ.drop D.ro++(pre++(l,o)::post).map (·.1)).Nodup:=nd;simpa using zR
theorem Rep.Np (R:Rep W.prog W.w (D.hid (l,o)) φ s h) (hl:2<l) (ho:OR W.prog W.w (φ++[l]) ao o):Rep W.prog W.w D (φ++[l]) { s with hp:=s.hp++[ao]} h:=by
 obtain ⟨m,os,nl,R⟩:=R;refine aZ R.drop fun nl' R' hn hm=>?_;refine ⟨m,_,nl',R'.alloc R'.fr (fun p hp=>?_) hn hl ho⟩;rcases List.mem_cons.mp hp with rfl|hp
 ·exact R.news _ R.FH
 ·exact R'.news p hp
end
theorem Nq {K:Frag} {c f:Addr} {od:Obj} {x:Str} {g:Value} (h1:hasDictIn K c=true) (h2:findIn K (.ref c) x=some (some (.ref f))) (h3:specialIn K (.ref f) "__get__" =some (some g)) (h4:takesIn K (.ref f)=some false) (h5:copiedNames.contains x=false) (h6:lookIn x od=some none):findObj K c (some od) x=some (.bind g (.ref f)):=by
 refine aC (any_some h1) fun cd hc' hd=>?_;unfold findObj;have ho:W.ownOf cd (some od) x=some none:=by unfold W.ownOf;rw [if_pos hd];exact h6
 rw [hc',Option.bind_some,h2,Option.bind_some];simp only [h3,Option.bind_some,h4,ho,h5,Bool.false_and,Bool.false_eq_true,if_false]
section
variable {W:Wo} {C:Cx} {n:Nat} {D:Md} {A:Around} {env:Env} {ae:au} {φ:List Addr} {s:St} {sh:Shared} {R:Rec}
theorem FI (hc:qy W C) (R:Rep W.prog W.w D φ s h) (e:kJ C s.hp name o=some f) (h1:VR φ o uo):∃ x c dx es k fa,uo=.ref x∧f=.fix (.ref fa)∧InstAt h x (instObj c dx) c (some (dictOf es k))∧getL name es=some none∧findIn W.K (.ref c) name=some (some (.ref fa))∧isFn W.K (.ref fa)=true∧fnIn W.K fa=true∧keepIn W.K (.ref fa)=true∧plainGet W.K c "" =true∧hasDictIn W.K c=true∧specialIn W.K (.ref fa) "__get__" =some (some (.builtin "function.__get__"))∧takesIn W.K (.ref fa)=some false∧copiedNames.contains name=false:=by refine ah e fun l hl e=>gC hl h1 fun a ha=>aQ e fun c d hi e=>ah e fun m hd e=>eT e fun hm e=>ah e fun k hk e=>eT e fun hs e=>ah e fun fa hf e=>?_;have X:=hc c k hk;refine nQ (X.meth name fa hf) fun t1 t2 t3 t4=>?_;refine nQ (X.bound (Option.isNone_iff_eq_none.mp hs) name fa hf) fun b1 b2 b3 b4=>?_;refine CU (zO R (zq hi) (qd hd) ha) fun dx es kk _ I _ _ _ k2 _=>?_;exact ⟨a,c,dx,es,kk,fa,rfl,(Option.some.inj e).symm,I,k2 _ (Option.isNone_iff_eq_none.mp hm),t1,t2,t3,t4,X.plain,b1,b2,b3,b4⟩
theorem Nr (e:kJ C h name o=some f):∃ fa,f=.fix (.ref fa):=ah e fun l _ e=>aQ e fun c d _ e=>ah e fun m _ e=>eT e fun _ e=>ah e fun k _ e=>eT e fun _ e=>ah e fun fa _ e=>⟨fa,(Option.some.inj e).symm⟩
theorem FJ:lookIn x (dictOf es k)=getL x es:=rfl
theorem Nt (hc:qy W C) (cy:Cy W D A) (e:kJ C s.hp name o=some (.fix (.ref fa))) (h1:VR φ o uo):WP W.prog W.w D A (getMethod uo name pl) φ s (fun φ' s' r=>φ'=φ∧s'=s∧r=(.ref fa,[uo])∧keepIn W.K (.ref fa)=true):=by intro sh R;have XK:=cy.x.keeps R.keeps;refine Kz (FI hc R e h1) fun x c dx es k Nu q1 e2 I g t1 t2 t3 t4 t5 _=>?_;subst q1;cases e2;exact method_fn XK I (plainGet_of t5).1 (plainGet_of t5).2 t1 (beq_iff_eq.mp t2) (by show (lookIn name (dictOf es k)).map (·.isSome)=_;rw [FJ,g];rfl) (iU ⟨rfl,rfl,rfl⟩ R ⟨rfl,rfl,rfl,t4⟩)
theorem Nv (hc:qy W C) (cy:Cy W D A) {name:Str} {o:AV} {fa:Addr} {uo:Value} {Q:Value→Shared→Prop} {E:Value→Shared→Prop} {b:Bool} (e:kJ C s.hp name o=some (.fix (.ref fa))) (h1:VR φ o uo) (R:Rep W.prog W.w D φ s sh.heap) (k:∀ q sh',bu sh sh'→Rep W.prog W.w (D.hid (q,methodObj (.ref fa) uo)) φ s sh'.heap→fnIn W.K fa=true→Q (.ref q) sh'):wpAny (model W.prog W.w) A (getAttr uo name b) Q E sh:=by have XK:=cy.x.keeps R.keeps;refine KA (FI hc R e h1) fun x c dx es kk Nu q1 e2 I g t1 t2 t3 t4 t5 t6 t7 t8 t9=>?_;subst q1;cases e2;refine get_bind XK I (plainGet_of t5).1 (Nq t6 t1 t7 t8 t9 (by rw [FJ,g])) (plainGet_of t5).2 (wpAny_call (fn_get (s:={ sh with toks:=sh.toks+1}) XK (beq_iff_eq.mp t2) ?_));exact handed_on rfl (k _ _ ⟨rfl,rfl,rfl⟩ (R.hide (o:=methodObj (.ref fa) (.ref x))) t3)
end
theorem zS (h:rW o=false):attributeBase o x env t=t:=by
 induction o using PySem.Expr.casesOn with
 |Call f as ks p=>
  induction f using PySem.Expr.casesOn with
  |Name id q=>
   rcases as with _|_
   ·rcases ks with _|_
    ·have hs:(id !=("super" :Str))=true:=by have e:sE id "super" =false:=h;rw [vJ] at e;show (!(id==("super" :Str)))=true;rw [e];rfl
     refine if_pos ?_;rw [hs];rfl
    ·rfl
   ·rfl
  |_=>rfl
 |_=>rfl
theorem qC (h:noStar args=true):(backTo p (starEach args env)).any (·.1)=false:=by
 induction args with
 |nil=>rfl
 |cons e r ih=>rw [qA (ku h).1];exact ih (ku h).2
theorem Nx (h:noStar args=true):(backTo p (starEach args env)).all (!·.1)=true:=by
 induction args with
 |nil=>rfl
 |cons e r ih=>rw [qA (ku h).1];exact ih (ku h).2
theorem Ny (h:noStar args=false):(backTo p (starEach args env)).any (·.1)=true∧(backTo p (starEach args env)).all (!·.1)=false:=by
 induction args with
 |nil=>exact Bool.noConfusion h
 |cons e r ih=>
  have h:(match jk e with|some _=>false| .none=>noStar r)=false:=h;cases q:jk e
  ·rw [q] at h;rw [qA q];exact ih h
  ·refine aJ (zh q) fun p' z=>?_;rw [z];exact ⟨rfl,rfl⟩
theorem qD:∀{s:St},noStar args=true→pG R ae args s=cJ R ae args s:=by
 induction args with
 |nil=>exact fun _=>rfl
 |cons e r ih=>
  intro s h;refine dH (ku h).1 ?_;show _=aV _ _;congr 1;funext v s;rw [ih (ku h).2]
section
variable {W:Wo} {C:Cx} {n:Nat} {D:Md} {A:Around} {env:Env} {ae:au} {φ:List Addr} {s:St} {sh:Shared} {R:Rec}
theorem zT (h1:noStar args=true) (h2:Nat.beq apos.endLine pos.line=true) (h3:Nat.blt args.length 30=true):methodCall o m apos pos env ov args.length (backTo pos (starEach args env)) []=(holding [ov] (getMethod ov m (do return (← importBound o env).getD true))>>=fun fx=>callWith pos fx.1 fx.2 (backTo pos (starEach args env)) []):=by
 have few:methodCallForm args.length (backTo pos (starEach args env)) []=true:=by unfold methodCallForm;rw [Nx h1];have:args.length<30:=Nat.le_of_ble_eq_true h3;simp [this]
 unfold methodCall;rw [few];have hp:methodCallPos true o env apos pos=pure pos:=by unfold methodCallPos;rw [if_pos (by have:=Nat.eq_of_beq_eq_true h2;simp [this])]
 simp only [hp,pure_bind];rfl
theorem Nz (h1:noStar args=false):methodCall o m apos pos env ov args.length (backTo pos (starEach args env)) []=(holding [ov] (getAttr ov m true>>=fun f=>pure (f,[]))>>=fun fx=>callWith pos fx.1 fx.2 (backTo pos (starEach args env)) []):=by
 have few:methodCallForm args.length (backTo pos (starEach args env)) []=false:=by unfold methodCallForm;rw [(Ny h1).2];rfl
 unfold methodCall;rw [few];have hp:methodCallPos false o env apos pos=pure pos:=by unfold methodCallPos;rw [if_pos (by rfl)]
 simp only [hp,pure_bind];rfl
theorem FL (R:Rep W.prog W.w D φ s sh.heap) (e:nX s.hp v=some vs) (h1:VR φ v u) (k:∀ us sh',bu sh sh'→Rep W.prog W.w D φ s sh'.heap→aF φ vs us→Q us sh'):StarOf (model W.prog W.w) A E u Q sh:=by
 refine FA R e h1 (P:=fun u=>StarOf (model W.prog W.w) A E u Q sh) (fun a us kk r1 len hl g=>?_) (fun a us kk r1 len hl g=>?_)
 ·exact wpAny_bind (wpAny_specialOf (T:= "list") ⟨_,g,rfl⟩ PySem.F.slot_list_iter.lookup (wpAny_pure ⟨rfl,wpAny_collect_seq a (.inl rfl) g rfl rfl (fun h' hk=>k _ _ ⟨rfl,rfl,rfl⟩ (R.ext hk) r1) (cW (by rw [List.size_toArray,len];exact Nat.le_trans hl (by decide)))⟩))
 ·exact wpAny_bind (wpAny_specialOf (T:= "tuple") ⟨_,g,rfl⟩ PySem.F.slot_tuple_iter.lookup (wpAny_pure ⟨rfl,wpAny_collect_seq a (.inr rfl) g rfl rfl (fun h' hk=>k _ _ ⟨rfl,rfl,rfl⟩ (R.ext hk) r1) (cW (by rw [List.size_toArray,len];exact Nat.le_trans hl (by decide)))⟩))
theorem NB (h:bB W C n R.ev):∀{φ:List Addr} {s:St} {vs:List AV} {s':St} {p:Pos},Good W n D A env ae φ→aH W C D φ→pG R ae es s=some (vs,s')→WP W.prog W.w D A (spliced (backTo p (starEach es env))) φ s (Vals s' vs):=by
 induction es with
 |nil=>exact fun _ _ e=>sM e (WP.pure' ⟨rfl,.nil⟩)
 |cons e r ih=>
  intro φ s vs s' p G Gl he;refine bA he (fun x hx he=>aQ he fun v s₁ hv he=>ah he fun here hh he=>aQ he fun ws s₂ hw he=>sM he ?_) fun hn he=>aQ he fun v s₁ hv he=>aQ he fun ws s₂ hw he=>sM he (FE h G Gl hn hv fun φ₁ x₁=>ih (G.mono x₁) (Gl.mono x₁) hw);refine aJ (zh hx) fun p' q1=>?_;subst q1;exact fun sh Rp=>items_star (e:=x) (p:=p') ((h G Gl hv).iD Rp fun u aO φ₁ m₁ x₁ aD r1=>FL aD hh r1 fun us aK m₂ aI r2=>(ih (G.mono x₁) (Gl.mono x₁) hw).oh aI fun us' d9 cU m₃ x₃ bz r3=>⟨m₁.trans (m₂.trans m₃),cU,_,x₁.trans x₃,bz,rfl,(r2.mono x₃).append r3⟩)
theorem kW (h:bB W C n R.ev) (G:Good W n D A env ae φ) (Gl:aH W C D φ) (hf:yM es=true) (he:pG R ae es s=some (vs,s')) (Rp:Rep W.prog W.w D φ s sh.heap) (k:∀ us sh' φ',bu sh sh'→Ext φ φ'→Rep W.prog W.w D φ' s' sh'.heap→aF φ' vs us→Q ⟨us,[]⟩ sh'):wpAny (model W.prog W.w) A (evalArgs f true (backTo p (starEach es env)) []) Q E sh:=by
 rcases es with _|⟨e,r⟩
 ·have z:=pin he;exact evalArgs_nil3 (k [] sh φ (.refl _) (.refl _) (z.2▸Rp) (z.1▸ .nil))
 ·cases q:jk e with
  |none=>
   have z:=(NB (p:=p) h G Gl he).oh Rp (Q:=fun us sh'=>Q ⟨us,[]⟩ sh') (E:=E) k;rw [qA q,Ni] at z ⊢;exact evalArgs_plain z
  |some x=>
   refine aJ (zh q) fun p' q1=>?_;subst q1;rcases r with _|⟨_,_⟩
   ·refine bA he (fun y hy he=>aQ he fun v s₁ hv he=>ah he fun here hh he=>?_) fun hn he=>e0 (Eq.symm hn);have z:=pin (b:=s₁) he;refine ks_lone (x:=eval x env) ((h G Gl (Option.some.inj hy▸hv)).iD Rp fun u aO φ₁ m₁ x₁ aD r1=>FL aD hh r1 fun us aK m₂ aI r2=>?_);exact k us aK φ₁ (m₁.trans m₂) x₁ (z.2▸aI) (z.1▸(List.append_nil here).symm▸r2)
   ·exact Bool.noConfusion hf
theorem wc {P:Heap→Prop} {pos:Pos} {f:Value} {first:List Value} {args:List (Bool×Sem Value)} {Q:Value→Shared→Prop} {E:Value→Shared→Prop} (hk:∀ h,P h→∃ k,(k=Keeper.frame∨k=Keeper.machine∨k=Keeper.boundFrame)∧Looks (model W.prog W.w) h (keeperOf f) k) (h:wpAny (model W.prog W.w) A (evalArgs f true args []) (fun a s₁=>P s₁.heap∧wpAny (model W.prog W.w) A (call f (first++a.pos) a.kw) Q E s₁) E sh):wpAny (model W.prog W.w) A (callWith pos f first args []) Q E sh:=by
 by_cases q:args.any (·.1)=true
 ·exact ks_call q hk h
 ·exact callWith_of (by rw [Bool.eq_false_iff.mpr q];rfl) hk h
end
structure g7 (W:Wo) (C:Cx):Prop where
 fnIn:∀ a fn,C.fn a=some fn→keepIn W.K (.ref a)=true∧fnIn W.K a=true
 cls:qy W C
section
variable {W:Wo} {C:Cx} {n:Nat} {D:Md} {A:Around} {env:Env} {ae:au} {φ:List Addr} {s:St} {sh:Shared} {R:Rec}
@[elab_as_elim] theorem FN {f v:AV} {vs:List AV} {s':St} {G:AV→St→Prop} (e:rX C R ae f vs s=some (v,s')) (k:ae.quiet=true→jo C f=true→∀ v h',R.ca f vs s.hp=some (v,h')→G v { s with hp:=h'}):G v s':=eT e fun hq e=>aQ e fun v' h' hh e=>gh e (k ((Bool.and_eq_true _ _).mp hq).1 ((Bool.and_eq_true _ _).mp hq).2 v' h' hh)
theorem qE (ns:noStar as=true):yM as=true:=by
 rcases as with _|⟨a,r⟩
 ·rfl
 ·show (match jk a with|some _=>r.isEmpty| .none=>true)=true;rw [(ku ns).1]
theorem ND (X:g7 W C) (h:bB W C n R.ev) (hca:kU W C n R.ca) (G:Good W n D A env ae φ) (Gl:aH W C D φ) (c2:Nat.beq ap.endLine pos.line=true) (c3:Nat.blt as.length 30=true) (r1:VR φ ov u) (hf:kJ C s.hp m ov=some f) (e:Dv C R as ov f ae s=some (v,s')):WP W.prog W.w D A (methodCall o m ap pos env u as.length (backTo pos (starEach as env)) []) φ s (Val s' v):=by
 refine aJ (Nr hf) fun fa q1=>?_;subst q1;refine eT e fun hs e=>eL e fun vs s₂ hv e=>?_;refine FN e fun hq hk v h' hh=>?_;cases ns:noStar as with
 |true=>
  rw [zT ns c2 c3];intro sh Rp;refine wpAny_bind (wpAny_holding ((Nt X.cls G.cy hf r1).eK Rp fun fx aO m₁ aD ⟨q3,q4⟩=>?_));rw [q3];exact wc (W:=W) (P:=fun h=>W.K.In h) (keeps_K q4) (kW h G Gl hs hv aD fun us aK cU m₂ x₃ aI k3=>⟨(G.cy.x).keeps aI.keeps,(hca (uc:=.ref fa) G.cy G.room (G.quiet hq) (Gl.mono x₃) hh (.fix _) (.cons (r1.mono x₃) k3)).1.rest aI x₃ (m₁.trans m₂)⟩)
 |false=>
  rw [Nz ns];intro sh Rp;refine wpAny_bind (wpAny_holding (wpAny_bind (Nv X.cls G.cy hf r1 Rp fun q aO m₁ aD hfn=>wpAny_pure (wc (W:=W) (P:=fun h=>MethP W.K q fa u h) (keeps_M hfn) (kW h G.hid Gl.hid hs hv aD fun us aK cU m₂ x₃ aI k3=>?_)))));have hid:=aI.g6;refine ⟨⟨hid.1,(G.cy.x).keeps aI.drop.keeps⟩,wpAny_call (method_call hid.1 ?_)⟩;refine codeAny_mono ((hca (uc:=.ref fa) G.cy G.room (G.quiet hq) (Gl.mono x₃) hh (.fix _) (.cons (r1.mono x₃) k3)).2 fa rfl hfn aK aI.drop) fun r s' hr=>?_;rcases r with e|f
  ·exact hr
  ·rcases f with _|_|_|v
   ·exact hr
   ·exact hr
   ·exact hr
   ·exact Res.next x₃ (m₁.trans m₂) hr
theorem NF (h:bB W C n R.ev) (G:Good W n D A env ae φ) (Gl:aH W C D φ) (c2:Nat.beq ap.endLine pos.line=true) (c3:Nat.blt as.length 30=true) (r1:VR φ ov u) (hm:mU s.hp m ov=some mi) (e:yQ C R as ov mi ae s=some (v,s')):WP W.prog W.w D A (methodCall o m ap pos env u as.length (backTo pos (starEach as env)) []) φ s (Val s' v):=by refine eT e fun ns e=>eL e fun vs s₂ hv e=>eH e fun v' h' hI e=>fF e ?_;rw [zT ns c2 c3];exact fun sh Rp=>wpAny_bind (wpAny_holding ((MY hm r1).L3 Rp fun aO m₁ aD=>callWith_builtin (qC ns) (kW h G Gl (qE ns) ((qD ns).trans hv) aD fun us aK cU m₂ x₃ aI k3=>(M1 (Gl.mono x₃) hI (r1.mono x₃) k3).eK aI fun r d9 m₃ bz p3=>jM (m₁.trans (m₂.trans m₃)) x₃ bz p3)))
theorem NG (X:g7 W C) (h:bB W C n R.ev) (hca:kU W C n R.ca) (G:Good W n D A env ae φ) (Gl:aH W C D φ) (e:vc C R o m ap as pos ae s=some (v,s')):WP W.prog W.w D A (eval (.Call (.Attribute o m ap) as [] pos) env) φ s (Val s' v):=by refine eE e fun hc e=>eV e fun ov s₁ ho e=>?_;rw [Bool.or_eq_false_iff,Bool.or_eq_false_iff] at hc;have c2:Nat.beq ap.endLine pos.line=true:=(Bool.not_eq_false' ..).mp hc.1.2;have c3:Nat.blt as.length 30=true:=(Bool.not_eq_false' ..).mp hc.2;refine WP.eq (t':=attributeBase o m env (eval o env)>>=fun ov=>standAt ap.atName>>=fun _=>methodCall o m ap pos env ov as.length (backTo pos (starEach as env)) []) rfl ?_;rw [zS hc.1.1];exact (h G Gl ho).lY fun φ₁ u x₁ r1=>WP.after (bA e (fun f hf e=>ND X h hca (G.mono x₁) (Gl.mono x₁) c2 c3 r1 hf e) fun _ e=>ah e fun mi hm e=>NF h (G.mono x₁) (Gl.mono x₁) c2 c3 r1 hm e)
end
section
variable {W:Wo} {C:Cx} {n:Nat} {D:Md} {A:Around} {env:Env} {ae:au} {φ:List Addr} {s:St} {sh:Shared} {R:Rec}
theorem NH (h:aF φ vs us):∀{is:List Int},intsOf vs=some is→aF φ (is.map .int) us:=by
 induction h with
 |nil=>exact fun e=>Option.some.inj e▸ .nil
 |cons a r ih=>exact fun e=>ah e fun i hi e=>ah e fun q hq e=>Option.some.inj e▸ .cons (m5 hi▸a) (ih hq)
@[elab_as_elim] theorem qF {i:Int} {r:List AV} {us:List Value} {G:List Value→Prop} (h:aF φ (.int i::r) us) (k:∀ t us,aF φ r us→G (.int i t::us)):G us:=fL h fun u us a b=>a.jL fun t=>k t us b
theorem sN {α:Type} {l:List α} {p:α×α×α} (e:three l=some p):l=[p.1,p.2.1,p.2.2]:=by
 rcases l with _|⟨a,l⟩
 ·exact e0 e
 ·exact ah e fun y h e=>(two_eq h▸congrArg (fun z:α×α×α=>[z.1,z.2.1,z.2.2]) (Option.some.inj e))
theorem NI {vs:List AV} {us:List Value} {p:Int×Int×Int} {Q:Value→Shared→Prop} {E:Value→Shared→Prop} (e:jJ vs=some p) (h1:aF φ vs us) (Rp:Rep W.prog W.w D φ s sh.heap) (k:∀ r t u v sh',bu sh sh'→Rep W.prog W.w D φ s sh'.heap→IsRange sh'.heap r p.1 p.2.1 p.2.2 t u v→Builtin.Range.small p.1 p.2.1 p.2.2=true→Q (.ref r) sh'):wpAny (model W.prog W.w) A (call (.type "range") us) Q E sh:=by
 refine ah e fun is hi e=>?_;have h2:=NH h1 hi;refine bA e (fun n hn e=>eT e fun hs e=>?_) fun _ e=>bA e (fun q hn e=>eT e fun hs e=>?_) fun _ e=>ah e fun q hn e=>eT e fun hs e=>?_
 ·rw [one_eq hn] at h2;rw [← Option.some.inj e] at k;exact qF h2 fun t us h=>jq h (call_range_1 (k _ _ _ _ _ ⟨rfl,rfl,rfl⟩ (Rp.push _) (IsRange.new ..) hs))
 ·rw [two_eq hn] at h2;rw [← Option.some.inj e] at k;exact qF h2 fun t us h=>qF h fun t' us h=>jq h (call_range_2 (k _ _ _ _ _ ⟨rfl,rfl,rfl⟩ (Rp.push _) (IsRange.new ..) hs))
 ·rw [sN hn] at h2;rw [← Option.some.inj e] at k;simp only [Bool.and_eq_true,Bool.not_eq_true'] at hs;exact qF h2 fun t us h=>qF h fun t' us h=>qF h fun t'' us h=>jq h (call_range_3 (fun q=>by rw [q] at hs;exact Bool.noConfusion hs.1.1) (k _ _ _ _ _ ⟨rfl,rfl,rfl⟩ (Rp.push _) (IsRange.new ..) hs.1.2) (.inl hs.2))
theorem zU (hk:kind ae x=some .globalImplicit) (hv:lk C.glob x=some v):load C ae x s=some v:=by unfold load;rw [hk];exact hv
theorem NJ (G:Good W n D A env ae φ) (h:kind ae x=some k):(x==("__debug__" :Str))=false:=by have:=(G.ev.ok x k h).1;simpa using this
theorem zV (h:load C ae x s=some v):∃ k,kind ae x=some k:=(En h).elim (fun z=>⟨_,z.1⟩) fun z=>z.elim (fun ⟨_,z,_⟩=>z.elim (fun z=>⟨_,z⟩) fun z=>⟨_,z⟩) fun z=>⟨_,z.1⟩
theorem jS (G:Good W n D A env ae φ) (Gl:aH W C D φ) (e:load C ae x s=some v):WP W.prog W.w D A (eval (.Name x p) env) φ s (fun φ' s' u=>φ'=φ∧s'=s∧VR φ v u):=by refine aJ (zV e) fun k hk=>?_;intro sh Rp;exact wpAny_Name (Eo G Gl e sh Rp) (NJ G hk)
theorem FO (h:bB W C n R.ev) (G:Good W n D A env ae φ) (Gl:aH W C D φ) (e1:bQ C ae e=some as) (e2:cJ R ae as s=some (vs,s₁)) (e3:jJ vs=some q) (Rp:Rep W.prog W.w D φ s sh.heap) (k:∀ r t u v sh' φ',bu sh sh'→Ext φ φ'→Rep W.prog W.w D φ' s₁ sh'.heap→IsRange sh'.heap r q.1 q.2.1 q.2.2 t u v→Builtin.Range.small q.1 q.2.1 q.2.2=true→Q (.ref r) sh'):wpAny (model W.prog W.w) A (eval e env) Q E sh:=by refine iN (zo e1) fun f p p' q1 hk hg hn=>?_;subst q1;refine fU (t':=eval (.Name f p') env>>=fun g=>callWith p g [] (backTo p (starEach as env)) []) rfl ?_;exact wpAny_bind ((jS G Gl (zU hk hg)).eK Rp fun g aO m₁ aD q3=>q3.n8 (PySem.callWith_type (qC hn) (kW h G Gl (qE hn) ((qD hn).trans e2) aD fun us aK φ₂ m₂ x₂ aI k3=>NI e3 k3 aI fun r t u v d9 m₃ bz i1 i2=>k r t u v d9 φ₂ (m₁.trans (m₂.trans m₃)) x₂ bz i1 i2)))
theorem FP (i k:Int):∀(n j:Nat),j<n→(dj i k n)[j]?=some (i+j*k)
 |0,_,h=>absurd h (Nat.not_lt_zero _)
 |n+1,0,_=>by simp [dj]
 |n+1,j+1,h=>by
  show (dj (i+k) k n)[j]?=_;rw [FP (i+k) k n j (Nat.lt_of_succ_lt_succ h)];congr 1;rw [Int.natCast_add,Int.add_mul];simp only [Int.natCast_one,Int.one_mul];lia
theorem zW (i k:Int):∀ n:Nat,(dj i k n).length=n
 |0=>rfl
 |n+1=>by show (dj (i+k) k n).length+1=_;rw [zW]
theorem NK {is:List Int}:∀{us:List Value},us.length=is.length→(∀(j:Nat) (v:Value),us[j]?=some v→∃(i:Int) (t:Tok),is[j]?=some i∧v=Value.int i t)→aF φ (is.map .int) us:=by
 induction is with
 |nil=>exact fun hl _=>List.length_eq_zero_iff.mp hl▸ .nil
 |cons i r ih=>
  intro us hl h;rcases us with _|⟨u,us⟩
  ·exact nomatch hl
  ·refine dB (h 0 u rfl) fun i' t h1 h2=>?_;exact h2▸Option.some.inj h1▸ .cons (.int _ _) (ih (Nat.succ.inj hl) fun j v e=>h (j+1) v e)
theorem NL {p:Int×Int×Int} {v:AV} {s':St} {r:Addr} {t u w:Tok} (hh:ae.quiet=true→A.handled=none) (e:yL ae p s=some (v,s')) (Rp:Rep W.prog W.w D φ s sh.heap) (i1:IsRange sh.heap r p.1 p.2.1 p.2.2 t u w) (i2:Builtin.Range.small p.1 p.2.1 p.2.2=true):wpAny (model W.prog W.w) A (call (.type "list") [.ref r]) (Res W.prog W.w D φ sh (Val s' v)) (fun _ _=>False) sh:=by
 refine eT e fun hc e=>?_;simp only [Bool.and_eq_true,Bool.not_eq_true'] at hc;have c2:=lV.mp hc.1.2;have c3:=ou hc.2;obtain ⟨m,os,nl,Rw⟩:=id Rp;refine call_list_range (n:=(Builtin.Range.rangeSize p.1 p.2.1 p.2.2).toNat) (hh hc.1.1) i1 i2 (by lia) (by lia) fun h' tk acc' c' hk hS' hacc=>gh (G:=fun v s'=>Res W.prog W.w D φ sh (Val s' v) _ _) e ?_;have hv2:aF (φ++[sh.heap.objs.size]) ((dj p.1 p.2.2 (Builtin.Range.rangeSize p.1 p.2.1 p.2.2).toNat).map .int) acc'.toList:=by refine NK (by rw [zW,Array.length_toList];exact hacc.1) fun j v e=>?_;have hj:=(List.getElem?_eq_some_iff.mp e).1;rw [Array.length_toList,hacc.1] at hj;refine aJ (hacc.2 j v (by simpa using e)) fun t z=>?_;exact ⟨_,t,FP _ _ _ j hj,z⟩
 refine ⟨⟨rfl,rfl,rfl⟩,_,_,Ext.app φ [sh.heap.objs.size],⟨m,_,nl,Rw.alloc (Fr.ext Rw.fr hk) ?_ (ng Rw Rw.lt_size) Rw.hsz (OR.ofList (k:=c') hv2 (by rw [List.length_map,zW];lia))⟩,rfl,kj Rp _⟩;intro p hp;refine (List.mem_cons.mp hp).elim (fun q=>q▸⟨by simpa using hS',fun q=>?_,?_⟩) fun hp=>News.ext Rw.news hk p hp
 ·refine fZ Rw.fr.ns fun oL _ _ hL _=>?_;exact Nat.lt_irrefl _ (q▸Heap.lt_size hL)
 ·cases q:D.g.get? sh.heap.objs.size with
  |none=>rfl
  |some o=>exact absurd (Heap.lt_size (Rw.fr.keep _ _ q)) (Nat.lt_irrefl _)
theorem NO (h:bB W C n R.ev) (G:Good W n D A env ae φ) (Gl:aH W C D φ) (hx:load C ae x s=some (.fix f)) (e:mW C R ae f as s=some (v,s')):WP W.prog W.w D A (eval (.Call (.Name x p') as [] p) env) φ s (Val s' v):=by refine eT e fun hf e=>ah e fun a ha e=>ah e fun rs hr e=>aQ e fun vs s₁ hv e=>ah e fun q dQ e9=>?_;rw [one_eq ha];rw [D5 hf] at hx;refine fZ (zo hr) fun rf rp rp' q1 _=>?_;subst q1;refine fun sh Rp=>fU (t':=eval (.Name x p') env>>=fun g=>callWith p g [] (backTo p (starEach [.Call (.Name rf rp') rs [] rp] env)) []) rfl (wpAny_bind ((jS G Gl hx).eK Rp fun g aO m₁ aD q3=>q3.n8 (PySem.callWith_type rfl (evalArgs_plain ?_))));rw [qB];exact wpAny_bind (FO h G Gl hr hv dQ aD fun r t u w aK φ₂ m₂ x₂ aI i1 i2=>wpAny_bind (wpAny_holding (wpAny_pure (wpAny_pure (kQ (NL (fun hq=>G.quiet hq) e9 aI i1 i2) fun _ _ z=>z.next x₂ (m₁.trans m₂))))))
theorem NP (X:g7 W C) (hk:jo C (.fix (.ref a))=true):keepIn W.K (.ref a)=true:=((Bool.or_eq_true _ _).mp hk).elim (fun hk=>let ⟨fn,hfn⟩:=Option.isSome_iff_exists.mp hk;(X.fnIn a fn hfn).1) fun hk=>let ⟨c,hc⟩:=Option.isSome_iff_exists.mp hk;(X.cls a c hc).keep
theorem NQ (X:g7 W C) (h:bB W C n R.ev) (hca:kU W C n R.ca) (G:Good W n D A env ae φ) (Gl:aH W C D φ) (hx:load C ae x s=some (.fix f)) (ns:noStar as=true) (hv:cJ R ae as s=some (vs,s₁)) (e:rX C R ae (.fix f) vs s₁=some (v,s')):WP W.prog W.w D A (eval (.Call (.Name x p') as [] p) env) φ s (Val s' v):=by
 refine FN e fun hq hk v h' hh=>fun sh Rp=>fU (t':=eval (.Name x p') env>>=fun g=>callWith p g [] (backTo p (starEach as env)) []) rfl (wpAny_bind ((jS G Gl hx).eK Rp fun g aO m₁ aD q3=>q3.n8 ?_));have fin:∀(us:List Value) (aK:Shared) (cU:List Addr),bu aO aK→Ext φ cU→Rep W.prog W.w D cU s₁ aK.heap→aF cU vs us→wpAny (model W.prog W.w) A (call f us) (Res W.prog W.w D φ sh (Val { s₁ with hp:=h'} v)) (fun _ _=>False) aK:=fun us aK cU m₂ x₃ aI k3=>(hca (uc:=f) G.cy G.room (G.quiet hq) (Gl.mono x₃) hh (.fix _) k3).1.rest aI x₃ (m₁.trans m₂);have hs:=qE ns;have he:=(qD ns).trans hv;induction f using Value.casesOn with
 |ref a=>exact wc (W:=W) (P:=fun h=>W.K.In h) (keeps_K (NP X hk)) (kW h G Gl hs he aD fun us aK cU m₂ x₃ aI z=>⟨G.cy.x.keeps aI.keeps,fin us aK cU m₂ x₃ aI z⟩)
 |builtin id=>exact callWith_builtin (qC ns) (kW h G Gl hs he aD fin)
 |type T=>exact PySem.callWith_type (qC ns) (kW h G Gl hs he aD fin)
 |_=>exact Bool.noConfusion hk
end
section
variable {W:Wo} {C:Cx} {n:Nat} {D:Md} {A:Around} {env:Env} {ae:au} {φ:List Addr} {s:St} {sh:Shared} {R:Rec}
theorem NR (h:iX W C n R.tr):∀{φ:List Addr} {s s':St} {v:Bool},Good W n D A env ae φ→aH W C D φ→allTrue R ae op es s=some (v,s')→WP W.prog W.w D A (PySem.allTrue op es env) φ s (fun _ s'' u=>s''=s'∧u=v):=by
 induction es with
 |nil=>exact fun _ _ e=>by cases op <;>exact WP.pure' ⟨(pin e).2,(pin e).1⟩
 |cons x r ih=>
  exact fun G Gl e=>aQ e fun b s₁ hb e=>WP.bindB (h G Gl hb) fun φ₁ x₁=>by
   cases op <;>cases b <;>first
    |exact WP.pure' ⟨(pin e).2,(pin e).1⟩
    |exact ih (G.mono x₁) (Gl.mono x₁) e
theorem NS (h:bB W C n R.ev):∀{φ:List Addr} {s s':St} {v:AV},Good W n D A env ae φ→aH W C D φ→boolOp R ae op es s=some (v,s')→WP W.prog W.w D A (PySem.boolOp p op (evalEach es env)) φ s (Val s' v):=by
 induction es with
 |nil=>exact fun _ _ e=>e0 e
 |cons x r ih=>
  intro φ s s' v G Gl e;refine aQ e fun w s₁ hw e=>?_;rcases r with _|⟨y,r⟩
  ·exact fF e (h G Gl hw)
  ·refine ah e fun b hb e=>WP.lY (h G Gl hw) fun φ₁ u x₁ r1=>WP.after ((WP.hold (vQ hb r1)).bind fun φ₂ s₂ t x₂ ⟨q1,q2,q3⟩=>?_);rw [q1,q2,q3];cases op <;>cases b <;>first
    |exact fF e (WP.pure' ⟨rfl,r1⟩)
    |exact ih (G.mono x₁) (Gl.mono x₁) e
end
theorem we:Slot "list_iterator" "__getattribute__" "object.__getattribute__" :=.of (owner:= "object") (n:= "__getattribute__") (by rw [typeLookup_type,builtinLookup_eq_fast];rfl) (by decide+kernel) (by decide+kernel) (by decide+kernel)
  (by first|exact .inl (by decide+kernel)|exact .inr (by decide+kernel)) (by rw [isSubtype_type];rfl)
theorem NT:entryFor table "object.__getattribute__" =some Builtin.«object.__getattribute__»:=entryFor_of_tree rfl
theorem NU (a b:Value):argsOk "object.__getattribute__" ⟨[a,b],[]⟩:=by unfold argsOk;kernel_rfl
theorem NV:typeLookup (.type "list_iterator") "__next__" =pure (some (.builtin "list_iterator.__next__")):=slot_listiter_next.lookup
theorem FQ:typeOf (.builtin "list_iterator.__next__")=pure (.type "wrapper_descriptor"):=by show builtinType _=_;rw [builtinType_eq_fast];rfl
theorem zX:Slot "wrapper_descriptor" "__get__" "wrapper_descriptor.__get__" :=.of (owner:= "wrapper_descriptor") (n:= "__get__") (by rw [typeLookup_type,builtinLookup_eq_fast];rfl) (by decide+kernel) (by decide+kernel) (by decide+kernel)
  (by first|exact .inl (by decide+kernel)|exact .inr (by decide+kernel)) (by rw [isSubtype_type];rfl)
theorem NW:entryFor table "wrapper_descriptor.__get__" =some Builtin.«wrapper_descriptor.__get__»:=entryFor_of_tree rfl
theorem NX (a b c:Value):argsOk "wrapper_descriptor.__get__" ⟨[a,b,c],[]⟩:=by unfold argsOk;kernel_rfl
theorem NY:typeLookup (.type "wrapper_descriptor") "__set__" =pure none:=by rw [typeLookup_type,builtinLookup_eq_fast];rfl
theorem NZ:typeLookup (.type "wrapper_descriptor") "__delete__" =pure none:=by rw [typeLookup_type,builtinLookup_eq_fast];rfl
section
variable {prog:Program} {w:World} {A:Around} {E:Value→Shared→Prop} {sh:Shared} {a l:Addr} {i:Nat}
theorem N2 (h:sh.heap.get? a=some (kO l i)) (k:P (.done (.ret (.ref sh.heap.objs.size))) { sh with heap:=sh.heap.push (lW "list_iterator.__next__" a [])}):
  wpAny (model prog w) A (Builtin.«wrapper_descriptor.__get__» ⟨[.builtin "list_iterator.__next__",.ref a,.type "list_iterator"],[]⟩) P E sh:=by
 unfold Builtin.«wrapper_descriptor.__get__»;refine wpAny_bind (wpAny_of_eq (a:=(.builtin "list_iterator.__next__",some (.ref a),some (.type "list_iterator"))) (by first|rfl|rfl) ?_);refine wpAny_bind ?_;refine wpAny_bind (wpAny_of_eq (a:=(("__next__" :Str),Value.type "list_iterator")) rfl ?_);dsimp only;have hT:sh.TypeIs (.ref a) "list_iterator" :=⟨_,h,rfl⟩;have hs:isSubtype (.type "list_iterator") (.type "list_iterator")=pure true:=by rw [isSubtype_type];rfl
 repeat (any_goals (first|assumption|wp_step))
theorem N3 (h:sh.heap.get? a=some (kO l i)) (k:P (.done (.ret (.ref sh.heap.objs.size))) { sh with heap:=sh.heap.push (lW "list_iterator.__next__" a [])}):
  wpAny (model prog w) A (Builtin.«object.__getattribute__» ⟨[.ref a,.str "__next__" tk],[]⟩) P E sh:=by
 obtain ⟨hp,g,d,t,os⟩:=sh;have hT:(⟨hp,g,d,t,os⟩:Shared).TypeIs (.ref a) "list_iterator" :=⟨_,h,rfl⟩;have f1:=NV;have f2:=FQ;have f3:=NY;have f4:=NZ;have f5:=zX.lookup;repeat (any_goals (first|assumption|wp_step))
 have wg:(⟨hp,g,d,t,os⟩:Shared).TypeIs (.builtin "list_iterator.__next__") "wrapper_descriptor" :=FQ;refine codeAny_call_builtin zX.plain NW (zX.check _ _ _ _ _ _ _ _ wg (NX _ _ _) ?_);refine N2 h ?_;repeat (any_goals (first|assumption|wp_step))
theorem N4 (h:sh.heap.get? a=some (kO l i)) (k:Q (.ref sh.heap.objs.size) { sh with heap:=sh.heap.push (lW "list_iterator.__next__" a []),toks:=sh.toks+1}):wpAny (model prog w) A (getAttr (.ref a) "__next__" true) Q E sh:=by
 obtain ⟨hp,g,d,t,os⟩:=sh;have hT:∀ t,(⟨hp,g,d,t,os⟩:Shared).TypeIs (.ref a) "list_iterator" :=fun _=>⟨_,h,rfl⟩;have f2:=we.lookup;have f3:=we.bind (.ref a);unfold getAttr getAttrBy;repeat (any_goals (first|assumption|exact hT _|wp_step))
 refine codeAny_call_builtin we.plain NT (we.check _ _ _ _ _ _ _ _ (hT _) (NU _ _) ?_);refine N3 (sh:=⟨hp,g,d,t+1,os⟩) h ?_;repeat (any_goals (first|assumption|wp_step))
end
section
variable {W:Wo} {C:Cx} {n:Nat} {D:Md} {A:Around} {env:Env} {ae:au} {φ:List Addr} {s:St} {sh:Shared} {R:Rec}
theorem qG (h:VR φ (.jn o) u):VR φ (aP o) u:=by
 cases h with
 |iT i t=>exact .int i t
 |gV t=>exact .str _ t (by decide)
theorem N5 (h:VR φ (aP o) u):VR φ (.jn o) u:=by
 cases o with
 |none=>cases h;exact .gV _
 |some i=>cases h;exact .iT _ _
noncomputable def FT (s':St) (i:Int) (φ:List Addr):List Addr→St→Value→Prop:=fun φ' s'' u=>φ'=φ∧s''=s'∧∃ t,u=.int i t
theorem zY (h:WP W.prog W.w D A t φ s (FT s i φ)) (Rp:Rep W.prog W.w D φ s sh.heap) (k:∀ tk sh',bu sh sh'→Rep W.prog W.w D φ s sh'.heap→Q (.int i tk) sh'):wpAny (model W.prog W.w) A t Q E sh:=h.eK Rp fun _ sh' m R q=>by refine aJ q fun t z=>?_;exact z▸k t sh' m R
theorem N6 (G:Good W n D A env ae φ) (Gl:aH W C D φ) (k:Nat):∀{e:PySem.Expr} {i:Int},lM C ae s k e=some i→WP W.prog W.w D A (eval e env) φ s (FT s i φ):=by
 induction k with
 |zero=>exact fun h=>e0 h
 |succ k ih=>
  intro e i h;refine bA h (fun c hc h=>?_) fun _ h=>bA h (fun q hq h=>ah h fun v hv h=>?_) fun _ h=>ah h fun q hq h=>ah h fun a ha h=>ah h fun b hb h=>?_
  ·refine dX (D0 hc) fun k p z=>?_;rw [z,LL h];exact fun sh Rp=>wpAny_mkInt (iU ⟨rfl,rfl,rfl⟩ Rp ⟨rfl,rfl,_,rfl⟩)
  ·rw [gU hq];exact (jS G Gl hv).mono fun φ' s' u x q=>⟨q.1,q.2.1,(q.2.2.is (m5 h)).inv⟩
  ·refine aJ (D3 hq) fun p z=>?_;rw [z];exact fun sh Rp=>wpAny_BinOp (zY (ih ha) Rp fun t1 aO m₁ aD=>zY (ih hb) aD fun t2 aK m₂ aI=>EM h fun t t'=>⟨m₁.trans (m₂.trans ⟨rfl,rfl,rfl⟩),_,_,.refl _,aI,rfl,rfl,_,rfl⟩)
theorem wj (G:Good W n D A env ae φ) (Gl:aH W C D φ) (h:lK C ae s e=some v):WP W.prog W.w D A (eval e env) φ s (fun φ' s' u=>φ'=φ∧s'=s∧VR φ v u):=aQ h fun x i hs h=>ah h fun o ho h=>ah h fun k hk h=>by refine pA (zg hs) fun p q r z=>?_;rw [z];exact fun sh Rp=>Subscript_ ((jS G Gl ho).eK Rp fun u aO m₁ aD r1=>(jS G Gl hk).eK aD fun u₂ aK m₂ aI r2=>(EI (by nofun) h r1 r2).rest aI (.refl _) (m₁.trans m₂))
theorem FW (h:load C ae x s=some v):load C ae x { s with hp:=s.hp++[o]}=some v:=ah h fun k hk h=>aG hk (by
  have lc:uK ae x s=some v→uK ae x { s with hp:=s.hp++[o]}=some v:=fun h=>ah h fun c hc h=>ah h fun u hu h=>aG hc (aG (a:=u) (by rw [← hu];show nW (s.hp++[o])[c]?=_;rw [List.getElem?_append_left (List.getElem?_eq_some_iff.mp (vC hu)).1]) h);induction k with
  |cell=>exact lc h
  |free=>exact lc h
  |_=>exact h)
theorem N7 (e:getItem h a b=some v):getItem (h++[o]) a b=some v:=ah e fun i hi e=>aG hi (by
  induction a with
  |loc l=>
   have ap:∀ x,h[l]?=some x→(h++[o])[l]?=h[l]?:=fun x q=>List.getElem?_append_left (List.getElem?_eq_some_iff.mp q).1;have q:(h++[o])[l]?=h[l]?:=bA e (fun vs hv _=>ap _ (lR hv)) fun _ e=>bA e (fun vs hv _=>ap _ (m6 hv)) fun _ e=>ah e fun d hd _=>ap _ (qc hd);show yz (h++[o])[l]? i=_;rw [q];exact e
  |_=>exact e)
theorem FY (hs:r7 e e'=true) (h:lK C ae s e=some v):lK C ae { s with hp:=s.hp++[o]} e'=some v:=aQ h fun x i hn h=>ah h fun ov ho h=>ah h fun kv hk h=>bG (LR hs hn dm.mp) (aG (FW ho) (aG (FW hk) (N7 h)))
theorem zZ (h:lJ e=true):∃ k p,e=.Constant (.str "none") k p:=by
 have h:isStr (ob (rZ e) u5) "none" =true:=h;cases q:ob (rZ e) u5 with
 |none=>rw [q] at h;exact Bool.noConfusion h
 |some z=>
  rw [q] at h;refine ah q fun c hc q=>?_;refine dX (D0 hc) fun k p y=>?_;exact ⟨k,p,by rw [y,LK q,dm.mp h]⟩
theorem z0:WP W.prog W.w D A (eval (.Constant (.str "none") k p) env) φ s (fun φ' s' u=>φ'=φ∧s'=s∧∃ t,u=.str "none" t):=fun sh Rp=>wpAny_mkText (iU ⟨rfl,rfl,rfl⟩ Rp ⟨rfl,rfl,_,rfl⟩)
noncomputable def nn:Option Int→Bool
 | .none=>true
 |some _=>false
theorem N8 (a b:Option Int):j4 (.str "none") [aP a,aP b]=some (nn a||nn b):=by cases a <;>cases b <;>rfl
theorem N9 (G:Good W n D A env ae φ) (Gl:aH W C D φ) (ha:lK C ae s e1=some (.jn a)) (hb:lK C ae s e2=some (.jn b)):WP W.prog W.w D A (eval (.List [e1,e2] lp) env) φ s (Val { s with hp:=s.hp++[.list [aP a,aP b]]} (.loc s.hp.length)):=by
 have sp:spliced (backTo lp (starEach [e1,e2] env))=(eval e1 env>>=fun v=>holding [v] (eval e2 env>>=fun u=>holding [u] (pure [])>>=fun z=>pure (u::z))>>=fun z=>pure (v::z)):=aQ ha fun x1 i1 hn1 _=>aQ hb fun x2 i2 hn2 _=>by refine pA (zg hn1) fun p1 q1 r1 z1=>?_;refine pA (zg hn2) fun p2 q2 r2 z2=>?_;rw [z1,z2];show spliced ((false,_)::(false,_)::[])=_;rw [qB,qB];rfl
 refine fun sh Rp=>List_ ?_;rw [sp];exact wpAny_bind ((wj G Gl ha).eK Rp fun u aO m₁ aD k3=>wpAny_bind (wpAny_holding (wpAny_bind ((wj G Gl hb).eK aD fun u₂ aK m₂ aI k4=>wpAny_bind (wpAny_holding (wpAny_pure (wpAny_pure (wpAny_pure ((FF (.cons (qG k3) (.cons (qG k4) .nil)) (by decide:2≤100000)).rest aI (.refl _) (m₁.trans m₂))))))))))
theorem Oa (G:Good W n D A env ae φ) (Gl:aH W C D φ) (ha:lK C ae s e1=some (.jn a)) (hb:lK C ae s e2=some (.jn b)) (h1:r7 e1 e3=true) (h2:r7 e2 e4=true):WP W.prog W.w D A (eval (.IfExp (.Compare (.Constant (.str "none") k bp) [.In] [.List [e1,e2] lp] cp) (.Constant (.str "none") k' Ob) (.BinOp e3 .BitOr e4 op) p) env) φ s (Val { s with hp:=s.hp++[.list [aP a,aP b]]} (.jn (rY a b))):=by
 have test:WP W.prog W.w D A (isTrue (.Compare (.Constant (.str "none") k bp) [.In] [.List [e1,e2] lp] cp) env (eval (.Compare (.Constant (.str "none") k bp) [.In] [.List [e1,e2] lp] cp) env)) φ s (fun _ s'' u=>s''={ s with hp:=s.hp++[.list [aP a,aP b]]}∧u=(nn a||nn b)):=by
  refine WP.eq (t':=(eval (.Constant (.str "none") k bp) env>>=fun a=>holding [a] (markedBehindIn .In (.List [e1,e2] lp) (eval (.List [e1,e2] lp) env))>>=fun b=>standAt cp>>=fun _=>operate [a,b] (compareOp .In a b))>>=fun c=>holding [c] (PySem.truthy c)) ?_ ?_
  ·rw [isTrue_Compare1];simp only [bind_assoc]
  ·refine WP.bindB (b:=.bool (nn a||nn b)) (s₁:={ s with hp:=s.hp++[.list [aP a,aP b]]}) (WP.L4 z0 fun u q=>?_) fun φ₁ x₁=>WP.hold ((vQ (x:=(nn a||nn b)) rfl (.bool _)).mono fun _ _ _ _ q=>q.2);refine aJ q fun t z=>?_;rw [z,markedBehindIn_of_false rfl];refine (WP.hold (N9 G Gl ha hb)).lY fun φ₂ u₂ x₂ q2=>WP.after (WP.FD ((EC G.room (x:=(nn a||nn b)) (a:=.str "none") ?_ (.str _ _ (by decide)) q2).mono fun cU s₃ u x₃ q=>q.2));have hg:(s.hp++[AO.list [aP a,aP b]])[s.hp.length]?=some (.list [aP a,aP b]):=by rw [List.getElem?_append_right (Nat.le_refl _),Nat.sub_self];rfl
   exact dG (a:=[aP a,aP b]) (congrArg bO hg) (N8 a b)
 refine fun sh Rp=>IfExp_ (test.kR Rp fun aO φ₁ m₁ x₁ aD=>?_);have go:nn a=true∨nn b=true→rY a b=none:=fun h=>by
  rcases a with _|i
  ·rfl
  ·rcases b with _|j
   ·rfl
   ·exact Bool.noConfusion (h.elim id id)
 cases hn:(nn a||nn b) with
 |true=>
  exact z0.eK aD fun r sh' m₃ bz q=>by refine aJ q fun t z=>?_;rw [z,go ((Bool.or_eq_true _ _).mp hn)];exact jM (m₁.trans m₃) x₁ bz (.gV _)
 |false=>
  rcases a with _|i
  ·exact Bool.noConfusion hn
  ·rcases b with _|j
   ·exact Bool.noConfusion hn
   ·exact wpAny_BinOp ((wj (G.mono x₁) (Gl.mono x₁) (FY h1 ha)).eK aD fun u aK m₂ aI k3=>(wj (G.mono x₁) (Gl.mono x₁) (FY h2 hb)).eK aI fun u₂ d9 m₃ bz k4=>(ER (h':=(s.hp++[AO.list [aP (some i),aP (some j)]])) (v:=.int (Builtin.bitOr i j)) rfl (qG k3) (qG k4)).iD bz fun r sh' wk m₄ wm iY q2=>jM (m₁.trans (m₂.trans (m₃.trans m₄))) (x₁.trans wm) iY (N5 q2))
theorem Oc (G:Good W n D A env ae φ) (Gl:aH W C D φ) (hb:lJ b=true) (h:u9 C ae t o s=some (some (v,s'))):WP W.prog W.w D A (eval (.IfExp t b o p) env) φ s (Val s' v):=ah h fun q hq h=>ah h fun op ho h=>ah h fun l hl h=>ah h fun es hes h=>aQ h fun e1 e2 ht h=>ah h fun z hz h=>eT h fun hc h=>ah (Option.some.inj h) fun a ha h=>ah h fun b hb' h=>ah h fun x hx h=>ah h fun y hy h=>by simp only [Bool.and_eq_true] at hc;refine aN hc fun q1 c5=>?_;refine aN q1 fun q2 c4=>?_;refine aN q2 fun q3 c3=>?_;refine aN q3 fun c1 c2=>?_;refine aJ (LM hq) fun p1 z1=>?_;refine aJ (LN hes) fun p2 z2=>?_;refine aJ (D3 hz) fun p3 z3=>?_;refine dX (zZ hb) fun bk bp z4=>?_;refine dX (zZ c3) fun Z0 Ob z5=>?_;rw [z1,one_eq ho,one_eq hl,z2,two_eq ht,z3,z4,z5,LO c1,LQ c2];exact fF h (Oa G Gl (vF hx▸ha) (vF hy▸hb') c4 c5)
theorem Od (h:bB W C n R.ev) (ht:iX W C n R.tr) (G:Good W n D A env ae φ) (Gl:aH W C D φ) (e:r8 C R ae t b o s=some r) (hr:r=some (v,s')):WP W.prog W.w D A (eval (.IfExp t b o p) env) φ s (Val s' v):=by
 subst hr;have e:(match lJ b with|false=>.none|true=>alt (u9 C ae t o s) some (some (Dn C R ae t o s)))=some (some (v,s')):=e;cases hb:lJ b with
 |false=>rw [hb] at e;exact e0 e
 |true=>
  rw [hb] at e;refine bA e (fun r hB e=>Oc G Gl hb (hB.trans e)) fun _ e=>aQ (Option.some.inj e) fun x s₁ hx e=>ah e fun i hi e=>fF e ?_;refine dX (zZ hb) fun bk bp z=>?_;rw [z];refine fun sh Rp=>IfExp_ ((ht G Gl hx).kR Rp fun aO φ₁ m₁ x₁ aD=>?_);cases x with
  |true=>
   exact z0.eK aD fun r sh' m₃ bz q=>by refine aJ q fun t z=>?_;exact z▸jM (m₁.trans m₃) x₁ bz (.gV _)
  |false=>exact zY (N6 (G.mono x₁) (Gl.mono x₁) 4 hi) aD fun tk sh' m₃ bz=>jM (m₁.trans m₃) x₁ bz (.iT _ _)
end
noncomputable def z7 (W:Wo) (C:Cx) (n:Nat) (R:Rec):Prop:=
 ∀{D:Md} {A:Around} {env:Env} {ae:au} {φ:List Addr} {s:St} {e:PySem.Expr} {v:AV} {s':St},Good W n D A env ae φ→aH W C D φ→(match e with
   | .ListComp elt gens sc p=>comp C R (.ListComp elt gens sc p) gens sc (.list []) ae s
   | .DictComp k v gens sc p=>comp C R (.DictComp k v gens sc p) gens sc (.dict [] 0) ae s
   |_=>.none)=some (v,s')→WP W.prog W.w D A (eval e env) φ s (Val s' v)
section
variable {W:Wo} {C:Cx} {n:Nat} {D:Md} {A:Around} {env:Env} {ae:au} {φ:List Addr} {s:St} {sh:Shared} {R:Rec}
theorem Oe {a l:Addr} {i:Nat} {Q:Value→Shared→Prop} {E:Value→Shared→Prop} (h:sh.heap.get? a=some (kO l i)) (k:∀ sh',bu sh sh'→sh'.heap=sh.heap.push (lW "list_iterator.__next__" a [])→Q (.ref sh.heap.objs.size) sh'):wpAny (model W.prog W.w) A (getAttr (.ref a) "__next__" true) Q E sh:=by exact N4 h (k _ ⟨rfl,rfl,rfl⟩ rfl)
theorem FZ (h:bB W C n R.ev) (G:Good W n D A env ae φ) (Gl:aH W C D φ) {e:Option PySem.Expr} {v:AV} {s':St} (he:lI R ae e s=some (v,s')):WP W.prog W.w D A (valueOrNone (evalOpt e env)) φ s (Val s' v):=by
 cases e with
 |none=>cases he;exact WP.pure' ⟨rfl,.none⟩
 |some e=>exact h G Gl he
theorem F2 {value:PySem.Expr} {o r:Value} {t:Sem Value} {P:List Addr→St→Value→Prop} (h:WP W.prog W.w D A t φ s P):WP W.prog W.w D A (t>>=fun r=>letTemporaryGo value o r>>=fun _=>pure r) φ s P:=h.bind fun φ' s' a x p=>WP.go.bind fun φ₂ s₂ _ x₂ ⟨q1,q2⟩=>by subst q1;subst q2;exact WP.pure' p
theorem Of (h:bB W C n R.ev) (G:Good W n D A env ae φ) (Gl:aH W C D φ) {k v:PySem.Expr} {p:Pos} {kv:Int} {vv:AV} {s₁ s₂:St} (hk:R.ev k ae s=some (.int kv,s₁)) (hv:R.ev v ae s₁=some (vv,s₂)):WP W.prog W.w D A (eval (.Dict [some k] [v] p) env) φ s (Val { s₂ with hp:=s₂.hp++[.dict [(kv,vv)] 0]} (.loc s₂.hp.length)):=by
 intro sh Rp;have Rh:=Rp.hide (o:={ cls:=.type "dict",data:=.dict #[]});have he:(evalEachOpt [some k] env).zip ((evalEach [v] env).map fun v=>do let x ← v;standAt p;pure x)=[(eval k env,(do let x ← eval v env;standAt p;pure x))].map fun p=>(some p.1,p.2):=rfl;refine wpAny_Dict_pairs (knd:=intKind W.prog W.w) he (by simp) (by simp) ?_;have e1:evalPairs [(eval k env,(do let x ← eval v env;standAt p;pure x))]=(eval k env>>=fun kv=>holding [kv] (eval v env>>=fun x=>standAt p>>=fun _=>pure x)>>=fun vv=>holding [kv,vv] (pure [])>>=fun r=>pure ((kv,vv)::r)):=rfl;rw [e1];refine wpAny_bind ((h G.hid Gl.hid hk).use Rh fun a aO φ₁ s₁' m₁ x₁ aD ⟨q1,r1⟩=>?_);subst q1;refine wpAny_bind (wpAny_holding (wpAny_bind ((h (G.hid.mono x₁) (Gl.hid.mono x₁) hv).use aD fun b aK φ₂ s₂' m₂ x₂ aI ⟨q1,r2⟩=>?_)));subst q1;refine wpAny_bind (wpAny_standAt (wpAny_pure (wpAny_bind (wpAny_holding (wpAny_pure (wpAny_pure ?_))))));refine aJ (VR.inv r1) fun t q1=>?_;subst q1;have q:=aI.g6;refine ⟨[(kv,b)],⟨intKind_is _ _ kv t,rfl,trivial⟩,?_,fun h' hd hs=>?_⟩
 ·refine aC (Heap.dictOf_iff.mp (Heap.DictOf.new (knd:=intKind W.prog W.w) sh.heap)) fun o ho hdo=>?_;rw [Heap.get?_push_size _ rfl] at ho;obtain rfl:=Option.some.inj ho;exact Heap.dictOf_iff.mpr ⟨_,q.1,hdo⟩
 ·refine aC (Heap.dictOf_iff.mp hd) fun o ho hdo=>?_;have bz:=aI.bL hs ho;have hsz:2<sh.heap.objs.size:=let ⟨_,_,_,Rw⟩:=Rp;Rw.hsz
  have iY:=bz.Np (ao:=.dict [(kv,vv)] 0) hsz ⟨_,hdo,.cons (r2.mono (Ext.app _ _)) .nil,by simp⟩;exact ⟨m₁.trans (m₂.trans ⟨rfl,rfl,rfl⟩),_,_,(x₁.trans x₂).trans (Ext.app _ _),iY,rfl,kj bz.drop _⟩
theorem Og {c:Const} {k:Nat} {p:Pos} {v:AV} {s':St} (he:Dp c s=some (v,s')):WP W.prog W.w D A (eval (.Constant c k p) env) φ s (Val s' v):=by
 induction c using PySem.Const.casesOn with
 |none=>exact fF he (WP.pure' ⟨rfl,.none⟩)
 |bool b=>exact fF he (WP.pure' ⟨rfl,.bool b⟩)
 |int i=>exact fF he (fun sh Rp=>wpAny_mkInt (jM ⟨rfl,rfl,rfl⟩ (.refl _) Rp (.int _ _)))
 |str x=>exact eT he fun hl he=>fF he (fun sh Rp=>wpAny_mkText (jM ⟨rfl,rfl,rfl⟩ (.refl _) Rp (.str _ _ (gD hl))))
 |_=>exact e0 he
theorem Oh (G:Good W n D A env ae φ) (Gl:aH W C D φ) {x:Str} {p:Pos} {v:AV} {s':St} (he:Dq C x ae s=some (v,s')):WP W.prog W.w D A (eval (.Name x p) env) φ s (Val s' v):=eA he fun u hl he=>fF he ((jS G Gl hl).mono fun _ _ _ _ q=>⟨q.2.1,q.1▸q.2.2⟩)
theorem Oi (h:bB W C n R.ev) (G:Good W n D A env ae φ) (Gl:aH W C D φ) {t u:PySem.Expr} {p:Pos} {v:AV} {s':St} (he:Dr C R t u ae s=some (v,s')):WP W.prog W.w D A (eval (.NamedExpr t u p) env) φ s (Val s' v):=by refine aQ he fun x q hx he=>eV he fun w s₁ hw he=>eS he fun s₂ hs he=>fF he ?_;rw [gU hx];refine WP.eq (t':=eval u env>>=fun w=>holding [w] (PySem.assign (.Name x q) env w)>>=fun _=>pure w) rfl ?_;exact (h G Gl hw).lY fun φ₁ u x₁ r1=>(WP.hold fun sh Rp=>wpAny_assign_Name (sF (G.mono x₁) (Gl.mono x₁) r1 hs sh Rp)).Em fun _=>WP.pure' ⟨rfl,r1⟩
theorem Oj (h:bB W C n R.ev) (G:Good W n D A env ae φ) (Gl:aH W C D φ) {l r:PySem.Expr} {op:Operator} {p:Pos} {v:AV} {s':St} (he:Ds R l op r ae s=some (v,s')):WP W.prog W.w D A (eval (.BinOp l op r p) env) φ s (Val s' v):=
 eV he fun a s₁ ha he=>eV he fun b s₂ hb he=>eH he fun w h' hw he=>fF he fun sh Rp=>
 wpAny_BinOp ((h G Gl ha).iD Rp fun u aO φ₁ m₁ x₁ aD r1=>(h (G.mono x₁) (Gl.mono x₁) hb).iD aD fun u₂ aK φ₂ m₂ x₂ aI r2=>(ER hw (r1.mono x₂) r2).rest aI (x₁.trans x₂) (m₁.trans m₂))
theorem Ol (h:bB W C n R.ev) (G:Good W n D A env ae φ) (Gl:aH W C D φ) {x:PySem.Expr} {op:UnaryOp} {p:Pos} {v:AV} {s':St} (he:Dt R op x ae s=some (v,s')):WP W.prog W.w D A (eval (.UnaryOp op x p) env) φ s (Val s' v):=by
 cases op with
 |USub=>
  refine vH he fun i s₁ hi he=>fF he fun sh Rp=>?_;exact UnaryOp_ ((h G Gl hi).sG Rp fun tk aO φ₁ m₁ x₁ aD=>Mv.rest aD x₁ m₁)
 |_=>exact e0 he
theorem Om (h:bB W C n R.ev) (ht:iX W C n R.tr) (G:Good W n D A env ae φ) (Gl:aH W C D φ) {t b o:PySem.Expr} {p:Pos} {v:AV} {s':St} (he:mX C R t b o ae s=some (v,s')):WP W.prog W.w D A (eval (.IfExp t b o p) env) φ s (Val s' v):=by
 refine bA he (fun r hj he=>Od h ht G Gl hj he) fun _ he=>Ec he (fun s₁ hb he=>?_) fun s₁ hb he=>?_
 ·exact fun sh Rp=>IfExp_ ((ht G Gl hb).kR Rp fun aO φ₁ m₁ x₁ aD=>(h (G.mono x₁) (Gl.mono x₁) he).rest aD x₁ m₁)
 ·exact fun sh Rp=>IfExp_ ((ht G Gl hb).kR Rp fun aO φ₁ m₁ x₁ aD=>(h (G.mono x₁) (Gl.mono x₁) he).rest aD x₁ m₁)
theorem Oo (h:bB W C n R.ev) (G:Good W n D A env ae φ) (Gl:aH W C D φ) {ks:List (Option PySem.Expr)} {vs:List PySem.Expr} {p:Pos} {v:AV} {s':St} (he:Du R ks vs ae s=some (v,s')):WP W.prog W.w D A (eval (.Dict ks vs p) env) φ s (Val s' v):=by
 rcases ks with _|⟨_|k,_|⟨_,_⟩⟩
 ·rcases vs with _|⟨_,_⟩
  ·refine fF he fun sh Rp=>?_;have R0:=Rp;obtain ⟨m,os,nl,Rw⟩:=Rp;refine Dict_empty_made2 Rw.fr Rw.news (Nat.lt_trans (by decide) Rw.cV) fun h' o F' N' lo _ _ hd _ _=>?_;exact ⟨⟨rfl,rfl,rfl⟩,_,_,Ext.app φ [sh.heap.objs.size],⟨m,_,nl,Rw.alloc (ao:=.dict [] 0) F' N' (ng Rw Rw.lt_size) Rw.hsz ⟨[],hd,.nil,by simp⟩⟩,rfl,kj R0 _⟩
  ·exact e0 he
 ·exact e0 he
 ·exact e0 he
 ·refine ah he fun u hu he=>vH he fun kv s₁ hk he=>eV he fun vv s₂ hv he=>fF he ?_;rw [one_eq hu];exact Of h G Gl hk hv
 ·exact e0 he
theorem F3 (h:bB W C n R.ev) (G:Good W n D A env ae φ) (Gl:aH W C D φ) {f:List AV→AO} {mk:List Value→Sem Value} {e:PySem.Expr} {es:List PySem.Expr} {p:Pos} {v:AV} {s':St} (he:n7 R f es ae s=some (v,s')) (hm:∀{Q:Value→Shared→Prop} {E:Value→Shared→Prop} {sh:Shared},wpAny (model W.prog W.w) A (spliced (backTo p (starEach es env))) (fun us s₁=>wpAny (model W.prog W.w) A (mk us) Q E s₁) E sh→wpAny (model W.prog W.w) A (eval e env) Q E sh) (hk:∀{φ:List Addr} {s:St} {vs:List AV} {us:List Value},aF φ vs us→vs.length≤100000→WP W.prog W.w D A (mk us) φ s (Val { s with hp:=s.hp++[f vs]} (.loc s.hp.length))):WP W.prog W.w D A (eval e env) φ s (Val s' v):=
 eT he fun hc he=>eL he fun vs s₁ hv he=>fF he fun sh Rp=>have hc:=(Bool.and_eq_true ..).mp hc
 hm ((Nj h G Gl hc.1 hv).oh Rp fun us aO φ₁ m₁ x₁ aD r1=>(hk r1 (by rw [Nm hv];exact gD hc.2)).rest aD x₁ m₁)
theorem Oq (h:bB W C n R.ev) (G:Good W n D A env ae φ) (Gl:aH W C D φ) {l:PySem.Expr} {ops:List CmpOp} {rs:List PySem.Expr} {p:Pos} {v:AV} {s':St} (he:boolOf (yP R l ops rs ae s)=some (v,s')):WP W.prog W.w D A (eval (.Compare l ops rs p) env) φ s (Val s' v):=
 eB he fun x s₁ hx he=>ah hx fun op ho hx=>ah hx fun r hr hx=>fF he (by
 rw [one_eq ho,one_eq hr,eval_Compare1];exact FG h G.room G Gl hx _)
theorem Ot (h:bB W C n R.ev) (G:Good W n D A env ae φ) (Gl:aH W C D φ) {o:PySem.Expr} {l u:Option PySem.Expr} {p1 p2:Pos} {v:AV} {s':St} (he:Dz R o l u ae s=some (v,s')):WP W.prog W.w D A (eval (.Subscript o (.Slice l u .none p1) p2) env) φ s (Val s' v):=
 eV he fun ov s₁ ho he=>eV he fun lv s₂ hl he=>eV he fun uv s₃ hu he=>eH he fun w h' hw he=>fF he fun sh Rp=>
 Subscript_ ((h G Gl ho).iD Rp fun a aO φ₁ m₁ x₁ aD r1=>fU (t':=valueOrNone (evalOpt l env)>>=fun a=>holding [a] (valueOrNone (evalOpt u env))>>=fun b=>holding [a,b] (valueOrNone none)>>=fun c=>newFields "slice" [a,b,c]) rfl (wpAny_bind ((FZ h (G.mono x₁) (Gl.mono x₁) hl).iD aD fun b aK φ₂ m₂ x₂ aI r2=>
  wpAny_bind (wpAny_holding ((FZ h ((G.mono x₁).mono x₂) ((Gl.mono x₁).mono x₂) hu).iD aI fun c d9 cU m₃ x₃ bz r3=>
  wpAny_bind (wpAny_holding (wpAny_pure (kQ (Mx (value:=o) (l:=l) (u:=u) (p:=p1) hw ((r1.mono x₂).mono x₃) (r2.mono x₃) r3 d9 bz) fun i sO z=>kQ z fun r sh' z=>z.next (x₁.trans (x₂.trans x₃)) (m₁.trans (m₂.trans m₃))))))))))
theorem Ou (h:bB W C n R.ev) (G:Good W n D A env ae φ) (Gl:aH W C D φ) {o i:PySem.Expr} {p:Pos} {v:AV} {s':St} (hs:isSlice i=false) (he:vd R o i ae s=some (v,s')):WP W.prog W.w D A (eval (.Subscript o i p) env) φ s (Val s' v):=
 eV he fun ov s₁ ho he=>eV he fun iv s₂ hi he=>eA he fun w hw he=>fF he fun sh Rp=>
 Subscript_ ((h G Gl ho).iD Rp fun u aO φ₁ m₁ x₁ aD r1=>(h (G.mono x₁) (Gl.mono x₁) hi).iD aD fun u₂ aK φ₂ m₂ x₂ aI r2=>(EI (by intro l u p q;rw [q] at hs;exact Bool.noConfusion hs) hw (r1.mono x₂) r2).eK aI fun r sh' m₃ bz q3=>jM (m₁.trans (m₂.trans m₃)) (x₁.trans x₂) bz q3)
theorem Ov {i:PySem.Expr} {l u:Option PySem.Expr} (h:sliceOf i=some (l,u)):∃ p,i=.Slice l u .none p:=by
 refine ah h fun q hq h=>?_;refine aJ (dF hq fun z=>PySem.Expr.Slice.elim (motive_1:=fun e=>∀ z:e.ctorIdx=26,PySem.Expr.Slice.elim (motive_1:=fun _=>Option (Option PySem.Expr×Option PySem.Expr×Option PySem.Expr)) e z (fun l u st _=>some (l,u,st))=some q→∃ p,e=.Slice q.1 q.2.1 q.2.2 p) i z (fun a b c p _ h=>⟨p,Option.some.inj h▸rfl⟩) z) fun p hi=>⟨p,?_⟩;rcases q with ⟨a,b,_|c⟩
 ·rw [hi,(pin h).1,(pin h).2]
 ·exact e0 h
theorem Ow (h:bB W C n R.ev) (G:Good W n D A env ae φ) (Gl:aH W C D φ) {o i:PySem.Expr} {p:Pos} {v:AV} {s':St} (he:vf R o i ae s=some (v,s')):WP W.prog W.w D A (eval (.Subscript o i p) env) φ s (Val s' v):=by refine LY he (fun _ he=>aQ he fun l u hl he=>?_) fun hs he=>Ou h G Gl hs he;refine aJ (Ov hl) fun p1 q1=>?_;subst q1;exact Ot h G Gl he
theorem Ox (X:g7 W C) (h:bB W C n R.ev) (G:Good W n D A env ae φ) (Gl:aH W C D φ) {o:PySem.Expr} {x:Str} {p:Pos} {v:AV} {s':St} (he:Dy C R o x ae s=some (v,s')):WP W.prog W.w D A (eval (.Attribute o x p) env) φ s (Val s' v):=by refine eE he fun hsb he=>eV he fun ov s₁ ho he=>?_;refine WP.eq (t':=attributeBase o x env (eval o env)>>=fun ov=>standAt p.atName>>=fun _=>holding [ov] (getAttr ov x true)>>=fun r=>letTemporaryGo o ov r>>=fun _=>pure r) rfl ?_;rw [zS hsb];refine (h G Gl ho).lY fun φ₁ u x₁ r1=>WP.after ?_;refine bA he (fun w hw he=>fF he (F2 (r:=u) ((WP.hold (Fe X.cls G.cy hw r1)).mono fun _ _ _ _ q=>⟨q.2.1,q.1▸q.2.2⟩))) fun _ he=>eT he fun hx he=>LX he fun l hv he=>Ed he fun l' i hl he=>fF he (F2 (r:=u) (WP.hold fun sh Rp=>?_));rw [hv] at r1;refine aC (VR.inv r1) fun _ q1 ha=>?_;subst q1;refine aC (Rp.at hl ha) fun o' q1 g=>?_;refine aC q1 fun a' h2 q2=>?_;subst q2;rw [dm.mp hx];refine Oe g fun sh' m e=>?_;have R':=Rp.kP (ao:=.meth l) (o:=lW "list_iterator.__next__" _ []) ⟨_,Ext.app _ _ _ _ ha,rfl⟩;rw [← e] at R';exact jM m (Ext.app φ₁ _) R' (kj Rp _)
theorem Oz (X:g7 W C) (h:bB W C n R.ev) (hca:kU W C n R.ca) (G:Good W n D A env ae φ) (Gl:aH W C D φ) {f:PySem.Expr} {as:List PySem.Expr} {ks:List Keyword} {p:Pos} {v:AV} {s':St} (he:Dw C R f as ks p ae s=some (v,s')):WP W.prog W.w D A (eval (.Call f as ks p) env) φ s (Val s' v):=by
 refine eT he fun hk he=>bA he (fun q hq he=>?_) fun _ he=>aQ he fun x p' hx he=>?_
 ·rw [nil_eq hk,vG hq];exact NG X h hca G Gl he
 ·rw [nil_eq hk,gU hx];refine LZ he fun f hf he=>bA he (fun r hr he=>NO h G Gl hf (hr.trans he)) fun _ he=>eT he fun hc he=>eL he fun vs s₁ hv he=>?_;exact NQ X h hca G Gl hf ((Bool.and_eq_true ..).mp hc).1 hv he
theorem OA (X:g7 W C) (h:bB W C n R.ev) (ht:iX W C n R.tr) (hca:kU W C n R.ca) (hco:z7 W C n R):bB W C n (yR C R):=by
 intro D A env ae φ s e v s' G Gl he;induction e using PySem.Expr.casesOn with
 |Constant c k p=>exact Og he
 |Name x p=>exact Oh G Gl he
 |BoolOp op vs p=>exact NS h G Gl he
 |NamedExpr t v p=>exact Oi h G Gl he
 |BinOp l op r p=>exact Oj h G Gl he
 |UnaryOp op x p=>exact Ol h G Gl he
 |IfExp t b o p=>exact Om h ht G Gl he
 |Dict ks vs p=>exact Oo h G Gl he
 |List es p=>exact F3 (f:=.list) (mk:=newList) h G Gl he List_ FF
 |Tuple es p=>exact F3 (f:=.tup) (mk:=newTuple) h G Gl he Tuple_ Nl
 |ListComp elt gens sc p=>exact hco (e:=.ListComp elt gens sc p) G Gl he
 |DictComp k v gens sc p=>exact hco (e:=.DictComp k v gens sc p) G Gl he
 |Compare l ops rs p=>exact Oq h G Gl he
 |Call f as ks p=>exact Oz X h hca G Gl he
 |Attribute o x p=>exact Ox X h G Gl he
 |Subscript o i p=>exact Ow h G Gl he
 |_=>exact e0 he
end
section
variable {W:Wo} {C:Cx} {n:Nat} {D:Md} {A:Around} {env:Env} {ae:au} {φ:List Addr} {s:St} {sh:Shared} {R:Rec}
theorem OB (h:bB W C n R.ev) (G:Good W n D A env ae φ) (Gl:aH W C D φ) (hx:R.ev e ae s=some (x,s₁)) (hb:truthy s₁.hp x=some b) (he:isTrue e env (eval e env)=(eval e env>>=fun v=>standAt e.pos>>=fun _=>holding [v] (PySem.truthy v))):WP W.prog W.w D A (isTrue e env (eval e env)) φ s (fun _ s'' u=>s''=s₁∧u=b):=by rw [he];refine (h G Gl hx).bind fun φ₁ s₁' u x₁ ⟨q1,r1⟩=>WP.after (WP.hold ?_);subst q1;exact (vQ hb r1).mono fun φ' s' u x ⟨q1,q2,q3⟩=>⟨q2,q3⟩
theorem F4 (h:bB W C n R.ev) (G:Good W n D A env ae φ) (Gl:aH W C D φ) (he:yS R e ae s=some (v,s')) (q:isTrue e env (eval e env)=(eval e env>>=fun v=>standAt e.pos>>=fun _=>holding [v] (PySem.truthy v))):WP W.prog W.w D A (isTrue e env (eval e env)) φ s (fun _ s'' u=>s''=s'∧u=v):=eV he fun x s₁ hx he=>eN he fun b hb he=>(pin he).1▸(pin he).2▸OB h G Gl hx hb q
theorem OC (h:bB W C n R.ev) (ht:iX W C n R.tr):iX W C n (yT C R):=by
 intro D A env ae φ s e v s' G Gl he;induction e using PySem.Expr.casesOn with
 |UnaryOp op x p=>
  cases op with
  |Not=>exact eB he fun b s₁ hb he=>(pin he).1▸(pin he).2▸fun sh Rp=>isTrue_not ((ht G Gl hb).kR Rp fun aO φ₁ m₁ x₁ aD=>⟨m₁,φ₁,_,x₁,aD,rfl,rfl⟩)
  |_=>exact F4 h G Gl he rfl
 |BoolOp op vs p=>exact NR ht G Gl he
 |IfExp=>exact e0 he
 |Compare l ops rs p=>
  refine ah he fun op ho he=>ah he fun r hr he=>?_;rw [one_eq ho,one_eq hr];refine WP.eq (t':=(eval l env>>=fun a=>holding [a] (markedBehindIn op r (eval r env))>>=fun b=>standAt p>>=fun _=>operate [a,b] (compareOp op a b))>>=fun c=>holding [c] (PySem.truthy c)) ?_ ?_
  ·rw [isTrue_Compare1];simp only [bind_assoc]
  ·exact (FG h G.room G Gl he p).lY fun φ₁ u x₁ r1=>WP.hold ((vQ (x:=v) rfl r1).mono fun _ _ _ _ q=>q.2)
 |_=>exact F4 h G Gl he rfl
theorem sP (G:Good W n D A env ae φ) (Gl:aH W C D φ) (a:VR φ v u) (e:store C ae x v s=some s'):WP W.prog W.w D A (PySem.assign (.Name x p) env u) φ s (fun φ' s'' _=>φ'=φ∧s''=s'):=fun sh Rp=>wpAny_assign_Name (sF G Gl a e sh Rp)
theorem F5 (X:g7 W C) (h:bB W C n R.ev) (G:Good W n D A env ae φ) (Gl:aH W C D φ) (a:VR φ v u) (e:assign C R ae t v s=some s'):WP W.prog W.w D A (PySem.assign t env u) φ s (fun _ s'' _=>s''=s'):=by
 refine bA e (fun q hq e=>?_) fun _ e=>bA e (fun q hq e=>?_) fun _ e=>aQ e fun o i hq e=>?_
 ·rw [gU hq];exact (sP G Gl a e).mono fun _ _ _ _ q=>q.2
 ·rw [vG hq];obtain ⟨o,x,p⟩:=q;refine aQ e fun ov s₁ ho e=>?_;refine ah e fun h' hs e=>?_;obtain rfl:=Option.some.inj e;have e1:PySem.assign (.Attribute o x p) env u=(holding [u] (eval o env)>>=fun ov=>standAt p.atName>>=fun _=>holding [u,ov] (setAttr ov x u)>>=fun _=>release [u,ov] []):=rfl;rw [e1];refine (WP.hold (h G Gl ho)).bind fun φ₁ s₁' w x₁ ⟨q1,r1⟩=>WP.after ?_;subst q1;refine (WP.hold (Ff X.cls (Gl.mono x₁) G.cy hs r1 (a.mono x₁))).bind fun φ₂ s₂ _ x₂ ⟨q1,q2⟩=>?_;subst q1;subst q2;exact WP.release.mono fun _ _ _ _ q=>q.2
 ·refine aJ (vD hq) fun p hp=>?_;rw [hp];refine aQ e fun ov s₁ ho e=>?_;refine aQ e fun iv s₂ hi e=>?_;refine ah e fun h' hs e=>?_;obtain rfl:=Option.some.inj e;have e1:∃ k:Value→Value→List Value,PySem.assign (.Subscript o i p) env u=(holding [u] (eval o env)>>=fun ov=>holding [u,ov] (eval i env)>>=fun iv=>standAt p>>=fun _=>holding [u,ov,iv] (PySem.setItem ov iv u)>>=fun _=>release (k iv ov) []):=⟨_,rfl⟩;refine aJ e1 fun k e1=>?_;rw [e1];refine (WP.hold (h G Gl ho)).bind fun φ₁ s₁' w x₁ ⟨q1,r1⟩=>?_;subst q1;refine (WP.hold (h (G.mono x₁) (Gl.mono x₁) hi)).bind fun φ₂ s₂' z x₂ ⟨q1,r2⟩=>WP.after ?_;subst q1;refine (WP.hold (Mm ((Gl.mono x₁).mono x₂) hs (r1.mono x₂) r2 ((a.mono x₁).mono x₂))).bind fun cU s₃ _ x₃ ⟨q1,q2⟩=>?_;subst q1;subst q2;exact WP.release.mono fun _ _ _ _ q=>q.2
theorem F6 (h:noStar (t::r)=true):(assignEach (t::r) env).map (·.2)=PySem.assign t env::(assignEach r env).map (·.2):=by cases t <;>first|rfl|cases h
theorem F7 (X:g7 W C) (h:bB W C n R.ev):∀{ts:List PySem.Expr} {φ:List Addr} {s s':St},noStar ts=true→Good W n D A env ae φ→aH W C D φ→VR φ v u→pI C R ae ts v s=some s'→WP W.prog W.w D A (assignAll u ((assignEach ts env).map (·.2))) φ s (fun _ s'' _=>s''=s')
 |[],φ,s,s',_,_,_,_,e=>by cases e;exact WP.pure' rfl
 |t::r,φ,s,s',ns,G,Gl,a,e=>by
  have ns':noStar r=true:=(Nh (env:=env) ns).2;rw [F6 ns];refine ah (x:=assign C R ae t v s) (F:=fun s=>pI C R ae r v s) e fun s₁ ht e=>?_;cases r with
  |nil=>
   obtain rfl:=Option.some.inj e;exact F5 X h G Gl a ht
  |cons t2 r2=>
   have e1:assignAll u (PySem.assign t env::(assignEach (t2::r2) env).map (·.2))=(holding [u] (PySem.assign t env u)>>=fun _=>assignAll u ((assignEach (t2::r2) env).map (·.2))):=by rw [F6 ns'];rfl
   rw [e1];refine (WP.hold (F5 X h G Gl a ht)).bind fun φ₁ s₁' _ x₁ q1=>?_;subst q1;exact F7 X h ns' (G.mono x₁) (Gl.mono x₁) (a.mono x₁) e
end
noncomputable def cY (s':St) (v:Fl):List Addr→St→Flow→Prop:=fun φ' s'' u=>s''=s'∧FR φ' v u
noncomputable def sQ (W:Wo) (C:Cx) (k:Nat) (f:PySem.Expr→List Stmt→List Stmt→au→St→Option (Fl×St)):Prop:=
 ∀{D:Md} {A:Around} {env:Env} {ae:au} {φ:List Addr} {s:St} {t:PySem.Expr} {b o:List Stmt} {v:Fl} {s':St},Good W k D A env ae φ→aH W C D φ→f t b o ae s=some (v,s')→CP W.prog W.w D A (.whileLoop t b o env) φ s (cY s' v)
noncomputable def S1 (W:Wo) (C:Cx) (k:Nat) (f:Stmt→au→St→Option (Fl×St)) (st:Stmt):Prop:=
 ∀{D:Md} {A:Around} {env:Env} {ae:au} {φ:List Addr} {s:St} {v:Fl} {s':St},Good W k D A env ae φ→aH W C D φ→f st ae s=some (v,s')→WP W.prog W.w D A (exec st env) φ s (cY s' v)
section
variable {W:Wo} {C:Cx} {n:Nat} {D:Md} {A:Around} {env:Env} {ae:au} {φ:List Addr} {s:St} {sh:Shared} {R:Rec}
theorem OD (h:vg ts=true):swappedStores ts value env=pure none:=by
 rcases ts with _|⟨t,_|⟨t2,r⟩⟩
 ·rfl
 ·induction t using PySem.Expr.casesOn with
  |Tuple=>exact Bool.noConfusion h
  |List=>exact Bool.noConfusion h
  |_=>rfl
 ·induction t using PySem.Expr.casesOn with
  |_=>rfl
theorem OE (Gl:aH W C D φ) (h1:s.hp[l]?=some (.dict es 0)) (h2:c7 es i=some v) (h3:bL s.hp C.ro l (.dict (jH es i) 0)=some h') (ha:φ[l]?=some a):WP W.prog W.w D A (delItem (.ref a) (.int i t)) φ s (fun φ' s' _=>φ'=φ∧s'={ s with hp:=h'}):=by intro sh R;refine cP (lX h3) fun ro q1 _=>?_;subst q1;refine lA (R.open (Gl.ro▸ro) h1 ha (fun es k q=>by cases q)) fun m os nl o q1 g R X=>?_;refine aZ q1 fun kvs hd r1 hl=>?_;have len:=r1.length;refine kob_del R.fr R.news X.qh hd (intKind_is _ _ i t) (by rw [r1.isSome,h2];rfl) (cW (by lia)) fun h' o' F' N' hd'=>?_;exact ⟨⟨rfl,rfl,rfl⟩,φ,_,.refl _,⟨m,_,nl,X.fin _ o' (.dict (jH es i) 0) F' N' ⟨_,hd',r1.erase (zC hd),Nat.le_trans (Ez i es) hl⟩⟩,rfl,rfl⟩
theorem OF (h:bB W C n R.ev) (G:Good W n D A env ae φ) (Gl:aH W C D φ) (h1:load C ae x s=some (.int a)) (h2:R.ev v ae s=some (.int b,s₁)) (hop:∀{t u:Tok} {sh:Shared} {Q:Value→Shared→Prop} {E:Value→Shared→Prop},Q (.int c sh.toks) { sh with toks:=sh.toks+1}→wpAny (model W.prog W.w) A (inplaceOp op (.int a t) (.int b u)) Q E sh)
  (h3:store C ae x (.int c) s₁=some s₂):WP W.prog W.w D A (exec (.AugAssign (.Name x p) op v p') env) φ s (cY s₂ .next):=by
 intro sh Rp;exact wpAny_AugAssign_Name ((Eo G Gl h1).eK Rp fun u aO m₁ aD r1=>r1.jL fun _=>(h G Gl h2).sG aD fun tk aK φ₂ m₂ x₂ aI=>hop ((sF (G.mono x₂) (Gl.mono x₂) (.int _ _) h3).kg (sh:={ aK with toks:=aK.toks+1}) aI fun _ d9 m₃ bz=>⟨m₁.trans (m₂.trans m₃),_,_,x₂,bz,rfl,.next⟩))
theorem OG (X:g7 W C) (h:bB W C n R.ev) (G:Good W n D A env ae φ) (Gl:aH W C D φ) (h0:R.ev o ae s=some (ov,s₀)) (h1:uO C s₀.hp x ov=some (.int a)) (h2:R.ev v ae s₀=some (.int b,s₁)) (hop:∀{t u:Tok} {sh:Shared} {Q:Value→Shared→Prop} {E:Value→Shared→Prop},Q (.int c sh.toks) { sh with toks:=sh.toks+1}→wpAny (model W.prog W.w) A (inplaceOp op (.int a t) (.int b u)) Q E sh)
  (h3:uP C s₁.hp x (.int c) ov=some h'):WP W.prog W.w D A (exec (.AugAssign (.Attribute o x p) op v p') env) φ s (cY { s₁ with hp:=h'} .next):=by
 intro sh Rp;exact wpAny_AugAssign_AttributeAny ((h G Gl h0).iD Rp fun uo d7 iC m₀ x₀ R₀ r0=>(Fe X.cls G.cy h1 r0).eK R₀ fun u aO m₁ aD r1=>r1.jL fun _=>(h (G.mono x₀) (Gl.mono x₀) h2).sG aD fun tk aK φ₂ m₂ x₂ aI=>hop ((Ff X.cls ((Gl.mono x₀).mono x₂) G.cy h3 (r0.mono x₂) (.int _ _)).kg (sh:={ aK with toks:=aK.toks+1}) aI fun _ d9 m₃ bz=>⟨m₀.trans (m₁.trans (m₂.trans m₃)),_,_,x₀.trans x₂,bz,rfl,.next⟩))
theorem OH (h:bB W C n R.ev) (G:Good W n D A env ae φ) (Gl:aH W C D φ) (he:R.ev e ae s=some (v,s')) (hs:swapsWith e none p.line env=pure false):WP W.prog W.w D A (exec (.Expr e p) env) φ s (cY s' .next):=by intro sh Rp;refine wpAny_Expr_any ((h G Gl he).use Rp fun u aO φ₁ s₁ m₁ x₁ aD ⟨q1,r1⟩=>⟨m₁,φ₁,s₁,x₁,aD,q1,.next⟩) ?_ hs;unfold interactive;rw [G.ev.kind];rfl
noncomputable def sR (W:Wo) (D:Md) (A:Around) (c:Code) (φ:List Addr) (d7 sh:Shared) (P:List Addr→St→Flow→Prop):Prop:=
 codeAny (model W.prog W.w) A c (fun r sh'=>match r with| .ok f=>Res W.prog W.w D φ d7 P f sh'| .error _=>False) sh
theorem sR.next (h:sR W D A c φ' aO sh P) (x:Ext φ φ') (m:bu d7 aO):sR W D A c φ d7 sh P:=codeAny_mono h fun r s' z=>by
  rcases r with e|f
  ·exact z
  ·exact Res.next x m z
noncomputable def sS (W:Wo) (D:Md) (A:Around) (φ:List Addr) (d7:Shared) (P:List Addr→St→Flow→Prop):Fin→Shared→Prop:=fun fin s'=>match fin with
 | .done f=>Res W.prog W.w D φ d7 P f s'
 | .again c=>c.quiet=true∧sR W D A c φ d7 s' P
theorem OI (h:CP W.prog W.w D A (.whileLoop t b o env) φ s P):WP W.prog W.w D A (exec (.While t b o p) env) φ s P:=fun sh Rp=>wpAny_While (codeAny_mono (h sh Rp) fun r s' z=>by
  rcases r with e|f
  ·exact z.elim
  ·exact z)
theorem FR.at {f:Fl} {u:Flow} (h:FR φ f u) {P:Fl→Flow→Prop} (n:P .next .next) (b:P .brk .brk) (c:P .cont .cont) (r:∀ v w,VR φ v w→P (.ret v) (.ret w)):P f u:=by
 induction h with
 |next=>exact n
 |brk=>exact b
 |cont=>exact c
 |ret h=>exact r _ _ h
theorem z8 {D':Md} {b:List Stmt} {c:Code} {f:Fl} {s₂ s':St} {z:Option (Fl×St)} {v:Fl} {iC:List Addr} {d7:Shared} {k:Flow→Sem Fin} {E:Value→Shared→Prop} (e:vn f s₂ z=some (v,s')) (h:WP W.prog W.w D' A (execs b env) φ s (cY s₂ f)) (Rp:Rep W.prog W.w D' φ s sh.heap) (m:bu d7 sh) (x:Ext iC φ) (dr:∀ φ h,Rep W.prog W.w D' φ s₂ h→Rep W.prog W.w D φ s₂ h) (ag:∀ φ₂ aK,Ext φ φ₂→Rep W.prog W.w D' φ₂ s₂ aK.heap→z=some (v,s')→sR W D A c φ₂ aK aK (cY s' v)) (hq:c.quiet=true:=by rfl) (k1:k .next=again c:=by rfl) (k2:k .cont=again c:=by rfl) (k3:k .brk=pure (.done .next):=by rfl) (k4:∀ v,k (.ret v)=pure (.done (.ret v)):=by intro;rfl):
  wpAny (model W.prog W.w) A (execs b env>>=k) (sS W D A iC d7 (cY s' v)) E sh:=
 wpAny_bind (h.oh Rp fun u aK φ₂ m₂ x₂ aI q=>q.at (P:=fun f u=>vn f s₂ z=some (v,s')→wpAny (model W.prog W.w) A (k u) (sS W D A iC d7 (cY s' v)) E aK) (fun e=>k1▸wpAny_pure ⟨hq,(ag φ₂ aK x₂ aI e).next (x.trans x₂) (m.trans m₂)⟩) (fun e=>k3▸wpAny_pure (gh (G:=fun v s'=>Res W.prog W.w D iC d7 (cY s' v) .next aK) e ⟨m.trans m₂,_,_,x.trans x₂,dr _ _ aI,rfl,.next⟩)) (fun e=>k2▸wpAny_pure ⟨hq,(ag φ₂ aK x₂ aI e).next (x.trans x₂) (m.trans m₂)⟩) (fun a w r e=>k4 w▸wpAny_pure (gh (G:=fun v s'=>Res W.prog W.w D iC d7 (cY s' v) (.ret w) aK) e ⟨m.trans m₂,_,_,x.trans x₂,dr _ _ aI,rfl,.ret r⟩)) e)
theorem OJ (ht:iX W C n R.tr) (hx:gF W C n R.ex) (hw:sQ W C n R.wh):sQ W C n (pO R):=by
 intro D A env ae φ s t b o v s' G Gl he sh Rp;refine aQ he fun c s₁ hb he=>codeAny_of_tree ?_;show wpAny _ A ((whileTurn t b o env).onRaise (fun x=>do noteFrame x env;theTreesLotGoes x)) (sS W D A φ sh (cY s' v)) _ sh;refine wpAny_noted (wpAny_bind ((ht G Gl hb).kR Rp fun aO φ₁ m₁ x₁ aD=>?_));cases c with
 |true=>exact aQ he fun f s₂ hf he=>z8 (c:=.whileLoop t b o env) (k:=fun f=>match f with| .next| .cont=>again (.whileLoop t b o env)| .brk=>pure (.done .next)| .ret v=>pure (.done (.ret v))) he (hx (G.mono x₁) (Gl.mono x₁) hf) aD m₁ x₁ (fun _ _ R=>R) fun φ₂ aK x₂ aI e=>hw ((G.mono x₁).mono x₂) ((Gl.mono x₁).mono x₂) e aK aI
 |false=>exact wpAny_bind ((hx (G.mono x₁) (Gl.mono x₁) he).use aD fun f aK φ₂ s₂ m₂ x₂ aI q=>wpAny_pure ⟨m₁.trans m₂,φ₂,s₂,x₁.trans x₂,aI,q⟩)
end
noncomputable def Md.qH (D:Md) (d:Nat) (o:Obj):Md:={ D with pin:=fun n=>if n=d then some o else D.pin n}
noncomputable def gG (W:Wo) (D:Md) (φ:List Addr):It→Obj→Prop
 | .range i left step,o=>o={ cls:=.type "range_iterator",dict:=none,data:=.fields #[rawInt i,rawInt left,rawInt step],slots:= #[]}
 | .lst l i,o=>∃ a,φ[l]?=some a∧o.cls=.type "list_iterator" ∧o.data=.fields #[.ref a,.int i 0]
 | .fh l i,o=>∃ a,φ[l]?=some a∧o.cls=.type "tuple_iterator" ∧o.data=.fields #[.ref a,.int i 0]
 | .keys d i,o=>∃ a od kvs ep,φ[d]?=some a∧D.pin d=some od∧KdkAt (intKind W.prog W.w) od kvs ep∧o.cls=.type "dict_keyiterator" ∧o.data=.fields #[.ref a,.int i 0,.int kvs.length 0,.int ep 0]
 | .vals d i,o=>∃ a od kvs ep,φ[d]?=some a∧D.pin d=some od∧KdkAt (intKind W.prog W.w) od kvs ep∧o.cls=.type "dict_valueiterator" ∧o.data=.fields #[.ref a,.int i 0,.int kvs.length 0,.int ep 0]
 | .enum _ _,_=>False
section
variable {W:Wo} {C:Cx} {n:Nat} {D:Md} {A:Around} {env:Env} {ae:au} {φ ψ:List Addr} {s:St} {sh:Shared} {R:Rec} {h h':Heap}
theorem gG.mono (e:Ext φ ψ) (x:gG W D φ it o):gG W D ψ it o:=by
 cases it with
 |range=>exact x
 |lst l i=>refine aC x fun a b c=>?_;exact ⟨a,e _ _ b,c⟩
 |fh l i=>refine aC x fun a b c=>?_;exact ⟨a,e _ _ b,c⟩
 |keys d i=>refine yp x fun a od kvs ep b c=>?_;exact ⟨a,od,kvs,ep,e _ _ b,c⟩
 |vals d i=>refine yp x fun a od kvs ep b c=>?_;exact ⟨a,od,kvs,ep,e _ _ b,c⟩
 |enum=>exact x
theorem Rep.nB (R:Rep W.prog W.w (D.hid (l,o)) φ s h) (k:Heap.ExtBut l h h'):Rep W.prog W.w D φ s h':=by
 refine cP R.g6 fun q1 q2 q3=>?_;obtain ⟨m,os,nl,R⟩:=R;refine aZ R.drop fun nl' R' hn _=>?_;have z1:((φ.zip os).drop D.ro).map (·.1)=φ.drop D.ro:=by rw [List.map_drop,List.map_fst_zip];rw [R.br,R.len];exact Nat.le_refl _
 refine ⟨m,os,nl',R'.grow ⟨?_,fun b ob e=>k b ob (fun z=>?_) (R'.fr.keep b ob e),R'.fr.above⟩ fun p hp=>?_⟩
 ·refine fZ R'.fr.ns fun oL es ep hL r=>?_;exact ⟨oL,es,ep,k _ _ (Ne.symm q2) hL,r⟩
 ·have e':D.g.get? b=some ob:=e;rw [z,q3] at e';cases e'
 ·have P:=R'.news p hp;have hn':l∉φ.drop D.ro++nl'.map (·.1):=hn;refine ⟨k _ _ (fun z=>hn' ?_) P.1,P.2⟩;rw [← z,← z1];rcases List.mem_append.mp hp with y|y
  ·exact List.mem_append_left _ (List.mem_map_of_mem y)
  ·exact List.mem_append_right _ (List.mem_map_of_mem y)
theorem OL (x:Pairs (intKind prog w) es k1):∀{k2:List (Int×Value)},Pairs (intKind prog w) es k2→k2=k1:=by
 induction x with
 |nil=>intro k2 y;cases y;rfl
 |cons a b _ ih=>
  intro k2 y;cases y with
  |cons a' b' r'=>
   rename_i kv _ _ _ kv' _;have e1:kv'.1=kv.1:=by refine aJ (Value.isInt_shape (show Value.isInt _ _=true from a)) fun t h1=>?_;refine aJ (Value.isInt_shape (show Value.isInt _ _=true from a')) fun u h2=>?_;rw [h1] at h2;exact (Value.int.inj h2).1.symm
   rw [ih r'];congr 1;exact Prod.ext e1 (b'.symm.trans b)
theorem OM {prog:Program} {w:World} {o:Obj} {k1 k2:List (Int×Value)} (x:o.IsDictOf (intKind prog w) k1) (y:o.IsDictOf (intKind prog w) k2):k2=k1:=by refine kI x fun es ep _ h1 _ p1 _=>?_;refine kI y fun es' Ep _ h2 _ p2 _=>?_;rw [h1] at h2;cases h2;exact OL p1 p2
theorem sU {α:Type} {x:Option α} {f:α→List AV×It} {r:Option (List AV×It)} {P:Prop} (e:some (x.map f)=some r) (k0:x=none→r=none→P) (k1:∀ a,x=some a→r=some (f a)→P):P:=by
 rcases x with _|a
 ·exact k0 rfl (Option.some.inj e).symm
 ·exact k1 a rfl (Option.some.inj e).symm
theorem z9 {us:List Value} {k:Nat} (h:us[k]?=none):us.toArray[k]?=none:=by rw [List.getElem?_toArray];exact h
theorem F8 (Rp:Rep W.prog W.w D φ s h) (hv:yH s.hp[d]?=some es) (ha:φ[d]?=some a) (hp:D.pin d=some od) (hk:KdkAt (intKind W.prog W.w) od kvs ep):h.DictAt (intKind W.prog W.w) a kvs ep∧b7 φ es kvs:=aQ hv fun es' n hd e=>eE e fun _ e=>by obtain ⟨m,os,nl,Rw⟩:=Rp;refine aZ (Rw.at (qc hd) ha) fun o2 ho2 q1 g=>?_;refine aZ q1 fun Z3 hd2 r1 hl=>?_;have q:=Option.some.inj (ho2.symm.trans (Rw.pin d od hp).1);refine aJ hk fun es' k=>?_;rw [q] at hd2 g;exact ⟨⟨od,es',g,k⟩,OM hd2 ⟨es',ep,k⟩▸Option.some.inj e▸r1⟩
theorem Aa (hh:A.handled=none) {it:It} {I:Addr} {o:Obj} (x:gG W D φ it o) (Rp:Rep W.prog W.w (D.hid (I,o)) φ s sh.heap) {r:Option (List AV×It)} (e:next s.hp it=some r) {Q:Option Value→Shared→Prop} {E:Value→Shared→Prop} (k0:r=none→∀ h',Rep W.prog W.w D φ s h'→Q none { sh with heap:=h'})
  (k1:∀ v it' o' u h' tk,r=some ([v],it')→gG W D φ it' o'→Rep W.prog W.w (D.hid (I,o')) φ s h'→VR φ v u→Q (some u) { sh with heap:=h',toks:=tk}):
  wpAny (model W.prog W.w) A (pyNext (.ref I)) Q E sh:=by
 have hid:=Rp.g6;have Rd:=Rp.drop;induction it with
 |range i left step=>
  obtain rfl:o=_:=x;refine bE e (fun hl e=>wpAny_pyNext_range_item hid.1 (lV.mp hl) fun h' hi hs=>k1 _ _ _ _ _ _ (Option.some.inj e).symm rfl (Rp.bL hs hi) (.int _ _)) fun hl e=>wpAny_pyNext_range_end hh hid.1 ?_ fun h' hs=>k0 (Option.some.inj e).symm h' (Rp.nB hs);rw [dZ] at hl;exact Int.not_lt.mp (of_decide_eq_false hl)
 |lst l i=>
  refine aZ x fun a ha c1 c2=>?_;exact ah e fun vs hv e=>Rd.listE hv ha fun us k r1 len _ g=>sU e (fun hx hr=>wpAny_pyNext_list_end hh ⟨_,hid.1,c1,c2⟩ (cQ g) (z9 (r1.get_none hx)) fun h' hs=>k0 hr h' (Rp.nB hs)) fun v hx hr=>by refine aC (r1.get hx) fun u hu ru=>?_;exact wpAny_pyNext_list_item ⟨_,hid.1,c1,c2⟩ (cQ g) (qm hu) fun h' ⟨o',ho',d1,d2⟩ hs=>k1 _ _ o' _ _ sh.toks hr ⟨a,ha,d1,d2⟩ (Rp.bL hs ho') ru
 |fh l i=>
  refine aZ x fun a ha c1 c2=>?_;exact ah e fun vs hv e=>Rd.oq hv ha fun us k r1 len _ g=>sU e (fun hx hr=>wpAny_pyNext_tuple_end hh ⟨_,hid.1,c1,c2⟩ ⟨_,g,rfl,_,rfl⟩ (z9 (r1.get_none hx)) fun h' hs=>k0 hr h' (Rp.nB hs)) fun v hx hr=>by refine aC (r1.get hx) fun u hu ru=>?_;exact wpAny_pyNext_tuple_item ⟨_,hid.1,c1,c2⟩ ⟨_,g,rfl,_,rfl⟩ (qm hu) fun h' ⟨o',ho',d1,d2⟩ hs=>k1 _ _ o' _ _ sh.toks hr ⟨a,ha,d1,d2⟩ (Rp.bL hs ho') ru
 |keys d i=>
  refine pC x fun a od kvs ep ha hp hk c1 c2=>?_;refine ah e fun es hv e=>?_;refine aN (F8 Rd hv ha hp hk) fun hat r1=>?_;refine sU e (fun hx hr=>wpAny_pyNext_dict_end hh ⟨_,hid.1,c1,c2⟩ hat (List.getElem?_eq_none_iff.mpr (r1.length.symm▸List.getElem?_eq_none_iff.mp hx)) fun h' hs=>k0 hr h' (Rp.nB hs)) fun p hx hr=>?_;refine aC (r1.get hx) fun y hy ry=>?_;refine wpAny_pyNext_dict_item ⟨_,hid.1,c1,c2⟩ hat hy fun key h' hk' ⟨o',ho',d1,d2⟩ hs=>?_;refine aJ (Value.isInt_shape (show Value.isInt p.1 key=true from hk')) fun t z=>?_;exact z▸k1 _ _ o' _ _ sh.toks hr ⟨a,od,kvs,ep,ha,hp,hk,d1,d2⟩ (Rp.bL hs ho') (.int _ _)
 |vals d i=>
  refine pC x fun a od kvs ep ha hp hk c1 c2=>?_;refine ah e fun es hv e=>?_;refine aN (F8 Rd hv ha hp hk) fun hat r1=>?_;refine sU e (fun hx hr=>wpAny_pyNext_values_end hh ⟨_,hid.1,c1,c2⟩ hat (List.getElem?_eq_none_iff.mpr (r1.length.symm▸List.getElem?_eq_none_iff.mp hx)) fun h' hs=>k0 hr h' (Rp.nB hs)) fun p hx hr=>?_;refine aC (r1.get hx) fun y hy ry=>?_;exact wpAny_pyNext_values_item ⟨_,hid.1,c1,c2⟩ hat hy fun h' ⟨o',ho',d1,d2⟩ hs=>k1 _ _ o' _ _ sh.toks hr ⟨a,od,kvs,ep,ha,hp,hk,d1,d2⟩ (Rp.bL hs ho') ry
 |enum=>exact x.elim
end
section
variable {W:Wo} {C:Cx} {n:Nat} {D:Md} {A:Around} {env:Env} {ae:au} {φ ψ:List Addr} {s:St} {sh:Shared} {R:Rec} {h h':Heap}
theorem Ab:∀{vs:List AV} {s s':St},storeAll C ae es vs s=some s'→(assignEach es env).length=vs.length∧(assignEach es env).findIdx? (·.1)=none:=by
 induction es with
 |nil=>exact fun e=>eT e fun h _=>nil_eq h▸⟨rfl,rfl⟩
 |cons e es ih=>
  intro vs s s' he;refine aQ he fun x p hx he=>?_;rcases vs with _|⟨v,vs⟩
  ·exact e0 he
  ·refine ah he fun s₁ hs he=>?_;have z:=ih he;rw [gU hx];refine ⟨congrArg Nat.succ z.1,?_⟩;show List.findIdx? _ ((false,_)::assignEach es env)=none;rw [List.findIdx?_cons];simp [z.2]
theorem Ac:∀{vs:List AV} {us:List Value} {s s':St},Good W n D A env ae φ→aH W C D φ→aF φ vs us→storeAll C ae es vs s=some s'→WP W.prog W.w D A (assignInOrder ((assignEach es env).map (·.2)) us) φ s (fun φ' s'' _=>φ'=φ∧s''=s'):=by
 induction es with
 |nil=>exact fun G Gl r e=>eT e fun h e=>sD h r (WP.pure' ⟨rfl,Option.some.inj e⟩)
 |cons e es ih=>
  intro vs us s s' G Gl r he;refine aQ he fun x p hx he=>?_;rcases vs with _|⟨v,vs⟩
  ·exact e0 he
  ·refine ah he fun s₁ hs he=>fL r fun u us a r=>?_;rw [gU hx];exact WP.Em (WP.hold (sP G Gl a hs)) fun _=>ih G Gl r he
theorem ON (x:gG W D φ it o):∃ T vs,o.cls=.type T∧o.data=.fields vs∧(["enumerate","zip","dict_itemiterator","dict_reverseitemiterator","odict_iterator","itertools.zip_longest","itertools.pairwise"].contains T)=false:=by
 cases it with
 |range=>cases x;exact ⟨_,_,rfl,rfl,by decide⟩
 |lst l i=>refine aZ x fun a _ c d=>?_;exact ⟨_,_,c,d,by decide⟩
 |fh l i=>refine aZ x fun a _ c d=>?_;exact ⟨_,_,c,d,by decide⟩
 |keys d i=>refine pC x fun a od kvs ep _ _ _ c d=>?_;exact ⟨_,_,c,d,by decide⟩
 |vals d i=>refine pC x fun a od kvs ep _ _ _ c d=>?_;exact ⟨_,_,c,d,by decide⟩
 |enum=>exact x.elim
theorem Ad (hh:A.handled=none) (G:Good W n D A env ae φ) (Gl:aH W C D φ) (x:gG W D φ it o) (r:VR φ v u) (e:fC C ae t [v] s=some s'):WP W.prog W.w (D.hid (I,o)) A (letOwnedTupleGo t (.ref I) u>>=fun _=>PySem.assign t env u) φ s (fun φ' s'' _=>φ'=φ∧s''=s'):=by
 refine bA e (fun q hq e=>ah e fun z hz e=>?_) fun _ e=>ah e fun es hq e=>bA e (fun z hz e=>ah e fun l hl e=>ah e fun ws hv e=>?_) fun hn _=>e0 (Eq.symm hn)
 ·rw [gU hq];exact sP G.hid Gl.hid (Option.some.inj hz▸r) e
 ·refine dX (zj hq) fun k p y=>?_;rw [y];have r:VR φ z u:=Option.some.inj hz▸r;refine gC hl r fun a ha=>fun sh Rp=>?_;refine bK (ON x) fun T vs c1 c2 c3=>?_;have hid:=Rp.g6;refine wpAny_bind ?_;unfold letOwnedTupleGo;refine wpAny_bind (wpAny_load hid.1 ?_);dsimp only;rw [c1,c2];show wpAny _ A (if (["enumerate","zip","dict_itemiterator","dict_reverseitemiterator","odict_iterator","itertools.zip_longest","itertools.pairwise"].contains T&&vs[0]?==some (rawInt a))=true then _ else _) _ _ sh;rw [if_neg (by rw [c3];simp)];refine wpAny_pure (Rp.oq hv ha fun us k r1 hl _ g=>?_);refine aN (Ab (env:=env) e) fun n1 n2=>?_;refine assign_Tuple_tuple hh (qk g) (by rw [n1,← hl];simp) n2 fun h' hs=>?_;have R':=Rp.ext (h':=h') fun b ob hb=>hs b ob (Nat.ne_of_lt (Heap.lt_size hb)) hb;exact (Ac G.hid Gl.hid (by simpa using r1) e).rest (sh:={ sh with heap:=h'}) R' (.refl _) ⟨rfl,rfl,rfl⟩
noncomputable def qI (W:Wo) (C:Cx) (k:Nat) (f:PySem.Expr→It→List Stmt→List Stmt→au→St→Option (Fl×St)):Prop:=
 ∀{D:Md} {A:Around} {env:Env} {ae:au} {φ:List Addr} {s:St} {t:PySem.Expr} {it:It} {b o:List Stmt} {v:Fl} {s':St} {I:Addr} {io:Obj},Good W k D A env ae φ→aH W C D φ→A.handled=none→gG W D φ it io→f t it b o ae s=some (v,s')→∀ sh,Rep W.prog W.w (D.hid (I,io)) φ s sh.heap→codeAny (model W.prog W.w) A (.forLoop t (.ref I) b o env) (fun r sh'=>match r with| .ok u=>Res W.prog W.w D φ sh (cY s' v) u sh'| .error _=>False) sh
theorem OO (hx:gF W C n R.ex) (OP:qI W C n R.fo):qI W C n (lP C R):=by
 intro D A env ae φ s t it b o v s' I io G Gl hh x he sh Rp;refine ah he fun r l7 he=>codeAny_of_tree ?_;show wpAny _ A ((forTurn t (.ref I) b o env).onRaise (fun x=>do noteFrame x env;theTreesLotGoes x)) (sS W D A φ sh (cY s' v)) _ sh;refine wpAny_noted (wpAny_bind (wpAny_standAt (wpAny_bind (wpAny_onRaise (Aa hh x Rp l7 (fun hr h' aD=>?_) fun w it' o' u h' tk hr x' aD ru=>?_)))))
 ·rw [hr] at he;exact wpAny_pure ⟨rfl,codeAny_block ((hx G Gl he).use (sh:={ sh with heap:=h'}) aD fun f aK φ₂ s₂ m₂ x₂ aI q=>⟨m₂,φ₂,s₂,x₂,aI,q⟩)⟩
 ·rw [hr] at he;refine ah he fun s₁ hs he=>aQ he fun f s₂ hf he=>fU (t':=(letOwnedTupleGo t (.ref I) u>>=fun _=>PySem.assign t env u)>>=fun _=>execs b env>>=fun f=>match f with
   | .next| .cont=>again (.forLoop t (.ref I) b o env)
   | .brk=>pure (.done .next)
   | .ret v=>pure (.done (.ret v))) (by rw [bind_assoc];rfl) (wpAny_bind ((Ad (I:=I) (o:=o') hh G Gl x' ru hs).kg (sh:={ sh with heap:=h',toks:=tk}) aD fun _ aO m₁ sV=>?_))
  exact z8 (c:=.forLoop t (.ref I) b o env) he (hx G.hid Gl.hid hf) sV m₁ (.refl _) (fun _ _ R=>R.drop) fun φ₂ aK x₂ aI e=>OP (G.mono x₂) (Gl.mono x₂) hh (x'.mono x₂) e aK aI
end
section
variable {W:Wo} {C:Cx} {n:Nat} {D:Md} {A:Around} {env:Env} {ae:au} {φ ψ:List Addr} {s:St} {sh:Shared} {R:Rec} {h h':Heap}
theorem set_same (l:List α) (d:Nat) (x:α) (n:Nat):(l.set d x)[n]?=if d=n then (if n<l.length then some x else none) else l[n]?:=by
 rw [List.getElem?_set];by_cases q:d=n
 ·subst q;simp
 ·simp [q]
theorem Rep.pin (Rp:Rep W.prog W.w D φ s h) (hv:s.hp[d]?=some (.dict es 0)) (ha:φ[d]?=some a) (g:h.get? a=some od):Rep W.prog W.w (D.qH d od) φ { s with hp:=s.hp.set d (.dict es 1)} h:=by
 obtain ⟨m,os,nl,R⟩:=Rp;have hd:=(List.getElem?_eq_some_iff.mp hv).1;refine aZ (R.at hv ha) fun o ho hor g'=>?_;rw [g] at g';cases g';refine ⟨m,os,nl,R.fr,R.news,R.rd,by simp [R.len],by simp [R.br],by show D.ro≤(s.hp.set d (.dict es 1)).length;rw [List.length_set];exact R.c9,?_,?_,R.nd,?_,R.big,R.cV⟩
 ·intro n ao o h1 h2;rw [set_same] at h1;split at h1
  ·rename_i q;subst q;rw [if_pos hd] at h1;cases h1;rw [ho] at h2;cases h2;exact hor
  ·exact R.rel n ao o h1 h2
 ·intro n o hn;show os[n]?=some o∧∃ es' k,(s.hp.set d (.dict es 1))[n]?=some (.dict es' (k+1));have hn:(if n=d then some od else D.pin n)=some o:=hn;rw [set_same];by_cases q:n=d
  ·subst q;rw [if_pos rfl] at hn;cases hn;rw [if_pos rfl,if_pos hd];exact ⟨ho,es,0,rfl⟩
  ·rw [if_neg q] at hn;rw [if_neg (fun z=>q z.symm)];exact R.pin n o hn
 ·exact R.lo
theorem Rep.OQ (Rp:Rep W.prog W.w (D.qH d od) φ s h) (hD:D.pin d=none) (hv:s.hp[d]?=some (.dict es 1)):Rep W.prog W.w D φ { s with hp:=s.hp.set d (.dict es 0)} h:=by
 obtain ⟨m,os,nl,R⟩:=Rp;have hd:=(List.getElem?_eq_some_iff.mp hv).1;refine fK (R.addr hv) fun a o ha ho hor g=>?_;refine ⟨m,os,nl,R.fr,R.news,R.rd,by simp [R.len],by simp [R.br],by show D.ro≤(s.hp.set d (.dict es 0)).length;rw [List.length_set];exact R.c9,?_,?_,R.nd,R.lo,R.big,R.cV⟩
 ·intro n ao o' h1 h2;rw [set_same] at h1;split at h1
  ·rename_i q;subst q;rw [if_pos hd] at h1;cases h1;rw [ho] at h2;cases h2;exact hor
  ·exact R.rel n ao o' h1 h2
 ·intro n o' hn;have q:n≠d:=by rintro rfl;rw [hD] at hn;cases hn
  have:=R.pin n o' (by show (if n=d then some od else D.pin n)=some o';rw [if_neg q];exact hn);rw [set_same,if_neg (fun z=>q z.symm)];exact this
theorem Rep.OS (Rp:Rep W.prog W.w D φ s h) (hv:s.hp[d]?=some (.dict es 0)):D.pin d=none:=by
 obtain ⟨m,os,nl,R⟩:=Rp;cases q:D.pin d with
 |none=>rfl
 |some o=>
  refine mQ (R.pin d o q) fun _ es' k h2=>?_;rw [hv] at h2;cases h2
noncomputable def Ae (D D₁:Md):Prop:=∃ p,D₁={ D with pin:=p}
theorem Good.pin (h:Ae D D₁) (G:Good W n D A env ae φ):Good W n D₁ A env ae φ:=by refine aJ h fun p q1=>?_;subst q1;exact ⟨⟨G.ev.kind,G.ev.names,G.ev.locals,G.ev.globals,G.ev.builtins,G.ev.frame,G.ev.cells,G.ev.ok⟩,⟨G.cy.x,G.cy.t,G.cy.b⟩,G.room,G.quiet⟩
theorem aH.pin (h:Ae D D₁) (G:aH W C D φ):aH W C D₁ φ:=by refine aJ h fun p q1=>?_;subst q1;exact ⟨G.glob,G.ro,G.deep⟩
noncomputable def sW (W:Wo) (D:Md) (φ:List Addr) (s₁:St) (it:It) (hf:AH) (I:Addr) (h:Heap):Prop:=
 ∃ D₁ io,Ae D D₁∧Rep W.prog W.w (D₁.hid (I,io)) φ { s₁ with hp:=hf} h∧gG W D₁ φ it io∧
  (∀ φ' s' h'',Rep W.prog W.w D₁ φ' s' h''→∀ nC,kL it s'.hp=some nC→Rep W.prog W.w D φ' { s' with hp:=nC} h'')∧
  ∀ p φ' s' h'',Rep W.prog W.w (D₁.hid p) φ' s' h''→∀ nC,kL it s'.hp=some nC→Rep W.prog W.w (D.hid p) φ' { s' with hp:=nC} h''
theorem Af (Rp:Rep W.prog W.w D φ s h) (fO:freeze it s.hp=some hf) (hd:uV it=none) (x:gG W D φ it io) (hfr:io.isFreed=false:=by rfl):
  sW W D φ s it hf h.objs.size (h.push io):=by
 have fz:∀ x y,freeze it x=some y→x=y:=fun x y e=>bA e (fun d z=>e0 (hd.symm.trans z)) fun _ e=>Option.some.inj e;have th:∀ x y,kL it x=some y→x=y:=fun x y e=>bA e (fun d z=>e0 (hd.symm.trans z)) fun _ e=>Option.some.inj e;exact ⟨D,io,⟨D.pin,rfl⟩,fz _ _ fO▸Rp.hide hfr,x,fun φ' s' h'' R hp e=>th _ _ e▸R,fun p φ' s' h'' R hp e=>th _ _ e▸R⟩
theorem OT (e:Dd o=some es):o=some (.dict es 1):=aQ e fun w n h e=>eT e fun z e=>(qc h).trans (by rw [Nat.eq_of_beq_eq_true z,Option.some.inj e])
theorem F9 (Rp:Rep W.prog W.w D φ s h) (hd:uV it=some d) (fO:freeze it s.hp=some hf) (ha:φ[d]?=some a) (g:h.get? a=some od) (x:gG W (D.qH d od) φ it io) (hfr:io.isFreed=false:=by rfl):sW W D φ s it hf h.objs.size (h.push io):=bA fO (fun d' z e=>ah e fun es hv e=>by obtain rfl:=Option.some.inj (hd.symm.trans z);have hv:=zw hv;have hD:=Rp.OS hv;have un:∀{D':Md} {φ':List Addr} {s':St} {h'':Heap},D'.pin d=none→Rep W.prog W.w (D'.qH d od) φ' s' h''→∀ nC,kL it s'.hp=some nC→Rep W.prog W.w D' φ' { s' with hp:=nC} h'':=fun OU R hp e=>bA e (fun d' z e=>ah e fun es' hv' e=>by obtain rfl:=Option.some.inj (hd.symm.trans z);exact Option.some.inj e▸R.OQ OU (OT hv')) fun z _=>e0 (Eq.symm (hd.symm.trans z));exact ⟨D.qH d od,_,⟨_,rfl⟩,Option.some.inj e▸(Rp.pin hv ha g).hide hfr,x,fun φ' s' h'' R hp e=>un hD R hp e,fun p φ' s' h'' R hp e=>un (D':=D.hid p) hD R hp e⟩) fun z _=>e0 (Eq.symm (hd.symm.trans z))
theorem Ga:(D.qH d od).pin d=some od:=by show (if d=d then some od else _)=_;rw [if_pos rfl]
theorem Gb (h:o.IsDictOf (intKind W.prog W.w) kvs):∃ ep,KdkAt (intKind W.prog W.w) o kvs ep:=let ⟨es,ep,r⟩:=h;⟨ep,es,r⟩
theorem OV (h:pH e=some o):∃ ap p,e=.Call (.Attribute o "values" ap) [] [] p∧yG o=false∧Nat.beq ap.endLine p.line=true:=ah h fun q hq h=>eT h fun hn h=>ah h fun z hz h=>eT h fun hc h=>by simp only [Bool.and_eq_true,Bool.not_eq_true'] at hc hn;refine ⟨z.2.2,q.2.2.2,?_,Option.some.inj h▸hc.1.2,hc.2⟩;rw [zl hq,vG hz,nil_eq hn.1,nil_eq hn.2,dm.mp hc.1.1,Option.some.inj h]
theorem OW (h:bB W C n R.ev) (G:Good W n D A env ae φ) (Gl:aH W C D φ) (he:uU R e ae s=some (it,s₁)) (fO:freeze it s₁.hp=some hf) (Rp:Rep W.prog W.w D φ s sh.heap) (k:∀ φ₁ I sh',bu sh sh'→Ext φ φ₁→sW W D φ₁ s₁ it hf I sh'.heap→Q (.ref I) sh'):wpAny (model W.prog W.w) A (eval e env) (fun x aO=>wpAny (model W.prog W.w) A (pyIter x) Q E aO) E sh:=by
 refine eE he fun _ he=>aQ he fun l s₂ hl he=>(h G Gl (zp hl)).vP Rp fun a aO φ₁ m₁ x₁ aD ha=>bA he (fun vs hv he=>?_) fun _ he=>bA he (fun vs hv he=>?_) fun _ he=>ah he fun p hv he=>?_;all_goals
  have q:=pin he;rw [← q.1,← q.2] at fO;rw [← q.1,← q.2] at k
 ·exact aD.listE hv ha fun us kk r1 _ _ g=>wpAny_pyIter_list (cQ g) (k φ₁ _ { aO with heap:=_} m₁ x₁ (Af aD fO rfl ⟨_,ha,rfl,rfl⟩))
 ·exact aD.oq hv ha fun us kk r1 _ _ g=>wpAny_pyIter_tuple (items:=us.toArray) ⟨_,g,rfl,_,rfl⟩ (k φ₁ _ { aO with heap:=_} m₁ x₁ (Af aD fO rfl ⟨_,ha,rfl,rfl⟩))
 ·refine aD.qi hv ha fun o kvs hd r1 _ g=>?_;refine aJ (Gb hd) fun ep hk=>?_;refine aJ (id hk) fun es' hk'=>?_;exact wpAny_pyIter_dict (knd:=intKind W.prog W.w) (ql aD ha) ⟨o,es',g,hk'⟩ (k φ₁ _ { aO with heap:=_} m₁ x₁ (F9 aD rfl fO ha g ⟨a,o,kvs,ep,ha,Ga,hk,rfl,rfl⟩))
theorem OX (h:bB W C n R.ev) (G:Good W n D A env ae φ) (Gl:aH W C D φ) (ho:pH e=some o) (he:Dc R o ae s=some (it,s₁)) (fO:freeze it s₁.hp=some hf) (Rp:Rep W.prog W.w D φ s sh.heap) (k:∀ φ₁ I sh',bu sh sh'→Ext φ φ₁→sW W D φ₁ s₁ it hf I sh'.heap→Q (.ref I) sh'):wpAny (model W.prog W.w) A (eval e env) (fun x aO=>wpAny (model W.prog W.w) A (pyIter x) Q E aO) E sh:=by refine aQ he fun d s₂ hd he=>ah he fun es hv he=>?_;have q:=pin he;rw [← q.1,← q.2] at fO;rw [← q.1,← q.2] at k;refine bK (OV ho) fun ap p z c2 c3=>?_;refine fU (t':=attributeBase o "values" env (eval o env)>>=fun ov=>standAt ap.atName>>=fun _=>methodCall o "values" ap p env ov ([]:List PySem.Expr).length (backTo p (starEach [] env)) []) (z▸rfl) ?_;rw [zS c2];refine wpAny_bind ((h G Gl (zp hd)).vP Rp fun a aO φ₁ m₁ x₁ aD ha=>wpAny_bind (wpAny_standAt (aD.qi hv ha fun od kvs hdd r1 _ g=>?_)));refine aJ (Gb hdd) fun ep hk=>?_;refine aJ (id hk) fun es' hk'=>?_;have hm:=(Heap.dictOf_iff.mpr ⟨od,g,hdd⟩:aO.heap.DictOf (intKind W.prog W.w) a kvs);rw [zT (args:=[]) rfl c3 rfl];refine wpAny_bind (wpAny_holding (getMethod_builtin hm.typeIs F.plainAttrs_dict F.slot_dict_values F.type_dict_values (fun a' q=>⟨_,Value.ref.inj q▸g,hk'.1.2.1⟩) (callWith_method0 ?_)));refine call_meetsIn F.slot_dict_values hm.typeIs F.entry_dict_values (F.args_dict_values_1 _) (meets_dict_values (intKind W.prog W.w) a (ql aD ha)) ⟨⟨kvs,hm⟩,?_⟩;have aI:=aD.push { cls:=.type "dict_values",data:=.fields #[.ref a]};have g':=Heap.get?_push_of_some { cls:=.type "dict_values",data:=.fields #[.ref a]} g;refine wpAny_pyIter_values (knd:=intKind W.prog W.w) (kvs:=kvs) (ep:=ep) ⟨_,Heap.get?_push_size _ rfl,rfl,rfl⟩ (Heap.DictAt.push ⟨od,es',g,hk'⟩ _) ?_;exact k φ₁ _ { aO with heap:=_} m₁ x₁ (F9 aI rfl fO ha g' ⟨a,od,kvs,ep,ha,Ga,hk,rfl,rfl⟩)
theorem wu (h:bB W C n R.ev) (G:Good W n D A env ae φ) (Gl:aH W C D φ) (he:iter C R ae e s=some (it,s₁)) (fO:freeze it s₁.hp=some hf) (hne:∀ l i,it≠ .enum l i) (Rp:Rep W.prog W.w D φ s sh.heap) (k:∀ φ₁ I sh',bu sh sh'→Ext φ φ₁→sW W D φ₁ s₁ it hf I sh'.heap→Q (.ref I) sh'):wpAny (model W.prog W.w) A (eval e env) (fun x aO=>wpAny (model W.prog W.w) A (pyIter x) Q E aO) E sh:=by refine bA he (fun as hr he=>aQ he fun vs s₂ hv he=>ah he fun q dQ he=>?_) fun _ he=>bA he (fun x hx he=>aQ he fun l s₂ hl he=>ah he fun vs hv he=>absurd (pin he).1.symm (hne _ _)) fun _ he=>bA he (fun o ho he=>OX h G Gl ho he fO Rp k) fun _ he=>OW h G Gl he fO Rp k;have z:=pin he;rw [← z.1,← z.2] at fO;rw [← z.1,← z.2] at k;exact FO h G Gl hr hv dQ Rp fun r t u w aK φ₂ m₂ x₂ aI i1 i2=>wpAny_pyIter_range i1 i2 (k φ₂ _ _ m₂ x₂ (Af aI fO rfl rfl))
end
noncomputable def qJ (W:Wo) (C:Cx) (n:Nat) (R:Rec):Prop:=
 ∀{D:Md} {A:Around} {env:Env} {ae:au} {φ:List Addr} {s:St} {e:PySem.Expr} {v:AV} {s₁ s₂:St} {x:Str} {p:Pos},Good W (n+1) D A env ae φ→aH W C D φ→lN e=true→R.ev e ae s=some (v,s₁)→store C ae x v s₁=some s₂→WP W.prog W.w D A (evalThenUse e env fun v=>assignAll v [PySem.assign (.Name x p) env]) φ s (fun _ s'' _=>s''=s₂)
noncomputable def Ge:Stmt→Bool
 | .Try .. =>true
 |_=>false
noncomputable def Gf (C:Cx) (ae:au):Stmt→Bool
 | .For _ it _ _ _=>(kK C ae it).isSome
 |_=>false
section
variable {W:Wo} {C:Cx} {n:Nat} {D:Md} {A:Around} {env:Env} {ae:au} {φ ψ:List Addr} {s:St} {sh:Shared} {R:Rec} {h h':Heap}
theorem Gg (he:lN e=false):swapsWith e t l env=pure false:=by
 induction e using PySem.Expr.casesOn with
 |ListComp=>exact Bool.noConfusion he
 |SetComp=>exact Bool.noConfusion he
 |DictComp=>exact Bool.noConfusion he
 |_=>rfl
theorem OY (he:lN e=false):swapsWithSole ts e l env=pure false:=by
 rcases ts with _|⟨t,_|⟨_,_⟩⟩
 ·rfl
 ·exact Gg he
 ·rfl
theorem OZ (ht:asName t=none):swapsWith e (some t) l env=pure false:=by
 induction e using PySem.Expr.casesOn with
 |ListComp=>induction t using PySem.Expr.casesOn with
  |Name=>exact e0 (Eq.symm ht)
  |_=>rfl
 |SetComp=>induction t using PySem.Expr.casesOn with
  |Name=>exact e0 (Eq.symm ht)
  |_=>rfl
 |DictComp=>induction t using PySem.Expr.casesOn with
  |Name=>exact e0 (Eq.symm ht)
  |_=>rfl
 |_=>rfl
theorem O0 (h:∀ x p,ts≠[.Name x p]):swapsWithSole ts e l env=pure false:=by
 rcases ts with _|⟨t,_|⟨_,_⟩⟩
 ·rfl
 ·cases q:asName t with
  |none=>exact OZ q
  |some p=>exact absurd (congrArg (fun z=>[z]) (gU q)) (h _ _)
 ·rfl
theorem O1:∃ b,swapsWithSole [.Name x p] e l env=pure b:=by show ∃ b,swapsWith e (some (.Name x p)) l env=pure b;cases e <;>exact ⟨_,rfl⟩
theorem O2 (X:g7 W C) (h:bB W C n R.ev) (hu:qJ W C n R) (G₀:Good W (n+1) D A env ae φ) (Gl:aH W C D φ) (ns:noStar ts=true) (nt:vg ts=true) (he:R.ev e ae s=some (v,s₁)) (ha:pI C R ae ts v s₁=some s₂):WP W.prog W.w D A (exec (.Assign ts e p) env) φ s (cY s₂ .next):=by
 have G:=G₀.less (Nat.le_succ n);have plain:swapsWithSole ts e p.line env=pure false→WP W.prog W.w D A (exec (.Assign ts e p) env) φ s (cY s₂ .next):=fun hs sh Rp=>by refine wpAny_Assign_stores ((h G Gl he).use Rp fun u aO φ₁ s₁' m₁ x₁ aD ⟨q1,r1⟩=>?_) hs (OD nt);subst q1;refine (F7 X h ns (G.mono x₁) (Gl.mono x₁) r1 ha).use aD fun _ aK φ₂ s₂' m₂ x₂ aI q=>?_;subst q;exact ⟨m₁.trans m₂,φ₂,_,x₁.trans x₂,aI,rfl,.next⟩
 by_cases hc:lN e=true
 ·by_cases hn:∃ x p',ts=[.Name x p']
  ·refine dX hn fun x p' q1=>?_;subst q1;refine aJ (O1 (env:=env) (e:=e) (x:=x) (p:=p') (l:=p.line)) fun b hb=>?_;cases b with
   |false=>exact plain hb
   |true=>
    intro sh Rp;rw [exec_Assign_arm];refine wpAny_bind (wpAny_standAt ?_);rw [hb];refine wpAny_bind (wpAny_pure ?_);rw [if_pos rfl];have hs:store C ae x v s₁=some s₂:=by exact ah (x:=store C ae x v s₁) (F:=fun s=>some s) ha fun s' hs e=>hs.trans e
    refine wpAny_bind ((hu (p:=p') G₀ Gl hc he hs).use Rp fun _ aK φ₂ s₂' m₂ x₂ aI q=>wpAny_pure ?_);exact ⟨m₂,φ₂,_,x₂,aI,q,.next⟩
  ·exact plain (O0 fun x p' q=>hn ⟨x,p',q⟩)
 ·exact plain (OY (Bool.eq_false_iff.mpr hc))
theorem O3 (h:bB W C n R.ev) (hf:qI W C n R.fo) (G:Good W n D A env ae φ) (Gl:aH W C D φ) (hq:ae.quiet=true) (hne:∀ l i,it≠ .enum l i) (hi:iter C R ae e s=some (it,s₁)) (hz:freeze it s₁.hp=some fO) (hr:R.fo t it b o ae { s₁ with hp:=fO}=some (v,s₂)) (ht:kL it s₂.hp=some wz) (hs:lH e=false):
  WP W.prog W.w D A (exec (.For t e b o p) env) φ s (cY { s₂ with hp:=wz} v):=by
 intro sh Rp;refine wpAny_For (wu h G Gl hi hz hne Rp fun φ₁ I aO m₁ x₁ into=>?_) (fun x=>by cases e <;>first|rfl|cases hs);refine kI into fun D₁ io hp aD xi back _=>?_;refine codeAny_mono (hf ((G.mono x₁).pin hp) ((Gl.mono x₁).pin hp) (G.quiet hq) xi hr aO aD) fun r aK z=>?_;cases r with
 |error e=>exact z.elim
 |ok f=>
  obtain ⟨m₂,φ₂,s₂',x₂,aI,q1,q2⟩:=z;subst q1;exact ⟨m₁.trans m₂,φ₂,_,x₁.trans x₂,back φ₂ _ _ aI _ ht,rfl,q2⟩
theorem Ag (h:iter C R ae e s=some (it,s₁)):lH e=false:=by
 induction e using PySem.Expr.casesOn with
 |Set=>exact e0 h
 |_=>rfl
theorem O4 (hn:¬(kK C ae e).isSome=true) (he:iter C R ae e s=some (it,s₁)):∀ l i,it≠ .enum l i:=bA he (fun as _ he=>aQ he fun vs s _ he=>ah he fun p _ he=>fun l i q=>nomatch (pin he).1.trans q) fun _ he=>bA he (fun x hx _=>absurd (by rw [hx];rfl) hn) fun _ he=>bA he (fun o _ he=>aQ he fun l s _ he=>ah he fun p _ he=>fun l i q=>nomatch (pin he).1.trans q) fun _ he=>eE he fun _ he=>aQ he fun l s _ he=>bA he (fun vs _ he=>fun l i q=>nomatch (pin he).1.trans q) fun _ he=>bA he (fun vs _ he=>fun l i q=>nomatch (pin he).1.trans q) fun _ he=>ah he fun vs _ he=>fun l i q=>nomatch (pin he).1.trans q
theorem O5 (Rp:Rep W.prog W.w D φ s h) (hs:Heap.ExtBut a h h') (ha:a=h.objs.size):Rep W.prog W.w D φ s h':=Rp.ext fun b o hb=>hs b o (by rw [ha];exact Nat.ne_of_lt (Heap.lt_size hb)) hb
theorem Gh (h:yU e=some (a,b)):∃ k p,e=.Tuple [.Name a.1 a.2,.Name b.1 b.2] k p:=by refine ah h fun es hs h=>dX (zj hs) fun k p hq=>⟨k,p,?_⟩;exact aQ (x:=two es) (F:=fun x y=>ob (asName x) fun a=>ob (asName y) fun b=>some (a,b)) h fun x y h1 h=>ah h fun c hc h=>ah h fun d hd h=>by rw [hq,two_eq h1,gU hc,gU hd,(pin h).1,(pin h).2]
theorem Gi (G:Good W n D A env ae φ) (hx:mY ae x=true):env.kindOf x=some .local:=by
 rw [G.ev.kindOf x];unfold mY kind at hx;rcases hk:lk ae.names x with _|k
 ·rw [hk] at hx;exact Bool.noConfusion hx
 ·rw [hk] at hx;cases k <;>first|rfl|exact Bool.noConfusion hx
theorem Z4:constantsAlone 8 (.Name x p)=(x==("__debug__" :Str)):=rfl
theorem Z5:foldedForSure 8 (.Name x p)=false:=rfl
theorem O6 {x1 x2 x3 x4 x5:Sem (Option (List Str))} {c1 c2 c4 c5:Bool} {N M:List Str} {k:Nat} (hN:N=M) (h1:c1=false) (h2:c2=false) (h3:(M.length !=k||M.eraseDups.length !=M.length)=false) (h4:c4=false) (h5:c5=false):
  (if c1=true then x1 else if c2=true then x2 else if (N.length !=k||N.eraseDups.length !=N.length)=true then x3 else if c4=true then x4 else if c5=true then x5 else pure (some N))=pure (some M):=by
 subst hN h1 h2 h4 h5;exact if_neg fun e=>Bool.false_ne_true (h3.symm.trans e)
theorem O7 (G:Good W n D A env ae φ) {a b c d:Str} {pa pb pc pd p1 p2:Pos} {k1 k2:Nat} (c1:mY ae a=true) (c2:mY ae b=true) (c3:a≠b) (hl:pb.line=pa.line) (nc:c≠ "__debug__") (nd:d≠ "__debug__"):swappedStores [.Tuple [.Name a pa,.Name b pb] k1 p1] (.Tuple [.Name c pc,.Name d pd] k2 p2) env=pure (some [a,b]):=by
 have wA:env.blockKind=.function:=by unfold Env.blockKind;rw [G.ev.kind];rfl
 have hne':(b==a)=false:=beq_eq_false_iff_ne.mpr (Ne.symm c3);have hE:[a,b].eraseDups=[a,b]:=by rw [List.eraseDups_cons,List.filter_cons,hne'];rfl
 refine O6 (k:=2) ?_ (by rw [wA];rfl) rfl (by rw [hE];rfl) rfl (show ((c==_)&&((d==_)&&true))=false by rw [beq_eq_false_iff_ne.mpr nc];rfl);refine (List.filterMap_cons_some (b:=a) ?_).trans (congrArg (a:: ·) (List.filterMap_cons_some (b:=b) ?_))
 ·exact if_pos (by rw [Gi G c1];exact beq_self_eq_true pa.line)
 ·exact if_pos (by rw [Gi G c2];exact beq_iff_eq.mpr hl)
theorem O8 {ts:List PySem.Expr} {e:PySem.Expr} {p:Pos} {s':St} (G:Good W n D A env ae φ) (Gl:aH W C D φ) (he:DA C ae ts e s=some (some s')):WP W.prog W.w D A (exec (.Assign ts e p) env) φ s (cY s' .next):=by
 refine ah he fun t ht he=>aQ he fun a b h1 he=>aQ he fun c d h2 he=>?_;refine dX (Gh h1) fun k1 p1 q1=>?_;subst q1;refine dX (Gh h2) fun k2 p2 q1=>?_;subst q1;rw [one_eq ht];refine eT (Option.some.inj he) fun hc he=>ah he fun x hx he=>ah he fun y hy he=>ah he fun s₁ h1 h2=>?_;rw [Bool.and_eq_true,Bool.and_eq_true,Bool.and_eq_true,Bool.and_eq_true,Bool.not_eq_true'] at hc;have hne:a.1≠b.1:=fun q=>by have c3:=hc.1.1.2;rw [q,iB] at c3;exact Bool.noConfusion c3
 refine aJ (zV hx) fun kc hkc=>?_;refine aJ (zV hy) fun kd hkd=>?_;have hsw:=O7 (pc:=c.2) (pd:=d.2) (k1:=k1) (k2:=k2) (p1:=p1) (p2:=p2) G hc.1.1.1.1 hc.1.1.1.2 hne (Nat.eq_of_beq_eq_true hc.1.2) (G.ev.ok _ _ hkc).1 (G.ev.ok _ _ hkd).1;have hss:swapsWithSole [.Tuple [.Name a.1 a.2,.Name b.1 b.2] k1 p1] (.Tuple [.Name c.1 c.2,.Name d.1 d.2] k2 p2) p.line env=pure false:=rfl;intro sh Rp;rw [exec_Assign_arm,hss,hsw];refine wpAny_bind (wpAny_standAt (wpAny_bind (wpAny_pure ?_)));rw [if_neg (by simp)];refine wpAny_bind (Tuple_ ?_);have sp:spliced (backTo p2 (starEach [PySem.Expr.Name c.1 c.2,PySem.Expr.Name d.1 d.2] env))=(eval (.Name c.1 c.2) env>>=fun v=>holding [v] (eval (.Name d.1 d.2) env>>=fun u=>holding [u] (pure [])>>=fun z=>pure (u::z))>>=fun z=>pure (v::z)):=by show spliced ((false,eval (.Name c.1 c.2) env)::(false,eval (.Name d.1 d.2) env)::[])=_;rw [qB,qB];rfl
 rw [sp];refine wpAny_bind ((jS G Gl hx).eK Rp fun u aO m₁ aD r1=>?_);refine wpAny_bind (wpAny_holding (wpAny_bind ((jS G Gl hy).eK aD fun u₂ aK m₂ aI r2=>?_)));refine wpAny_bind (wpAny_holding (wpAny_pure (wpAny_pure (wpAny_pure (wpAny_newTuple (wpAny_bind (wpAny_pure ?_)))))));refine fU (t':=rule "assign.swapped-stores" >>=fun _=>unpackItems (.ref aK.heap.objs.size) 2 none>>=fun items=>assignInOrder ([bindName env b.1,bindName env a.1]) items.reverse>>=fun _=>pure Flow.next) rfl (wpAny_bind (wpAny_rule (wpAny_bind ?_)));refine wpAny_unpackItems_tuple (items:= #[u,u₂]) (G.quiet hc.2) ⟨_,Heap.get?_push_size _ rfl,rfl,_,rfl⟩ fun h' hs'=>?_;have bz:=O5 (aI.ext (h':=aK.heap.push _) fun b o hb=>Heap.get?_push_of_some _ hb) hs' rfl;refine fU (t':=(holding [u] (bindName env b.1 u₂)>>=fun _=>holding [] (bindName env a.1 u)>>=fun _=>pure ())>>=fun _=>pure Flow.next) rfl (wpAny_bind (wpAny_bind (wpAny_holding (wpAny_bindName ?_))));refine (sF G Gl r2 h1).kg (sh:={ aK with heap:=h'}) bz fun _ sO m₄ iY=>?_;refine wpAny_bind (wpAny_holding (wpAny_bindName ?_));refine (sF G Gl r1 h2).kg iY fun _ wB Ah oE=>?_;exact wpAny_pure (wpAny_pure ⟨m₁.trans (m₂.trans (bu.trans ⟨rfl,rfl,rfl⟩ (m₄.trans Ah))),_,_,.refl _,oE,rfl,.next⟩)
theorem gi (e:some (a,b)=some (v,s')) (h:WP W.prog W.w D A t φ s (cY b a)):WP W.prog W.w D A t φ s (cY s' v):=(pin e).1▸(pin e).2▸h
theorem O9 (h:bB W C n R.ev) (G:Good W n D A env ae φ) (Gl:aH W C D φ) (he:DB R e ae s=some (v,s')):WP W.prog W.w D A (exec (.Return e p) env) φ s (cY s' v):=by
 rcases e with _|e
 ·exact gi he fun sh Rp=>wpAny_Return_none (iU ⟨rfl,rfl,rfl⟩ Rp ⟨rfl,.ret .none⟩)
 ·exact eV he fun w s₁ hw he=>gi he fun sh Rp=>wpAny_Return_some ((h G Gl hw).iD Rp fun u aO φ₁ m₁ x₁ aD r1=>⟨m₁,φ₁,_,x₁,aD,rfl,.ret r1⟩)
theorem Pa (X:g7 W C) (h:bB W C n R.ev) (hu:qJ W C n R) (G₀:Good W (n+1) D A env ae φ) (Gl:aH W C D φ) (he:DE C R ts e ae s=some (v,s')):WP W.prog W.w D A (exec (.Assign ts e p) env) φ s (cY s' v):=bA he (fun r hr he=>eS he fun s₁ hs he=>gi he (O8 (G₀.less (Nat.le_succ n)) Gl (hs▸hr))) fun _ he=>eT he fun hc he=>eV he fun w s₁ hw he=>eS he fun s₂ ha he=>gi he (O2 X h hu G₀ Gl ((Bool.and_eq_true ..).mp hc).1 ((Bool.and_eq_true ..).mp hc).2 hw ha)
theorem Gj {α:Type} {op:Operator} {a:Int} {u:PySem.Expr} {F:Int→St→Option α} {r:α} {P:Prop} (he:aV (se R op a u ae s) F=some r) (k:∀ b c s₁,R.ev u ae s=some (.int b,s₁)→(∀{t u:Tok} {sh:Shared} {Q:Value→Shared→Prop} {E:Value→Shared→Prop},Q (.int c sh.toks) { sh with toks:=sh.toks+1}→wpAny (model W.prog W.w) A (inplaceOp op (.int a t) (.int b u)) Q E sh)→F c s₁=some r→P):P:=by
 refine aQ he fun c s₁ h1 he=>vH h1 fun b s₂ hb h1=>ah h1 fun c' hc h1=>?_;refine aN (pin h1) fun q1 q2=>?_;subst q1;subst q2;induction op using PySem.Operator.casesOn with
 |Add=>obtain rfl:=Option.some.inj hc;exact k b _ _ hb (fun q=>PySem.P.iadd_int q) he
 |Sub=>obtain rfl:=Option.some.inj hc;exact k b _ _ hb (fun q=>PySem.P.isub_int q) he
 |_=>exact e0 hc
theorem Pb (X:g7 W C) (h:bB W C n R.ev) {t u:PySem.Expr} {op:Operator} {p:Pos} {v:Fl} {s':St} (G:Good W n D A env ae φ) (Gl:aH W C D φ) (he:DF C R t op u ae s=some (v,s')):WP W.prog W.w D A (exec (.AugAssign t op u p) env) φ s (cY s' v):=by
 refine bA he (fun q hq he=>?_) fun _ he=>ah he fun q hq he=>?_
 ·rw [gU hq];exact Eb he fun a hl he=>Gj he fun b c s₁ hb hop he=>eS he fun s₂ hs he=>gi he (OF h G Gl hl hb hop hs)
 ·rw [vG hq];exact eV he fun ov s₀ ho he=>Eb he fun a hg he=>Gj he fun b c s₁ hb hop he=>eM he fun h' hs he=>gi he (OG X h G Gl ho hg hb hop hs)
theorem Pc (h:bB W C n R.ev) (G:Good W n D A env ae φ) (Gl:aH W C D φ) (he:DG C R ts ae s=some (v,s')):WP W.prog W.w D A (exec (.Delete ts p) env) φ s (cY s' v):=by refine ah he fun t ht he=>aQ he fun o i hs he=>Ef he fun l s₁ ho he=>vH he fun k s₂ hi he=>ah he fun es hv he=>ah he fun w hw he=>eM he fun h' hs' he=>gi he fun sh Rp=>?_;refine aJ (vD hs) fun q q1=>?_;subst q1;rw [one_eq ht];exact wpAny_Delete (wpAny_deleteEach_cons (wpAny_delete_Subscript ((h G Gl ho).vP Rp fun u aO φ₁ m₁ x₁ aD a1=>(h (G.mono x₁) (Gl.mono x₁) hi).sG aD fun tk aK φ₂ m₂ x₂ aI=>(OE ((Gl.mono x₁).mono x₂) (zw hv) hw hs' (x₂ _ _ a1)).kg aI fun _ d9 m₃ bz=>wpAny_deleteEach_nil ⟨m₁.trans (m₂.trans m₃),_,_,x₁.trans x₂,bz,rfl,.next⟩)))
theorem Pd (ht:iX W C n R.tr) (hx:gF W C n R.ex) (G:Good W n D A env ae φ) (Gl:aH W C D φ) (he:DH R t b o ae s=some (v,s')):WP W.prog W.w D A (exec (.If t b o p) env) φ s (cY s' v):=Ec he (fun s₁ hb he sh Rp=>wpAny_If ((ht G Gl hb).kR Rp fun aO φ₁ m₁ x₁ aD=>(hx (G.mono x₁) (Gl.mono x₁) he).rest aD x₁ m₁)) fun s₁ hb he sh Rp=>wpAny_If ((ht G Gl hb).kR Rp fun aO φ₁ m₁ x₁ aD=>(hx (G.mono x₁) (Gl.mono x₁) he).rest aD x₁ m₁)
theorem Gk (X:g7 W C) (h:bB W C n R.ev) (ht:iX W C n R.tr) (hx:gF W C n R.ex) (hw:sQ W C n R.wh) (hf:qI W C n R.fo) (hu:qJ W C n R) {st:Stmt} (Ai:Ge st=true→S1 W C (n+1) (cG C R) st) (hen:∀{D:Md} {A:Around} {env:Env} {ae:au} {φ:List Addr} {s:St} {v:Fl} {s':St},Gf C ae st=true→Good W (n+1) D A env ae φ→aH W C D φ→cG C R st ae s=some (v,s')→WP W.prog W.w D A (exec st env) φ s (cY s' v)):S1 W C (n+1) (cG C R) st:=by
 intro D A env ae φ s v s' G₀ Gl he;have G:=G₀.less (Nat.le_succ n);induction st using PySem.Stmt.casesOn with
 |Expr e p=>exact eE he fun hc he=>eV he fun w s₁ Pe he=>gi he (OH h G Gl Pe (Gg hc))
 |Pass p=>exact gi he (WP.after (WP.pure' ⟨rfl,.next⟩))
 |Break p=>exact gi he (WP.after (WP.pure' ⟨rfl,.brk⟩))
 |Continue p=>exact gi he (WP.after (WP.pure' ⟨rfl,.cont⟩))
 |Return e p=>exact O9 h G Gl he
 |Assign ts e p=>exact Pa X h hu G₀ Gl he
 |AugAssign t op u p=>exact Pb X h G Gl he
 |Delete ts p=>exact Pc h G Gl he
 |If t b o p=>exact Pd ht hx G Gl he
 |While t b o p=>exact OI (hw G Gl he)
 |For t e b o p=>
  by_cases hne:(kK C ae e).isSome=true
  ·exact hen hne G₀ Gl he
  ·exact eT he fun hq he=>eI he fun it s₁ hi he=>eM he fun hz sX he=>eF he fun f s₂ hr he=>eM he fun wz qK he=>gi he (O3 h hf G Gl hq (O4 hne hi) hi sX hr qK (Ag hi))
 |Try b hs o f p=>exact Ai rfl G₀ Gl he
 |_=>exact e0 he
set_option backward.match.sparseCases true in
theorem Pf (hs:∀ st,S1 W C (n+1) (cG C R) st) (hx:gF W C n R.ex):gF W C (n+1) (y9 C R):=by
 intro D A env ae φ s l v s' G Gl he;rcases l with _|⟨st,r⟩
 ·exact gi he fun sh Rp=>wpAny_execs_nil (iU ⟨rfl,rfl,rfl⟩ Rp ⟨rfl,.next⟩)
 ·have he:aV (cG C R st ae s) (fun f s=>pN f s (R.ex r ae s))=some (v,s'):=he;refine aQ he fun f s₁ h1 he=>?_;rw [execs_cons];refine (hs st G Gl h1).zy fun φ₁ u x₁ q=>q.at (P:=fun f u=>pN f s₁ (R.ex r ae s₁)=some (v,s')→WP W.prog W.w D A (match u with| .next=>execs r env|f=>pure f) φ₁ s₁ (cY s' v)) (fun he=>?_) (fun he=>gi he ?_) (fun he=>gi he ?_) (fun a w q he=>gi he ?_) he
  ·exact hx ((G.less (Nat.le_succ n)).mono x₁) (Gl.mono x₁) he
  ·exact WP.pure' ⟨rfl,.brk⟩
  ·exact WP.pure' ⟨rfl,.cont⟩
  ·exact WP.pure' ⟨rfl,.ret q⟩
end
inductive dc (φ:List Addr):List (Str×AV)→List (Str×Value)→Prop
 |nil:dc φ [] []
 |cons {x:Str} {v:AV} {u:Value} {vs:List (Str×AV)} {us:List (Str×Value)}:VR φ v u→dc φ vs us→dc φ ((x,v)::vs) ((x,u)::us)
theorem dc.mono (e:Ext φ ψ) (h:dc φ v u):dc ψ v u:=by
 induction h with
 |nil=>exact .nil
 |cons a _ ih=>exact .cons (a.mono e) ih
theorem dc.names (h:dc φ v u):u.map (·.1)=v.map (·.1):=by
 induction h with
 |nil=>rfl
 |cons _ _ ih=>simp [ih]
theorem Gm:∀{l:List Str},jI x l=true↔x∈l
 |[]=>by simp [jI]
 |y::r=>by
  show (match sE x y with|true=>true|false=>jI x r)=true↔_;rw [qe];by_cases h:x=y
  ·simp [h]
  ·simp [h,Gm (l:=r)]
theorem wC:∀{l:List Str},jl l=true→l.Nodup
 |[],_=>.nil
 |x::r,h=>by
  have h:(!jI x r&&jl r)=true:=h;rw [Bool.and_eq_true] at h;refine List.nodup_cons.mpr ⟨fun q=>?_,wC h.2⟩;have:=h.1;rw [Gm.mpr q] at this;cases this
inductive bI (W:Wo) (a:Addr) (f:Fn):Prop
 |mk:keepIn W.K (.ref a)=true→fnIn W.K a=true→∀ oc od osl name qual params scope dV kV doc pm an cdv ct,W.K.lookup a=some ⟨oc,od,.func (fnOf name qual params f.body scope dV kV doc pm an cdv ct),osl⟩→codeIn W.K cdv qual=true→
  scope.isCoroutine=false→scope.isGenerator=false→scope.kind=.function→scope.names=f.names→((cellsFrom 0 scope.names []).map (·.1)).Nodup→(∀ x∈cF f.names,lk f.names x=some .cell)→
  (∀ x k,lk f.names x=some k→x≠ "__debug__" ∧x≠ "__classdict__")→
  (f.vararg=none→∀(s:Shared) φ vs us bs,W.K.In s.heap→aF φ vs us→f9 f.params vs f.dflt=some (bs,[])→∃ binds,BindsTo s (fnOf name qual params f.body scope dV kV doc pm an cdv ct) ⟨us,[]⟩ binds∧dc φ bs binds)→
  (∀ x,f.vararg=some x→cF f.names=[]∧(∀ y∈scope.names,y.2≠ .cell)∧∀ φ vs us bs rest,aF φ vs us→f9 f.params vs f.dflt=some (bs,rest)→rest.length≤100000→∃ rs bnd g₁,aF φ rest rs∧dc φ bs bnd∧us.drop (params.posonlyargs.length+params.args.length)=rs∧peek1 W.K ⟨W.prog,W.w.params⟩ (bindArgs (fnOf name qual params f.body scope dV kV doc pm an cdv ct) ⟨us,[]⟩)=some (({ cls:=.type "tuple",data:=.seq rs.toArray}:Obj),g₁)∧∀ T,g₁ T=some (bnd++[(x,.ref T)]))→bI W a f
noncomputable def gj (n:Nat):List Str→List (Str×Nat)
 |[]=>[]
 |x::r=>(x,n)::gj (n+1) r
theorem wD:∀(xs:List Str) (n:Nat),(gj n xs).length=xs.length
 |[],_=>rfl
 |_::r,n=>by show (gj (n+1) r).length+1=_;rw [wD r];rfl
theorem Aj:∀(names:List (Str×NameKind)) (n:Nat) (acc:List (Str×Nat)),(fD n names acc).1=(gj n (cF names)).reverse++acc
 |[],_,_=>rfl
 |(x,k)::r,n,acc=>by
  cases k <;>first
   |exact Aj r n acc
   |(show (fD (n+1) r ((x,n)::acc)).1=((x,n)::gj (n+1) (cF r)).reverse++acc;rw [Aj r];simp)
theorem Ak:∀(names:List (Str×NameKind)) (n:Nat) (acc:List (Str×Addr)),cellsFrom n names acc=(gj n (cF names)).reverse++acc
 |[],_,_=>rfl
 |(x,k)::r,n,acc=>by
  unfold cellsFrom;cases k <;>first
   |exact Ak r n acc
   |(rw [if_pos (by decide)];show cellsFrom (n+1) r ((x,n)::acc)=((x,n)::gj (n+1) (cF r)).reverse++acc;rw [Ak r];simp)
theorem Gn:∀(xs:List Str) (n i:Nat),(gj n xs)[i]?=(xs[i]?).map fun x=>(x,n+i)
 |[],_,_=>rfl
 |x::r,n,0=>rfl
 |x::r,n,i+1=>by
  show (gj (n+1) r)[i]?=_;rw [Gn r];simp [Nat.add_assoc,Nat.add_comm 1 i]
theorem wF (y:Str):∀(l r:List (Str×α)),lk (l++r) y=match lk l y with|some v=>some v|none=>lk r y
 |[],r=>rfl
 |p::l,r=>by
  show (match sE y p.1 with|true=>some p.2|false=>lk (l++r) y)=_;show _=match (match sE y p.1 with|true=>some p.2|false=>lk l y) with|some v=>some v|none=>lk r y
  cases sE y p.1 with
  |true=>rfl
  |false=>exact wF y l r
theorem Gp (y:Str):∀(xs:List Str) (b c:Nat),match lk (gj b xs).reverse y with
  |some n=>∃ i,n=b+i∧i<xs.length∧xs[i]?=some y∧lk (gj c xs).reverse y=some (c+i)
  |none=>lk (gj c xs).reverse y=none
 |[],_,_=>rfl
 |x::r,b,c=>by
  have e:∀ n,(gj n (x::r)).reverse=(gj (n+1) r).reverse++[(x,n)]:=fun n=>by show ((x,n)::gj (n+1) r).reverse=_;simp
  rw [e b,e c,wF,wF];have ih:=Gp y r (b+1) (c+1);cases q:lk (gj (b+1) r).reverse y with
  |some n=>
   rw [q] at ih;obtain ⟨i,h1,h2,h3,h4⟩:=ih;rw [h4];exact ⟨i+1,by lia,by simp;omega,by simpa using h3,by show some (c+1+i)=_;congr 1;(exact Nat.add_right_comm ..)⟩
  |none=>
   rw [q] at ih;rw [ih];show match (match sE y x with|true=>some b|false=>none) with
    |some n=>∃ i,n=b+i∧i< (x::r).length∧(x::r)[i]?=some y∧(match sE y x with|true=>some c|false=>none)=some (c+i)
    |none=>(match sE y x with|true=>some c|false=>none)=none
   cases h:sE y x with
   |true=>exact ⟨0,rfl,by simp,by rw [dm.mp h];rfl,rfl⟩
   |false=>rfl
theorem Pg (h:CellsAre cm cs cells):cells.length=cs.length∧∀(i:Nat) (p:Addr×Obj),cells[i]?=some p→∃ x,cs[i]?=some (x,p.1)∧p.2.data=.cell (cm x):=by
 induction h with
 |nil=>exact ⟨rfl,fun i p e=>by simp at e⟩
 |cons a _ ih=>
  refine ⟨by simp [ih.1],fun i p e=>?_⟩;cases i with
  |zero=>simp at e;subst e;exact ⟨_,rfl,a⟩
  |succ i=>exact ih.2 i p (by simpa using e)
theorem Am:∀{l:List (Str×α)},lk l x=some v→(x,v)∈l
 |[],e=>by cases e
 |p::r,e=>by
  have e:(match sE x p.1 with|true=>some p.2|false=>lk r x)=some v:=e;cases q:sE x p.1 with
  |true=>
   rw [q] at e;obtain rfl:=Option.some.inj e;cases p;cases dm.mp q;exact .head _
  |false=>rw [q] at e;exact .tail _ (Am e)
theorem Gq (kindOf:Str→Option NameKind) (y:Str):∀(bs:List (Str×Value)) (m:Str→Option Value),(bs.map (·.1)).Nodup→bindL kindOf bs m y=match lk bs y with|some u=>if kindOf y=some .local then some u else m y|none=>m y
 |[],m,_=>rfl
 |(x,v)::r,m,nd=>by
  have fM:=List.nodup_cons.mp nd;show bindL kindOf r _ y=match (match sE y x with|true=>some v|false=>lk r y) with|some u=>_|none=>_
  rw [Gq kindOf y r _ fM.2];by_cases h:y=x
  ·subst h;rw [iB];have hn:lk r y=none:=by
    rw [kN];cases q:r.lookup y with
    |none=>rfl
    |some u=>
     exact absurd (List.mem_map_of_mem (f:=Prod.fst) (Am ((kN y r).trans q))) fM.1
   rw [hn];dsimp only;split <;>simp_all
  ·rw [vI h];dsimp only;cases lk r y with
   |none=>dsimp only;split <;>simp_all
   |some u=>dsimp only;split <;>(try rfl);split <;>simp_all
theorem Gr (kindOf:Str→Option NameKind) (y:Str):∀(bs:List (Str×Value)) (m:Str→Option Value),(bs.map (·.1)).Nodup→bindC kindOf bs m y=match lk bs y with|some u=>if kindOf y=some .local then m y else some u|none=>m y
 |[],m,_=>rfl
 |(x,v)::r,m,nd=>by
  have fM:=List.nodup_cons.mp nd;show bindC kindOf r _ y=match (match sE y x with|true=>some v|false=>lk r y) with|some u=>_|none=>_
  rw [Gr kindOf y r _ fM.2];by_cases h:y=x
  ·subst h;rw [iB];have hn:lk r y=none:=by
    rw [kN];cases q:r.lookup y with
    |none=>rfl
    |some u=>
     exact absurd (List.mem_map_of_mem (f:=Prod.fst) (Am ((kN y r).trans q))) fM.1
   rw [hn];dsimp only;split <;>simp_all
  ·rw [vI h];dsimp only;cases lk r y with
   |none=>dsimp only;split <;>simp_all
   |some u=>dsimp only;split <;>(try rfl);split <;>simp_all
theorem dc.lk (h:dc φ v u) (x:Str):match EV.lk v x with|some a=>∃ b,EV.lk u x=some b∧VR φ a b|none=>EV.lk u x=none:=by
 induction h with
 |nil=>rfl
 |cons a r ih=>
  rename_i y v u vs us;show match (match sE x y with|true=>some v|false=>EV.lk vs x) with|some a=>∃ b,(match sE x y with|true=>some u|false=>EV.lk us x)=some b∧VR φ a b|none=>(match sE x y with|true=>some u|false=>EV.lk us x)=none
  cases sE x y with
  |true=>exact ⟨u,rfl,a⟩
  |false=>exact ih
theorem An (h:sE x p.1=true):lk (p::r) x=some p.2:=by show (match sE x p.1 with|true=>some p.2|false=>lk r x)=_;rw [h]
theorem wG (h:sE x p.1=false):lk (p::r) x=lk r x:=by show (match sE x p.1 with|true=>some p.2|false=>lk r x)=_;rw [h]
theorem Gs {P:Prop} {names:List (Str×NameKind)} {p:Str×AV} {r lo:List (Str×AV)} (h:gA names (p::r)=some lo) (k1:∀ l,lk names p.1=some .local→gA names r=some l→lo=p::l→P) (k2:lk names p.1=some .cell→gA names r=some lo→P):P:=ah (x:=lk names p.1) (F:=fun k=>ob (gA names r) fun l=>DP k p l) h fun k hk h=>ah h fun l hl h=>by
  induction k with
  |«local»=>exact k1 l hk hl (Option.some.inj h).symm
  |cell=>exact k2 hk (hl.trans h)
  |_=>exact e0 h
theorem Ph {names:List (Str×NameKind)} {x:Str} {w:AV} {bs:List (Str×AV)}:∀{lo:List (Str×AV)},gA names bs=some lo→lk lo x=some w→lk names x=some .local∧lk bs x=some w:=by
 induction bs with
 |nil=>exact fun h e=>e0 ((congrArg (fun l=>lk l x) (Option.some.inj h)).trans e)
 |cons p r ih=>
  intro lo h e;refine Gs h (fun l h1 h2 q=>?_) fun h1 h2=>?_
  ·subst q;cases q:sE x p.1
   ·rw [wG q] at e;exact ⟨(ih h2 e).1,(wG q).trans (ih h2 e).2⟩
   ·rw [An q] at e;exact ⟨dm.mp q▸h1,(An q).trans e⟩
  ·cases q:sE x p.1
   ·exact ⟨(ih h2 e).1,(wG q).trans (ih h2 e).2⟩
   ·have z:=(ih h2 e).1;rw [dm.mp q,h1] at z;exact NameKind.noConfusion (Option.some.inj z)
theorem Pj {names:List (Str×NameKind)} {bs:List (Str×AV)}:∀{lo:List (Str×AV)},gA names bs=some lo→∀ p∈bs,lk names p.1=some .local∨lk names p.1=some .cell:=by
 induction bs with
 |nil=>exact fun _ p hp=>nomatch hp
 |cons q r ih=>
  intro lo h p hp;refine Gs h (fun l h1 h2 _=>?_) fun h1 h2=>?_
  ·exact (List.mem_cons.mp hp).elim (fun e=>.inl (e▸h1)) (ih h2 p)
  ·exact (List.mem_cons.mp hp).elim (fun e=>.inr (e▸h1)) (ih h2 p)
theorem bI.use {W:Wo} {a:Addr} {f:Fn} {P:Prop} (F:bI W a f) (k:∀ oc od osl name qual params scope dV kV doc pm an cdv ct,W.K.lookup a=some ⟨oc,od,.func (fnOf name qual params f.body scope dV kV doc pm an cdv ct),osl⟩→codeIn W.K cdv qual=true→scope.isCoroutine=false→scope.isGenerator=false→scope.kind=.function→scope.names=f.names→((cellsFrom 0 scope.names []).map (·.1)).Nodup→(∀ x∈cF f.names,lk f.names x=some .cell)→(∀ x k,lk f.names x=some k→x≠ "__debug__" ∧x≠ "__classdict__")→(f.vararg=none→∀(s:Shared) φ vs us bs,W.K.In s.heap→aF φ vs us→f9 f.params vs f.dflt=some (bs,[])→∃ binds,BindsTo s (fnOf name qual params f.body scope dV kV doc pm an cdv ct) ⟨us,[]⟩ binds∧dc φ bs binds)→(∀ x,f.vararg=some x→cF f.names=[]∧(∀ y∈scope.names,y.2≠ .cell)∧∀ φ vs us bs rest,aF φ vs us→f9 f.params vs f.dflt=some (bs,rest)→rest.length≤100000→∃ rs bnd g₁,aF φ rest rs∧dc φ bs bnd∧us.drop (params.posonlyargs.length+params.args.length)=rs∧peek1 W.K ⟨W.prog,W.w.params⟩ (bindArgs (fnOf name qual params f.body scope dV kV doc pm an cdv ct) ⟨us,[]⟩)=some (({ cls:=.type "tuple",data:=.seq rs.toArray}:Obj),g₁)∧∀ T,g₁ T=some (bnd++[(x,.ref T)]))→P):P:=bI.rec (motive:=fun _=>P) (fun _ _ oc od osl name qual params scope dV kV doc pm an cdv ct h1 h2 h3 h4 h5 h6 h7 h8 h9 h10 h11=>k oc od osl name qual params scope dV kV doc pm an cdv ct h1 h2 h3 h4 h5 h6 h7 h8 h9 h10 h11) F
theorem bI.keep (F:bI W a f):keepIn W.K (.ref a)=true:=bI.rec (motive:=fun _=>keepIn W.K (.ref a)=true) (fun z _ oc od osl name qual params scope dV kV doc pm an cdv ct h1 h2 h3 h4 h5 h6 h7 h8 h9 h10 h11=>z) F
theorem bI.fnIn (F:bI W a f):PySem.W.fnIn W.K a=true:=bI.rec (motive:=fun _=>PySem.W.fnIn W.K a=true) (fun _ z oc od osl name qual params scope dV kV doc pm an cdv ct h1 h2 h3 h4 h5 h6 h7 h8 h9 h10 h11=>z) F
set_option backward.match.sparseCases true in
noncomputable abbrev kX (u:Flow):Value:=match u with| .ret v=>v|_=>.none
section
variable {W:Wo} {n:Nat} {A:Around} {sh:Shared} {g h h₁:Heap} {X frs:List (Addr×Obj)} {pin:Nat→Option Obj} {ro L':Nat} {φ:List Addr} {os:List Obj} {hB:AH} {bs lo:List (Str×AV)} {binds:List (Str×Value)} {names:List (Str×NameKind)}
theorem Pk (Y:CellsAre cm (gj (L'+1) xs).reverse cells):cells.reverse.length=xs.length∧∀(i:Nat) (p:Addr×Obj),cells.reverse[i]?=some p→∃ x,xs[i]?=some x∧p.1=L'+1+i∧p.2.data=.cell (cm x):=by
 refine aN (Pg Y) fun c1 c2=>?_;have cl:cells.length=xs.length:=by rw [c1,List.length_reverse,wD]
 refine ⟨by rw [List.length_reverse];exact cl,fun i p e=>?_⟩;have hi:i<cells.length:=by have:=(List.getElem?_eq_some_iff.mp e).1;simpa using this
 rw [List.getElem?_reverse hi] at e;refine aC (c2 _ p e) fun x e1 e2=>?_;rw [List.getElem?_reverse (by rw [wD];omega),wD] at e1;have:xs.length- 1- (cells.length- 1- i)=i:=by omega
 rw [this,Gn] at e1;refine aC (Option.map_eq_some_iff.mp e1) fun y y1 y2=>?_;have y3:=Prod.mk.inj y2;exact ⟨x,y3.1▸y1,y3.2.symm,e2⟩
structure l8 (W:Wo) (g:Heap) (nl:List (Addr×Obj)) (pin:Nat→Option Obj) (ro:Nat) (φ:List Addr) (os:List Obj) (hB:AH) (h:Heap):Prop where
 news:∀ p∈(φ.zip os).drop ro++nl,h.get? p.1=some p.2∧g.get? p.1=none
 rd:∀(k:Nat) (a:Addr) (o:Obj),k<ro→φ[k]?=some a→os[k]?=some o→g.get? a=some o
 len:os.length=hB.length
 br:φ.length=hB.length
 c9:ro≤hB.length
 rel:∀(k:Nat) (ao:AO) (o:Obj),hB[k]?=some ao→os[k]?=some o→OR W.prog W.w φ ao o
 pin:∀ k o,pin k=some o→os[k]?=some o∧∃ es j,hB[k]?=some (.dict es (j+1))
 nd:(φ.drop ro++nl.map (·.1)).Nodup
 big:∀(k:Nat) (a:Addr),φ[k]?=some a→2<a
 cV:2<g.objs.size
 below:∀ b o,g.get? b=some o→h.get? b=some o
 size:g.objs.size=h.objs.size
theorem kinds_ok {scope:Scope} (h6:scope.names=names) (dK:dc φ bs binds) (hlo:gA names bs=some lo):(binds.all fun y=>scope.names.lookup y.1==some .local||scope.names.lookup y.1==some .cell)=true:=by
 rw [List.all_eq_true];intro y hy;have hy':y.1∈bs.map (·.1):=by rw [← dK.names];exact List.mem_map_of_mem hy
 refine aC (List.mem_map.mp hy') fun q hq e=>?_;rcases Pj hlo q hq with z|z
 ·rw [h6,← e,← kN,z];rfl
 ·rw [h6,← e,← kN,z];rfl
theorem Pn {kindOf:Str→Option NameKind} {ψ:List Addr} (hko:∀ x,kindOf x=lk names x) (nd:(binds.map (·.1)).Nodup) (dK:dc φ bs binds) (hlo:gA names bs=some lo) (m:Ext φ ψ):MR ψ lo (bindL kindOf binds fun _=>none):=by intro x w hx;refine aN (Ph hlo hx) fun hkx hl=>?_;have hb:=dK.lk x;rw [hl] at hb;refine aC hb fun w' b1 b2=>?_;refine ⟨w',?_,b2.mono m⟩;rw [Gq _ _ _ _ nd,b1];dsimp only;rw [hko,hkx,if_pos rfl]
theorem Po {kindOf:Str→Option NameKind} {ψ:List Addr} {x:Str} {o:Obj} (hkx:kindOf x=some .cell) (nd:(binds.map (·.1)).Nodup) (dK:dc φ bs binds) (m:Ext φ ψ) (x3:o.data=.cell (bindC kindOf binds (fun _=>none) x)):OR W.prog W.w ψ (.cell (lk bs x)) o:=by
 have hb:=dK.lk x;rw [Gr _ _ _ _ nd] at x3;cases hq:lk bs x with
 |none=>
  rw [hq] at hb;rw [hb] at x3;exact x3
 |some w=>
  rw [hq] at hb;refine aC hb fun w' b1 b2=>?_;rw [b1] at x3;dsimp only at x3;rw [hkx,if_neg (by decide)] at x3;exact ⟨w',x3,b2.mono m⟩
theorem l8.old (B:l8 W g X pin ro φ os hB h):∀ b∈φ.drop ro++X.map (·.1),b<h.objs.size:=fun b hb=>by
 have z1:((φ.zip os).drop ro).map (·.1)=φ.drop ro:=by rw [List.map_drop,List.map_fst_zip];rw [B.br,B.len];exact Nat.le_refl _
 rw [← z1,← List.map_append] at hb;refine aC (List.mem_map.mp hb) fun p hp q1=>?_;subst q1;exact Heap.lt_size (B.news p hp).1
theorem Pp {cells:List (Addr×Obj)} {xs:List Str} {Q:Addr×Obj→Str→Prop} (cl:cells.reverse.length=xs.length) (cr:∀(i:Nat) (p:Addr×Obj),cells.reverse[i]?=some p→∃ x,xs[i]?=some x∧p.1=L'+1+i∧Q p x):(cells.reverse.map (·.1)).Nodup∧∀ b∈cells.reverse.map (·.1),L'<b:=by
 have Pq:cells.reverse.map (·.1)=(List.range xs.length).map fun i=>L'+1+i:=by
  apply List.ext_getElem?;intro i;rw [List.getElem?_map,List.getElem?_map];by_cases q:i<xs.length
  ·have hi:i<cells.reverse.length:=by rw [cl];exact q
   refine aZ (cr i _ (List.getElem?_eq_getElem hi)) fun x x1 x2 x3=>?_;rw [List.getElem?_eq_getElem hi,List.getElem?_range q];exact congrArg some x2
  ·rw [List.getElem?_eq_none (by rw [cl];(exact Nat.le_of_not_lt q)),List.getElem?_eq_none (by rw [List.length_range];(exact Nat.le_of_not_lt q))];rfl
 rw [Pq];refine ⟨List.Pairwise.map _ (fun i j hij=>Nat.ne_of_lt (Nat.add_lt_add_left hij _)) List.pairwise_lt_range,fun b hb=>?_⟩;refine aC (List.mem_map.mp hb) fun i _ q1=>?_;subst q1;exact Nat.lt_of_lt_of_le (Nat.lt_succ_self _) (Nat.le_add_right _ _)
theorem l8.rep {cells:List (Addr×Obj)} {xs:List Str} {m:Str→Option Value} (B:l8 W g (X++frs) pin ro φ os hB h) (hL':L'=h.objs.size) (F':Fr g L' h₁ m) (N':News g L' h₁ (cells++((φ.zip os).drop ro++(X++frs)))) (cl:cells.reverse.length=xs.length) (cr:∀(i:Nat) (p:Addr×Obj),cells.reverse[i]?=some p→∃ x,xs[i]?=some x∧p.1=L'+1+i∧OR W.prog W.w (φ++cells.reverse.map (·.1)) (.cell (lk bs x)) p.2) (mr:MR (φ++cells.reverse.map (·.1)) lo m):Rep W.prog W.w ⟨g,L',L',X,none,pin,ro,frs⟩ (φ++cells.reverse.map (·.1)) { lo:=lo,hp:=hB++xs.map fun x=>.cell (lk bs x)} h₁:=by
 have Pr:((φ++cells.reverse.map (·.1)).zip (os++cells.reverse.map (·.2))).drop ro=(φ.zip os).drop ro++cells.reverse:=by
  have hz:(φ++cells.reverse.map (·.1)).zip (os++cells.reverse.map (·.2))=φ.zip os++cells.reverse:=by rw [List.zip_append (by rw [B.br,B.len]),List.zip_map'];simp
  rw [hz,List.drop_append_of_le_length (by rw [List.length_zip,B.br,B.len,Nat.min_self];exact B.c9)]
 refine ⟨m,os++cells.reverse.map (·.2),X++frs,F',?_,?_,?_,?_,?_,?_,?_,?_,?_,?_,?_⟩
 ·intro p hp;rw [Pr] at hp;refine N' p ?_;simp only [List.mem_append,List.mem_reverse] at hp ⊢;rcases hp with (hp|hp)|hp
  ·exact .inr (.inl hp)
  ·exact .inl hp
  ·exact .inr (.inr hp)
 ·intro k b o hk hb ho;have hl:k<hB.length:=Nat.lt_of_lt_of_le hk B.c9;rw [List.getElem?_append_left (by rw [B.br];exact hl)] at hb;rw [List.getElem?_append_left (by rw [B.len];exact hl)] at ho;exact B.rd k b o hk hb ho
 ·show (os++cells.reverse.map (·.2)).length=(hB++_).length;simp only [List.length_append,List.length_map,cl,B.len]
 ·show (φ++cells.reverse.map (·.1)).length=(hB++_).length;simp only [List.length_append,List.length_map,cl,B.br]
 ·show ro≤(hB++_).length;rw [List.length_append];exact Nat.le_trans B.c9 (Nat.le_add_right _ _)
 ·intro k ao o hk ho;by_cases q:k<hB.length
  ·have hk:(hB++_)[k]?=some ao:=hk;rw [List.getElem?_append_left q] at hk;rw [List.getElem?_append_left (by rw [B.len];exact q)] at ho;exact (B.rel k ao o hk ho).mono (Ext.app _ _)
  ·have q:=Nat.le_of_not_lt q;have hk:(hB++xs.map fun x=>AO.cell (lk bs x))[k]?=some ao:=hk;rw [List.getElem?_append_right q,List.getElem?_map] at hk;rw [List.getElem?_append_right (by rw [B.len];exact q),B.len,List.getElem?_map] at ho;refine aC (Option.map_eq_some_iff.mp ho) fun p p1 p2=>?_;refine aZ (cr _ p p1) fun x x1 x2 x3=>?_;rw [x1] at hk;exact p2▸Option.some.inj hk▸x3
 ·intro k o hk;refine mQ (B.pin k o hk) fun p1 es j p2=>?_;exact ⟨by rw [List.getElem?_append_left (List.getElem?_eq_some_iff.mp p1).1];exact p1,es,j,by rw [List.getElem?_append_left (List.getElem?_eq_some_iff.mp p2).1];exact p2⟩
 ·refine aN (Pp cl cr) fun Ao big=>?_;have old:=B.old;rw [← hL'] at old;show ((φ++cells.reverse.map (·.1)).drop ro++(X++frs).map (·.1)).Nodup;rw [List.drop_append_of_le_length (by rw [B.br];exact B.c9)];have oF:=B.nd;rw [List.nodup_append] at oF;rw [List.append_assoc,List.nodup_append,List.nodup_append];refine ⟨oF.1,⟨Ao,oF.2.1,fun b hb c hc q=>?_⟩,fun b hb c hc q=>?_⟩
  ·subst q;exact Nat.lt_asymm (big _ hb) (old _ (List.mem_append_right _ hc))
  ·subst q;rcases List.mem_append.mp hc with hc|hc
   ·exact Nat.lt_asymm (big _ hc) (old _ (List.mem_append_left _ hb))
   ·exact oF.2.2 _ hb _ hc rfl
 ·exact ⟨frs,c8.refl _,rfl,rfl,mr⟩
 ·intro k b hb;by_cases q:k<φ.length
  ·rw [List.getElem?_append_left q] at hb;exact B.big k b hb
  ·rw [List.getElem?_append_right (Nat.le_of_not_lt q),List.getElem?_map] at hb;refine aC (Option.map_eq_some_iff.mp hb) fun p p1 p2=>?_;refine aZ (cr _ p p1) fun x x1 x2 x3=>?_;rw [← p2,x2];exact Nat.lt_of_lt_of_le B.cV (Nat.le_trans F'.above (Nat.le_trans (Nat.le_succ _) (Nat.le_add_right _ _)))
 ·exact B.cV
theorem Aq {a:Addr} {nD:List Stmt} {qual:Str} {scope:Scope} {cdv:Value} {l:List Env} {P:Result→Shared→Prop} {E:Value→Shared→Prop} (h5:scope.kind=.function) (h6:scope.names=names) (h7:((cellsFrom 0 scope.names []).map (·.1)).Nodup) (h8:∀ x∈cF names,lk names x=some .cell) (h9:∀ x k,lk names x=some k→x≠ "__debug__" ∧x≠ "__classdict__") (B:l8 W g (X++frs) pin ro φ os hB sh.heap) (T:sh.heap.NoLimit) (hA:A.frames=some l) (Pu:W.K.In g) (top:Top W.p W.loose W.mean W.mg W.mb g) (fo:vM frs l) (room:dw (n+1) A) (hh:A.handled=none) (dK:dc φ bs binds) (hlo:gA names bs=some lo) (hnd:jl (bs.map (·.1))=true) (hbody:∀{env':Env} {φ':List Addr} {h₁:Heap} {tk:Nat},env'.frame=some sh.heap.objs.size→(A.deeper env').frames=some (env'::l)→Good W n ⟨g,sh.heap.objs.size,sh.heap.objs.size,X,none,pin,ro,frs⟩ (A.deeper env') env' { names:=names,cells:=(fD hB.length names []).1} φ'→Ext φ φ'→Rep W.prog W.w ⟨g,sh.heap.objs.size,sh.heap.objs.size,X,none,pin,ro,frs⟩ φ' { lo:=lo,hp:=hB++(cF names).map fun x=>.cell (lk bs x)} h₁→wpAny (model W.prog W.w) (A.deeper env') (execs nD env') (fun f s'=>P (.ok (.ret (kX f))) s') (fun e s'=>wpAny (model W.prog W.w) (A.deeper env') (leaving env' e) (fun _ s''=>P (.error e) s'') (fun e' s''=>P (.error e') s'') s') { sh with heap:=h₁,toks:=tk}):
  wpAny (model W.prog W.w) A.in1 (newFunctionEnv scope mainGlobals [] binds (qual++ ".<locals>.") (some a) cdv none builtinsNs) (fun env s₁=>s₁.heap.NoLimit∧codeAny (model W.prog W.w) A (.func nD env) P s₁) E sh:=by
 have nd:(binds.map (·.1)).Nodup:=by rw [dK.names];exact wC hnd
 refine wpAny_newFunctionEnv_cells h5 (kindsX (kinds_ok h6 dK hlo) _) fun env' Pw s' x=>?_;subst Pw;refine ⟨T.keeps x.toInCall.keep,codeAny_func ?_⟩;refine dB x.done fun h₁ tk q1 _=>?_;subst q1;have hk₁:=x.toInCall.keep;refine aC (Cl.news (h₀:=sh.heap) (Nat.le_refl _) fun n c hm=>⟨x.cell n c (lookup_of_mem_nodup (cellsFrom_names scope.names 0 (sh.heap.objs.size+1) [] [] rfl▸h7) hm),x.above n c hm⟩) fun cells NC Y=>?_;obtain ⟨L',hL'⟩:∃ L',L'=sh.heap.objs.size:=⟨_,rfl⟩;have F':Fr g L' h₁ (bindL (envOfC qual scope L' a cdv).kindOf binds fun _=>none):=by rw [hL'];exact ⟨x.toInCall.ns,fun b o e=>hk₁ b o (B.below b o e),Nat.le_of_eq B.size⟩
 have N':News g L' h₁ (cells++((φ.zip os).drop ro++(X++frs))):=fun p hp=>by
  rw [hL'];rcases List.mem_append.mp hp with hp|hp
  ·refine ⟨(NC p hp).1,(NC p hp).2.1,?_⟩;cases q:g.get? p.1 with
   |none=>rfl
   |some o=>exact e0 ((NC p hp).2.2.symm.trans (B.below _ _ q))
  ·exact ⟨hk₁ _ _ (B.news p hp).1,Nat.ne_of_lt (Heap.lt_size (B.news p hp).1),(B.news p hp).2⟩
 rw [← hL'] at Y;have Y:CellsAre (bindC (envOfC qual scope L' a cdv).kindOf binds fun _=>none) (cellsFrom (L'+1) scope.names []) cells:=Y;have ec:cellsFrom (L'+1) scope.names []=(gj (L'+1) (cF names)).reverse:=by rw [h6,Ak,List.append_nil]
 rw [ec] at Y;refine aN (Pk Y) fun cl cr=>?_;have hko:∀ x,(envOfC qual scope L' a cdv).kindOf x=lk names x:=fun x=>by show scope.names.lookup x=_;rw [h6,kN]
 have Rc:=B.rep hL' F' N' cl (fun i p hp=>aZ (cr i p hp) fun x x1 x2 x3=>⟨x,x1,x2,Po ((hko x).trans (h8 x (List.mem_of_getElem? x1))) nd dK (Ext.app _ _) x3⟩) (Pn hko nd dK hlo (Ext.app _ _));subst hL';refine hbody rfl (Around.frames_deeper hA) ⟨⟨h5,h6,rfl,rfl,rfl,rfl,fun x c hc=>?_,h9⟩,⟨Pu,top,l,_,Around.frames_deeper hA,rfl,h5,fo⟩,⟨?_,?_⟩,fun _=>hh⟩ (Ext.app _ _) Rc
 ·rw [Aj,List.append_nil] at hc;have z:=Gp x (cF names) hB.length (sh.heap.objs.size+1);rw [hc] at z;refine uJ z fun i i1 i2 i3 i4=>?_;refine ⟨sh.heap.objs.size+1+i,?_,?_⟩
  ·show (cellsFrom (sh.heap.objs.size+1) scope.names []).lookup x=_;rw [ec,← kN,i4]
  ·subst i1;rw [List.getElem?_append_right (by rw [B.br];exact Nat.le_add_right _ _),B.br,Nat.add_sub_cancel_left,List.getElem?_map];have hi:i<cells.reverse.length:=by rw [cl];exact i2
   refine aZ (cr i _ (List.getElem?_eq_getElem hi)) fun y y1 y2 y3=>?_;rw [List.getElem?_eq_getElem hi];exact congrArg some y2
 ·have:=room.depth;show A.depth+1+n<900;rw [Nat.add_assoc,Nat.add_comm 1];exact this
 ·have:=room.units;show A.units+3+8*n<9000;omega
theorem wH (Fk:bI W a f) (dR:f.vararg=none) (room:dw (n+1) A) (K:W.K.In sh.heap) (r:aF φ vs us) (hb:f9 f.params vs f.dflt=some (bs,[])) (k:∀{qual:Str} {scope:Scope} {cdv:Value} {binds:List (Str×Value)} {E:Value→Shared→Prop},scope.kind=.function→scope.names=f.names→((cellsFrom 0 scope.names []).map (·.1)).Nodup→(∀ x∈cF f.names,lk f.names x=some .cell)→(∀ x k,lk f.names x=some k→x≠ "__debug__" ∧x≠ "__classdict__")→dc φ bs binds→wpAny (model W.prog W.w) A.in1 (newFunctionEnv scope mainGlobals [] binds (qual++ ".<locals>.") (some a) cdv none builtinsNs) (fun env s₁=>s₁.heap.NoLimit∧codeAny (model W.prog W.w) A (.func f.body env) P s₁) E sh):codeAny (model W.prog W.w) A (.call (.ref a) ⟨us,[]⟩) P sh:=
 Fk.use fun oc od osl name qual params scope dV kV doc pm an cdv ct h1 h2 h3 h4 h5 h6 h7 h8 h9 h10 _=>aC (h10 dR sh φ vs us bs K r hb) fun _ hbind dK=>
 codeAny_call_function (fd:=fnOf name qual params f.body scope dV kV doc pm an cdv ct) (by have:=room.depth;unfold recursionLimit;omega) (K _ _ h1) rfl h3 h4 rfl (codeRec_of K h2) (hbind _ _ _ _ (k h5 h6 h7 h8 h9 dK))
theorem Px (e:za fl s=some (v,h')):s.hp=h'∧∀ φ u,FR φ fl u→VR φ v (kX u):=by
 induction fl with
 |ret w=>exact ⟨(pin e).2,fun φ u z=>by cases z with|ret hv=>exact (pin e).1▸hv⟩
 |next=>exact ⟨(pin e).2,fun φ u z=>by cases z;exact (pin e).1▸ .none⟩
 |_=>exact e0 e
theorem Gu {P:Prop} {R:Rec} {f:Fn} {bs:List (Str×AV)} {h h':AH} {v:AV} (e:DQ R f bs h=some (v,h')) (k:∀{lo:List (Str×AV)} {fl:Fl} {s₂:St},gA f.names bs=some lo→jl (bs.map (·.1))=true→R.ex f.body { names:=f.names,cells:=(fD h.length f.names []).1} { lo:=lo,hp:=h++(cF f.names).map fun x=>.cell (lk bs x)}=some (fl,s₂)→s₂.hp=h'→(∀ φ u,FR φ fl u→VR φ v (kX u))→P):P:=ah e fun lo hlo e=>eT e fun hnd e=>aQ e fun fl s₂ he e=>aN (Px e) (k hlo hnd he)
theorem Ar {P:Prop} {C:Cx} {R:Rec} {f:Fn} {vs:List AV} {h h':AH} {v:AV} (dR:f.vararg=none) (e:fE C R f vs h=some (v,h')) (k:∀{bs lo:List (Str×AV)} {fl:Fl} {s₂:St},f9 f.params vs f.dflt=some (bs,[])→gA f.names bs=some lo→jl (bs.map (·.1))=true→R.ex f.body { names:=f.names,cells:=(fD h.length f.names []).1} { lo:=lo,hp:=h++(cF f.names).map fun x=>.cell (lk bs x)}=some (fl,s₂)→s₂.hp=h'→(∀ φ u,FR φ fl u→VR φ v (kX u))→P):P:=by refine aQ e fun bs rest hb e=>aQ e fun bs' h2 hq e=>?_;rw [dR] at hq;refine eT hq fun hr hq=>aN (pin hq) fun q1 q2=>?_;rw [nil_eq hr] at hb;rw [← q1,← q2] at e;exact Gu e (k hb)
theorem Py {P:Prop} {C:Cx} {R:Rec} {f:Fn} {vs:List AV} {h h':AH} {v:AV} {x:Str} (dR:f.vararg=some x) (e:fE C R f vs h=some (v,h')) (k:∀{bs lo:List (Str×AV)} {rest:List AV} {fl:Fl} {s₂:St},f9 f.params vs f.dflt=some (bs,rest)→lim rest.length=true→C.ro<h.length→gA f.names (bs++[(x,.loc h.length)])=some lo→jl ((bs++[(x,AV.loc h.length)]).map (·.1))=true→R.ex f.body { names:=f.names,cells:=(fD (h++[AO.tup rest]).length f.names []).1} { lo:=lo,hp:=(h++[.tup rest])++(cF f.names).map fun y=>.cell (lk (bs++[(x,.loc h.length)]) y)}=some (fl,s₂)→s₂.hp=h'→(∀ φ u,FR φ fl u→VR φ v (kX u))→P):P:=by refine aQ e fun bs rest hb e=>aQ e fun bs' h2 hq e=>?_;rw [dR] at hq;refine eT hq fun hr hq=>aN (pin hq) fun q1 q2=>?_;rw [← q1,← q2] at e;exact Gu e (k hb ((Bool.and_eq_true ..).mp hr).1 (Nat.le_of_ble_eq_true ((Bool.and_eq_true ..).mp hr).2))
end
section
variable {W:Wo} {C:Cx} {n:Nat} {D:Md} {A:Around} {env:Env} {ae:au} {φ ψ:List Addr} {s:St} {sh:Shared} {R:Rec} {h h':Heap}
theorem c8.inv (h:c8 ((a,o)::l) x):∃ sl r,x=(a,{ o with slots:=sl})::r∧c8 l r:=by
 cases h with
 |cons h=>exact ⟨_,_,rfl,h⟩
theorem Lo.parts {m:Str→Option Value} {nl:List (Addr×Obj)} {lo:List (Str×AV)} (h:Lo D φ lo m nl):∃ X fr,nl=X++fr∧c8 D.fr fr∧∀ φ' dg,Ext φ φ'→c8 fr dg→Lo D φ' lo m (X++dg):=by
 refine aC h fun fr hfr h=>?_;split at h
 ·rename_i hm;refine cP h fun h1 h2 h3=>?_;refine ⟨D.extra,fr,h2,hfr,fun φ' dg x q=>⟨dg,hfr.trans q,?_⟩⟩;rw [hm];exact ⟨h1,rfl,h3.mono x⟩
 ·rename_i mF hm;refine mR h fun h1 oc h2 es ep h3 h4 h5=>?_;refine ⟨(D.lc,oc)::D.extra,fr,by rw [h2];rfl,hfr,fun φ' dg x q=>⟨dg,hfr.trans q,?_⟩⟩;rw [hm];exact ⟨h1,oc,rfl,es,ep,h3,h4,h5.mono x⟩
theorem Pz {g:Heap} {L':Addr} {m:Str→Option Value} {os:List Obj} {X fr:List (Addr×Obj)} {φ':List Addr} {s':St} {h₂:Heap} {oL:Obj} (Rw:bH W.prog W.w D φ s h m os (X++fr)) (keep:∀ b o,D.g.get? b=some o→g.get? b=some o) (x:Ext φ φ') (As:h.get? D.L=some oL) (hlo:∀ φ' dg,Ext φ φ'→c8 fr dg→Lo D φ' s.lo m (X++dg)) (R':Rep W.prog W.w ⟨g,L',L',X,none,D.pin,D.ro,(D.L,oL)::fr⟩ φ' s' h₂):Rep W.prog W.w D φ' { s with hp:=s'.hp} h₂:=by
 obtain ⟨m',os',nl',R'⟩:=R';refine aC R'.lo fun Au hf lo=>?_;have lo:L'=L'∧nl'=X++Au∧MR φ' s'.lo m':=lo;refine hide fun _ kk=>?_;refine cP lo fun _ q1 _=>?_;subst q1;refine dB hf.inv fun sl iG q1 wI=>?_;subst q1;refine kk ?_;have Av:=R'.news (D.L,{ oL with slots:=sl}) (List.mem_append_right _ (List.mem_append_right _ (.head _)));have nd:=R'.nd;have perm:(φ'.drop D.ro++(X++(D.L,({ oL with slots:=sl}:Obj))::iG).map (·.1)).Perm (D.L::(φ'.drop D.ro++(X++iG).map (·.1))):=by simp only [List.map_append,List.map_cons,← List.append_assoc];exact List.perm_middle
 have fM:=List.nodup_cons.mp (perm.nodup_iff.mp nd);have z1:((φ'.zip os').drop D.ro).map (·.1)=φ'.drop D.ro:=by rw [List.map_drop,List.map_fst_zip];rw [R'.br,R'.len];exact Nat.le_refl _
 refine ⟨m,os',X++iG,⟨?_,fun b o e=>R'.fr.keep b o (keep b o e),Rw.fr.above⟩,?_,?_,R'.len,R'.br,R'.c9,R'.rel,R'.pin,fM.2,hlo φ' iG x wI,R'.big,Rw.cV⟩
 ·refine iN Rw.fr.ns fun o es ep ho r1 r2 r3=>?_;rw [As] at ho;cases ho;exact ⟨_,es,ep,Av.1,r1,r2,r3⟩
 ·intro p hp;have dz:p∈(φ'.zip os').drop D.ro++(X++(D.L,({ oL with slots:=sl}:Obj))::iG):=by
   simp only [List.mem_append,List.mem_cons] at hp ⊢;rcases hp with hp|hp|hp
   ·exact .inl hp
   ·exact .inr (.inl hp)
   ·exact .inr (.inr (.inr hp))
  have P:=R'.news p dz;refine ⟨P.1,fun z=>fM.1 ?_,?_⟩
  ·rw [← z,← z1,← List.map_append];exact List.mem_map_of_mem hp
  ·cases q:D.g.get? p.1 with
   |none=>rfl
   |some o=>have:=keep _ _ q;have P3:g.get? p.1=none:=P.2.2;rw [P3] at this;cases this
 ·intro k a o hk ha ho;have hl:k<s.hp.length:=Nat.lt_of_lt_of_le hk Rw.c9;obtain ⟨a0,ha'⟩:∃ a0,φ[k]?=some a0:=⟨_,List.getElem?_eq_getElem (by rw [Rw.br];exact hl)⟩;obtain ⟨o0,ho'⟩:∃ o0,os[k]?=some o0:=⟨_,List.getElem?_eq_getElem (by rw [Rw.len];exact hl)⟩;have e1:a=a0:=Option.some.inj (ha.symm.trans (x _ _ ha'));have e2:=Rw.rd k _ _ hk ha' ho';have e3:=R'.rd k a o hk ha ho;have e4:=keep _ _ e2;rw [e1] at e3;have:o=o0:=Option.some.inj (e3.symm.trans e4);rw [e1,this];exact e2
theorem PA {m:Str→Option Value} {os:List Obj} {X fr:List (Addr×Obj)} {oL:Obj} (Rw:bH W.prog W.w D φ s h m os (X++fr)) (hL:h.get? D.L=some oL):∃ g,l8 W g (X++(D.L,oL)::fr) D.pin D.ro φ os s.hp h∧∀ b o,D.g.get? b=some o→g.get? b=some o:=by
 have hin:∀ p∈(φ.zip os).drop D.ro++(X++(D.L,oL)::fr),p∈(φ.zip os).drop D.ro++(X++fr)∨p=(D.L,oL):=fun p hp=>by
  simp only [List.mem_append,List.mem_cons] at hp ⊢;rcases hp with hp|hp|hp|hp
  ·exact .inl (.inl hp)
  ·exact .inl (.inr (.inl hp))
  ·exact .inr hp
  ·exact .inl (.inr (.inr hp))
 have NN:∀ p∈(φ.zip os).drop D.ro++(X++(D.L,oL)::fr),h.get? p.1=some p.2∧D.g.get? p.1=none:=fun p hp=>by
  rcases hin p hp with q|rfl
  ·exact ⟨(Rw.news p q).1,(Rw.news p q).2.2⟩
  ·exact ⟨hL,Heap.get?_none_of_le Rw.fr.above⟩
 have st:∀ b o,D.g.get? b=some o→(hideAll h (((φ.zip os).drop D.ro++(X++(D.L,oL)::fr)).map (·.1))).get? b=some o:=fun b o e=>by refine hideAll_get _ (Rw.fr.keep b o e) fun q=>?_;refine aC (List.mem_map.mp q) fun p hp q1=>?_;subst q1;rw [(NN p hp).2] at e;cases e
 refine ⟨_,⟨fun p hp=>⟨(NN p hp).1,hideAll_none _ (List.mem_map_of_mem hp)⟩,fun k a o hk ha ho=>st _ _ (Rw.rd k a o hk ha ho),Rw.len,Rw.br,Rw.c9,Rw.rel,Rw.pin,?_,Rw.big,?_,fun b o e=>of_hideAll _ e,hideAll_size _ _⟩,st⟩
 ·have perm:(φ.drop D.ro++(X++(D.L,oL)::fr).map (·.1)).Perm (D.L::(φ.drop D.ro++(X++fr).map (·.1))):=by simp only [List.map_append,List.map_cons,← List.append_assoc];exact List.perm_middle
  refine perm.nodup_iff.mpr (List.nodup_cons.mpr ⟨fun q=>?_,Rw.nd⟩);refine aJ (qg Rw q) fun o ho=>?_;exact (Rw.news _ ho).2.1 rfl
 ·rw [hideAll_size];exact Rw.hsz
theorem Gv (hsl:c8 D.fr fr) (hfr:vM D.fr outer) (hf:bW.frame=some D.L) (hk:bW.scope.kind=.function) (qL:oL.data=.dict es ep) (big:2<D.L):vM ((D.L,oL)::fr) (bW::outer):=by
 refine ⟨fun p hp=>?_,fun e he=>?_⟩
 ·rcases List.mem_cons.mp hp with rfl|hp
  ·exact ⟨big,_,_,qL⟩
  ·refine aZ (hsl.mem' hp) fun q q1 q2 q3=>?_;refine mQ (hfr.1 q q1) fun q5 es ep q4=>?_;exact ⟨q2▸q5,es,ep,q3.trans q4⟩
 ·rcases List.mem_cons.mp he with rfl|he
  ·exact ⟨by rw [hk];simp,D.L,oL,es,ep,hf,.head _,qL⟩
  ·refine yq (hfr.2 e he) fun k1 b o es ep k2 k3 k4=>?_;refine aJ (hsl.mem k3) fun sl k5=>?_;exact ⟨k1,b,_,es,ep,k2,.tail _ k5,k4⟩
theorem Gw {a:Addr} {names:List (Str×NameKind)} {nD:List Stmt} {qual:Str} {scope:Scope} {cdv:Value} {bs lo:List (Str×AV)} {binds:List (Str×Value)} {P:Result→Shared→Prop} {E:Value→Shared→Prop} (h5:scope.kind=.function) (h6:scope.names=names) (h7:((cellsFrom 0 scope.names []).map (·.1)).Nodup) (h8:∀ x∈cF names,lk names x=some .cell) (h9:∀ x k,lk names x=some k→x≠ "__debug__" ∧x≠ "__classdict__") (cy:Cy W D A) (room:dw (n+1) A) (hh:A.handled=none) (Gl:aH W C D φ) (Rp:Rep W.prog W.w D φ s sh.heap) (dK:dc φ bs binds) (hlo:gA names bs=some lo) (hnd:jl (bs.map (·.1))=true) (hbody:∀{D':Md} {A':Around} {env':Env} {l:List Env} {φ':List Addr} {h₁:Heap} {tk:Nat},A'.frames=some (env'::l)→A.frames=some l→env'.frame=some D'.L→A'.handled=none→Good W n D' A' env' { names:=names,cells:=(fD s.hp.length names []).1} φ'→aH W C D' φ'→Ext φ φ'→Rep W.prog W.w D' φ' { lo:=lo,hp:=s.hp++(cF names).map fun x=>.cell (lk bs x)} h₁→(∀ φ₂ s₂ h₂,Ext φ' φ₂→Rep W.prog W.w D' φ₂ s₂ h₂→Rep W.prog W.w D φ₂ { s with hp:=s₂.hp} h₂)→
   wpAny (model W.prog W.w) A' (execs nD env') (fun f s'=>P (.ok (.ret (kX f))) s') (fun e s'=>wpAny (model W.prog W.w) A' (leaving env' e) (fun _ s''=>P (.error e) s'') (fun e' s''=>P (.error e') s'') s') { sh with heap:=h₁,toks:=tk}):
  wpAny (model W.prog W.w) A.in1 (newFunctionEnv scope mainGlobals [] binds (qual++ ".<locals>.") (some a) cdv none builtinsNs) (fun env s₁=>s₁.heap.NoLimit∧codeAny (model W.prog W.w) A (.func nD env) P s₁) E sh:=by
 refine fK cy.b fun outer bW hA hf hk hfr=>?_;have ks:=Rp.keeps;refine hide fun _ kk=>?_;obtain ⟨m,os,wJ,Rw⟩:=Rp;refine bK (Lo.parts Rw.lo) fun X fr hnl hsl Aw=>?_;subst hnl;refine iN Rw.fr.ns fun oL PB PC hL qL PD hLf=>?_;refine aC (PA Rw hL) fun g B st=>?_;refine kk ?_;refine Aq h5 h6 h7 h8 h9 B (cy.t.nolimit.keeps ks) hA (cy.x.keeps st) (cy.t.keeps st) (Gv hsl hfr hf hk qL (Nat.lt_of_lt_of_le Rw.cV Rw.fr.above)) room hh dK hlo hnd fun hf' gk Gd x Rc=>?_;exact hbody gk hA hf' hh Gd ⟨fun y v q=>aC (Gl.glob y v q) fun u p1 p2=>⟨u,p1.mono x,p2⟩,Gl.ro,fun _ q=>nomatch q⟩ x Rc fun φ₂ s₂ h₂ x₂ aI=>Pz Rw st (x.trans x₂) hL Aw aI
theorem Gx (hx:gF W C n R.ex) {a:Addr} {names:List (Str×NameKind)} {nD:List Stmt} {qual:Str} {scope:Scope} {cdv:Value} {bs lo:List (Str×AV)} {binds:List (Str×Value)} {fl:Fl} {w:AV} {s₂:St} {E:Value→Shared→Prop} (h5:scope.kind=.function) (h6:scope.names=names) (h7:((cellsFrom 0 scope.names []).map (·.1)).Nodup) (h8:∀ x∈cF names,lk names x=some .cell) (h9:∀ x k,lk names x=some k→x≠ "__debug__" ∧x≠ "__classdict__") (cy:Cy W D A) (room:dw (n+1) A) (hh:A.handled=none) (Gl:aH W C D φ) (Rp:Rep W.prog W.w D φ s sh.heap) (dK:dc φ bs binds) (hlo:gA names bs=some lo) (hnd:jl (bs.map (·.1))=true) (he:R.ex nD { names:=names,cells:=(fD s.hp.length names []).1} { lo:=lo,hp:=s.hp++(cF names).map fun x=>.cell (lk bs x)}=some (fl,s₂)) (hw:∀ φ₂ u,FR φ₂ fl u→VR φ₂ w (kX u)):wpAny (model W.prog W.w) A.in1 (newFunctionEnv scope mainGlobals [] binds (qual++ ".<locals>.") (some a) cdv none builtinsNs) (fun env s₁=>s₁.heap.NoLimit∧codeAny (model W.prog W.w) A (.func nD env) (fun r sh'=>match r with| .ok (.ret v)=>Res W.prog W.w D φ sh (Val { s with hp:=s₂.hp} w) v sh'| .ok _=>False| .error _=>False) s₁) E sh:=Gw h5 h6 h7 h8 h9 cy room hh Gl Rp dK hlo hnd fun _ _ _ _ Gd kB x Rc back=>(hx Gd kB he).use Rc fun u aK φ₂ s₂' m₂ x₂ aI q=>⟨m₂,φ₂,_,x.trans x₂,back φ₂ s₂' _ x₂ aI,q.1▸rfl,hw φ₂ u q.2⟩
theorem Ax {a:Addr} {f:Fn} (Fk:bI W a f) (dR:f.vararg=none) (cy:Cy W D A) (room:dw (n+1) A) (hh:A.handled=none) (Gl:aH W C D φ) (Rp:Rep W.prog W.w D φ s sh.heap) {vs:List AV} {us:List Value} {bs lo:List (Str×AV)} (r:aF φ vs us) (hb:f9 f.params vs f.dflt=some (bs,[])) (hlo:gA f.names bs=some lo) (hnd:jl (bs.map (·.1))=true) {P:Result→Shared→Prop} (hbody:∀{D':Md} {A':Around} {env':Env} {l:List Env} {φ':List Addr} {h₁:Heap} {tk:Nat},A'.frames=some (env'::l)→A.frames=some l→env'.frame=some D'.L→A'.handled=none→Good W n D' A' env' { names:=f.names,cells:=(fD s.hp.length f.names []).1} φ'→aH W C D' φ'→Ext φ φ'→Rep W.prog W.w D' φ' { lo:=lo,hp:=s.hp++(cF f.names).map fun x=>.cell (lk bs x)} h₁→(∀ φ₂ s₂ h₂,Ext φ' φ₂→Rep W.prog W.w D' φ₂ s₂ h₂→Rep W.prog W.w D φ₂ { s with hp:=s₂.hp} h₂)→
   wpAny (model W.prog W.w) A' (execs f.body env') (fun f s'=>P (.ok (.ret (kX f))) s') (fun e s'=>wpAny (model W.prog W.w) A' (leaving env' e) (fun _ s''=>P (.error e) s'') (fun e' s''=>P (.error e') s'') s') { sh with heap:=h₁,toks:=tk}):
  codeAny (model W.prog W.w) A (.call (.ref a) ⟨us,[]⟩) P sh:=
 wH Fk dR room (cy.x.keeps Rp.keeps) r hb fun h5 h6 h7 h8 h9 dK=>Gw h5 h6 h7 h8 h9 cy room hh Gl Rp dK hlo hnd hbody
theorem PE (hx:gF W C n R.ex) {a:Addr} {f:Fn} (Fk:bI W a f) (dR:f.vararg=none) (cy:Cy W D A) (room:dw (n+1) A) (hh:A.handled=none) (Gl:aH W C D φ) {vs:List AV} {us:List Value} {v:AV} {h':AH} (e:fE C R f vs s.hp=some (v,h')) (r:aF φ vs us):ju W D A (.call (.ref a) ⟨us,[]⟩) φ s (Val { s with hp:=h'} v):=fun sh Rp=>Ar dR e fun hb hlo hnd he hs hw=>wH Fk dR room (cy.x.keeps Rp.keeps) r hb fun h5 h6 h7 h8 h9 dK=>hs▸Gx hx h5 h6 h7 h8 h9 cy room hh Gl Rp dK hlo hnd he hw
end
section
variable {W:Wo} {C:Cx} {n:Nat} {D:Md} {A:Around} {env:Env} {ae:au} {φ ψ:List Addr} {s:St} {sh:Shared} {R:Rec} {h h':Heap}
theorem dc.app (h:dc φ v u) (r:VR φ a b):dc φ (v++[(x,a)]) (u++[(x,b)]):=by
 induction h with
 |nil=>exact .cons r .nil
 |cons a _ ih=>exact .cons a ih
theorem PF (hx:gF W C n R.ex) {a:Addr} {f:Fn} {va:Str} (Fk:bI W a f) (dR:f.vararg=some va) (cy:Cy W D A) (room:dw (n+1) A) (hh:A.handled=none) (Gl:aH W C D φ) {vs:List AV} {us:List Value} {v:AV} {h':AH} (e:fE C R f vs s.hp=some (v,h')) (r:aF φ vs us):ju W D A (.call (.ref a) ⟨us,[]⟩) φ s (Val { s with hp:=h'} v):=by
 intro sh Rp;refine Py dR e fun {bs lo rest fl s₂} hb hl hr hlo hnd he hs hw=>?_;subst hs;refine Fk.use fun oc od osl name qual params scope dV kV doc pm an cdv ct h1 h2 h3 h4 h5 h6 h7 h8 h9 h10 h11=>?_;refine cP (h11 va dR) fun c0 c1 c2=>?_;have K:=cy.x.keeps Rp.keeps;obtain ⟨m,os,nl,Rw⟩:=Rp;refine mS (c2 φ vs us bs rest r hb (gD hl)) fun rs bnd g₁ r1 r2 r3 r4 r5=>?_;have dQ:D.ro<s.hp.length:=Gl.ro▸hr;refine codeAny_call_function (fd:=fnOf name qual params f.body scope dV kV doc pm an cdv ct) (by have:=room.depth;unfold recursionLimit;omega) (K _ _ h1) rfl h3 h4 rfl (codeRec_of K h2) ?_;refine wp_of_peek1 (o:=({ cls:=.type "tuple",data:=.seq rs.toArray}:Obj)) Rw.fr Rw.news K rfl (r:=fun T=>bnd++[(va,.ref T)]) (fun T h₁ F' N' hT=>?_) _ g₁ r4 r5;have T2:2<T:=by refine aJ (show ∃ o,os[D.ro]?=some o from ⟨_,List.getElem?_eq_getElem (by rw [Rw.len];exact dQ)⟩) fun o ho=>?_;refine aJ (show ∃ b,φ[D.ro]?=some b from ⟨_,List.getElem?_eq_getElem (by rw [Rw.br];exact dQ)⟩) fun b hb=>?_;exact Nat.lt_trans (Rw.big _ _ hb) (hT _ (mem_of Rw (Nat.le_refl _) hb ho))
 have PG:T∉φ.drop D.ro++nl.map (·.1):=fun z=>by refine aJ (qg Rw z) fun o ho=>?_;exact Nat.lt_irrefl _ (hT _ ho)
 have PI:(φ++[T])[s.hp.length]?=some T:=by rw [← Rw.br];simp
 have dK:=(r2.mono (Ext.app φ [T])).app (x:=va) (VR.loc PI);have Rb:bH W.prog W.w D (φ++[T]) { s with hp:=s.hp++[.tup rest]} h₁ m (os++[n9 rs.toArray 0]) nl:=Rw.alloc F' N' PG T2 (OR.zD (k:=0) (r1.mono (Ext.app _ _)) (gD hl));refine wpAny_mono (Gx (sh:={ sh with heap:=h₁}) hx h5 h6 h7 h8 h9 cy room hh (Gl.mono (Ext.app _ _)) ⟨m,_,nl,Rb⟩ dK hlo hnd he hw) (fun env s₁ z=>⟨z.1,codeAny_mono z.2 fun q s' hq=>?_⟩) fun _ _ z=>z;cases q with
 |error e=>exact hq
 |ok f=>
  cases f with
  |ret v=>exact Res.next (Ext.app φ _) (bu.of sh h₁ sh.toks) hq
  |_=>exact hq
end
section
variable {W:Wo} {C:Cx} {n:Nat} {D:Md} {A:Around} {env:Env} {ae:au} {φ ψ:List Addr} {s:St} {sh:Shared} {R:Rec} {h h':Heap}
theorem PJ (c:Addr) (us:List Value):(Code.builtin "type.__call__" ⟨.ref c::us,[]⟩).weight≤1∧(Code.builtin "type.__call__" ⟨.ref c::us,[]⟩).cUnits≤1∧(Code.builtin "type.__call__" ⟨.ref c::us,[]⟩).envs=[]:=by
 refine ⟨?_,?_,rfl⟩
 ·first|decide|(show _≤_;unfold Code.weight;decide)|exact Nat.le_refl 1
 ·first|decide|exact Nat.le_refl 1
theorem PK (hca:kU W C n R.ca) {c:Addr} {k:lB} {o:Nat→AO} (Xc:oB W.K c k) (cy:Cy W D A) (room:dw (n+1) A) (hh:A.handled=none) (Gl:aH W C D φ) {vs:List AV} {us:List Value} {i:Addr} {h':AH} (dQ:(C.deep||Nat.blt C.ro s.hp.length)=true) (hi:lk k.meths "__init__" =some i) (ho:∀ d,o d=.inst c d∨∃ vs:List (Option AV),vs.length≤100∧(∀(j:Nat) (w:AV),vs[j]?≠some (some w))∧o d=.slots c d vs)
  (e:R.ca (.fix (.ref i)) (.loc (s.hp.length+1)::vs) (s.hp++[.ns [],o s.hp.length])=some (.none,h')) (r:aF φ vs us):
  WP W.prog W.w D A (call (.ref c) us) φ s (Val { s with hp:=h'} (.loc (s.hp.length+1))):=by
 intro sh Rp;have Z6:=Rp;obtain ⟨m,os,nl,Rw⟩:=Rp;refine aZ Xc.init fun i' hi' t1 t2=>?_;rw [hi] at hi';cases hi';have tf:=(Xc.meth _ _ hi).2.2.1;refine call_cls (K:=W.K) Rw.fr cy.x Rw.news Xc.makes t1 t2 fun x dx h₁ F N hlt hdx=>?_;have d2:2<dx:=by
  rw [Bool.or_eq_true] at dQ;rcases dQ with PL|dQ
  ·refine fK cy.b fun outer bW hA hf hk hfr=>?_;refine bK (Lo.parts Rw.lo) fun X dg hnl hsl _=>?_;cases hd:D.fr with
   |nil=>exact absurd hd (Gl.deep PL)
   |cons p r=>
    have hp:(p.1,p.2)∈D.fr:=by rw [hd];exact .head _
    have hb:=(hfr.1 _ hp).1;refine aJ (hsl.mem hp) fun sl k5=>?_;have k6:=hlt _ (List.mem_append_right ((φ.zip os).drop D.ro) (hnl▸List.mem_append_right X k5));exact Nat.lt_trans hb k6
  have Gy:D.ro<s.hp.length:=Gl.ro▸Nat.le_of_ble_eq_true dQ;obtain ⟨o,ho⟩:∃ o,os[D.ro]?=some o:=⟨_,List.getElem?_eq_getElem (by rw [Rw.len];exact Gy)⟩;obtain ⟨b,hb⟩:∃ b,φ[D.ro]?=some b:=⟨_,List.getElem?_eq_getElem (by rw [Rw.br];exact Gy)⟩;exact Nat.lt_trans (Rw.big _ _ hb) (hlt _ (mem_of Rw (Nat.le_refl _) hb ho))
 have Ao:dx∉φ.drop D.ro++nl.map (·.1):=fun z=>by refine aJ (qg Rw z) fun o ho=>?_;exact Nat.lt_irrefl _ (hlt _ ho)
 have R1:bH W.prog W.w D (φ++[dx]) { s with hp:=s.hp++[.ns []]} h₁ m (os++[dictOf [] 0]) nl:=Rw.alloc F (fun p hp=>N p (.tail _ hp)) Ao d2 ⟨[],0,rfl,(fun e he=>(by simp at he)),(fun x v q=>(by cases q)),(fun x _=>rfl),Nat.zero_le _,Nat.zero_le _⟩;have zR:x∉(φ++[dx]).drop D.ro++nl.map (·.1):=fun z=>by
  rw [List.drop_append_of_le_length (by rw [Rw.br];exact Rw.c9),List.append_assoc] at z;rcases List.mem_append.mp z with z|z
  ·refine aJ (qg Rw (List.mem_append_left _ z)) fun o ho=>?_;exact Nat.lt_asymm (hlt _ ho) hdx
  ·rcases List.mem_append.mp z with z|z
   ·rw [List.mem_singleton] at z;exact Nat.lt_irrefl _ (z▸hdx)
   ·refine aJ (qg Rw (List.mem_append_right _ z)) fun o ho=>?_;exact Nat.lt_asymm (hlt _ ho) hdx
 have Gz:(φ++[dx]++[x])[s.hp.length]?=some dx:=by rw [← Rw.br,List.append_assoc,List.getElem?_append_right (Nat.le_refl _)];simp
 have GA:(φ++[dx]++[x])[s.hp.length+1]?=some x:=by rw [← Rw.br,List.append_assoc,List.getElem?_append_right (Nat.le_succ _)];simp
 have R2:bH W.prog W.w D (φ++[dx]++[x]) { s with hp:=s.hp++[.ns []]++[o s.hp.length]} h₁ m (os++[dictOf [] 0]++[instObj c dx]) nl:=by
  refine R1.alloc F ?_ zR (Nat.lt_trans d2 hdx) ?_
  ·intro p hp;rcases List.mem_cons.mp hp with rfl|hp
   ·exact N _ (.head _)
   ·exact R1.news p hp
  ·rcases ho s.hp.length with q|⟨ws,w1,w2,q⟩
   ·rw [q];exact ⟨dx,Gz,rfl⟩
   ·rw [q];exact ⟨dx,#[],Gz,rfl,Nat.zero_le _,w1,fun j w z=>absurd z (w2 j w)⟩
 refine cP (PJ c us) fun u1 u2 u3=>?_;have PM:Cy W D (A.under (.builtin "type.__call__" ⟨.ref c::us,[]⟩)):=by refine fK cy.b fun outer bW hA hf hk hfr=>?_;refine ⟨cy.x,cy.t,outer,bW,?_,hf,hk,hfr⟩;show pushEnvs (Code.builtin "type.__call__" ⟨.ref c::us,[]⟩).envs A.frames=_;rw [u3];exact hA
 have PN:dw n (A.under (.builtin "type.__call__" ⟨.ref c::us,[]⟩)):=by
  refine ⟨?_,?_⟩
  ·have:=room.depth;show A.depth+(Code.builtin "type.__call__" ⟨.ref c::us,[]⟩).weight+n<900;lia
  ·have:=room.units;show A.units+(Code.builtin "type.__call__" ⟨.ref c::us,[]⟩).cUnits+8*n<9000;lia
 have ext:Ext φ (φ++[dx]++[x]):=(Ext.app _ _).trans (Ext.app _ _);have z:=(hca (s:={ s with hp:=s.hp++[.ns []]++[o s.hp.length]}) (uc:=.ref i) PM PN hh (Gl.mono ext) (by rw [← e];simp) (.fix _) (.cons (.loc GA) (r.mono ext))).2 i rfl tf { sh with heap:=h₁} ⟨_,_,_,R2⟩;refine codeAny_mono z fun q s' hq=>?_;cases q with
 |error e=>exact hq
 |ok f=>
  cases f with
  |ret v=>
   obtain ⟨m₃,wk,s₄,wm,bz,p1,p2⟩:=hq;obtain ⟨_,rfl⟩:=VR.inv p2;exact ⟨rfl,m₃,wk,s₄,ext.trans wm,bz,by rw [p1],.loc (wm _ _ GA)⟩
  |_=>exact hq
end
noncomputable def Ay (W:Wo) (C:Cx):Prop:=
 ∀ a vs h v h',C.ct a vs h=some (v,h')→∀{D:Md} {A:Around} {φ:List Addr} {s:St} {us:List Value},Cy W D A→dw 90 A→A.handled=none→aH W C D φ→s.hp=h→aF φ vs us→fnIn W.K a=true∧ju W D A (.call (.ref a) ⟨us,[]⟩) φ s (Val { s with hp:=h'} v)
structure l9 (W:Wo) (C:Cx):Prop extends g7 W C where
 fns:∀ a fn,C.fn a=some fn→bI W a fn
 GB:Ay W C
section
variable {W:Wo} {C:Cx} {n:Nat} {R:Rec}
theorem PO (h:ju W D A (.call f ⟨us,[]⟩) φ s P):WP W.prog W.w D A (call f us) φ s P:=fun sh Rp=>wpAny_call (codeAny_mono (h sh Rp) fun r s' z=>by
  cases r with
  |error e=>exact z.elim
  |ok f=>cases f <;>exact z)
theorem PS (X:l9 W C) (hx:gF W C n R.ex) (hca:kU W C n R.ca) (hfu:R.fu≤n):kU W C (n+1) (zc C R):=by
 intro D A φ s c v uc vs us h' cy room hh Gl e rc rv;refine ah e fun f hf e=>?_;rw [D6 hf] at rc;refine rc.n8 ?_;refine bA e (fun a ha e=>?_) fun hn e=>⟨(Ng hh Gl e rv).mono fun φ' s' u x z=>z,fun b hb _=>e0 (hn.symm.trans (congrArg kM hb))⟩;rw [pZ ha];have done:ju W D A (.call (.ref a) ⟨us,[]⟩) φ s (Val { s with hp:=h'} v)→WP W.prog W.w D A (call (.ref a) us) φ s (Val { s with hp:=h'} v)∧∀ b,Value.ref a=.ref b→fnIn W.K b=true→ju W D A (.call (.ref a) ⟨us,[]⟩) φ s (Val { s with hp:=h'} v):=fun k=>⟨PO k,fun _ _ _=>k⟩;refine bA e (fun w hc e=>?_) fun _ e=>bA e (fun fn hf e=>?_) fun _ e=>ah e fun k hk e=>?_
 ·have hc:vp C R a vs s.hp=some (v,h'):=hc.trans e;refine eT hc fun PT hc=>?_;exact done (X.GB a vs _ _ _ hc cy (room.less (Nat.le_trans (Nat.le_of_ble_eq_true PT) (Nat.le_succ_of_le hfu))) hh Gl rfl rv).2
 ·refine done ?_;cases hv:fn.vararg with
  |none=>exact PE hx (X.fns a fn hf) hv cy room hh Gl e rv
  |some x=>exact PF hx (X.fns a fn hf) hv cy room hh Gl e rv
 ·have Xc:=X.cls a k hk;have PU:fnIn W.K a=false:=by
   have t:=Xc.v9;unfold isClsIn clsIn at t;unfold fnIn;generalize W.K.lookup a=o at t;rcases o with _|⟨c,x,d,l⟩
   ·exact Bool.noConfusion t
   ·induction d using Data.casesOn with
    |cls=>rfl
    |_=>exact Bool.noConfusion t
  refine ⟨?_,fun b hb hf=>Bool.noConfusion (PU.symm.trans (Value.ref.inj hb▸hf))⟩;refine eT e fun dQ e=>ah e fun i hi e=>aQ e fun v0 h2 he e=>eT e fun hz e=>aN (pin e) fun q1 q2=>?_;rw [← q1,← q2];rw [D7 hz] at he;refine PK (o:=slotsOf k a) hca Xc cy room hh Gl dQ hi (fun d=>?_) he rv;unfold slotsOf;cases hs:k.slots with
  |none=>exact .inl rfl
  |some ns=>exact .inr ⟨_,by rw [List.length_map];exact Xc.zL ns hs,fun j w q=>by simp at q,rfl⟩
end
structure sY (D D₂:Md):Prop where
 g:D₂.g=D.g
 L:D₂.L=D.L
 ro:D₂.ro=D.ro
 pin:D₂.pin=D.pin
 fr:D₂.fr=D.fr
section
variable {W:Wo} {C:Cx} {n:Nat} {D:Md} {A:Around} {env:Env} {ae:au} {φ ψ:List Addr} {s:St} {sh:Shared} {R:Rec} {h h':Heap} {p:Addr×Obj}
noncomputable abbrev jv:Obj:={ cls:=.type "dict",data:=.dict #[]}
theorem bH.perm {m:Str→Option Value} {os:List Obj} {nl nl':List (Addr×Obj)} {D₂:Md} {lo':List (Str×AV)} (R:bH W.prog W.w D φ s h m os nl) (q:sY D D₂) (hp:nl'.Perm nl) (lo:Lo D₂ φ lo' m nl'):bH W.prog W.w D₂ φ { s with lo:=lo'} h m os nl':=by
 obtain ⟨q1,q2,q3,q4,_⟩:=q;refine ⟨by rw [q1,q2];exact R.fr,?_,by rw [q1,q3];exact R.rd,R.len,R.br,by rw [q3];exact R.c9,R.rel,by rw [q4];exact R.pin,?_,lo,R.big,by rw [q1];exact R.cV⟩
 ·rw [q1,q2,q3];intro p dz;refine R.news p ?_;rcases List.mem_append.mp dz with z|z
  ·exact List.mem_append_left _ z
  ·exact List.mem_append_right _ (hp.mem_iff.mp z)
 ·rw [q3];exact ((List.Perm.refl _).append (hp.map (·.1))).nodup_iff.mpr R.nd
theorem Rep.enter (Rp:Rep W.prog W.w (D.hid p) φ s h):∃ D₂,sY D D₂∧D₂.lc=h.objs.size∧Rep W.prog W.w (D₂.hid p) φ { s with lo:=[]} (h.push jv)∧
  ∀ φ' s' h',Ext φ φ'→Rep W.prog W.w D₂ φ' s' h'→∃ oc,Rep W.prog W.w (D.hid (h.objs.size,oc)) φ' { s' with lo:=s.lo} h'∧∃ es ep,oc.data=.dict es ep∧StrKeys es:=by
 obtain ⟨m,os,nl,Rw⟩:=Rp;refine aC Rw.lo fun fr hfr lo=>?_;have R1:bH W.prog W.w (D.hid p) φ s (h.push jv) m os nl:=Rw.ext fun b o e=>Heap.get?_push_of_some _ e;have N1:=News.push Rw.fr Rw.news jv rfl;have hl:=ng Rw Rw.lt_size;cases hm:D.mF with
 |none=>
  have e0:(D.hid p).mF=none:=hm;rw [e0] at lo;refine cP lo fun l1 l2 l3=>?_;have l2:nl=p::(D.extra++fr):=l2;refine ⟨{ D with lc:=h.objs.size,mF:=some m},⟨rfl,rfl,rfl,rfl,rfl⟩,rfl,⟨m,os,(h.objs.size,jv)::p::(D.extra++fr),?_⟩,?_⟩
  ·subst l2;refine ⟨R1.fr,?_,R1.rd,R1.len,R1.br,R1.c9,R1.rel,R1.pin,?_,?_,R1.big,R1.cV⟩
   ·intro q hq;refine N1 q ?_;rcases List.mem_append.mp hq with hq|hq
    ·exact .tail _ (List.mem_append_left _ hq)
    ·rcases List.mem_cons.mp hq with rfl|hq
     ·exact .head _
     ·exact .tail _ (List.mem_append_right _ hq)
   ·have perm:(φ.drop D.ro++((h.objs.size,jv)::p::(D.extra++fr)).map (·.1)).Perm (h.objs.size::(φ.drop D.ro++(p::(D.extra++fr)).map (·.1))):=by rw [List.map_cons];exact List.perm_middle
    exact perm.nodup_iff.mpr (List.nodup_cons.mpr ⟨hl,Rw.nd⟩)
   ·exact ⟨fr,hfr,rfl,jv,rfl,#[],0,rfl,fun e he=>by simp at he,fun x v q=>by cases q⟩
  ·intro φ' s' h' x R';obtain ⟨m',os',nl',R'⟩:=R';refine aC R'.lo fun dg wK lo'=>?_;have lo':m'=m∧∃ oc,nl'=(h.objs.size,oc)::(D.extra++dg)∧vL φ' s'.lo oc:=lo';refine mR lo' fun q1 oc q2 es ep o1 o2 o3=>?_;subst q1;subst q2;refine ⟨oc,⟨m',os',_,R'.perm (D₂:=D.hid (h.objs.size,oc)) ⟨rfl,rfl,rfl,rfl,rfl⟩ (.refl _) ?_⟩,es,ep,o1,o2⟩;refine ⟨dg,wK,?_⟩;have e1:(D.hid (h.objs.size,oc)).mF=none:=hm;rw [e1];exact ⟨l1,rfl,l3.mono x⟩
 |some mF=>
  have e0:(D.hid p).mF=some mF:=hm;rw [e0] at lo;refine rN lo fun q1 kY l2 l3=>?_;subst q1;have l2:nl=(D.lc,kY)::p::(D.extra++fr):=l2;refine ⟨{ D with lc:=h.objs.size,extra:=(D.lc,kY)::D.extra},⟨rfl,rfl,rfl,rfl,rfl⟩,rfl,⟨m,os,(h.objs.size,jv)::p::(D.lc,kY)::(D.extra++fr),?_⟩,?_⟩
  ·subst l2;refine ⟨R1.fr,?_,R1.rd,R1.len,R1.br,R1.c9,R1.rel,R1.pin,?_,?_,R1.big,R1.cV⟩
   ·intro q hq;refine N1 q ?_;rcases List.mem_append.mp hq with hq|hq
    ·exact .tail _ (List.mem_append_left _ hq)
    ·rcases List.mem_cons.mp hq with rfl|hq
     ·exact .head _
     ·refine .tail _ (List.mem_append_right _ ?_);rcases List.mem_cons.mp hq with rfl|hq
      ·exact .tail _ (.head _)
      ·rcases List.mem_cons.mp hq with rfl|hq
       ·exact .head _
       ·exact .tail _ (.tail _ hq)
   ·have perm:(φ.drop D.ro++((h.objs.size,jv)::p::(D.lc,kY)::(D.extra++fr)).map (·.1)).Perm (h.objs.size::(φ.drop D.ro++((D.lc,kY)::p::(D.extra++fr)).map (·.1))):=by rw [List.map_cons];refine List.perm_middle.trans (.cons _ (.append (.refl _) ?_));simp only [List.map_cons];exact .swap _ _ _
    exact perm.nodup_iff.mpr (List.nodup_cons.mpr ⟨hl,Rw.nd⟩)
   ·refine ⟨fr,hfr,?_⟩;show (match D.mF with|none=>_|some mF=>_);rw [hm];exact ⟨rfl,jv,rfl,#[],0,rfl,fun e he=>by simp at he,fun x v q=>by cases q⟩
  ·intro φ' s' h' x R';obtain ⟨m',os',nl',R'⟩:=R';refine aC R'.lo fun dg wK lo'=>?_;have e2:({ D with lc:=h.objs.size,extra:=(D.lc,kY)::D.extra}:Md).mF=some m:=hm;rw [e2] at lo';refine mR lo' fun q1 oc l4 es ep o1 o2 o3=>?_;subst q1;have l4:nl'=(h.objs.size,oc)::(D.lc,kY)::(D.extra++dg):=l4;subst l4;refine ⟨oc,⟨m',os',(D.lc,kY)::(h.objs.size,oc)::(D.extra++dg),R'.perm (D₂:=D.hid (h.objs.size,oc)) ⟨rfl,rfl,rfl,rfl,rfl⟩ (.swap _ _ _) ?_⟩,es,ep,o1,o2⟩;refine ⟨dg,wK,?_⟩;have e1:(D.hid (h.objs.size,oc)).mF=some m':=hm;rw [e1];refine bK l3 fun a1 a2 a3 a4 a5=>?_;exact ⟨rfl,kY,rfl,a1,a2,a3,a4,a5.mono x⟩
end
noncomputable def oG (W:Wo) (D:Md) (φ:List Addr) (sh:Shared) (s':St) (r:Result) (sh':Shared):Prop:=match r with| .ok _=>Res W.prog W.w D φ sh (fun _ s'' (_:Unit)=>s''=s') () sh'| .error _=>False
noncomputable def mh (W:Wo) (C:Cx) (k:Nat) (f:PySem.Expr→Nat→It→Nat→au→St→Option St):Prop:=
 ∀{D:Md} {A:Around} {env:Env} {ae:au} {φ:List Addr} {s:St} {e:PySem.Expr} {d:Nat} {it:It} {a:Nat} {aa:Addr} {s':St} {I:Addr} {io:Obj},Good W k D A env ae φ→aH W C D φ→A.handled=none→gG W D φ it io→φ[a]?=some aa→f e d it a ae s=some s'→∀ sh,Rep W.prog W.w (D.hid (I,io)) φ s sh.heap→codeAny (model W.prog W.w) A (.compLoop e d (.ref I) (.ref aa) env) (oG W D φ sh s') sh
section
variable {W:Wo} {C:Cx} {n:Nat} {D:Md} {A:Around} {env:Env} {ae:au} {φ ψ:List Addr} {s:St} {sh:Shared} {R:Rec} {h h':Heap}
theorem GC (x:gG W D φ it o) (hid:sh.heap.get? I=some o) (k:Q (.ref I) sh):wpAny (model W.prog W.w) A (pyIter (.ref I)) Q E sh:=by
 induction it with
 |range i left step=>exact wpAny_pyIter_rangeiter (hid.trans (congrArg some x)) k
 |lst l i=>refine aZ x fun a _ c1 c2=>?_;exact wpAny_pyIter_listiter ⟨o,hid,c1,c2⟩ k
 |fh l i=>refine aZ x fun a _ c1 c2=>?_;exact wpAny_pyIter_tupleiter ⟨o,hid,c1,c2⟩ k
 |keys d i=>refine pC x fun a od kvs ep _ _ _ c1 c2=>?_;exact wpAny_pyIter_keyiter ⟨o,hid,c1,c2⟩ k
 |vals d i=>refine pC x fun a od kvs ep _ _ _ c1 c2=>?_;exact wpAny_pyIter_valiter ⟨o,hid,c1,c2⟩ k
 |enum=>exact x.elim
theorem GD (hq:lN e=true) (hg:(clausesOf e)[d]?=some g) (hz:g.is_async=0) (h0:codeAny (model W.prog W.w) A (.compLoop e d it acc env) Rr sh) (hs:∀(Q:Value→Shared→Prop) (E:Value→Shared→Prop),Q it sh→wpAny (model W.prog W.w) A (pyIter it) Q E sh):codeAny (model W.prog W.w) A (.compStart e d it acc env) Rr sh:=by
 refine codeAny_of_tree ?_;obtain ⟨hu,hd,hc⟩:A.under (.compStart e d it acc env)=A∧(model W.prog W.w).den (.compStart e d it acc env)=(compStart e d it acc env).onRaise (fun x=>do noteFrame x env;standAt theWindowsPlace)∧(Code.compLoop e d it acc env).quiet=true:=by
  induction e using PySem.Expr.casesOn with
  |ListComp=>exact ⟨rfl,rfl,rfl⟩
  |SetComp=>exact ⟨rfl,rfl,rfl⟩
  |DictComp=>exact ⟨rfl,rfl,rfl⟩
  |_=>exact Bool.noConfusion hq
 rw [hu,hd];refine wpAny_notedAt ?_;unfold compStart;rw [hg];simp only [Option.elim_some,hz,bne_self_eq_false,Bool.false_eq_true,if_false];show wpAny _ A (ask>>=_) _ _ sh;refine wpAny_bind (wpAny_askSetting (wpAny_ite ?_));split
 ·first
   |exact wpAny_bind (wpAny_pure (wpAny_pure (And.intro hc h0)))
   |exact wpAny_pure (And.intro hc h0)
 ·first
   |exact wpAny_bind (wpAny_rule (wpAny_bind (wpAny_standAt (wpAny_bind (hs _ _ (wpAny_pure (And.intro hc h0)))))))
   |(refine wpAny_bind (wpAny_rule ?_);show wpAny _ _ (standAt g.iter.pos>>=_) _ _ sh;exact wpAny_bind (wpAny_standAt (wpAny_bind (hs _ _ (wpAny_pure (And.intro hc h0))))))
noncomputable def qM (env:Env) (cs:List PySem.Expr) (b:Bool):Sem Bool:=forIn cs b fun c r=>if r=true then do let ok ← isTrue c env (eval c env);pure (ForInStep.yield ok) else pure (ForInStep.yield r)
theorem PV (h:Q false sh):wpAny (model W.prog W.w) A (qM env cs false) Q E sh:=by
 unfold qM;induction cs with
 |nil=>rw [List.forIn_nil];exact wpAny_pure h
 |cons c cs ih=>
  rw [List.forIn_cons];refine wpAny_bind ?_;rw [if_neg (by simp)];exact wpAny_pure ih
theorem PW (ht:iX W C n R.tr):∀{φ:List Addr} {s s':St} {b:Bool},Good W n D A env ae φ→aH W C D φ→iP R ae cs s=some (b,s')→WP W.prog W.w D A (qM env cs true) φ s (fun _ s'' r=>s''=s'∧r=b):=by
 induction cs with
 |nil=>intro φ s s' b _ _ e;unfold qM;rw [List.forIn_nil];exact WP.pure' ⟨(pin e).2,(pin e).1⟩
 |cons c cs ih=>
  intro φ s s' b G Gl e;refine aQ e fun b' s₁ hc e=>?_;unfold qM;rw [List.forIn_cons];refine fun sh Rp=>wpAny_bind ?_;rw [if_pos rfl];refine wpAny_bind ((ht G Gl hc).kR Rp fun aO φ₁ m₁ x₁ aD=>?_);cases b' with
  |true=>exact wpAny_pure ((ih (G.mono x₁) (Gl.mono x₁) e).rest aD x₁ m₁)
  |false=>exact wpAny_pure (PV ⟨m₁,φ₁,_,x₁,aD,(pin e).2,(pin e).1⟩)
theorem PX (h:bB W C n R.ev) (G:Good W n D A env ae φ) (Gl:aH W C D φ) (ha:φ[a]?=some aa) (e:uX C R elt a ae s=some s'):WP W.prog W.w D A (eval elt env>>=fun v=>call (.builtin "list.append") [.ref aa,v]>>=fun _=>pure ()) φ s (fun _ s'' (_:Unit)=>s''=s'):=aQ e fun v s₁ hv e=>ah e fun vs hvs e=>eT e fun hlim e=>ah e fun h' hs e=>Option.some.inj e▸fun sh Rp=>wpAny_bind ((h G Gl hv).iD Rp fun u aO φ₁ m₁ x₁ aD r=>aD.qo (Gl.mono x₁) hvs (x₁ _ _ ha) hs fun m us k L F r1 len q g Fr N X U _ fin=>wpAny_bind (append_K Fr N (U _) (fun h' F' N'=>wpAny_pure ⟨m₁,φ₁,_,x₁,fin _ _ F' N' ⟨us++[u],_,by rw [List.push_toArray],r1.append (.cons r .nil),by rw [List.length_append];exact gD hlim⟩,rfl⟩) (cW (by simp only [List.size_toArray];omega))))
theorem PY (h:bB W C n R.ev) (G:Good W n D A env ae φ) (Gl:aH W C D φ) (ha:φ[a]?=some aa) (e:uY C R ke ve a ae s=some s'):WP W.prog W.w D A (eval ke env>>=fun kv=>holding [kv] (eval ve env)>>=fun vv=>standAt p'>>=fun _=>holding [kv,vv] (dictSet aa kv vv)) φ s (fun _ s'' (_:Unit)=>s''=s'):=by refine aQ e fun kv s₁ hk e=>ah e fun i hi e=>aQ e fun vv s₂ hv e=>ah e fun es hd e=>eT e fun hlim e=>ah e fun h' hs e=>Option.some.inj e▸fun sh Rp=>?_;refine wpAny_bind ((h G Gl (m5 hi▸hk)).sG Rp fun t aO φ₁ m₁ x₁ aD=>wpAny_bind (wpAny_holding ((h (G.mono x₁) (Gl.mono x₁) hv).iD aD fun u₂ aK φ₂ m₂ x₂ aI r2=>wpAny_bind (wpAny_standAt (wpAny_holding ?_)))));refine aI.EJ ((Gl.mono x₁).mono x₂) hd (x₂ _ _ (x₁ _ _ ha)) hs fun m o kvs L F hk r1 q g Fr N X fin=>?_;refine fK X.split fun pre post e1 hg q1 q2=>?_;rw [e1] at N;have hm:=N (aa,o) (List.mem_append_right _ (.head _));refine wpAny_dictSet_pairs (hsz:=cW (Nat.le_trans (Nat.le_of_eq r1.length) (Nat.le_trans q (by decide)))) (intKind_is _ _ i t) (Heap.dictOf_iff.mpr ⟨o,hm.1,hk⟩) fun h' PZ hs=>?_;refine aC (Heap.dictOf_iff.mp PZ) fun o' ho' hd'=>?_;exact ⟨m₁.trans (m₂.trans ⟨rfl,rfl,rfl⟩),φ₂,_,x₁.trans x₂,fin h' o' (Fr.change hs hm.2.1 hm.2.2) (hg o'▸N.setIn q1 q2 hs ho') ⟨_,hd',r1.store r2 (zC hk),Nat.le_trans (zB i vv es) (gD hlim)⟩,rfl⟩
end
section
variable {W:Wo} {C:Cx} {n:Nat} {D:Md} {A:Around} {env:Env} {ae:au} {φ ψ:List Addr} {s:St} {sh:Shared} {R:Rec} {h h':Heap}
theorem GF (h:pK it=true) (x:AH):freeze it x=some x∧kL it x=some x∧∀ l i,it≠ .enum l i:=by
 induction it with
 |range=>exact ⟨rfl,rfl,nofun⟩
 |lst=>exact ⟨rfl,rfl,nofun⟩
 |fh=>exact ⟨rfl,rfl,nofun⟩
 |_=>exact Bool.noConfusion h
theorem mark_none (A:Around):A.mark none=A:=by cases A;rfl
theorem fold_plain (h:lH e=false):foldedSetIterable e env x=pure x:=by
 induction e using PySem.Expr.casesOn with
 |Set=>exact Bool.noConfusion h
 |_=>rfl
theorem oG.next (h:codeAny (model W.prog W.w) A c (oG W D φ' aO s') aO) (x:Ext φ φ') (m:bu sh aO):codeAny (model W.prog W.w) A c (oG W D φ sh s') aO:=codeAny_mono h fun r s' z=>by
  rcases r with e|f
  ·exact z
  ·exact Res.next x m z
noncomputable def Az (env:Env) (e:PySem.Expr) (d:Nat) (aa:Addr) (g:Comprehension):Sem Unit:=eval g.iter env>>=fun x=>standAt g.iter.pos>>=fun _=>foldedSetIterable g.iter env x>>=fun x=>holding [x] (pyIter x)>>=fun i=>runOwn (.compStart e d i (.ref aa) env) env>>=fun _=>pure ()
theorem P0 (h:bB W C n R.ev) (hco:mh W C n R.co) (hq:lN e=true) (G:Good W n D A env ae φ) (Gl:aH W C D φ) (hh:A.handled=none) (ha:φ[a]?=some aa) (hg:(clausesOf e)[d+1]?=some g') (hc:yK C R e d a ae g' s=some s₂):WP W.prog W.w D A (Az env e (d+1) aa g') φ s (fun _ s'' (_:Unit)=>s''=s₂):=by
 refine eT hc fun hz hc=>aQ hc fun it₂ s₁ hi hc=>eT hc fun hp hc=>fun sh Rp=>?_;refine cP (GF hp s₁.hp) fun f1 f2 f3=>?_;refine wpAny_bind (wpAny_mono (wu h G Gl hi f1 f3 Rp (Q:=fun i aO=>wpAny (model W.prog W.w) A (runOwn (.compStart e (d+1) i (.ref aa) env) env>>=fun _=>pure ()) (Res W.prog W.w D φ sh (fun _ s'' (_:Unit)=>s''=s₂)) (fun _ _=>False) aO) (fun φ₁ I aO m₁ x₁ into=>?_)) (fun x aO z=>?_) fun _ _ z=>z)
 ·refine kI into fun D₁ io dz aD xi back _=>?_;refine wpAny_bind (wpAny_runOwn ?_);rw [mark_none];refine GD hq hg (dI.mp hz) ?_ fun Q E k=>GC xi aD.g6.1 k;refine codeAny_mono (hco ((G.mono x₁).pin dz) ((Gl.mono x₁).pin dz) hh xi (x₁ _ _ ha) hc aO aD) fun r aK z=>?_;rcases r with e|f
  ·exact z.elim
  ·obtain ⟨m₂,φ₂,s₂',x₂,aI,q⟩:=z;exact wpAny_pure ⟨m₁.trans m₂,φ₂,_,x₁.trans x₂,back φ₂ _ _ aI _ (GF hp _).2.1,q⟩
 ·refine wpAny_bind (wpAny_standAt ?_);rw [fold_plain (Ag hi)];exact wpAny_bind (wpAny_pure (wpAny_bind (wpAny_holding z)))
noncomputable def turnT (env:Env) (e:PySem.Expr) (d:Nat) (I aa:Addr) (g:Comprehension) (em:Sem Unit):Sem Fin:=standAt g.iter.pos>>=fun _=>pyNext (.ref I)>>=fun r=>match r with
 |none=>pure (.done .next)
 |some v=>letOwnedTupleGo g.target (.ref I) v>>=fun _=>PySem.assign g.target env v>>=fun _=>qM env g.ifs true>>=fun ok=>
  if ok=true then
   (match (clausesOf e)[d+1]? with
   |some g'=>eval g'.iter env>>=fun x=>standAt g'.iter.pos>>=fun _=>if (g'.is_async !=0)=true then (foldedIterable g'.iter x>>=fun x=>holding [x] (if (g'.is_async !=0)=true then asyncIter x else pyIter x)>>=fun i=>runOwn (.compStart e (d+1) i (.ref aa) env) env>>=fun _=>again (.compLoop e d (.ref I) (.ref aa) env)) else (foldedSetIterable g'.iter env x>>=fun x=>holding [x] (if (g'.is_async !=0)=true then asyncIter x else pyIter x)>>=fun i=>runOwn (.compStart e (d+1) i (.ref aa) env) env>>=fun _=>again (.compLoop e d (.ref I) (.ref aa) env))
   |none=>em>>=fun _=>again (.compLoop e d (.ref I) (.ref aa) env))
  else again (.compLoop e d (.ref I) (.ref aa) env)
noncomputable def wL (W:Wo) (D:Md) (A:Around) (φ:List Addr) (sh:Shared) (s':St):Fin→Shared→Prop:=fun fin s₁=>match fin with
 | .done f=>oG W D φ sh s' (.ok f) s₁
 | .again c'=>c'.quiet=true∧codeAny (model W.prog W.w) A c' (oG W D φ sh s') s₁
theorem GG (h:bB W C n R.ev) (ht:iX W C n R.tr) (hco:mh W C n R.co) (hq:lN e=true) (hcl:clauses e=clausesOf e) (P4:(Code.compLoop e d (.ref I) (.ref aa) env).quiet=true) (G:Good W n D A env ae φ) (Gl:aH W C D φ) (hh:A.handled=none) (x:gG W D φ it io) (ha:φ[a]?=some aa) (he:Dg C R e d it a ae g s=some s') (Rp:Rep W.prog W.w (D.hid (I,io)) φ s sh.heap) (hem:∀{D:Md} {φ:List Addr} {s s':St},Good W n D A env ae φ→aH W C D φ→φ[a]?=some aa→emit C R e a ae s=some s'→WP W.prog W.w D A em φ s (fun _ s'' (_:Unit)=>s''=s')):wpAny (model W.prog W.w) A (turnT env e d I aa g em) (wL W D A φ sh s') E sh:=by
 refine ah he fun r l7 he=>wpAny_bind (wpAny_standAt (wpAny_bind (Aa hh x Rp l7 (fun hr h' aD=>?_) fun w it' o' u h' tk hr x' aD ru=>?_)))
 ·rw [hr] at he;exact wpAny_pure ⟨⟨rfl,rfl,rfl⟩,φ,_,.refl _,aD,Option.some.inj he⟩
 ·rw [hr] at he;refine ah he fun s₁ hs he=>aQ he fun ok s₂ hif he=>ah he fun s₃ hb he=>?_;refine fU (t':=(letOwnedTupleGo g.target (.ref I) u>>=fun _=>PySem.assign g.target env u)>>=_) (bind_assoc _ _ _).symm (wpAny_bind ((Ad (I:=I) (o:=o') hh G Gl x' ru hs).kg (sh:={ sh with heap:=h',toks:=tk}) aD fun _ aO m₁ sV=>wpAny_bind ((PW ht G.hid Gl.hid hif).kR sV fun aK φ₂ m₂ x₂ aI=>?_)));have fin:∀{cU:List Addr} {d9:Shared},bu aK d9→Ext φ₂ cU→Rep W.prog W.w (D.hid (I,o')) cU s₃ d9.heap→wpAny (model W.prog W.w) A (again (.compLoop e d (.ref I) (.ref aa) env)) (wL W D A φ sh s') E d9:=fun m₃ x₃ bz=>wpAny_pure ⟨P4,oG.next (hco (G.mono (x₂.trans x₃)) (Gl.mono (x₂.trans x₃)) hh (x'.mono (x₂.trans x₃)) (x₃ _ _ (x₂ _ _ ha)) he _ bz) (x₂.trans x₃) (bu.trans (show bu sh aO from m₁) (m₂.trans m₃))⟩;cases ok with
  |false=>exact fin (.refl _) (.refl _) (Option.some.inj hb▸aI)
  |true=>
   show wpAny _ A (match (clausesOf e)[d+1]? with|some g'=>_|none=>_) _ _ _;refine bA hb (fun g' hg' hb=>?_) fun hg' hb=>?_
   ·rw [hcl] at hg';have hz':(g'.is_async !=0)=false:=by refine eT hb fun hz _=>?_;rw [dI.mp hz];rfl
    rw [hg'];dsimp only;rw [hz'];simp only [Bool.false_eq_true,if_false];refine fU (t':=Az env e (d+1) aa g'>>=fun _=>again (.compLoop e d (.ref I) (.ref aa) env)) (by unfold Az;simp only [bind_assoc,pure_bind]) ?_;exact wpAny_bind ((P0 h hco hq (G.hid.mono x₂) (Gl.hid.mono x₂) hh (x₂ _ _ ha) hg' hb).El aI fun _ d9 cU m₃ x₃ bz=>fin m₃ x₃ bz)
   ·rw [hcl] at hg';rw [hg'];exact wpAny_bind ((hem (G.hid.mono x₂) (Gl.hid.mono x₂) (x₂ _ _ ha) hb).El aI fun _ d9 cU m₃ x₃ bz=>fin m₃ x₃ bz)
theorem P5 (h:bB W C n R.ev) (ht:iX W C n R.tr) (hco:mh W C n R.co):mh W C n (pL C R):=by
 intro D A env ae φ s e d it a aa s' I io G Gl hh x ha he sh Rp;refine ah he fun g hg he=>eT he fun hz he=>?_;have GH:(g.is_async !=0)=false:=by rw [dI.mp hz];rfl
 refine codeAny_of_tree ?_;induction e using PySem.Expr.casesOn with
 |ListComp elt gens sc p=>
  have hg:gens[d]?=some g:=hg;show wpAny _ A ((compTurn (.ListComp elt gens sc p) d (.ref I) (.ref aa) env).onRaise (fun x=>do noteFrame x env;theTreesLotGoes x)) (wL W D A φ sh s') _ sh;refine wpAny_noted ?_;unfold compTurn;dsimp only;rw [hg];dsimp only;rw [GH];simp only [Bool.false_eq_true,if_false];exact GG h ht hco rfl rfl rfl G Gl hh x ha he Rp (em:=eval elt env>>=fun v=>call (.builtin "list.append") [.ref aa,v]>>=fun _=>pure ()) fun G Gl ha hm=>PX h G Gl ha hm
 |DictComp ke ve gens sc p=>
  have hg:gens[d]?=some g:=hg;show wpAny _ A ((compTurn (.DictComp ke ve gens sc p) d (.ref I) (.ref aa) env).onRaise (fun x=>do noteFrame x env;theTreesLotGoes x)) (wL W D A φ sh s') _ sh;refine wpAny_noted ?_;unfold compTurn;dsimp only;rw [hg];dsimp only;rw [GH];simp only [Bool.false_eq_true,if_false];exact GG h ht hco rfl rfl rfl G Gl hh x ha he Rp (em:=eval ke env>>=fun kv=>holding [kv] (eval ve env)>>=fun vv=>standAt { ke.pos with endLine:=ve.pos.endLine,endCol:=ve.pos.endCol}>>=fun _=>holding [kv,vv] (dictSet aa kv vv)) fun G Gl ha hm=>PY h G Gl ha hm
 |_=>exact e0 hg
end
inductive iZ (φ:List Addr):List (Str×Nat)→List (Str×Addr)→Prop
 |nil:iZ φ [] []
 |cons {x:Str} {c:Nat} {a:Addr} {l:List (Str×Nat)} {l':List (Str×Addr)}:φ[c]?=some a→iZ φ l l'→iZ φ ((x,c)::l) ((x,a)::l')
theorem iZ.mono (e:Ext φ ψ) (h:iZ φ l l'):iZ ψ l l':=by
 induction h with
 |nil=>exact .nil
 |cons a _ ih=>exact .cons (e _ _ a) ih
theorem iZ.look (h:iZ φ l l'):∀ x c,lk l x=some c→∃ a,l'.lookup x=some a∧φ[c]?=some a:=by
 induction h with
 |nil=>intro x c e;cases e
 |cons a _ ih=>
  rename_i y c₀ a₀ l l' _;intro x c e;have e:(match sE x y with|true=>some c₀|false=>lk l x)=some c:=e;rw [vJ] at e;rw [List.lookup_cons];cases q:(x==y) with
  |true=>rw [q] at e;cases e;exact ⟨_,rfl,a⟩
  |false=>rw [q] at e;exact ih x c e
section
variable {W:Wo} {C:Cx} {n:Nat} {D:Md} {A:Around} {env:Env} {ae:au} {φ ψ:List Addr} {s:St} {sh:Shared} {R:Rec} {h h':Heap}
theorem P6 (G:kh D env ae φ) (f:Str×NameKind→List (Str×Addr)→Sem (ForInStep (List (Str×Addr)))) (hf:∀ name kind cells,f (name,kind) cells=if kind==.free then (do let a ← cellOf env name;pure (.yield ((name,a)::cells))) else pure (.yield cells)):∀{acc r:List (Str×Nat)} {acc':List (Str×Addr)},mV ae names acc=some r→iZ φ acc acc'→∃ r',forIn names acc' f=pure r'∧iZ φ r r':=by
 induction names with
 |nil=>exact fun e q=>⟨_,List.forIn_nil,Option.some.inj e▸q⟩
 |cons p ns ih=>
  intro acc r acc' e q;obtain ⟨name,kind⟩:=p;rw [List.forIn_cons,hf];induction kind with
  |free=>
   refine eU e fun c hc e=>?_;refine aC (G.cells _ _ hc) fun a h1 h2=>?_;have:cellOf env name=pure a:=by unfold cellOf;rw [h1]
   rw [if_pos (by decide),this];simp only [pure_bind];exact ih e (.cons h2 q)
  |_=>
   rw [if_neg (by decide)];simp only [pure_bind];exact ih e q
theorem P7 (G:kh D env ae φ) (e:mV ae scope.names []=some cl):∃ sZ,closureFor scope env=pure sZ∧iZ φ cl sZ:=by refine aC (P6 G (fun (x:Str×NameKind) (s:List (Str×Addr))=>if (x.2==NameKind.free)=true then (cellOf env x.1>>=fun a=>pure (ForInStep.yield ((x.1,a)::s))) else pure (ForInStep.yield s)) (fun name kind cells=>rfl) e .nil) fun r' h1 h2=>?_;refine ⟨r',?_,h2⟩;show (forIn scope.names [] (fun (x:Str×NameKind) (s:List (Str×Addr))=>if (x.2==NameKind.free)=true then (cellOf env x.1>>=fun a=>pure (ForInStep.yield ((x.1,a)::s))) else pure (ForInStep.yield s))>>=fun s=>pure s)=pure r';rw [h1,pure_bind]
theorem P8 (k:Q (newEnv scope sh.heap.objs.size globals (cellsFrom (sh.heap.objs.size+1) scope.names cl) qual none .none (some env) builtinsNs) { sh with heap:=pushCells (sh.heap.push jv) scope.names}):
  wpAny (model W.prog W.w) A (newFunctionEnv scope globals cl [] qual none .none (some env)) Q E sh:=by
 simp only [newFunctionEnv,Option.isSome_some,if_true];refine wpAny_bind (wpAny_alloc ?_);refine wpAny_bind (wpAny_layCells _ (fun name kind cells=>by cases hkc:kind==NameKind.cell <;>simp [hkc]) _ _ _ _ ?_);rw [show ({ sh with heap:=sh.heap.push { cls:=.type "dict",data:=.dict #[]}}:Shared).heap.objs.size=sh.heap.objs.size+1 from Heap.size_push ..];refine wpAny_bind ?_;rw [List.forIn_nil];exact wpAny_pure (wpAny_pure k)
theorem P9:∀{φ:List Addr} {s:St} {h:Heap} {acc:List (Str×Nat)} {acc':List (Str×Addr)},Rep W.prog W.w D φ s h→iZ φ acc acc'→∃ φ',Ext φ φ'∧Rep W.prog W.w D φ' { s with hp:=s.hp++(cF names).map fun _=>.cell .none} (pushCells h names)∧iZ φ' (fD s.hp.length names acc).1 (cellsFrom h.objs.size names acc'):=by
 induction names with
 |nil=>exact fun Rp q=>⟨_,.refl _,(List.append_nil _).symm▸Rp,q⟩
 |cons p r ih=>
  intro φ s h acc acc' Rp q;obtain ⟨x,k⟩:=p;have aD:=Rp.kP (o:={ cls:=.type "cell",data:=.cell none}) (ao:=.cell .none) rfl;have hl:φ.length=s.hp.length:=by obtain ⟨_,_,_,Rw⟩:=Rp;exact Rw.br
  unfold cellsFrom pushCells;induction k with
  |cell=>
   rw [if_pos (by decide),if_pos (by decide)];refine aZ (ih (acc:=(x,s.hp.length)::acc) (acc':=(x,h.objs.size)::acc') aD (.cons (by rw [← hl];simp) (q.mono (Ext.app _ _)))) fun φ' x₁ aI c=>?_;refine ⟨φ',(Ext.app φ _).trans x₁,?_,?_⟩
   ·rw [show s.hp++(cF ((x,NameKind.cell)::r)).map (fun _=>AO.cell .none)=s.hp++[AO.cell .none]++(cF r).map (fun _=>AO.cell .none) from (List.append_assoc _ [_] _).symm];exact aI
   ·have e1:(s.hp++[AO.cell .none]).length=s.hp.length+1:=by simp
    have e2:(h.push { cls:=.type "cell",data:=.cell none}).objs.size=h.objs.size+1:=Heap.size_push ..;rw [e1,e2] at c;exact c
  |_=>
   rw [if_neg (by decide),if_neg (by decide)];exact ih Rp q
theorem Qa (G:kh D env ae φ) (scope:Scope):(relabel scope env).names=scope.names.map (jm ae):=by
 show scope.names.map _=_;refine List.map_congr_left fun p _=>?_;obtain ⟨x,k⟩:=p;show (if (k==.free&&env.scope.kind==.function&&env.kindOf x==some .cell) then (x,NameKind.cell) else (x,k))=jm ae (x,k);rw [G.kind,G.kindOf x];unfold jm kind;cases k with
 |free=>
  dsimp only;cases q:lk ae.names x with
  |none=>rfl
  |some k'=>cases k' <;>rfl
 |_=>rfl
theorem GI:plainNames l=true→∀ p∈l,p.1≠ "__debug__" ∧p.1≠ "__classdict__" :=by
 induction l with
 |nil=>exact fun _ p hp=>nomatch hp
 |cons q r ih=>
  intro h p hp;have h:(!sE q.1 "__debug__" && !sE q.1 "__classdict__" &&plainNames r)=true:=h;simp only [Bool.and_eq_true,Bool.not_eq_true'] at h;refine (List.mem_cons.mp hp).elim (fun z=>?_) fun hp=>ih h.2 p hp;rw [z];exact ⟨fun e=>by rw [e,iB] at h;exact (Bool.noConfusion h.1.1),fun e=>by rw [e,iB] at h;exact Bool.noConfusion h.1.2⟩
theorem qN:lk l x=some v→(x,v)∈l:=by
 induction l with
 |nil=>exact fun h=>e0 h
 |cons p r ih=>exact fun h=>lT (y:=p.1) (v:=p.2) h (fun q z=>by rw [dm.mp q,← z];exact .head _) fun h=>.tail _ (ih h)
theorem Qc (p:Str×NameKind):(jm ae p).1=p.1:=by
 unfold jm;split
 ·split <;>rfl
 ·rfl
theorem Qd {l:List (Str×NameKind)}:(l.map (·.1)).Nodup→∀ p∈l,l.lookup p.1=some p.2:=by
 induction l with
 |nil=>exact fun _ p hp=>nomatch hp
 |cons q r ih=>
  intro nd p hp;rw [List.map_cons,List.nodup_cons] at nd;rw [List.lookup_cons];refine (List.mem_cons.mp hp).elim (fun z=>by rw [z];simp) fun hp=>?_;have:(p.1==q.1)=false:=beq_eq_false_iff_ne.mpr fun e=>nd.1 (e▸List.mem_map_of_mem hp);rw [this];exact ih nd.2 p hp
theorem sY.cy (q:sY D D₂) (G:Cy W D A):Cy W D₂ A:=⟨q.g▸G.x,q.g▸G.t,by rw [q.L,q.fr];exact G.b⟩
theorem gG.same (q:D₂.pin=D.pin) (x:gG W D φ it o):gG W D₂ φ it o:=by
 induction it with
 |keys d i=>refine nR x fun a od kvs ep b c r=>?_;exact ⟨a,od,kvs,ep,b,q▸c,r⟩
 |vals d i=>refine nR x fun a od kvs ep b c r=>?_;exact ⟨a,od,kvs,ep,b,q▸c,r⟩
 |_=>exact x
theorem Qe (G:Good W n D A env ae φ) (G₁:Good W n D₁ A env ae ψ) (sf:sY D₁ D₂) (AA:D₂.lc=l) (hkind:scope.kind=.function) (hq:ae.quiet=true) (c4:plainNames scope.names=true) (cs:iZ φ₂ (fD (k+1) scope.names cl).1 (cellsFrom c scope.names sZ)):Good W n D₂ A { newEnv scope l env.globals (cellsFrom c scope.names sZ) env.qual none .none (some env) builtinsNs with scope:=relabel scope env} (compEnv ae scope.names cl k) φ₂:=⟨⟨hkind,Qa G.ev scope,AA.symm,G.ev.globals,G.ev.builtins,by show env.frame=some D₂.L;rw [sf.L];exact G₁.ev.frame,cs.look,fun x k hx=>by
   refine aC (List.mem_map.mp (qN hx)) fun p hp1 hp2=>?_;have e1:p.1=x:=by rw [← Qc (ae:=ae) p,hp2]
   exact e1▸GI c4 p hp1⟩,sf.cy G₁.cy,G.room,fun _=>G.quiet hq⟩
theorem Qf {scope:Scope} (h:(match scope.kind with| .function=>true|_=>false)=true):scope.kind=.function:=by cases hk:scope.kind <;>first|rfl|(rw [hk] at h;exact Bool.noConfusion h)
theorem wM (h:bB W C n R.ev) (hco:mh W C n R.co) {e:PySem.Expr} {gens:List Comprehension} {scope:Scope} {pos:Pos} {acc:AO} {newAcc:Sem Value} {use:Option (Value→Sem Unit)} {v:AV} {s':St} (G:Good W n D A env ae φ) (Gl:aH W C D φ) (hq:lN e=true) (hcl:clausesOf e=gens) (he:comp C R e gens scope acc ae s=some (v,s')) (hacc:∀(sh:Shared) (Q:Value→Shared→Prop) (E:Value→Shared→Prop),(∀ o:Obj,o.isFreed=false→(∀ φ,OR W.prog W.w φ acc o)→Q (.ref sh.heap.objs.size) { sh with heap:=sh.heap.push o})→wpAny (model W.prog W.w) A newAcc Q E sh)
  (Rp:Rep W.prog W.w D φ s sh.heap) {Q:Value→Shared→Prop} {E:Value→Shared→Prop}
  (k:∀ φ' u lc oc sh' fl,bu sh sh'→Ext φ φ'→Rep W.prog W.w (D.hid (lc,oc)) φ' s' sh'.heap→(∃ es ep,oc.data=.dict es ep∧StrKeys es)→VR φ' v u→compPost (model W.prog W.w) A E use Q u lc (.ok fl) sh'):
  wpAny (model W.prog W.w) A (comprehension e scope env pos newAcc (firstAsync gens) (firstIter gens env) use) Q E sh:=by
 rcases gens with _|⟨g,gs⟩
 ·exact e0 he
 refine eT he fun hc he=>aQ he fun it s₁ hi he=>eT he fun hne he=>ah he fun cl hcf he=>ah he fun hf fO he=>ah he fun s₂ hr he=>ah he fun wz qK he=>?_;have z:=pin he;rw [← z.1,← z.2] at k;simp only [Bool.and_eq_true,pJ] at hc;refine cP hc fun q1 q2 c5=>?_;refine aN q1 fun c1 c2=>?_;refine aN q2 fun c3 c4=>?_;have hz:g.is_async=0:=dI.mp c2;have hkind:=Qf c3;have hnd:=wC c5;have AB:firstAsync (g::gs)=false:=by refine hide fun _ kk=>?_;obtain ⟨a,b,c,d⟩:=g;refine kk ?_;rw [show d=0 from hz];rfl
 have Qg:firstIter (g::gs) env=eval g.iter env:=by cases g;rfl
 rw [AB,Qg];refine aC (P7 G.ev hcf) fun sZ k1 k2=>?_;refine wpAny_comprehension_free hcl (fun x=>fold_plain (Ag hi)) k1 hkind (fun x hx hl=>by rw [Qd hnd x hx,hl]) ?_;refine wu h G Gl hi fO (fun l i q=>by rw [q] at hne;exact Bool.noConfusion hne) Rp fun φ₁ I aO m₁ x₁ into=>?_;refine kI into fun D₁ io hp aD xi back Qh=>?_;refine hacc _ _ _ fun o hfo ho=>P8 ?_;have aI:=aD.kP (ho _) hfo;refine uJ aI.enter fun D₂ sf AA bz exit=>?_;refine aZ (P9 (names:=scope.names) bz (k2.mono (x₁.trans (Ext.app _ _)))) fun φ₂ x₂ iY cs=>?_;have hla:φ₁.length=hf.length:=by obtain ⟨_,_,_,Rw⟩:=aD;exact Rw.br
 have s6:(φ₁++[aO.heap.objs.size])[hf.length]?=some aO.heap.objs.size:=by rw [← hla];simp
 have hsz:((aO.heap.push o).push jv).objs.size=(aO.heap.push o).objs.size+1:=Heap.size_push ..;have hlen:(hf++[acc]).length=hf.length+1:=by simp
 simp only [hsz,hlen] at cs;have s7:=(Gl.mono x₁).pin hp;have AD:aH W C D₂ φ₂:=⟨((Gl.mono x₁).mono ((Ext.app _ _).trans x₂)).glob,by rw [s7.ro,sf.ro],fun q=>sf.fr▸s7.deep q⟩;have GJ:=xi.mono ((Ext.app _ _).trans x₂) |>.same sf.pin;refine GD hq (d:=0) (g:=g) (by rw [hcl];rfl) hz ?_ fun Q E k=>GC GJ iY.g6.1 k;refine codeAny_mono (hco (Qe G ((G.mono x₁).pin hp) sf AA hkind c1 c4 cs) AD (G.quiet c1) GJ (x₂ _ _ s6) hr _ iY) fun r aK z=>?_;rcases r with e|f
 ·exact z.elim
 ·obtain ⟨m₂,cU,s₃,x₃,oE,q⟩:=z;refine aC (exit cU _ _ (x₂.trans x₃) oE) fun oc qO od=>?_;exact k cU _ _ oc aK f (m₁.trans m₂) (x₁.trans ((Ext.app _ _).trans (x₂.trans x₃))) (Qh _ cU _ _ qO _ (q.symm▸qK)) od (.loc (x₃ _ _ (x₂ _ _ s6)))
end
section
variable {W:Wo} {C:Cx} {n:Nat} {D:Md} {A:Around} {env:Env} {ae:au} {φ ψ:List Addr} {s:St} {sh:Shared} {R:Rec} {h h':Heap}
theorem GK (hod:∃ es ep,oc.data=.dict es ep∧StrKeys es) (Rp:Rep W.prog W.w (D.hid (lc,oc)) ψ s sh.heap) (m:bu d7 sh) (x:Ext φ ψ) (p:P ψ s u):compPost (model W.prog W.w) A (fun _ _=>False) none (Res W.prog W.w D φ d7 P) u lc (.ok fl) sh:=by refine dB hod fun es ep h1 h2=>?_;refine ⟨nsFind es,⟨oc,es,ep,Rp.g6.1,h1,h2,fun _=>rfl⟩,fun h' hs=>?_⟩;exact ⟨m.trans ⟨rfl,rfl,rfl⟩,ψ,s,x,Rp.nB hs.extBut,p⟩
theorem GL (sh:Shared) (Q:Value→Shared→Prop) (E:Value→Shared→Prop) (k:∀ o:Obj,o.isFreed=false→(∀ φ,OR W.prog W.w φ (.list []) o)→Q (.ref sh.heap.objs.size) { sh with heap:=sh.heap.push o}):wpAny (model W.prog W.w) A (newList []) Q E sh:=wpAny_newList (k _ rfl fun φ=>OR.ofList (k:=0) .nil (by simp))
theorem GN (sh:Shared) (Q:Value→Shared→Prop) (E:Value→Shared→Prop) (k:∀ o:Obj,o.isFreed=false→(∀ φ,OR W.prog W.w φ (.dict [] 0) o)→Q (.ref sh.heap.objs.size) { sh with heap:=sh.heap.push o}):wpAny (model W.prog W.w) A newDict Q E sh:=by refine wpAny_newObj_type (k _ rfl fun φ=>?_);refine aC (Heap.dictOf_iff.mp (Heap.DictOf.new (knd:=intKind W.prog W.w) sh.heap)) fun o ho hdo=>?_;rw [Heap.get?_push_size _ rfl] at ho;obtain rfl:=Option.some.inj ho;exact ⟨[],hdo,.nil,by simp⟩
theorem Qi (h:bB W C n R.ev) (hco:mh W C n R.co):z7 W C n R:=by
 intro D A env ae φ s e v s' G Gl he sh Rp;induction e using PySem.Expr.casesOn with
 |ListComp elt gens sc p=>exact wM h hco G Gl rfl rfl he GL Rp fun φ' u lc oc sh' fl m x aD hod r=>GK hod aD m x ⟨rfl,r⟩
 |DictComp ke ve gens sc p=>exact wM h hco G Gl rfl rfl he GN Rp fun φ' u lc oc sh' fl m x aD hod r=>GK hod aD m x ⟨rfl,r⟩
 |_=>exact e0 he
theorem Qj (hn:n'≤n+1) (hR:R=step C R') (h:bB W C n' R'.ev) (hco:mh W C n' R'.co):qJ W C n R:=by
 intro D A env ae φ s e v s₁ s₂ x p G₀ Gl hc he hs sh Rp;have G:=G₀.less hn;rw [hR] at he;have fin:∀ φ' u lc oc (sh':Shared) fl,bu sh sh'→Ext φ φ'→Rep W.prog W.w (D.hid (lc,oc)) φ' s₁ sh'.heap→(∃ es ep,oc.data=.dict es ep∧StrKeys es)→VR φ' v u→compPost (model W.prog W.w) A (fun _ _=>False) (some fun v=>assignAll v [PySem.assign (.Name x p) env]) (fun (_:Value) s'=>Res W.prog W.w D φ sh (fun _ s'' (_:Unit)=>s''=s₂) () s') u lc (.ok fl) sh':=by intro φ' u lc oc sh' fl m x' aD hod r;refine dB hod fun es ep h1 h2=>?_;exact (sP (D:=D.hid (lc,oc)) (p:=p) (G.mono x').hid (Gl.mono x').hid r hs).kg aD fun _ aK m₂ aI=>⟨nsFind es,⟨oc,es,ep,aI.g6.1,h1,h2,fun _=>rfl⟩,fun h' hs=>⟨m.trans (m₂.trans ⟨rfl,rfl,rfl⟩),_,_,x',aI.nB hs.extBut,rfl⟩⟩
 induction e using PySem.Expr.casesOn with
 |ListComp elt gens sc p'=>exact wpAny_bind (wpAny_mono (wM (e:=.ListComp elt gens sc p') h hco G Gl rfl rfl he GL Rp fin) (fun _ _ z=>wpAny_pure z) fun _ _ z=>z)
 |DictComp ke ve gens sc p'=>exact wpAny_bind (wpAny_mono (wM (e:=.DictComp ke ve gens sc p') h hco G Gl rfl rfl he GN Rp fin) (fun _ _ z=>wpAny_pure z) fun _ _ z=>z)
 |SetComp=>exact e0 he
 |_=>exact Bool.noConfusion hc
end
section
variable {prog:Program} {w:World} {A:Around} {E:Value→Shared→Prop} {sh:Shared} {m it l:Addr} {i:Nat} {items:Array Value}
theorem Qk:checkBoundCall "list_iterator.__next__" ⟨[.ref it],[]⟩=pure ():=by first|kernel_rfl|rfl
theorem Ql:(Code.builtin "list_iterator.__next__" as).quiet=true:=Code.quiet_builtin _ (by decide+kernel)
theorem Qm (hm:sh.heap.get? m=some (lW "list_iterator.__next__" it [])) (tree:∀ A':Around,A'.handled=A.handled→wpAny (model prog w) A' (Builtin.«list_iterator.__next__» ⟨[.ref it],[]⟩) (fun fin s'=>match fin with| .done (.ret v)=>Q v s'|_=>False) E sh):
  wpAny (model prog w) A (call (.ref m) [] []) Q E sh:=by
 refine wpAny_call (codeAny_of_tree ?_);show wpAny _ A.in1 (callAny (.ref m) ⟨[],[]⟩) _ _ sh;show wpAny _ A.in1 (PySem.load m>>=_) _ _ sh;refine wpAny_bind (wpAny_load hm ?_);dsimp only;rw [if_pos (by decide)];refine wpAny_bind (wpAny_of_eq (a:=()) Qk ?_);refine wpAny_bind (wpAny_pure (wpAny_pure ?_));refine ⟨Ql,codeAny_builtin entry_listiter_next (wpAny_mono (tree _ rfl) (fun fin s' z=>?_) fun _ _ z=>z)⟩;cases fin with
 |done f=>
  cases f with
  |ret v=>exact z
  |_=>exact z.elim
 |again c=>exact z.elim
theorem Qn (hm:sh.heap.get? m=some (lW "list_iterator.__next__" it [])) (h:Q .machine sh):wpAny (model prog w) A (keeperOf (.ref m)) Q E sh:=by unfold keeperOf;refine wpAny_bind (wpAny_load hm ?_);dsimp only;rw [if_pos (by decide),if_pos (by decide)];exact wpAny_pure h
theorem Qo (hm:sh.heap.get? m=some (lW "list_iterator.__next__" it [])) (h:wpAny (model prog w) A (call (.ref m) [] []) Q E sh):wpAny (model prog w) A (callWith p (.ref m) [] (backTo p (starEach [] env)) []) Q E sh:=by
 unfold callWith;refine wpAny_bind (wpAny_holding ?_);have ev:∀{Q:Args→Shared→Prop},Q ⟨[],[]⟩ sh→wpAny (model prog w) A (evalArgs (.ref m) true (backTo p (starEach [] env)) []) Q E sh:=fun h=>by unfold evalArgs;show wpAny _ A (spliced []>>=_) _ E sh;refine wpAny_bind (wpAny_pure (wpAny_bind (wpAny_pure (wpAny_holding ?_))));exact wpAny_bind (wpAny_pure (wpAny_bind (wpAny_pure (wpAny_pure h))))
 refine ev ?_;refine wpAny_bind (wpAny_standAt ?_);refine wpAny_bind (Qn hm ?_);show wpAny _ A (call (.ref m) [] []>>=fun r=>holding [r] point>>=fun _=>pure r) _ _ sh;exact wpAny_bind (wpAny_mono h (fun r s' z=>wpAny_bind (wpAny_holding (wpAny_point (wpAny_pure z)))) fun _ _ z=>z)
theorem Qp (hit:sh.heap.get? it=some (kO l i)) (hl:sh.heap.IsList l items) (hx:items[i]?=some x) (hQ:∀ h',h'.get? it=some (kO l (i+1))→Heap.SameBut it sh.heap h'→Q (.done (.ret x)) { sh with heap:=h'}):
  wpAny (model prog w) A (Builtin.«list_iterator.__next__» ⟨[.ref it],[]⟩) Q E sh:=by
 refine rO hl fun ol oH _ nl hdl=>?_;show wpAny _ _ (field (.ref it) 0>>=_) _ _ sh;refine wpAny_bind (wpAny_field hit rfl (x:=.ref l) rfl ?_);show wpAny _ _ (if (Value.ref l==Value.none)=true then _ else _) _ _ sh;rw [if_neg (show ¬((Value.ref l==Value.none)=true) from Bool.false_ne_true)];show wpAny _ _ (field (.ref it) 1>>=_) _ _ sh;refine wpAny_bind (wpAny_field hit rfl (x:=.int i 0) rfl ?_);show wpAny _ _ (seqItems? (.ref l)>>=_) _ _ sh;refine wpAny_bind (wpAny_seqItems oH hdl ?_);simp only [Int.toNat_natCast,hx];refine wpAny_bind (wpAny_setField hit rfl (by simp) (wpAny_pure (hQ _ ?_ (Heap.SameBut.update ..))));have:=Heap.get?_update_self (Obj.mapFields (·.setIfInBounds 1 (rawInt (i+1)))) hit (Obj.isFreed_of_fields (Obj.data_mapFields (o:=kO l i) rfl _));refine this.trans ?_;rfl
structure GO (h h':Heap) (e:Addr):Prop where
 keep:∀ b o,h.get? b=some o→h'.get? b=some o
 new:h.get? e=none
 there:∃ oe vs a0,h'.get? e=some oe∧oe.cls=.type "StopIteration" ∧oe.data=.fields vs∧vs[1]?=some .none∧vs[0]?=some a0
theorem Qq (hh:A.handled=none) (hit:sh.heap.get? it=some (kO l i)) (hl:sh.heap.IsList l items) (hx:items[i]?=none) (hE:∀ h₁ h' e,Heap.SameBut it sh.heap h₁→(∃ o,h₁.get? it=some o)→GO h₁ h' e→E (.ref e) { sh with heap:=h'}):
  wpAny (model prog w) A (Builtin.«list_iterator.__next__» ⟨[.ref it],[]⟩) Q E sh:=by
 refine rO hl fun ol oH _ nl hdl=>?_;show wpAny _ _ (field (.ref it) 0>>=_) _ _ sh;refine wpAny_bind (wpAny_field hit rfl (x:=.ref l) rfl ?_);show wpAny _ _ (if (Value.ref l==Value.none)=true then _ else _) _ _ sh;rw [if_neg (show ¬((Value.ref l==Value.none)=true) from Bool.false_ne_true)];show wpAny _ _ (field (.ref it) 1>>=_) _ _ sh;refine wpAny_bind (wpAny_field hit rfl (x:=.int i 0) rfl ?_);show wpAny _ _ (seqItems? (.ref l)>>=_) _ _ sh;refine wpAny_bind (wpAny_seqItems oH hdl ?_);simp only [Int.toNat_natCast,hx];refine wpAny_bind (wpAny_rule (wpAny_bind (wpAny_setField hit rfl (by simp) ?_)));show wpAny _ _ (newExc (.type "StopIteration") []>>=_) _ _ _;refine wpAny_bind ?_;simp only [newExc,newTuple];refine wpAny_bind (wpAny_newObj_type ?_ (by size_fits));refine wpAny_bind (m:=firstArgMember _ _) (wpAny_of_eq (a:=Value.none) (by first|rfl|(simp only [firstArgMember];rfl)) ?_);refine wpAny_newObj_type ?_ (by size_fits);show wpAny _ _ (handled>>=_) _ _ _;refine wpAny_bind (wpAny_handled ?_);rw [hh];refine wpAny_bind (wpAny_pure (wpAny_throw ?_));refine hE _ _ _ (Heap.SameBut.update ..) ⟨_,Heap.get?_update_self _ hit (Obj.isFreed_of_fields (Obj.data_mapFields (o:=kO l i) rfl _))⟩ ⟨fun b o hb=>Heap.get?_push_of_some _ (Heap.get?_push_of_some _ hb),Heap.get?_none_of_le (by simp),_,_,_,Heap.get?_push_size _ rfl,rfl,rfl,(Array.getElem?_append_left (by simp)).trans rfl,(Array.getElem?_append_left (by simp)).trans rfl⟩
end
section
variable {W:Wo} {C:Cx} {n:Nat} {D:Md} {A:Around} {env:Env} {ae:au} {φ ψ:List Addr} {s:St} {sh:Shared} {R:Rec} {h h':Heap}
theorem Qs:(∀ p∈fr,∃ sl,h'.get? p.1=some { p.2 with slots:=sl})→∃ dg,c8 fr dg∧∀ q∈dg,h'.get? q.1=some q.2:=by
 induction fr with
 |nil=>exact fun _=>⟨[],.nil,fun q hq=>nomatch hq⟩
 |cons p r ih=>
  intro k;refine aJ (k p (.head _)) fun sl hs=>?_;refine aC (ih fun p hp=>k p (.tail _ hp)) fun dg f1 f2=>?_;exact ⟨(p.1,{ p.2 with slots:=sl})::dg,.cons f1,fun q hq=>(List.mem_cons.mp hq).elim (fun z=>z▸hs) (f2 q)⟩
theorem Rep.slots (Rp:Rep W.prog W.w D φ s h) (hk:∀ b o,h.get? b=some o→b≠D.L→b∉D.fr.map (·.1)→h'.get? b=some o) (hs:∀ b o,h.get? b=some o→(b=D.L∨b∈D.fr.map (·.1))→∃ sl,h'.get? b=some { o with slots:=sl}):Rep W.prog W.w D φ s h':=by
 obtain ⟨m,os,nl,Rw⟩:=Rp;refine bK (Lo.parts Rw.lo) fun X fr hnl hsl hlo=>?_;subst hnl;have had:=hsl.addrs;refine aC (Qs (fr:=fr) (h':=h') fun p hp=>hs p.1 p.2 (Rw.news p (List.mem_append_right _ (List.mem_append_right _ hp))).1 (.inr (by rw [← had];exact List.mem_map_of_mem hp))) fun dg f1 f2=>?_;have GP:=f1.addrs;have nd:=Rw.nd;have z1:((φ.zip os).drop D.ro).map (·.1)=φ.drop D.ro:=by rw [List.map_drop,List.map_fst_zip];rw [Rw.br,Rw.len];exact Nat.le_refl _
 have apart:∀ p∈(φ.zip os).drop D.ro++X,p.1∉D.fr.map (·.1):=fun p hp q=>by rw [← had] at q;rw [List.map_append,← List.append_assoc,List.nodup_append] at nd;refine nd.2.2 p.1 ?_ p.1 q rfl;rw [← z1,← List.map_append];exact List.mem_map_of_mem hp
 refine ⟨m,os,X++dg,⟨?_,fun b o e=>?_,Rw.fr.above⟩,?_,Rw.rd,Rw.len,Rw.br,Rw.c9,Rw.rel,Rw.pin,?_,hlo φ dg (.refl _) f1,Rw.big,Rw.cV⟩
 ·refine fZ Rw.fr.ns fun oL es ep hL r=>?_;refine aJ (hs _ _ hL (.inl rfl)) fun sl hs'=>?_;exact ⟨_,es,ep,hs',r⟩
 ·refine hk b o (Rw.fr.keep b o e) (fun q=>?_) fun q=>?_
  ·have:=Heap.get?_none_of_le Rw.fr.above;rw [← q,e] at this;cases this
  ·rw [← had] at q;refine aC (List.mem_map.mp q) fun p hp q1=>?_;subst q1;have:=(Rw.news p (List.mem_append_right _ (List.mem_append_right _ hp))).2.2;rw [e] at this;cases this
 ·intro p hp;rw [← List.append_assoc] at hp;rcases List.mem_append.mp hp with q|q
  ·have dz:p∈(φ.zip os).drop D.ro++(X++fr):=by rw [← List.append_assoc];exact List.mem_append_left _ q
   have P:=Rw.news p dz;exact ⟨hk _ _ P.1 P.2.1 (apart p q),P.2⟩
  ·have:p.1∈fr.map (·.1):=by rw [← GP];exact List.mem_map_of_mem q
   refine aC (List.mem_map.mp this) fun p0 hp0 e0=>?_;have P:=Rw.news p0 (List.mem_append_right _ (List.mem_append_right _ hp0));exact ⟨f2 p q,by rw [← e0];exact P.2.1,by rw [← e0];exact P.2.2⟩
 ·have:(X++dg).map (·.1)=(X++fr).map (·.1):=by rw [List.map_append,List.map_append,GP]
  rw [this];exact nd
theorem Qt:isSubtype (.type "StopIteration") (.type "BaseException")=pure true:=by rw [isSubtype_type];rfl
theorem Qu:isSubtype (.type ((Manifest.find? "StopIteration").elim "type" fun x=>x.metatype)) (.type "tuple")=pure false:=by rw [show ((Manifest.find? "StopIteration").elim "type" fun x=>x.metatype)= "type" from rfl,isSubtype_type];rfl
theorem Qv (e:vj C ae hn=true):kind ae hn=some .globalImplicit∧lk C.glob hn=some (.fix (.type "StopIteration")):=by refine aJ (Option.isSome_iff_exists.mp e) fun u hu=>?_;exact zm hu
theorem Qw (G:kh D env ae φ) (cy:Cy W D A) (Gl:aH W C D φ) (e:vj C ae hn=true) (Rp:Rep W.prog W.w D φ s sh.heap) (k:Q (.type "StopIteration") sh):wpAny (model W.prog W.w) A' (eval (.Name hn p) env) Q E sh:=by
 refine aN (Qv e) fun h1 h2=>?_;have hk:=G.kindOf hn;have hl:lk ae.names hn=some .globalImplicit:=h1;refine aC (Gl.glob hn _ h2) fun u v1 v2=>?_;obtain ⟨_,rfl⟩:=VR.inv v1;have fin:wpAny (model W.prog W.w) A' (loadGlobal env hn) Q E sh:=by
  have g:=cy.t.g.keeps Rp.keeps;rw [← G.globals] at g;rcases v2 with v2|⟨v2,v3⟩
  ·exact loadGlobal_global g v2 k
  ·have b:=cy.t.b.keeps Rp.keeps;rw [← G.builtins] at b;exact loadGlobal_builtin g v2 b v3 k
 refine wpAny_Name ?_ (by simpa using (G.ok _ _ hl).1);unfold loadName;simp only [Env.blockKind,G.kind,hk.trans hl,ScopeKind.isAnnotationScope,Bool.false_and,Bool.false_eq_true,if_false];exact fin
theorem AE:∀{outer:List Env},(∀ env∈outer,env.scope.kind≠ .module∧∃ L o,env.frame=some L∧base.get? L=none∧h.get? L=some o∧∀ vs,o.data≠ .fields vs)→h.FunFrames base outer
 |[],_=>trivial
 |env::r,k=>⟨(k env (.head _)).1,(k env (.head _)).2,AE fun e he=>k e (.tail _ he)⟩
theorem Qx (cy:Cy W D A) (G:kh D env ae φ) (Gl:aH W C D φ) (Rp:Rep W.prog W.w D φ s sh.heap) (x:GO sh.heap h₁ e) (hst:vj C ae hn=true) (k:∀ h₂,Rep W.prog W.w D φ s h₂→wpAny (model W.prog W.w) (A.mark (some (.ref e))) (execs (b₀::hb) env) Q (fun _ _=>False) { sh with heap:=h₂,toks:=tk}):
  wpAny (model W.prog W.w) A (noteFrame (.ref e) env) (fun _ s₂=>wpAny (model W.prog W.w) A (setFlight (.ref e) none) (fun _ s₃=>wpAny (model W.prog W.w) A (handleBy (.ref e) env [.ExceptHandler (some (.Name hn hp)) none (b₀::hb) ep]) Q E s₃) E s₂) E { sh with heap:=h₁,toks:=tk}:=by
 refine fK cy.b fun outer bW hA hf hkd hfr=>?_;have Qy:noteFrame (.ref e) env=noteFrame (.ref e) bW:=by unfold noteFrame PySem.frameOf;rw [G.frame,hf]
 rw [Qy];obtain ⟨base,hbase⟩:∃ base,base=hideAll sh.heap (D.L::D.fr.map (·.1)):=⟨_,rfl⟩;have hb0:∀ b o,base.get? b=some o→sh.heap.get? b=some o:=fun b o q=>by rw [hbase] at q;exact of_hideAll _ q
 have AF:base.StaysIn h₁:=fun b o q=>x.keep b o (hb0 b o q);have hen:base.get? e=none:=by
  cases q:base.get? e with
  |none=>rfl
  |some o=>have:=hb0 _ _ q;rw [x.new] at this;cases this
 have hfun:h₁.FunFrames base (bW::outer):=by
  obtain ⟨m,os,nl,Rw⟩:=Rp;refine bK (Lo.parts Rw.lo) fun X fr hnl hsl hlo=>?_;subst hnl;refine AE fun env' he=>?_;rcases List.mem_cons.mp he with rfl|he
  ·refine pB Rw.fr.ns fun oL es ep hL hd _=>?_;exact ⟨by rw [hkd];simp,D.L,oL,hf,by rw [hbase];exact hideAll_none _ (.head _),x.keep _ _ hL,fun vs q=>by rw [hd] at q;cases q⟩
  ·refine yq (hfr.2 env' he) fun k1 a o es ep k2 k3 k4=>?_;refine aJ (hsl.mem k3) fun sl k5=>?_;exact ⟨k1,a,_,k2,by rw [hbase];exact hideAll_none _ (.tail _ (List.mem_map_of_mem (f:=Prod.fst) k3)),x.keep _ _ (Rw.news _ (List.mem_append_right _ (List.mem_append_right _ k5))).1,fun vs q=>by have q:o.data=.fields vs:=q;rw [k4] at q;cases q⟩
 have back:∀ h₂,base.StaysIn h₂→h₁.UpToSlots h₂→Rep W.prog W.w D φ s h₂:=fun h₂ k1 k2=>by
  refine Rp.slots (fun b o hb h1 h2=>k1 b o ?_) fun b o hb hor=>?_
  ·rw [hbase];refine hideAll_get _ hb fun q=>?_;rcases List.mem_cons.mp q with q|q
   ·exact h1 q
   ·exact h2 q
  ·refine k2 b o (x.keep b o hb) fun vs q=>?_;have wK:=hfun;obtain ⟨m,os,nl,Rw⟩:=Rp;refine bK (Lo.parts Rw.lo) fun X fr hnl hsl hlo=>?_;subst hnl;rcases hor with rfl|hor
   ·refine pB Rw.fr.ns fun oL es ep hL hd _=>?_;rw [hb] at hL;cases hL;rw [hd] at q;cases q
   ·rw [← hsl.addrs] at hor;refine aC (List.mem_map.mp hor) fun p hp q1=>?_;subst q1;have P:=(Rw.news p (List.mem_append_right _ (List.mem_append_right _ hp))).1;rw [hb] at P;cases P;refine aZ (hsl.mem' hp) fun p0 p1 _ p3=>?_;refine mQ (hfr.1 p0 p1) fun _ es ep p4=>?_;rw [p3,p4] at q;cases q
 refine mS x.there fun oe vs a0 he hcls hd h1 h0=>?_;unfold noteFrame;simp only [hf];refine wpAny_bind (wpAny_field he hd h1 ?_);rw [if_neg (by decide)];refine wpAny_entryW hA hfun hf he AF hen hd (Array.getElem?_eq_some_iff.mp h1).1 h0 fun h₂ hN=>?_;refine nQ hN fun k1 k2 k3 k4=>?_;have u1:h₁.UpToSlots h₂:=k4;refine wpAny_landsW (base:=base) (l:=bW::outer) ⟨k1,hen,k2,k3⟩ fun h₃ hfl u2=>?_;rw [hcls] at hfl;have bz:=back h₃ hfl.1 (u1.trans u2);refine wpAny_handleBy_builtin (X:= "StopIteration") (T:= "StopIteration") (b:=true) Qt Qu isSubtype_stop (Qw G cy Gl hst bz ⟨rfl,hfl.there,?_⟩);rw [if_pos rfl];refine wpAny_setFlight_noneW hfl.1 hfl.2.2.1 hfl.2.2.2.at fun h₄ l1 l2 l3 l4=>?_;exact kQ (k h₄ (back h₄ l1 ((u1.trans u2).trans fun b o hb hn=>⟨o.slots,l4 b o hb hn⟩))) fun _ _ z=>z
theorem Rep.upd (Gl:aH W C D φ) (Rp:Rep W.prog W.w D φ s h) (ro:C.ro≤l) (hv:s.hp[l]?=some ao) (ha:φ[l]?=some la) (hp:∀ es k,ao≠ .dict es (k+1)) (hs:Heap.SameBut la h h') (ho:h'.get? la=some o') (hor:OR W.prog W.w φ j9 o'):Rep W.prog W.w D φ { s with hp:=s.hp.set l j9} h':=by refine lA (Rp.open (Gl.ro▸ro) hv ha hp) fun m os nl o _ g R X=>?_;refine fK X.qh.split fun pre post e1 hg q1 q2=>?_;have N:=R.news;rw [e1] at N;have hm:=N (la,o) (List.mem_append_right _ (.head _));exact ⟨m,_,nl,X.fin _ o' j9 (R.fr.change hs hm.2.1 hm.2.2) (hg o'▸N.setIn q1 q2 hs ho) hor⟩
theorem GQ (G:Good W n D A env ae φ):Good W n D (A.mark (some e)) env { ae with quiet:=false} φ:=⟨⟨G.ev.kind,G.ev.names,G.ev.locals,G.ev.globals,G.ev.builtins,G.ev.frame,G.ev.cells,G.ev.ok⟩,⟨G.cy.x,G.cy.t,G.cy.b⟩,⟨G.room.depth,G.room.units⟩,fun q=>by cases q⟩
theorem Qz (h:DI e=some f):∃ co ci sp p,f=.Subscript co ci sp∧e=.Call f [] [] p:=by refine ah h fun p hp h=>eT h fun hz h=>ah h fun x hx h=>aJ (vD hx) fun q e=>?_;obtain rfl:=Option.some.inj h;refine ⟨x.1,x.2,q,p.2.2.2,e,?_⟩;rw [zl hp,nil_eq ((Bool.and_eq_true ..).mp hz).1,nil_eq ((Bool.and_eq_true ..).mp hz).2]
theorem QA {st:Stmt} {x:Str} {f:PySem.Expr} (h:DK st=some (x,f)):∃ np co ci sp p q,f=.Subscript co ci sp∧st=.Assign [.Name x np] (.Call f [] [] p) q:=by refine aQ h fun ts v ha h=>ah h fun t ht h=>aQ h fun y np hy h=>ah h fun g hg h=>?_;refine yp (Qz hg) fun co ci sp p e1 e2=>?_;refine aJ (dF ha fun z=>PySem.Stmt.Assign.elim (motive_2:=fun e=>∀ z:e.ctorIdx=5,PySem.Stmt.Assign.elim (motive_2:=fun _=>Option (List PySem.Expr×PySem.Expr)) e z (fun ts v _=>some (ts,v))=some (ts,v)→∃ q,e=.Assign ts v q) st z (fun a b p _ h=>⟨p,by rw [(pin h).1,(pin h).2]⟩) z) fun q e=>?_;exact ⟨np,co,ci,sp,p,q,(pin h).2▸e1,by rw [e,one_eq ht,gU hy,e2,(pin h).1,(pin h).2]⟩
theorem QB {b:List Stmt} {x:Str} {f:PySem.Expr} (h:yY b=some (x,f)):∃ np co ci sp p q bp,f=.Subscript co ci sp∧b=[.Assign [.Name x np] (.Call f [] [] p) q,.Break bp]:=by refine aQ h fun y z hy h=>eT h fun hz h=>?_;refine Kp (QA h) fun np co ci sp p q e1 e2=>?_;exact PySem.Stmt.Break.elim (motive_2:=fun z=>two b=some (y,z)→_) z (Nat.eq_of_beq_eq_true hz) (fun bp hy=>⟨np,co,ci,sp,p,q,bp,e1,by rw [Ea hy,e2]⟩) hy
theorem QC {h:ExceptHandler} {hx:Option Str} {hb:List Stmt} (e:DL h=some (hx,hb)):∃ t b r ep,hb=b::r∧vm t=some hx∧h=.ExceptHandler t none hb ep:=by
 obtain ⟨t,nm,bd,ep⟩:=h;rcases nm with _|nm
 ·rcases bd with _|⟨b,r⟩
  ·exact e0 e
  ·exact ah (x:=vm t) (F:=fun x=>some (x,b::r)) e fun x hx e=>⟨t,b,r,ep,(pin e).2.symm,(pin e).1▸hx,by rw [(pin e).2]⟩
 ·exact e0 e
theorem QD (h:bB W C n R.ev) (hx:gF W C n R.ex) (G:Good W n D A env ae φ) (Gl:aH W C D φ) (e1:f=.Subscript co ci sp) (e2:b=[.Assign [.Name x np] (.Call f [] [] cp) ap,.Break bp]) (e3:hs=[.ExceptHandler (some (.Name hn hpos)) none (b₀::hb) ep]) (he:yZ C R hn (b₀::hb) x f ae s=some (v,s')):WP W.prog W.w D A (exec (.Try b hs [] [] p) env) φ s (cY s' v):=by
 refine eT he fun hc he=>Ef he fun m s₁ hev he=>L0 he fun l hm he=>Ed he fun xs i hl he=>ah he fun vs hvs he=>?_;rw [Bool.and_eq_true] at hc;intro sh Rp;rw [e2,e3];refine wpAny_Try_except (fU (execs_cons ..) (wpAny_bind (wpAny_Assign_stores (fU (t':=eval f env>>=fun g=>callWith cp g [] (backTo cp (starEach [] env)) []) (by rw [e1];rfl) (wpAny_bind ?_)) rfl rfl)));refine (h G Gl hev).vP Rp fun ma aO φ₁ m₁ x₁ aD hma=>?_;refine aC (aD.at hm hma) fun om q1 gm=>?_;refine aC q1 fun la ha q2=>?_;subst q2;refine aC (aD.at hl ha) fun ol q1 gl=>?_;refine aC q1 fun xa hxa q2=>?_;subst q2;refine aC (aD.at (Ma hvs) hxa) fun ox q1 gx=>?_;refine bK q1 fun us kk q2 r1 Z7=>?_;subst q2;refine Qo gm (Qm gm fun A' gk=>?_);refine bA he (fun w hw he=>ah he fun h₂ hs he=>ah he fun s₃ hst wN=>?_) fun hw he=>ah he fun h₂ hs wN=>?_
 ·refine aC (r1.get hw) fun u hu hr=>?_;refine cP (lX hs) fun ro q1 _=>?_;subst q1;refine Qp gl (cQ gx) (by simpa using hu) fun h' hi hs'=>?_;have aI:=aD.upd (Gl.mono x₁) ro hl ha (fun es k q=>by cases q) hs' hi (j9:=.jG xs (i+1)) ⟨xa,hxa,rfl⟩;refine (sP (p:=np) (G.mono x₁) (Gl.mono x₁) hr hst).kg (sh:={ aO with heap:=h'}) aI fun _ d9 m₃ bz=>?_;refine fU (execs_cons ..) (wpAny_bind (fU (t':=standAt bp>>=fun _=>pure Flow.brk) rfl (wpAny_bind (wpAny_standAt (wpAny_pure (wpAny_pure ?_))))));exact ⟨m₁.trans (bu.trans ⟨rfl,rfl,rfl⟩ m₃),_,_,x₁,bz,(pin wN).2,(pin wN).1▸ .brk⟩
 ·refine cP (lX hs) fun ro q1 _=>?_;subst q1;refine Qq (gk.trans (G.quiet hc.1)) gl (cQ gx) (by have:=r1.get_none hw;simpa using this) fun h' h'' e hs' hex hxc=>?_;refine aJ hex fun o' ho'=>?_;have aI:=aD.upd (Gl.mono x₁) ro hl ha (fun es k q=>by cases q) hs' ho' (j9:=.dead) True.intro;refine Qx (sh:={ aO with heap:=h'}) (tk:=aO.toks) G.cy (G.ev.mono x₁) (Gl.mono x₁) aI hxc hc.2 fun h₂ bz=>?_;exact (hx (GQ (G.mono x₁)) (Gl.mono x₁) wN).use (sh:={ aO with heap:=h₂,toks:=aO.toks}) bz fun f d9 cU s₄ m₃ x₃ iY q=>⟨m₁.trans (bu.trans ⟨rfl,rfl,rfl⟩ m₃),_,_,x₁.trans x₃,iY,q⟩
theorem QE (h:DM e=some g):g=e:=by exact ah h fun p _ h=>eT h fun _ h=>ah h fun _ _ h=>(Option.some.inj h).symm
theorem QF (b:List Stmt) (h:DO R b ae s=some (v,s')):∃ e p,b=[.Return (some e) p]∧yV R e ae s=some (v,s'):=by refine ah h fun st hs h1=>ah h1 fun e he h2=>?_;refine ah he fun o ho he=>ah he fun g hg he=>?_;refine aJ (dF ho fun z=>PySem.Stmt.Return.elim (motive_2:=fun e=>∀ z:e.ctorIdx=3,PySem.Stmt.Return.elim (motive_2:=fun _=>Option (Option PySem.Expr)) e z (fun e _=>some e)=some o→∃ p,e=.Return o p) st z (fun a p _ h=>⟨p,Option.some.inj h▸rfl⟩) z) fun p hr=>?_;exact ⟨e,p,by rw [one_eq hs,hr,hg,QE he],h2⟩
theorem QG (h:vm t=some hx):(hx=none∧t=none)∨∃ x p,hx=some x∧t=some (.Name x p):=by
 rcases t with _|e
 ·exact .inl ⟨(Option.some.inj h).symm,rfl⟩
 ·exact aQ (x:=asName e) (F:=fun x _=>some (some x)) h fun x p he h=>.inr ⟨x,p,(Option.some.inj h).symm,by rw [gU he]⟩
theorem GR (h:bB W C n R.ev) (hx:gF W C n R.ex) {st:Stmt} (Ai:Ge st=true):S1 W C (n+1) (cG C R) st:=by
 intro D A env ae φ s v s' G₀ Gl he;have G:=G₀.less (Nat.le_succ n);induction st using PySem.Stmt.casesOn with
 |Try b hs o f p=>
  refine eT he fun hof he=>ah he fun hd hh he=>aQ he fun hxn hb h1 he=>?_;rw [Bool.and_eq_true,List.isEmpty_iff,List.isEmpty_iff] at hof;rw [hof.1,hof.2];refine nR (QC h1) fun t b₀ r ep e3 e4 e5=>?_;rw [e3] at e5 he;rcases QG e4 with ⟨q1,q2⟩|⟨x,hp,q1,q2⟩
  ·rw [q1] at he;refine dB (QF b he) fun e rp e6 he=>?_;refine eV he fun w s₁ hev he=>gi he fun sh Rp=>?_;rw [e6,one_eq hh,e5,q2];exact wpAny_Try_except (fU (execs_cons ..) (wpAny_bind (wpAny_Return_some ((h G Gl hev).iD Rp fun u aO φ₁ m₁ x₁ aD r1=>wpAny_pure ⟨m₁,φ₁,_,x₁,aD,rfl,.ret r1⟩))))
  ·rw [q1] at he;refine aQ (show aV (yY b) (fun y f=>yZ C R x (b₀::r) y f ae s)=_ from he) fun y f h2 he=>?_;refine Kr (QB h2) fun np co ci sp p' q bp k1 k2=>?_;rw [q2] at e5;exact QD h hx G Gl k1 k2 ((one_eq hh).trans (congrArg (fun z=>[z]) e5)) he
 |_=>exact Bool.noConfusion Ai
end
end EV
namespace EV
open PySem PySem.W PySem.Calls PyProof.Rows
open AutoSeq1 (wpAny_loadPart')
noncomputable abbrev mq (it:Addr) (i:Int) (old:Value):Obj:={ cls:=.type "enumerate",dict:=none,data:=.fields #[.none,.bool false,.ref it,rawInt i,.none,old],slots:= #[]}
noncomputable abbrev kZ (l:Addr) (i:Nat):Obj:={ cls:=.type "tuple_iterator",data:=.fields #[.ref l,.int i 0]}
theorem QH {prog:Program} {w:World} {A:Around} {α:Type} {Q:α→Shared→Prop} {E:Value→Shared→Prop} {s:Shared} {a:α} (h:∀ b,Q b s):wpAny (model prog w) A (pure a) Q E s:=wpAny_pure (h a)
theorem QI (l:Addr) (items:Array Value) (n:Nat) (dct:Option Addr) (sl:Array (Option Value)):Meets (Builtin.«enumerate.__new__» ⟨[.type "enumerate",.ref l],[]⟩) (fun _ R s=>s.heap.get? l=some { cls:=.type "tuple",dict:=dct,data:=.seq items n,slots:=sl}∧R (.ok (.ret (.ref (s.heap.push (kZ l 0)).objs.size))) { s with heap:=(s.heap.push (kZ l 0)).push (mq s.heap.objs.size 0 .none)}):=.of_wp fun prog w A R s h=>by
  obtain ⟨hp,g,d,tk,os⟩:=s;refine aN h fun hl h=>?_;have hsub:=sub_enumerate;have hL:Heap.IsTuple (Shared.heap ⟨hp,g,d,tk,os⟩) l items:=⟨_,hl,rfl,n,rfl⟩
  wp_walk using wpAny_loadPart' hl
  refine wpAny_stack_any fun st=>QH fun b=>?_;cases b <;>(wp_walk using wpAny_loadPart' hl,wpAny_pyIter_tuple hL;exact ⟨_,rfl,h⟩)
section
variable {prog:Program} {w:World} {A:Around} {E:Value→Shared→Prop} {s:Shared}
theorem GS (hL:s.heap.IsTuple l items) (h:Q (.ref (s.heap.objs.size+1)) { s with heap:=(s.heap.push (kZ l 0)).push (mq s.heap.objs.size 0 .none)}):
  wpAny (model prog w) A (call (.type "enumerate") [.ref l]) Q E s:=by
 refine rO hL fun q1 hl hc n hd=>?_;obtain ⟨c,dct,dt,sl⟩:=q1;replace hc:c=.type "tuple" :=hc;replace hd:dt=.seq items n:=hd;subst hc hd;refine callType_new F.called_enumerate (by decide) (F.typeCall_enumerate_1 _) (F.newCall_enumerate_1 _) (fun obj=>F.args_object_init_2 obj _) F.entry_enumerate_new
  (QI l items n dct sl) ⟨hl,?_⟩
 have hz:(s.heap.push (kZ l 0)).objs.size=s.heap.objs.size+1:=Heap.size_push ..;show _∧_;rw [hz];have:=Heap.get?_push_size (s.heap.push (kZ l 0)) (o:=mq s.heap.objs.size 0 .none) rfl;rw [hz] at this;exact ⟨⟨_,this,rfl⟩,h⟩
theorem QJ {items} (hit:s.heap.IsTupleIter it l i) (hl:s.heap.IsTuple l items) (hx:items[i]?=some x) (hQ:∀ h',h'.IsTupleIter it l (i+1)→Heap.SameBut it s.heap h'→Q x { s with heap:=h'}):
  wpAny (model prog w) A (Builtin.SmallTypes.nextOf (.ref it)) Q E s:=by
 refine aZ (id hit) fun o ho hc hd=>?_;refine rO hl fun ol oH _ nl hdl=>?_;unfold Builtin.SmallTypes.nextOf;refine wpAny_bind (wpAny_callSpecial?_slot (name:=Str.ofString "__next__") hit.typeIs F.slot_tuple_iterator_next (wpAny_call_entry F.slot_tuple_iterator_next hit.typeIs F.entry_tuple_iterator_next ?_ (F.args_tuple_iterator_next_1 _)));show wpAny _ _ (field (.ref it) 0>>=_) _ _ s;refine wpAny_bind (wpAny_field ho hd (x:=.ref l) rfl ?_);show wpAny _ _ (if (Value.ref l==Value.none)=true then _ else _) _ _ s;rw [if_neg (show ¬((Value.ref l==Value.none)=true) from Bool.false_ne_true)];show wpAny _ _ (field (.ref it) 1>>=_) _ _ s;refine wpAny_bind (wpAny_field ho hd (x:=.int i 0) rfl ?_);show wpAny _ _ (seqItems? (.ref l)>>=_) _ _ s;refine wpAny_bind (wpAny_seqItems oH hdl ?_);simp only [Int.toNat_natCast,hx];refine wpAny_bind (wpAny_setField ho hd (by simp) (wpAny_pure ⟨x,rfl,wpAny_pure (hQ _ ?_ (Heap.SameBut.update ..))⟩));exact ⟨_,Heap.get?_update_self _ ho (Obj.isFreed_of_fields (Obj.data_mapFields hd _)),(Obj.cls_mapFields ..).trans hc,by rw [Obj.data_mapFields hd];simp [rawInt]⟩
theorem QK {items} (hh:A.handled=none) (hit:s.heap.IsTupleIter it l i) (hl:s.heap.IsTuple l items) (hx:items[i]?=none) (hE:∀ h' e,Heap.ExtBut it s.heap h'→(∃ o,h'.get? e=some o∧o.cls=.type "StopIteration")→E (.ref e) { s with heap:=h'}):
  wpAny (model prog w) A (Builtin.SmallTypes.nextOf (.ref it)) Q E s:=by
 refine aZ (id hit) fun o ho hc hd=>?_;refine rO hl fun ol oH _ nl hdl=>?_;unfold Builtin.SmallTypes.nextOf;refine wpAny_bind (wpAny_callSpecial?_slot (name:=Str.ofString "__next__") hit.typeIs F.slot_tuple_iterator_next (wpAny_call_entry F.slot_tuple_iterator_next hit.typeIs F.entry_tuple_iterator_next ?_ (F.args_tuple_iterator_next_1 _)));show wpAny _ _ (field (.ref it) 0>>=_) _ _ s;refine wpAny_bind (wpAny_field ho hd (x:=.ref l) rfl ?_);show wpAny _ _ (if (Value.ref l==Value.none)=true then _ else _) _ _ s;rw [if_neg (show ¬((Value.ref l==Value.none)=true) from Bool.false_ne_true)];show wpAny _ _ (field (.ref it) 1>>=_) _ _ s;refine wpAny_bind (wpAny_field ho hd (x:=.int i 0) rfl ?_);show wpAny _ _ (seqItems? (.ref l)>>=_) _ _ s;refine wpAny_bind (wpAny_seqItems oH hdl ?_);simp only [Int.toNat_natCast,hx];refine wpAny_bind (wpAny_rule (wpAny_bind (wpAny_setField ho hd (by simp) ?_)));show wpAny _ _ (newExc (.type "StopIteration") []>>=_) _ _ _;refine wpAny_bind ?_;simp only [newExc,newTuple];refine wpAny_bind (wpAny_newObj_type ?_ (by size_fits));refine wpAny_bind (m:=firstArgMember _ _) (wpAny_of_eq (a:=Value.none) (by first|rfl|(simp only [firstArgMember];rfl)) ?_);refine wpAny_newObj_type ?_ (by size_fits);show wpAny _ _ (handled>>=_) _ _ _;refine wpAny_bind (wpAny_handled ?_);first|rw [show A.in1.handled=none from hh]|rw [hh]
 refine wpAny_bind (wpAny_pure (wpAny_throw ?_));exact hE _ _ (((Heap.SameBut.update ..).extBut.push _).push _) ⟨_,Heap.get?_push_size _ rfl,rfl⟩
theorem QL {e it l:Addr} {i:Nat} {items:Array Value} {x old:Value} {Q:Value→Shared→Prop} (he:IsEnum s.heap e it i old) (hit:s.heap.IsTupleIter it l i) (hl:s.heap.IsTuple l items) (hx:items[i]?=some x) (hne:e≠it) (hQ:∀ h',IsEnumOut h' e it ((i:Int)+1) x s.heap.objs.size→h'.IsTupleIter it l (i+1)→h'.get? s.heap.objs.size=some { cls:=.type "tuple",data:=.seq #[.int i s.toks,x]}→(∀ b o,b≠e→b≠it→s.heap.get? b=some o→h'.get? b=some o)→Q (.ref s.heap.objs.size) { s with heap:=h',toks:=s.toks+1}):
  wpAny (model prog w) A (Builtin.«enumerate.__next__» ⟨[.ref e],[]⟩) (fun fin s'=>∃ v,fin=.done (.ret v)∧Q v s') E s:=by
 obtain ⟨hp,g,d,tk,os⟩:=s;show wpAny _ _ (field (.ref e) 2>>=_) _ _ _;refine wpAny_bind (wpAny_field he rfl (x:=.ref it) rfl ?_);refine wpAny_bind (QJ hit hl hx fun h₁ GU hs₁=>?_);replace hs₁:Heap.SameBut it hp h₁:=hs₁;have wO:IsEnum h₁ e it i old:=(hs₁.2 e hne).trans he;show wpAny _ _ (field (.ref e) 3>>=_) _ _ ⟨h₁,g,d,tk,os⟩;refine wpAny_bind (wpAny_field wO rfl (x:=rawInt i) rfl ?_);show wpAny _ _ (field (.ref e) 4>>=_) _ _ ⟨h₁,g,d,tk,os⟩;refine wpAny_bind (wpAny_field wO rfl (x:=.none) rfl ?_);show wpAny _ _ (mkInt i>>=_) _ _ ⟨h₁,g,d,tk,os⟩;refine wpAny_bind (wpAny_mkInt ?_);show wpAny _ _ (setField (.ref e) 3 (rawInt ((i:Int)+1))>>=_) _ _ ⟨h₁,g,d,tk+1,os⟩;refine wpAny_bind (wpAny_setField_rec wO (by simp) fun h₂ wQ hs₂=>?_);replace hs₂:Heap.SameBut e h₁ h₂:=hs₂;replace wQ:IsEnum h₂ e it ((i:Int)+1) old:=wQ;show wpAny _ _ (setField (.ref e) 4 .none>>=_) _ _ ⟨h₂,g,d,tk+1,os⟩;refine wpAny_bind (wpAny_setField_rec wQ (by simp) fun h₃ wR k7=>?_);replace k7:Heap.SameBut e h₂ h₃:=k7;replace wR:IsEnum h₃ e it ((i:Int)+1) old:=wR;show wpAny _ _ (newTuple [.int i tk,x]>>=_) _ _ ⟨h₃,g,d,tk+1,os⟩;refine wpAny_bind (wpAny_newTuple ?_);have wU:IsEnum (h₃.push { cls:=.type "tuple",data:=.seq #[.int i tk,x]}) e it ((i:Int)+1) old:=Heap.get?_push_of_some _ wR;generalize wV:h₃.push { cls:=.type "tuple",data:=.seq #[.int i tk,x]}=h₄ at wU;have hsz:h₃.objs.size=hp.objs.size:=by rw [k7.1,hs₂.1,hs₁.1]
 have hel:e<hp.objs.size:=Heap.lt_size he;have QM:h₄.get? hp.objs.size=some { cls:=.type "tuple",data:=.seq #[.int i tk,x]}:=by rw [← wV,← hsz];exact Heap.get?_push_size _ rfl
 have QN:∀ b o,b≠e→b≠it→hp.get? b=some o→h₄.get? b=some o:=fun b o oJ hbi hb=>by rw [← wV];exact Heap.get?_push_of_some _ (k7.extBut b o oJ (hs₂.extBut b o oJ (hs₁.extBut b o hbi hb)))
 have QO:h₄.IsTupleIter it l (i+1):=by rw [← wV];refine aC GU fun o ho r=>?_;exact ⟨o,Heap.get?_push_of_some _ (k7.extBut _ _ (Ne.symm hne) (hs₂.extBut _ _ (Ne.symm hne) ho)),r⟩
 show wpAny _ _ (Builtin.SmallTypes.ownedTupleIsFree (.ref e)>>=_) _ _ ⟨h₄,g,d,tk+1,os⟩;rw [hsz];clear wV wR k7 wQ hs₂ wO hs₁ GU hsz h₃ h₂ h₁;refine wpAny_bind ?_
 ·unfold Builtin.SmallTypes.ownedTupleIsFree;refine wpAny_bind (wpAny_field wU rfl (x:=.none) rfl (wpAny_pure ?_));simp only [if_true];refine wpAny_bind (wpAny_rule ?_);refine wpAny_bind (wpAny_field wU rfl (x:=old) rfl ?_);refine wpAny_bind (wpAny_setField_rec wU (by simp) fun h₅ AG s8=>?_);replace s8:Heap.SameBut e h₄ h₅:=s8;replace AG:IsEnum h₅ e it ((i:Int)+1) x:=AG;show wpAny _ _ (Builtin.SmallTypes.ownedTupleHandOut (.ref e) (.ref hp.objs.size)>>=_) _ _ ⟨h₅,g,d,tk+1,os⟩;refine wpAny_bind ?_
  ·unfold Builtin.SmallTypes.ownedTupleHandOut;refine wpAny_bind (wpAny_setField_rec AG (by simp) fun h₆ AI s9=>?_);replace s9:Heap.SameBut e h₅ h₆:=s9;replace AI:IsEnumOut h₆ e it ((i:Int)+1) x hp.objs.size:=AI;refine wpAny_setField_rec AI (by simp) fun h₇ AJ tu=>?_;replace tu:Heap.SameBut e h₆ h₇:=tu;replace AJ:IsEnumOut h₇ e it ((i:Int)+1) x hp.objs.size:=AJ;refine wpAny_bind (wpAny_letGo (wpAny_pure ⟨_,rfl,hQ h₇ AJ ?_ ?_ ?_⟩))
   ·refine aC QO fun o ho r=>?_;exact ⟨o,tu.extBut _ _ (Ne.symm hne) (s9.extBut _ _ (Ne.symm hne) (s8.extBut _ _ (Ne.symm hne) ho)),r⟩
   ·exact tu.extBut _ _ (Nat.ne_of_gt hel) (s9.extBut _ _ (Nat.ne_of_gt hel) (s8.extBut _ _ (Nat.ne_of_gt hel) QM))
   ·exact fun b o oJ hbi hb=>tu.extBut b o oJ (s9.extBut b o oJ (s8.extBut b o oJ (QN b o oJ hbi hb)))
theorem GV {e it l:Addr} {i:Nat} {items:Array Value} {x old:Value} {Q:Option Value→Shared→Prop} (he:IsEnum s.heap e it i old) (hit:s.heap.IsTupleIter it l i) (hl:s.heap.IsTuple l items) (hx:items[i]?=some x) (hne:e≠it) (hQ:∀ h',IsEnumOut h' e it ((i:Int)+1) x s.heap.objs.size→h'.IsTupleIter it l (i+1)→h'.get? s.heap.objs.size=some { cls:=.type "tuple",data:=.seq #[.int i s.toks,x]}→(∀ b o,b≠e→b≠it→s.heap.get? b=some o→h'.get? b=some o)→Q (some (.ref s.heap.objs.size)) { s with heap:=h',toks:=s.toks+1}):
  wpAny (model prog w) A (pyNext (.ref e)) Q E s:=by
 have hT:s.TypeIs (.ref e) "enumerate" :=⟨_,he,rfl⟩;unfold pyNext;exact wpAny_bind (wpAny_attempt (wpAny_callSpecial?_slot (name:=Str.ofString "__next__") hT F.slot_enumerate_next (wpAny_call_entry F.slot_enumerate_next hT F.entry_enumerate_next (QL he hit hl hx hne fun h' a b c k=>wpAny_pure (hQ h' a b c k)) (F.args_enumerate_next_1 _))))
theorem QS {e it l:Addr} {i:Nat} {items:Array Value} {old:Value} {Q:Option Value→Shared→Prop} (hh:A.handled=none) (he:IsEnum s.heap e it i old) (hit:s.heap.IsTupleIter it l i) (hl:s.heap.IsTuple l items) (hx:items[i]?=none) (hQ:∀ h',Heap.ExtBut it s.heap h'→Q none { s with heap:=h'}):wpAny (model prog w) A (pyNext (.ref e)) Q E s:=by have hT:s.TypeIs (.ref e) "enumerate" :=⟨_,he,rfl⟩;unfold pyNext;refine wpAny_bind (wpAny_attempt (wpAny_callSpecial?_slot (name:=Str.ofString "__next__") hT F.slot_enumerate_next (wpAny_call_entry F.slot_enumerate_next hT F.entry_enumerate_next ?_ (F.args_enumerate_next_1 _))));show wpAny _ _ (field (.ref e) 2>>=_) _ _ _;refine wpAny_bind (wpAny_field he rfl (x:=.ref it) rfl ?_);refine wpAny_bind (QK hh hit hl hx fun h' x he' hx'=>?_);refine aC hx' fun o ho hc=>?_;refine wpAny_bind (wpAny_isInstance (T:= "StopIteration") (b:=true) ⟨o,ho,hc⟩ isSubtype_stop ?_);exact wpAny_pure (hQ _ he')
end
end EV
namespace EV
open PySem PySem.W PySem.Calls PyProof.Rows
section
variable {W:Wo} {C:Cx} {n:Nat} {D:Md} {A:Around} {env:Env} {ae:au} {φ ψ:List Addr} {s:St} {sh:Shared} {R:Rec} {h h':Heap} {p q:Addr×Obj}
theorem Lo.QT (h:Lo ((D.hid p).hid q) φ s.lo m nl):∃ pre post,nl=pre++q::p::post∧∀ p' q',Lo ((D.hid p').hid q') φ s.lo m (pre++q'::p'::post):=by
 refine aC h fun fr hfr h=>?_;cases hm:D.mF with
 |none=>
  have h:D.lc=D.L∧nl=q::p::(D.extra++fr)∧MR φ s.lo m:=by have e:((D.hid p).hid q).mF=none:=hm;rw [e] at h;exact h
  refine ⟨[],D.extra++fr,h.2.1,fun p' q'=>⟨fr,hfr,?_⟩⟩;have e:((D.hid p').hid q').mF=none:=hm;rw [e];exact ⟨h.1,rfl,h.2.2⟩
 |some mF=>
  have h:m=mF∧∃ oc,nl=(D.lc,oc)::q::p::(D.extra++fr)∧vL φ s.lo oc:=by have e:((D.hid p).hid q).mF=some mF:=hm;rw [e] at h;exact h
  refine rN h fun h1 oc h2 h3=>?_;refine ⟨[(D.lc,oc)],D.extra++fr,h2,fun p' q'=>⟨fr,hfr,?_⟩⟩;have e:((D.hid p').hid q').mF=some mF:=hm;rw [e];exact ⟨h1,oc,rfl,h3⟩
theorem Rep.GW {a b:Addr} {oa ob tw tB:Obj} (Rp:Rep W.prog W.w ((D.hid (a,oa)).hid (b,ob)) φ s h) (k:∀ c o,c≠a→c≠b→h.get? c=some o→h'.get? c=some o) (ha:h'.get? a=some tw) (hb:h'.get? b=some tB):Rep W.prog W.w ((D.hid (a,tw)).hid (b,tB)) φ s h':=by
 obtain ⟨m,os,nl,R⟩:=Rp;refine dB R.lo.QT fun pre post e kk=>?_;subst e;have wW:(a,oa)∈(φ.zip os).drop D.ro++(pre++(b,ob)::(a,oa)::post):=by simp
 have QU:(b,ob)∈(φ.zip os).drop D.ro++(pre++(b,ob)::(a,oa)::post):=by simp
 have Na:=R.news _ wW;have Nb:=R.news _ QU;have z1:((φ.zip os).drop D.ro).map (·.1)=φ.drop D.ro:=by rw [List.map_drop,List.map_fst_zip];rw [R.br,R.len];exact Nat.le_refl _
 have nd:(φ.drop D.ro++(pre++(b,ob)::(a,oa)::post).map (·.1)).Nodup:=R.nd;have perm:(φ.drop D.ro++(pre++(b,ob)::(a,oa)::post).map (·.1)).Perm (b::a::(φ.drop D.ro++(pre++post).map (·.1))):=by simp only [List.map_append,List.map_cons,← List.append_assoc];refine List.perm_middle.trans (.cons _ List.perm_middle)
 have fM:=List.nodup_cons.mp (perm.nodup_iff.mp nd);have QV:=List.nodup_cons.mp fM.2;have other:∀ c∈(φ.zip os).drop D.ro++(pre++post),h'.get? c.1=some c.2∧c.1≠D.L∧D.g.get? c.1=none:=fun c hc=>by
  have hc':c∈(φ.zip os).drop D.ro++(pre++(b,ob)::(a,oa)::post):=by
   simp only [List.mem_append,List.mem_cons] at hc ⊢;rcases hc with hc|hc|hc
   ·exact .inl hc
   ·exact .inr (.inl hc)
   ·exact .inr (.inr (.inr (.inr hc)))
  have P:=R.news c hc';have hm:c.1∈φ.drop D.ro++(pre++post).map (·.1):=by rw [← z1,← List.map_append];exact List.mem_map_of_mem hc
  exact ⟨k _ _ (fun e=>QV.1 (e▸hm)) (fun e=>fM.1 (e▸ .tail _ hm)) P.1,P.2⟩
 refine ⟨m,os,pre++(b,tB)::(a,tw)::post,⟨?_,fun c o e=>?_,R.fr.above⟩,?_,R.rd,R.len,R.br,R.c9,R.rel,R.pin,?_,kk _ _,R.big,R.cV⟩
 ·refine fZ R.fr.ns fun oL es ep hL r=>?_;exact ⟨oL,es,ep,k _ _ (Ne.symm Na.2.1) (Ne.symm Nb.2.1) hL,r⟩
 ·refine k c o (fun z=>?_) (fun z=>?_) (R.fr.keep c o e)
  ·have n1:D.g.get? a=none:=Na.2.2;have e:D.g.get? c=some o:=e;rw [z,n1] at e;cases e
  ·have n1:D.g.get? b=none:=Nb.2.2;have e:D.g.get? c=some o:=e;rw [z,n1] at e;cases e
 ·intro c hc;have hc:c∈(φ.zip os).drop D.ro++(pre++(b,tB)::(a,tw)::post):=hc;simp only [List.mem_append,List.mem_cons] at hc;rcases hc with hc|hc|hc|hc|hc
  ·exact other c (List.mem_append_left _ hc)
  ·exact other c (List.mem_append_right _ (List.mem_append_left _ hc))
  ·subst hc;exact ⟨hb,Nb.2⟩
  ·subst hc;exact ⟨ha,Na.2⟩
  ·exact other c (List.mem_append_right _ (List.mem_append_right _ hc))
 ·show (φ.drop D.ro++(pre++(b,tB)::(a,tw)::post).map (·.1)).Nodup;simpa using nd
noncomputable def tC (W:Wo) (C:Cx) (k:Nat) (f:PySem.Expr→It→List Stmt→List Stmt→au→St→Option (Fl×St)):Prop:=
 ∀{D:Md} {A:Around} {env:Env} {ae:au} {φ:List Addr} {s:St} {t:PySem.Expr} {l i:Nat} {b o:List Stmt} {v:Fl} {s':St} {I E la:Addr} {io:Obj} {old:Value},Good W k D A env ae φ→aH W C D φ→A.handled=none→φ[l]?=some la→io.cls=.type "tuple_iterator" →io.data=.fields #[.ref la,.int i 0]→E≠I→f t (.enum l i) b o ae s=some (v,s')→∀ sh,Rep W.prog W.w ((D.hid (I,io)).hid (E,mq I i old)) φ s sh.heap→codeAny (model W.prog W.w) A (.forLoop t (.ref E) b o env) (fun r sh'=>match r with| .ok u=>Res W.prog W.w D φ sh (cY s' v) u sh'| .error _=>False) sh
theorem QW (e:fC C ae t [v,w] s=some s'):∃ es k p,t=.Tuple es k p∧storeAll C ae es [v,w] s=some s':=bA e (fun q _ e=>ah e fun z hz _=>e0 hz) fun _ e=>ah e fun es hq e=>bA e (fun z hz _=>e0 hz) fun _ e=>aQ e fun a b h e=>by refine dX (zj hq) fun k p y=>?_;exact ⟨es,k,p,y,Ea h▸e⟩
theorem QX (hx:gF W C n R.ex) (hf:tC W C n R.fo):tC W C n (lP C R):=by
 intro D A env ae φ s t l i b o v s' I E la io old G Gl hh ha hio hid hne he sh Rp;have gE:=Rp.g6.1;have gI:=Rp.drop.g6.1;have Rd:=Rp.drop.drop;refine ah he fun r l7 he=>ah l7 fun vs hv l7=>Rd.oq hv ha fun us kk r1 hl _ g=>codeAny_of_tree ?_;show wpAny _ A ((forTurn t (.ref E) b o env).onRaise (fun x=>do noteFrame x env;theTreesLotGoes x)) (sS W D A φ sh (cY s' v)) _ sh;have ht:sh.heap.IsTuple la us.toArray:=⟨_,g,rfl,_,rfl⟩;refine wpAny_noted (wpAny_bind (wpAny_standAt (wpAny_bind (wpAny_onRaise (sU l7 (fun hw hr=>?_) fun w hw hr=>?_)))))
 ·rw [hr] at he;exact QS hh gE ⟨_,gI,hio,hid⟩ ht (z9 (r1.get_none hw)) fun h' hs=>wpAny_pure ⟨rfl,codeAny_block ((hx G Gl he).use (sh:={ sh with heap:=h'}) (Rp.drop.nB hs) fun f aK φ₂ s₂ m₂ x₂ aI q=>⟨m₂,φ₂,s₂,x₂,aI,q⟩)⟩
 ·rw [hr] at he;refine aC (r1.get hw) fun u hu ru=>?_;refine ah he fun s₁ hs he=>aQ he fun f s₂ hf' he=>?_;refine fZ (QW hs) fun es k1 p1 z hs=>?_;rw [z];rw [z] at he;refine GV gE ⟨_,gI,hio,hid⟩ ht (qm hu) hne fun h' a1 a2 a3 k=>?_;refine aZ a2 fun AK b1 b2 b3=>?_;have AL:E<sh.heap.objs.size:=Heap.lt_size gE;refine fU (t':=letOwnedTupleGo (.Tuple es k1 p1) (.ref E) (.ref sh.heap.objs.size)>>=fun _=>PySem.assign (.Tuple es k1 p1) env (.ref sh.heap.objs.size)>>=fun _=>execs b env>>=fun f=>match f with
   | .next| .cont=>again (.forLoop (.Tuple es k1 p1) (.ref E) b o env)
   | .brk=>pure (.done .next)
   | .ret v=>pure (.done (.ret v))) rfl (wpAny_bind (wpAny_letOwnedTupleGo_enum a1 fun h₂ e1 hs₂=>?_))
  have aD:Rep W.prog W.w ((D.hid (I,AK)).hid (E,mq I ((i:Int)+1) u)) φ s h₂:=Rp.GW (fun c o c1 c2 hc=>(hs₂.2 c c2).trans (k c o c2 c1 hc)) ((hs₂.2 I (Ne.symm hne)).trans b1) e1;have gT:h₂.get? sh.heap.objs.size=some (n9 #[.int i sh.toks,u] 0):=(hs₂.2 _ (Nat.ne_of_gt AL)).trans a3;refine aN (Ab (env:=env) hs) fun n1 n2=>?_;refine wpAny_bind (assign_Tuple_tuple hh (qk gT) (by rw [n1];rfl) n2 fun h₃ k7=>?_);have aI:=aD.ext (h':=h₃) fun c ob hc=>k7 c ob (Nat.ne_of_lt (Heap.lt_size hc)) hc;refine (Ac G.hid.hid Gl.hid.hid (.cons (.int _ _) (.cons ru .nil)) hs).kg (sh:={ sh with heap:=h₃,toks:=sh.toks+1}) aI fun _ aO m₁ sV=>?_;exact z8 (c:=.forLoop (.Tuple es k1 p1) (.ref E) b o env) he (hx G.hid.hid Gl.hid.hid hf') sV (bu.trans ⟨rfl,rfl,rfl⟩ m₁) (.refl _) (fun _ _ R=>R.drop.drop) fun φ₂ aK x₂ aI e=>hf (G.mono x₂) (Gl.mono x₂) hh (x₂ _ _ ha) b2 b3 hne e aK (by exact_mod_cast aI)
end
section
variable {W:Wo} {C:Cx} {n:Nat} {D:Md} {A:Around} {env:Env} {ae:au} {φ ψ:List Addr} {s:St} {sh:Shared} {R:Rec} {h h':Heap}
theorem GX (h:bB W C n R.ev) (hf:tC W C n R.fo) {st:Stmt} {v:Fl} {s':St} (he:Gf C ae st=true) (G₀:Good W (n+1) D A env ae φ) (Gl:aH W C D φ) (hx:cG C R st ae s=some (v,s')):WP W.prog W.w D A (exec st env) φ s (cY s' v):=by
 have G:=G₀.less (Nat.le_succ n);induction st using PySem.Stmt.casesOn with
 |For t e b o p=>
  refine aJ (Option.isSome_iff_exists.mp (show (kK C ae e).isSome=true from he)) fun x hx'=>?_;refine iN (LV hx') fun f p1 p2 z hk hg hn=>?_;refine eT hx fun hq hx=>eI hx fun it s₁ hi hx=>eM hx fun hz sX hx=>eF hx fun f' s₂ hr hx=>eM hx fun wz qK hx=>gi hx ?_;refine bA hi (fun as QY _=>?_) fun _ hi=>bA hi (fun y hy hi=>aQ hi fun l s₃ hl hi=>ah hi fun vs hv hi=>?_) fun hy _=>e0 (Eq.symm (hx'.symm.trans hy))
  ·refine iN (zo QY) fun g p3 p4 z2 _ GY _=>?_;rw [z] at z2;have q:f=g:=(Expr.Name.inj (Expr.Call.inj z2).1).1;rw [← q,hg] at GY;exact absurd (Value.type.inj (AV.fix.inj (Option.some.inj GY))) (by decide)
  ·have w:=pin hi;have tD:=zp hl;rw [← Option.some.inj (hx'.symm.trans hy)] at tD;rw [← w.1] at sX hr qK;rw [← w.2] at sX hr;rw [← Option.some.inj sX] at hr;rw [← Option.some.inj qK,z];have hev:cJ R ae [x] s=some ([.loc l],s₃):=bG tD (bG (a:=[]) (c:=s₃) rfl rfl);refine fun sh Rp=>wpAny_For (fU (t':=eval (.Name f p2) env>>=fun g=>callWith p1 g [] (backTo p1 (starEach [x] env)) []) rfl (wpAny_bind ((jS G Gl (zU hk hg)).eK Rp fun g aO m₁ aD q3=>q3.n8 ?_))) (fun x=>rfl);refine PySem.callWith_type (qC hn) (kW h G Gl (qE hn) ((qD hn).trans hev) aD fun us aK φ₂ m₂ x₂ aI k3=>fL k3 fun u us a r=>jq (G:=fun us=>wpAny _ _ (call _ ([]++u::us) []) _ _ _) r (a.loc' fun la ha=>aI.oq hv ha fun us kk r1 hl' _ gl=>?_));refine GS ⟨_,gl,rfl,_,rfl⟩ ?_;have bz:=(aI.hide (o:=kZ la 0)).hide (o:=mq aK.heap.objs.size 0 .none);have hsz:(aK.heap.push (kZ la 0)).objs.size=aK.heap.objs.size+1:=Heap.size_push ..;rw [hsz] at bz;refine wpAny_pyIter_enum (it:=aK.heap.objs.size) (i:=0) (old:=.none) bz.g6.1 ?_;refine codeAny_mono (hf (G.mono x₂) (Gl.mono x₂) (G.quiet hq) ha rfl rfl (Nat.succ_ne_self _) hr _ bz) fun r d9 z=>?_;rcases r with e|f
   ·exact z.elim
   ·exact Res.next (aO:={ aK with heap:=(aK.heap.push (kZ la 0)).push (mq aK.heap.objs.size 0 .none)}) x₂ (m₁.trans (m₂.trans ⟨rfl,rfl,rfl⟩)) z
 |_=>exact Bool.noConfusion he
structure qP (W:Wo) (C:Cx) (n:Nat):Prop where
 ev:bB W C n (run C n).ev
 tr:iX W C n (run C n).tr
 ex:gF W C n (run C n).ex
 wh:sQ W C n (run C n).wh
 fo:qI W C n (run C n).fo
 fe:tC W C n (run C n).fo
 co:mh W C n (run C n).co
 ca:kU W C n (run C n).ca
 cu:qJ W C n (run C n)
theorem GZ (C:Cx):∀ n,(run C n).fu=n
 |0=>rfl
 |n+1=>by rw [DR];show (run C n).fu+1=n+1;rw [GZ C n]
theorem jw (X:l9 W C):∀ n,qP W C n
 |0=>by
  refine ⟨?_,?_,?_,?_,?_,?_,?_,?_,?_⟩
  ·intro D A env ae φ s e v s' G Gl he;cases he
  ·intro D A env ae φ s e v s' G Gl he;cases he
  ·intro D A env ae φ s e v s' G Gl he;cases he
  ·intro D A env ae φ s t b o v s' G Gl he;cases he
  ·intro D A env ae φ s t it b o v s' I io G Gl hh x he;cases he
  ·intro D A env ae φ s t l i b o v s' I E la io old G Gl hh ha h1 h2 h3 he;cases he
  ·intro D A env ae φ s e d it a aa s' I io G Gl hh x ha he;cases he
  ·intro D A φ s c v uc vs us h' cy room hh Gl he;cases he
  ·intro D A env ae φ s e v s₁ s₂ x p G Gl hc he;cases he
 |n+1=>by
  have I:=jw X n;have cv:z7 W C n (run C n):=Qi I.ev I.co;have e1:bB W C n (yR C (run C n)):=OA X.tog7 I.ev I.tr I.ca cv;have t1:iX W C n (yT C (run C n)):=OC I.ev I.tr;have s1:∀ st,S1 W C (n+1) (cG C (run C n)) st:=fun st=>Gk X.tog7 I.ev I.tr I.ex I.wh I.fo I.cu (fun ht=>GR I.ev I.ex ht) fun hen G Gl he=>GX I.ev I.fe hen G Gl he;have x1:gF W C (n+1) (y9 C (run C n)):=Pf s1 I.ex;have w1:sQ W C n (pO (run C n)):=OJ I.tr I.ex I.wh;have f1:qI W C n (lP C (run C n)):=OO I.ex I.fo;have QZ:tC W C n (lP C (run C n)):=QX I.ex I.fe;have c1:mh W C n (pL C (run C n)):=P5 I.ev I.tr I.co;have Q0:kU W C (n+1) (zc C (run C n)):=PS X I.ex I.ca (Nat.le_of_eq (GZ C n));have u1:qJ W C (n+1) (run C (n+1)):=Qj (n':=n) (Nat.le_trans (Nat.le_succ n) (Nat.le_succ _)) (DR C n) I.ev I.co;refine ⟨?_,?_,x1,?_,?_,?_,?_,Q0,u1⟩
  ·intro D A env ae φ s e v s' G Gl he;exact e1 (G.less (Nat.le_succ n)) Gl he
  ·intro D A env ae φ s e v s' G Gl he;exact t1 (G.less (Nat.le_succ n)) Gl he
  ·intro D A env ae φ s t b o v s' G Gl he;exact w1 (G.less (Nat.le_succ n)) Gl he
  ·intro D A env ae φ s t it b o v s' I io G Gl hh x he;exact f1 (G.less (Nat.le_succ n)) Gl hh x he
  ·intro D A env ae φ s t l i b o v s' I E la io old G Gl hh ha h1 h2 h3 he;exact QZ (G.less (Nat.le_succ n)) Gl hh ha h1 h2 h3 he
  ·intro D A env ae φ s e d it a aa s' I io G Gl hh x ha he;exact c1 (G.less (Nat.le_succ n)) Gl hh x ha he
end
noncomputable def cj (K:Frag) (a:Addr):Option (Obj×FuncData):=match K.lookup a with
 |some o=>match o.data with
  | .func fd=>some (o,fd)
  |_=>none
 |none=>none
theorem Q2 {K:Frag} {a:Addr} {o:Obj} {fd:FuncData} (h:cj K a=some (o,fd)):K.lookup a=some o∧o.data=.func fd:=by
 unfold cj at h;generalize K.lookup a=z at h;rcases z with _|⟨c,x,d,l⟩
 ·exact e0 h
 ·induction d using Data.casesOn with
  |func g=>exact aN (pin h) fun q1 q2=>⟨congrArg some q1,by rw [← q1,← q2]⟩
  |_=>exact e0 h
theorem G1:∀{ps:List Str} {vs:List AV} {us:List Value},aF φ vs us→dc φ (ps.zip vs) (ps.zip us)
 |[],_,_,_=>by simp;exact .nil
 |_::_,_,_,.nil=>by simp;exact .nil
 |_::_,_,_,.cons a r=>.cons a (G1 r)
theorem AM:∀{vs:List AV} {bs:List (Str×AV)} {rest:List AV},f9 ps vs []=some (bs,rest)→∃ us,vs=us++rest∧us.length=ps.length∧bs=ps.zip us:=by
 induction ps with
 |nil=>exact fun h=>aN (pin h) fun q1 q2=>⟨[],q2,rfl,q1.symm⟩
 |cons p ps ih=>
  intro vs bs rest h;rcases vs with _|⟨v,vs⟩
  ·exact e0 h
  ·refine aQ (x:=f9 ps vs []) (F:=fun l r=>some ((p,v)::l,r)) h fun l r hl h=>aZ (ih hl) fun us h1 h2 h3=>aN (pin h) fun q1 q2=>?_;exact ⟨v::us,by rw [h1,q2];rfl,congrArg (· +1) h2,by rw [← q1,h3];rfl⟩
structure cK (W:Wo) (a:Addr) (f:Fn) (fd:FuncData):Prop where
 it:fd=fnOf fd.name fd.qualname fd.params f.body fd.scope fd.defaults fd.kwdefaults fd.doc fd.pyModule fd.annotations fd.code fd.closureTuple
 code:codeIn W.K fd.code fd.qualname=true
 keep:keepIn W.K (.ref a)=true
 Q3:fnIn W.K a=true
 co:fd.scope.isCoroutine=false
 ge:fd.scope.isGenerator=false
 ki:fd.scope.kind=.function
 na:fd.scope.names=f.names
 nd:jl ((cellsFrom 0 fd.scope.names []).map (·.1))=true
 cn:((cF f.names).all fun x=>match lk f.names x with|some .cell=>true|_=>false)=true
 pl:plainNames f.names=true
theorem cK.ok {W:Wo} {a:Addr} {f:Fn} {o:Obj} {fd:FuncData} (h:cj W.K a=some (o,fd)) (c:cK W a f fd) (hb:f.vararg=none→∀(s:Shared) φ vs us bs,W.K.In s.heap→aF φ vs us→f9 f.params vs f.dflt=some (bs,[])→∃ binds,BindsTo s fd ⟨us,[]⟩ binds∧dc φ bs binds) (hv:∀ x,f.vararg=some x→cF f.names=[]∧(∀ y∈fd.scope.names,y.2≠ .cell)∧∀ φ vs us bs rest,aF φ vs us→f9 f.params vs f.dflt=some (bs,rest)→rest.length≤100000→∃ rs bnd g₁,aF φ rest rs∧dc φ bs bnd∧us.drop (fd.params.posonlyargs.length+fd.params.args.length)=rs∧peek1 W.K ⟨W.prog,W.w.params⟩ (bindArgs fd ⟨us,[]⟩)=some (({ cls:=.type "tuple",data:=.seq rs.toArray}:Obj),g₁)∧∀ T,g₁ T=some (bnd++[(x,.ref T)])):bI W a f:=by
 refine aN (Q2 h) fun h1 h2=>?_;refine ⟨c.keep,c.Q3,o.cls,o.dict,o.slots,fd.name,fd.qualname,fd.params,fd.scope,fd.defaults,fd.kwdefaults,fd.doc,fd.pyModule,fd.annotations,fd.code,fd.closureTuple,?_,c.code,c.co,c.ge,c.ki,c.na,wC c.nd,fun x hx=>?_,fun x k hk=>GI c.pl _ (qN hk),?_,?_⟩
 ·rw [h1,← c.it];congr 1;cases o;cases h2;rfl
 ·have t:=List.all_eq_true.mp c.cn x hx;generalize lk f.names x=z at t;rcases z with _|k
  ·exact Bool.noConfusion t
  ·cases k <;>first|rfl|exact Bool.noConfusion t
 ·rw [← c.it];exact hb
 ·intro x hx;refine cP (hv x hx) fun a1 a2 a3=>?_;exact ⟨a1,a2,by rw [← c.it];exact a3⟩
theorem i6 {W:Wo} {f:Fn} {fd:FuncData} (hd:f.dflt=[]) (hp:∀ us:List Value,us.length=f.params.length→∀ S,peek W.K S (bindArgs fd ⟨us,[]⟩)=some (f.params.zip us)):f.vararg=none→∀(s:Shared) φ vs us bs,W.K.In s.heap→aF φ vs us→f9 f.params vs f.dflt=some (bs,[])→∃ binds,BindsTo s fd ⟨us,[]⟩ binds∧dc φ bs binds:=by intro _ s φ vs us bs X r hb;rw [hd] at hb;refine aZ (AM hb) fun vs' h1 h2 h3=>?_;rw [List.append_nil] at h1;subst h1;refine ⟨f.params.zip us,kp_binds X (hp us (by rw [r.length];exact h2)),?_⟩;rw [h3];exact G1 r
theorem iH {W:Wo} {f:Fn} {fd:FuncData} (h:f.vararg=none):∀ x,f.vararg=some x→cF f.names=[]∧(∀ y∈fd.scope.names,y.2≠ .cell)∧∀ φ vs us bs rest,aF φ vs us→f9 f.params vs f.dflt=some (bs,rest)→rest.length≤100000→∃ rs bnd g₁,aF φ rest rs∧dc φ bs bnd∧us.drop (fd.params.posonlyargs.length+fd.params.args.length)=rs∧peek1 W.K ⟨W.prog,W.w.params⟩ (bindArgs fd ⟨us,[]⟩)=some (({ cls:=.type "tuple",data:=.seq rs.toArray}:Obj),g₁)∧∀ T,g₁ T=some (bnd++[(x,.ref T)]):=fun x q=>by rw [h] at q;cases q
end EV
namespace EV
open PySem PySem.W PyProof.Rows
noncomputable def kv (s:String) (n:Tok):Value:=.str (S s) n
noncomputable def kd (P:Params) (k:String) (n:Tok) (v:Value):DictEntry:=DictEntry.mk (PyData.keyHash P (S k)) (kv k n) v
noncomputable def kt (l:Array Value):Obj:=Obj.mk (.type "tuple") none (.seq l) #[]
noncomputable def kc (l:Array Value):Obj:=Obj.mk (.type "code") none (.fields l) #[]
noncomputable def kf (st:Stmt) (q:String) (dv:Value) (m:String) (mt:Tok) (c:Addr):Obj:=match st with
 | .FunctionDef n a b _ _ _ sc .. =>Obj.mk (.type "function") none (.func (FuncData.mk n (S q) a (.stmts b) sc 3 [] dv .none .none (kv m mt) none (.ref c) .none 0)) #[]
 |_=>default
noncomputable def kk (P:Params):Frag:=[
(2,Obj.mk .none none (.dict #[]) #[]),
(3,Obj.mk (.type "dict") none (.dict #[kd P "__name__" 165 (kv "law_un0050_01" 506),kd P "__doc__" 166 .none,kd P "__package__" 167 .none,kd P "__loader__" 168 (.builtin "__main__.__loader__#opaque"),kd P "__spec__" 169 .none,kd P "__annotations__" 170 (.ref 6),kd P "__builtins__" 171 (.ref 4),kd P "__file__" 173 (kv "/claim/cut.py" 172),kd P "__cached__" 174 .none,kd P "_wall" 193 (.ref 21),kd P "_safe_string" 204 (.ref 29),kd P "_MAX_STRING_SIZE" 206 (.int 40 205),kd P "_MOVE_COST" 208 (.int 2 207),kd P "_CASE_COST" 210 (.int 1 209),kd P "_substitution_cost" 218 (.ref 36),kd P "_levenshtein_distance" 238 (.ref 43),kd P "_NODE_OUT" 243 (.int (-1) 242),kd P "_NODE_DONE" 246 (.int (-2) 245),kd P "_NodeInfo" 283 (.ref 62),kd P "CycleError" 301 (.ref 77),kd P "TopologicalSorter" 420 (.ref 159),kd P "S_IFMT" 429 (.ref 170),kd P "S_IFDIR" 431 (.int 16384 430),kd P "S_IFCHR" 433 (.int 8192 432),kd P "S_IFBLK" 435 (.int 24576 434),kd P "S_IFREG" 437 (.int 32768 436),kd P "S_IFIFO" 439 (.int 4096 438),kd P "S_IFLNK" 441 (.int 40960 440),kd P "S_IFSOCK" 443 (.int 49152 442),kd P "S_ISUID" 445 (.int 2048 444),kd P "S_ISGID" 447 (.int 1024 446),kd P "S_ISVTX" 449 (.int 512 448),kd P "S_IRUSR" 451 (.int 256 450),kd P "S_IWUSR" 453 (.int 128 452),kd P "S_IXUSR" 455 (.int 64 454),kd P "S_IRGRP" 457 (.int 32 456),kd P "S_IWGRP" 459 (.int 16 458),kd P "S_IXGRP" 461 (.int 8 460),kd P "S_IROTH" 463 (.int 4 462),kd P "S_IWOTH" 465 (.int 2 464),kd P "S_IXOTH" 467 (.int 1 466),kd P "_filemode_table" 493 (.ref 203),kd P "filemode" 505 (.ref 210),kd P "_law_held" 520 (.ref 217),kd P "_law_due" 526 (.ref 222),kd P "law" 532 (.ref 227)] 46) #[]),
(15,kt #[]),
(17,kt #[kv "k" 190]),
(18,kt #[]),
(20,kc #[kv "_wall" 187,kv "_wall" 188,kv "/claim/cut.py" 189,.int 1 0,.int 1 0,.int 0 0,.int 0 0,.int 3 0,.ref 15,.bool true,.int 181 0,.ref 16,.none,.ref 17,.ref 18,.ref 19,.int 191 0,.int 1 0,kv "/claim/cut.py" 192]),
(21,kf (b9 "_wall" cH) "_wall" .none "__main__" 164 20),
(22,kt #[.type "str"]),
(23,kt #[]),
(25,kt #[kv "value" 199,kv "what" 200,kv "func" 201]),
(26,kt #[]),
(28,kc #[kv "_safe_string" 196,kv "_safe_string" 197,kv "/claim/cut.py" 198,.int 5 0,.int 3 0,.int 0 0,.int 0 0,.int 3 0,.ref 23,.bool true,.int 181 0,.ref 24,.none,.ref 25,.ref 26,.ref 27,.int 202 0,.int 5 0,kv "/claim/cut.py" 203]),
(29,kf (b9 "_safe_string" cH) "_safe_string" (.ref 22) "cpy313.traceback" 194 28),
(30,kt #[]),
(32,kt #[kv "ch_a" 214,kv "ch_b" 215]),
(33,kt #[]),
(35,kc #[kv "_substitution_cost" 211,kv "_substitution_cost" 212,kv "/claim/cut.py" 213,.int 13 0,.int 2 0,.int 0 0,.int 0 0,.int 3 0,.ref 30,.bool true,.int 181 0,.ref 31,.none,.ref 32,.ref 33,.ref 34,.int 216 0,.int 13 0,kv "/claim/cut.py" 217]),
(36,kf (b9 "_substitution_cost" cH) "_substitution_cost" .none "cpy313.traceback" 194 35),
(37,kt #[]),
(39,kt #[kv "a" 222,kv "b" 223,kv "max_cost" 224,kv "pre" 225,kv "post" 226,kv "row" 227,kv "result" 228,kv "bindex" 229,kv "bchar" 230,kv "distance" 231,kv "minimum" 232,kv "index" 233,kv "substitute" 234,kv "insert_delete" 235]),
(40,kt #[]),
(42,kc #[kv "_levenshtein_distance" 219,kv "_levenshtein_distance" 220,kv "/claim/cut.py" 221,.int 19 0,.int 3 0,.int 0 0,.int 0 0,.int 3 0,.ref 37,.bool true,.int 181 0,.ref 38,.none,.ref 39,.ref 40,.ref 41,.int 236 0,.int 19 0,kv "/claim/cut.py" 237]),
(43,kf (b9 "_levenshtein_distance" cH) "_levenshtein_distance" .none "cpy313.traceback" 194 42),
(51,kt #[kv "node" 259,kv "npredecessors" 260,kv "successors" 261]),
(52,kt #[]),
(54,kt #[kv "self" 266,kv "node" 267]),
(55,kt #[]),
(57,kc #[kv "__init__" 263,kv "_NodeInfo.__init__" 264,kv "/claim/cut.py" 265,.int 63 0,.int 2 0,.int 0 0,.int 0 0,.int 3 0,.ref 52,.bool true,.int 181 0,.ref 53,.none,.ref 54,.ref 55,.ref 56,.int 268 0,.int 63 0,kv "/claim/cut.py" 269]),
(58,kf (b9 "__init__" (fj "_NodeInfo" cH)) "_NodeInfo.__init__" .none "cpy313.graphlib" 239 57),
(59,kt #[kv "node" 271,kv "npredecessors" 272,kv "successors" 273]),
(61,Obj.mk (.type "dict") none (.dict #[kd P "__module__" 254 (kv "cpy313.graphlib" 239),kd P "__firstlineno__" 258 (.int 60 257),kd P "__slots__" 262 (.ref 51),kd P "__init__" 270 (.ref 58),kd P "__static_attributes__" 274 (.ref 59),kd P "node" 276 (.ref 63),kd P "npredecessors" 278 (.ref 64),kd P "successors" 280 (.ref 65),kd P "__doc__" 281 .none] 5) #[]),
(62,Obj.mk (.type "type") none (.cls (ClassData.mk (S "_NodeInfo") [.type "object"] [.ref 62,.type "object"] 61 (S "_NodeInfo") false [S "node",S "npredecessors",S "successors"] [] false none false)) #[none,none,some (kv "_NodeInfo" 247),some (kv "_NodeInfo" 255),some (.builtin "object.__new__"),some (.bool false)]),
(63,Obj.mk (.type "member_descriptor") none (.fields #[kv "node" 275,.ref 62,.builtin "proto.slot",.builtin "proto.slot#set",.int 2 0]) #[]),
(64,Obj.mk (.type "member_descriptor") none (.fields #[kv "npredecessors" 277,.ref 62,.builtin "proto.slot",.builtin "proto.slot#set",.int 1 0]) #[]),
(65,Obj.mk (.type "member_descriptor") none (.fields #[kv "successors" 279,.ref 62,.builtin "proto.slot",.builtin "proto.slot#set",.int 0 0]) #[]),
(68,kt #[.type "ValueError"]),
(75,kt #[]),
(76,Obj.mk (.type "dict") none (.dict #[kd P "__module__" 291 (kv "cpy313.graphlib" 239),kd P "__firstlineno__" 295 (.int 67 294),kd P "__static_attributes__" 296 (.ref 75),kd P "__weakref__" 298 (.ref 78),kd P "__doc__" 299 .none] 3) #[]),
(77,Obj.mk (.type "type") none (.cls (ClassData.mk (S "CycleError") [.type "ValueError"] [.ref 77,.type "ValueError",.type "Exception",.type "BaseException",.type "object"] 76 (S "CycleError") true [] [] false none false)) #[some (.ref 68),none,some (kv "CycleError" 284),some (kv "CycleError" 292),some (.builtin "ValueError.__new__"),some (.bool true)]),
(78,Obj.mk (.type "getset_descriptor") none (.fields #[kv "__weakref__" 297,.ref 77,.builtin "ExceptionGroup.__weakref__",.none]) #[]),
(88,kt #[.none]),
(89,kt #[]),
(91,kt #[kv "self" 317,kv "graph" 318,kv "node" 319,kv "predecessors" 320]),
(92,kt #[]),
(94,kc #[kv "__init__" 314,kv "TopologicalSorter.__init__" 315,kv "/claim/cut.py" 316,.int 71 0,.int 2 0,.int 0 0,.int 0 0,.int 3 0,.ref 89,.bool true,.int 181 0,.ref 90,.none,.ref 91,.ref 92,.ref 93,.int 321 0,.int 71 0,kv "/claim/cut.py" 322]),
(95,kf (b9 "__init__" (fj "TopologicalSorter" cH)) "TopologicalSorter.__init__" (.ref 88) "cpy313.graphlib" 239 94),
(96,kt #[]),
(98,kt #[kv "self" 327,kv "node" 328,kv "result" 329]),
(99,kt #[]),
(101,kc #[kv "_get_nodeinfo" 324,kv "TopologicalSorter._get_nodeinfo" 325,kv "/claim/cut.py" 326,.int 80 0,.int 2 0,.int 0 0,.int 0 0,.int 3 0,.ref 96,.bool true,.int 181 0,.ref 97,.none,.ref 98,.ref 99,.ref 100,.int 330 0,.int 80 0,kv "/claim/cut.py" 331]),
(102,kf (b9 "_get_nodeinfo" (fj "TopologicalSorter" cH)) "TopologicalSorter._get_nodeinfo" .none "cpy313.graphlib" 239 101),
(103,kt #[]),
(105,kt #[kv "self" 336,kv "node" 337,kv "predecessors" 338,kv "nodeinfo" 339,kv "pred" 340,kv "pred_info" 341]),
(106,kt #[]),
(108,kc #[kv "add" 333,kv "TopologicalSorter.add" 334,kv "/claim/cut.py" 335,.int 85 0,.int 2 0,.int 0 0,.int 0 0,.int 7 0,.ref 103,.bool true,.int 181 0,.ref 104,.none,.ref 105,.ref 106,.ref 107,.int 342 0,.int 85 0,kv "/claim/cut.py" 343]),
(109,kf (b9 "add" (fj "TopologicalSorter" cH)) "TopologicalSorter.add" .none "cpy313.graphlib" 239 108),
(110,kt #[]),
(113,kc #[kv "prepare" 345,kv "TopologicalSorter.prepare" 346,kv "/claim/cut.py" 347,.int 94 0,.int 1 0,.int 0 0,.int 0 0,.int 3 0,.ref 110,.bool true,.int 181 0,.ref 111,.none,.none,.none,.ref 112,.int 348 0,.int 94 0,kv "/claim/cut.py" 349]),
(114,kf (b9 "prepare" (fj "TopologicalSorter" cH)) "TopologicalSorter.prepare" .none "cpy313.graphlib" 239 113),
(115,kt #[]),
(117,kt #[kv "self" 354,kv "result" 355,kv "n2i" 356,kv "node" 357]),
(118,kt #[]),
(120,kc #[kv "get_ready" 351,kv "TopologicalSorter.get_ready" 352,kv "/claim/cut.py" 353,.int 102 0,.int 1 0,.int 0 0,.int 0 0,.int 3 0,.ref 115,.bool true,.int 181 0,.ref 116,.none,.ref 117,.ref 118,.ref 119,.int 358 0,.int 102 0,kv "/claim/cut.py" 359]),
(121,kf (b9 "get_ready" (fj "TopologicalSorter" cH)) "TopologicalSorter.get_ready" .none "cpy313.graphlib" 239 120),
(122,kt #[]),
(124,kt #[kv "self" 364]),
(125,kt #[]),
(127,kc #[kv "is_active" 361,kv "TopologicalSorter.is_active" 362,kv "/claim/cut.py" 363,.int 113 0,.int 1 0,.int 0 0,.int 0 0,.int 3 0,.ref 122,.bool true,.int 181 0,.ref 123,.none,.ref 124,.ref 125,.ref 126,.int 365 0,.int 113 0,kv "/claim/cut.py" 366]),
(128,kf (b9 "is_active" (fj "TopologicalSorter" cH)) "TopologicalSorter.is_active" .none "cpy313.graphlib" 239 127),
(129,kt #[]),
(131,kt #[kv "self" 371]),
(132,kt #[]),
(134,kc #[kv "__bool__" 368,kv "TopologicalSorter.__bool__" 369,kv "/claim/cut.py" 370,.int 118 0,.int 1 0,.int 0 0,.int 0 0,.int 3 0,.ref 129,.bool true,.int 181 0,.ref 130,.none,.ref 131,.ref 132,.ref 133,.int 372 0,.int 118 0,kv "/claim/cut.py" 373]),
(135,kf (b9 "__bool__" (fj "TopologicalSorter" cH)) "TopologicalSorter.__bool__" .none "cpy313.graphlib" 239 134),
(136,kt #[]),
(138,kt #[kv "self" 378,kv "nodes" 379,kv "n2i" 380,kv "node" 381,kv "nodeinfo" 382,kv "stat" 383,kv "successor" 384,kv "successor_info" 385]),
(139,kt #[]),
(141,kc #[kv "done" 375,kv "TopologicalSorter.done" 376,kv "/claim/cut.py" 377,.int 121 0,.int 1 0,.int 0 0,.int 0 0,.int 7 0,.ref 136,.bool true,.int 181 0,.ref 137,.none,.ref 138,.ref 139,.ref 140,.int 386 0,.int 121 0,kv "/claim/cut.py" 387]),
(142,kf (b9 "done" (fj "TopologicalSorter" cH)) "TopologicalSorter.done" .none "cpy313.graphlib" 239 141),
(143,kt #[]),
(145,kt #[kv "self" 392,kv "n2i" 393,kv "stack" 394,kv "itstack" 395,kv "seen" 396,kv "node2stacki" 397,kv "node" 398]),
(146,kt #[]),
(148,kc #[kv "_find_cycle" 389,kv "TopologicalSorter._find_cycle" 390,kv "/claim/cut.py" 391,.int 144 0,.int 1 0,.int 0 0,.int 0 0,.int 3 0,.ref 143,.bool true,.int 181 0,.ref 144,.none,.ref 145,.ref 146,.ref 147,.int 399 0,.int 144 0,kv "/claim/cut.py" 400]),
(149,kf (b9 "_find_cycle" (fj "TopologicalSorter" cH)) "TopologicalSorter._find_cycle" .none "cpy313.graphlib" 239 148),
(150,kt #[]),
(152,kt #[kv "self" 405]),
(153,kt #[]),
(155,kc #[kv "static_order" 402,kv "TopologicalSorter.static_order" 403,kv "/claim/cut.py" 404,.int 173 0,.int 1 0,.int 0 0,.int 0 0,.int 3 0,.ref 150,.bool true,.int 181 0,.ref 151,.none,.ref 152,.ref 153,.ref 154,.int 406 0,.int 173 0,kv "/claim/cut.py" 407]),
(156,kf (b9 "static_order" (fj "TopologicalSorter" cH)) "TopologicalSorter.static_order" .none "cpy313.graphlib" 239 155),
(157,kt #[kv "_nfinished" 409,kv "_node2info" 410,kv "_npassedout" 411,kv "_ready_nodes" 412]),
(158,Obj.mk (.type "dict") none (.dict #[kd P "__module__" 309 (kv "cpy313.graphlib" 239),kd P "__firstlineno__" 313 (.int 69 312),kd P "__init__" 323 (.ref 95),kd P "_get_nodeinfo" 332 (.ref 102),kd P "add" 344 (.ref 109),kd P "prepare" 350 (.ref 114),kd P "get_ready" 360 (.ref 121),kd P "is_active" 367 (.ref 128),kd P "__bool__" 374 (.ref 135),kd P "done" 388 (.ref 142),kd P "_find_cycle" 401 (.ref 149),kd P "static_order" 408 (.ref 156),kd P "__static_attributes__" 413 (.ref 157),kd P "__dict__" 415 (.ref 160),kd P "__weakref__" 417 (.ref 161),kd P "__doc__" 418 .none] 4) #[]),
(159,Obj.mk (.type "type") none (.cls (ClassData.mk (S "TopologicalSorter") [.type "object"] [.ref 159,.type "object"] 158 (S "TopologicalSorter") true [] [] false none false)) #[none,none,some (kv "TopologicalSorter" 302),some (kv "TopologicalSorter" 310),some (.builtin "object.__new__"),some (.bool true)]),
(160,Obj.mk (.type "getset_descriptor") none (.fields #[kv "__dict__" 414,.ref 159,.builtin "function.__dict__",.builtin "function.__dict__#set"]) #[]),
(161,Obj.mk (.type "getset_descriptor") none (.fields #[kv "__weakref__" 416,.ref 159,.builtin "ExceptionGroup.__weakref__",.none]) #[]),
(164,kt #[]),
(166,kt #[kv "mode" 426]),
(167,kt #[]),
(169,kc #[kv "S_IFMT" 423,kv "S_IFMT" 424,kv "/claim/cut.py" 425,.int 176 0,.int 1 0,.int 0 0,.int 0 0,.int 3 0,.ref 164,.bool true,.int 181 0,.ref 165,.none,.ref 166,.ref 167,.ref 168,.int 427 0,.int 176 0,kv "/claim/cut.py" 428]),
(170,kf (b9 "S_IFMT" cH) "S_IFMT" .none "cpy313.stat" 421 169),
(171,kt #[.int 40960 440,kv "l" 468]),
(172,kt #[.int 49152 442,kv "s" 469]),
(173,kt #[.int 32768 436,kv "-" 470]),
(174,kt #[.int 24576 434,kv "b" 471]),
(175,kt #[.int 16384 430,kv "d" 472]),
(176,kt #[.int 8192 432,kv "c" 473]),
(177,kt #[.int 4096 438,kv "p" 474]),
(178,kt #[.ref 171,.ref 172,.ref 173,.ref 174,.ref 175,.ref 176,.ref 177]),
(179,kt #[.int 256 450,kv "r" 475]),
(180,kt #[.ref 179]),
(181,kt #[.int 128 452,kv "w" 476]),
(182,kt #[.ref 181]),
(183,kt #[.int 2112 477,kv "s" 478]),
(184,kt #[.int 2048 444,kv "S" 479]),
(185,kt #[.int 64 454,kv "x" 480]),
(186,kt #[.ref 183,.ref 184,.ref 185]),
(187,kt #[.int 32 456,kv "r" 481]),
(188,kt #[.ref 187]),
(189,kt #[.int 16 458,kv "w" 482]),
(190,kt #[.ref 189]),
(191,kt #[.int 1032 483,kv "s" 484]),
(192,kt #[.int 1024 446,kv "S" 485]),
(193,kt #[.int 8 460,kv "x" 486]),
(194,kt #[.ref 191,.ref 192,.ref 193]),
(195,kt #[.int 4 462,kv "r" 487]),
(196,kt #[.ref 195]),
(197,kt #[.int 2 464,kv "w" 488]),
(198,kt #[.ref 197]),
(199,kt #[.int 513 489,kv "t" 490]),
(200,kt #[.int 512 448,kv "T" 491]),
(201,kt #[.int 1 466,kv "x" 492]),
(202,kt #[.ref 199,.ref 200,.ref 201]),
(203,kt #[.ref 178,.ref 180,.ref 182,.ref 186,.ref 188,.ref 190,.ref 194,.ref 196,.ref 198,.ref 202]),
(204,kt #[]),
(206,kt #[kv "mode" 497,kv "perm" 498,kv "index" 499,kv "table" 500,kv "bit" 501,kv "char" 502]),
(207,kt #[]),
(209,kc #[kv "filemode" 494,kv "filemode" 495,kv "/claim/cut.py" 496,.int 198 0,.int 1 0,.int 0 0,.int 0 0,.int 3 0,.ref 204,.bool true,.int 181 0,.ref 205,.none,.ref 206,.ref 207,.ref 208,.int 503 0,.int 198 0,kv "/claim/cut.py" 504]),
(210,kf (b9 "filemode" cH) "filemode" .none "cpy313.stat" 421 209),
(211,kt #[]),
(213,kt #[kv "needs" 511,kv "own" 512,kv "sorter" 513,kv "k" 514,kv "held" 515,kv "ready" 516,kv "j" 517]),
(214,kt #[]),
(216,kc #[kv "_law_held" 508,kv "_law_held" 509,kv "/claim/cut.py" 510,.int 216 0,.int 2 0,.int 0 0,.int 0 0,.int 3 0,.ref 211,.bool true,.int 181 0,.ref 212,.none,.ref 213,.ref 214,.ref 215,.int 518 0,.int 216 0,kv "/claim/cut.py" 519]),
(217,kf (b9 "_law_held" cH) "_law_held" .none "law_un0050_01" 506 216),
(218,kt #[]),
(221,kc #[kv "_law_due" 521,kv "_law_due" 522,kv "/claim/cut.py" 523,.int 230 0,.int 3 0,.int 0 0,.int 0 0,.int 3 0,.ref 218,.bool true,.int 181 0,.ref 219,.none,.none,.none,.ref 220,.int 524 0,.int 230 0,kv "/claim/cut.py" 525]),
(222,kf (b9 "_law_due" cH) "_law_due" .none "law_un0050_01" 506 221),
(223,kt #[]),
(226,kc #[kv "law" 527,kv "law" 528,kv "/claim/cut.py" 529,.int 238 0,.int 1 0,.int 0 0,.int 0 0,.int 3 0,.ref 223,.bool true,.int 181 0,.ref 224,.none,.none,.none,.ref 225,.int 530 0,.int 238 0,kv "/claim/cut.py" 531]),
(227,kf (b9 "law" cH) "law" .none "law_un0050_01" 506 226)]
noncomputable def G2:List Addr:=[2,3,15,17,18,20,21,22,23,25,26,28,29,30,32,33,35,36,37,39,40,42,43,51,52,54,55,57,58,59,61,62,63,64,65,68,75,76,77,78,88,89,91,92,94,95,96,98,99,101,102,103,105,106,108,109,110,113,114,115,117,118,120,121,122,124,125,127,128,129,131,132,134,135,136,138,139,141,142,143,145,146,148,149,150,152,153,155,156,157,158,159,160,161,164,166,167,169,170,171,172,173,174,175,176,177,178,179,180,181,182,183,184,185,186,187,188,189,190,191,192,193,194,195,196,197,198,199,200,201,202,203,204,206,207,209,210,211,213,214,216,217,218,221,222,223,226,227]
noncomputable abbrev RR:OpenLaw:=PySem.Challenge.rw_un0050_01
noncomputable abbrev PP:Program:=RR.row.toRowW.1
noncomputable def without:List Nat→List Stmt→Nat→List Stmt
 |_,[],_=>[]
 |[],l,_=>l
 |i::is,s::l,n=>match Nat.beq i n with|true=>without is l (n+1)|false=>s::without (i::is) l (n+1)
noncomputable def vw:Program:={ PP with main:={ PP.main with body:=without [1,2,8,14,37] PP.main.body 0}}
noncomputable def qQ:List Str:=[Str.ofString "_safe_string",Str.ofString "_NodeInfo",Str.ofString "_filemode_table"]
theorem Q4:∀ P:Params,G2=List.map (fun x=>x.fst) (kk P):=fun P=>by kernel_rfl
noncomputable def hk:Hook:=kHook kk G2 Q4
theorem said:RR.wellSaid=true:=by kernel_rfl
theorem Q5:RR.row.prog.tablesWhole=true:=by kernel_rfl
theorem Q6:opening PP=plainProg PP.main.scope.names:=by kernel_rfl
theorem Q7:∀(s:Shared),fenceModules? PP s=some s:=fun s=>by kernel_rfl
theorem Q8:∀(w:World),((boot_heap w.params).isNs mainGlobals&&(#[]:Array GenState).size==0,(boot_heap w.params).objs.size,(boot_heap w.params).nsMap mainGlobals "__annotations__")=(true,11,some (Value.ref 6)):=fun w=>by kernel_rfl
theorem Q9:(chainsOk vw&&opensWell RR.row.prog&&(frees RR.row.toRowW&&RR.row.within.isEmpty))=true:=by kernel_rfl
theorem Ra:RR.row.claim.pre [WData.list []]=true:=by kernel_rfl
theorem Rg:(WData.layableAll [WData.list []]&&RR.row.returnsAt [WData.list []])=true:=by kernel_rfl
noncomputable def s0 (w:World) (os:OsState):Shared:=⟨boot_heap w.params,#[],boot_drawn,boot_toks,os⟩
noncomputable def wX (w:World) (os:OsState):Option Shared:=Fast.tw14082659384304107361 Fast.tw14364793385576792824 PP w 11 (some (.ref 6)) 3496 (s0 w os) (topStub PP)
theorem Ri (w:World) (os:OsState):topRun treeTable PP w 11 (some (.ref 6)) 3496 (s0 w os) (topStub PP)=wX w os:=by unfold wX;rw [Fast.te14082659384304107361,Fast.te14364793385576792824]
noncomputable def Xt:Shared→Bool:=fun _=>true
theorem look (w:World) (os:OsState):(wX w os).map (fun s=>((staticsOk (importedModules PP.main.body) (boot_heap w.params) s.heap&&namesBound PP s.heap&&gensDone s&&laidKept (boot_heap w.params) s.heap),Fast.tw4187177175401517315 vw qQ (importedModules PP.main.body) Xt true s,hk.obs s))=some (true,openGood vw qQ,hk.val w):=by kernel_rfl
theorem left:LeftO PP vw qQ Xt hk.obs hk.val 3496:=fun w=>by
 refine aC (Option.map_eq_some_iff.mp (boot_open (N:=3496) Q6 (by decide) Q7 w)) fun q1 e e'=>?_;obtain ⟨h,gs,d,k,os⟩:=q1;obtain ⟨rfl,rfl,rfl,rfl⟩:h=boot_heap w.params∧gs= #[]∧d=boot_drawn∧k=boot_toks:=by simpa using e'
 obtain ⟨z1,z2,z3⟩:_∧_∧_:=by simpa only [Prod.mk.injEq] using Q8 w
 have l:=look w os;have r:=Ri w os;generalize wX w os=z at l r;cases z with
 |none=>cases l
 |some s₁=>
  have l:=Option.some.inj l;have l1:(staticsOk (importedModules PP.main.body) (boot_heap w.params) s₁.heap&&namesBound PP s₁.heap&&gensDone s₁&&laidKept (boot_heap w.params) s₁.heap)=true:=congrArg (·.1) l;have l2:Fast.tw4187177175401517315 vw qQ (importedModules PP.main.body) Xt true s₁=openGood vw qQ:=congrArg (·.2.1) l;have l3:hk.obs s₁=hk.val w:=congrArg (·.2.2) l;rw [← Fast.te4187177175401517315] at l2;have t:topFrom treeTable PP w 3496 (s0 w os)=some s₁:=by unfold topFrom s0;dsimp only;rw [z1,z2,z3];show ((topRun treeTable PP w 11 (some (.ref 6)) 3496 (s0 w os) (topStub PP)).bind fun s₁=>match staticsOk (importedModules PP.main.body) (boot_heap w.params) s₁.heap&&namesBound PP s₁.heap&&gensDone s₁&&laidKept (boot_heap w.params) s₁.heap with|true=>some s₁|false=>none)=_;rw [r];show (match staticsOk (importedModules PP.main.body) (boot_heap w.params) s₁.heap&&namesBound PP s₁.heap&&gensDone s₁&&laidKept (boot_heap w.params) s₁.heap with|true=>some s₁|false=>none)=_;rw [l1]
  have t':openEnds treeTable PP w 3496=some s₁:=by unfold openEnds;rw [e,Option.bind_some];exact t
  rw [t',Option.map_some];exact congrArg some (Prod.ext l2 l3)
theorem Rj:(defOf vw RR.row.name).isSome=true:=by kernel_rfl
noncomputable def Rk:DefRec:=((defOf vw RR.row.name).get Rj).1
noncomputable def Rl:(Str→Option Value)→Heap→Prop:=fun _ _=>True
theorem head (call:WalkO vw qQ Rl hk.says RR.row.toRowW Rk [] fun f vs=>PySem.call f vs):RR.Holds:=holds_law said fun said=>PySem.W.holds_open left hk.of hk.keeps (fun s e=>trivial) (fun _ _ _ x _=>x) (by kernel_rfl) (by kernel_rfl) (by kernel_rfl) (fun s e=>recFacts_of (by kernel_rfl)) (by kernel_rfl) said Q9 ⟨rfl,rfl,rfl,rfl,rfl,Q5⟩ ⟨[WData.list []],Ra,Rg⟩ call
end EV
namespace EV
open PySem PySem.W PySem.Calls PyProof.Rows
noncomputable abbrev KK (w:World):Frag:=kk w.params
structure KW (W:Wo) (w:World):Prop where
 k:W.K=KK w
 w:W.w=w
theorem k8 (h:l.length=1):∃ a,l=[a]:=List.length_eq_one_iff.mp h
theorem l6 (h:l.length=2):∃ a b,l=[a,b]:=by
 cases l with
 |nil=>cases h
 |cons a r=>refine aJ (k8 (Nat.succ.inj h)) fun b q1=>?_;subst q1;exact ⟨a,b,rfl⟩
theorem AN (h:l.length=3):∃ a b c,l=[a,b,c]:=by
 cases l with
 |nil=>cases h
 |cons a r=>refine dX (l6 (Nat.succ.inj h)) fun b c q1=>?_;subst q1;exact ⟨a,b,c,rfl⟩
theorem Rm (h:f9 [x,y] vs [(y,d)]=some (bs,[])) (g:lk [(y,d)] x=none) (g2:lk [(y,d)] y=some d):(∃ v,vs=[v]∧bs=[(x,v),(y,d)])∨∃ v w,vs=[v,w]∧bs=[(x,v),(y,w)]:=by
 rcases vs with _|⟨v,_|⟨w,_|⟨z,r⟩⟩⟩
 ·refine ah (x:=sr [x,y] [(y,d)]) (F:=fun l=>some (l,[])) h fun l hl _=>ah (x:=lk [(y,d)] x) (F:=fun v=>ob (sr [y] [(y,d)]) fun l=>some ((x,v)::l)) hl fun v hv _=>e0 (g.symm.trans hv)
 ·refine aQ (x:=f9 [y] [] [(y,d)]) (F:=fun l r=>some ((x,v)::l,r)) h fun l r hl h=>ah (x:=sr [y] [(y,d)]) (F:=fun l=>some (l,[])) hl fun l2 h2 h3=>ah (x:=lk [(y,d)] y) (F:=fun v=>some [(y,v)]) h2 fun v2 hv h4=>?_;exact .inl ⟨v,rfl,by rw [←(pin h).1,←(pin h3).1,← Option.some.inj h4,← Option.some.inj (g2.symm.trans hv)]⟩
 ·exact .inr ⟨v,w,rfl,(pin h).1.symm⟩
 ·exact nomatch (pin h).2
noncomputable def cN (K:Frag) (a:Addr) (h:(cj K a).isSome=true):Obj×FuncData:=(cj K a).get h
section
variable (W:Wo) (w:World) (q:KW W w)
theorem G3:(cj (KK w) 29).isSome=true:=rfl
noncomputable abbrev AP:FuncData:=(cN (KK w) 29 (G3 w)).2
theorem Rn:cj (KK w) 29=some ((cN (KK w) 29 (G3 w)).1,AP w):=rfl
include q in
theorem Ro:cK W 29 fT (AP w):=by
 refine ⟨?_,?_,?_,?_,?_,?_,?_,?_,?_,?_,?_⟩;all_goals (try rw [q.k])
 all_goals kernel_rfl
include q in
theorem Rq:∀ us:List Value,us.length=fT.params.length→∀ S,peek W.K S (bindArgs (AP w) ⟨us,[]⟩)=some (fT.params.zip us):=by
 have h:fT.params.length=3:=by kernel_rfl
 rw [h,q.k];intro us hl;refine pA (AN hl) fun a b c q1=>?_;subst q1;intro S;kernel_rfl
include q in
theorem wY:bI W 29 fT:=cK.ok (by rw [q.k];exact Rn w) (Ro W w q) (i6 rfl (Rq W w q)) (iH rfl)
theorem G5:(cj (KK w) 36).isSome=true:=rfl
noncomputable abbrev AQ:FuncData:=(cN (KK w) 36 (G5 w)).2
theorem kC:cj (KK w) 36=some ((cN (KK w) 36 (G5 w)).1,AQ w):=rfl
include q in
theorem Rt:cK W 36 iQ (AQ w):=by
 refine ⟨?_,?_,?_,?_,?_,?_,?_,?_,?_,?_,?_⟩;all_goals (try rw [q.k])
 all_goals kernel_rfl
include q in
theorem Ru:∀ us:List Value,us.length=iQ.params.length→∀ S,peek W.K S (bindArgs (AQ w) ⟨us,[]⟩)=some (iQ.params.zip us):=by
 have h:iQ.params.length=2:=by kernel_rfl
 rw [h,q.k];intro us hl;refine dX (l6 hl) fun a b q1=>?_;subst q1;intro S;kernel_rfl
include q in
theorem Rv:bI W 36 iQ:=cK.ok (by rw [q.k];exact kC w) (Rt W w q) (i6 rfl (Ru W w q)) (iH rfl)
theorem G6:(cj (KK w) 43).isSome=true:=rfl
noncomputable abbrev AR:FuncData:=(cN (KK w) 43 (G6 w)).2
theorem mu:cj (KK w) 43=some ((cN (KK w) 43 (G6 w)).1,AR w):=rfl
include q in
theorem Rx:cK W 43 bg (AR w):=by
 refine ⟨?_,?_,?_,?_,?_,?_,?_,?_,?_,?_,?_⟩;all_goals (try rw [q.k])
 all_goals kernel_rfl
include q in
theorem Ry:∀ us:List Value,us.length=bg.params.length→∀ S,peek W.K S (bindArgs (AR w) ⟨us,[]⟩)=some (bg.params.zip us):=by
 have h:bg.params.length=3:=by kernel_rfl
 rw [h,q.k];intro us hl;refine pA (AN hl) fun a b c q1=>?_;subst q1;intro S;kernel_rfl
include q in
theorem AS:bI W 43 bg:=cK.ok (by rw [q.k];exact mu w) (Rx W w q) (i6 rfl (Ry W w q)) (iH rfl)
theorem G7:(cj (KK w) 58).isSome=true:=rfl
noncomputable abbrev AU:FuncData:=(cN (KK w) 58 (G7 w)).2
theorem Rz:cj (KK w) 58=some ((cN (KK w) 58 (G7 w)).1,AU w):=rfl
include q in
theorem RA:cK W 58 pP (AU w):=by
 refine ⟨?_,?_,?_,?_,?_,?_,?_,?_,?_,?_,?_⟩;all_goals (try rw [q.k])
 all_goals kernel_rfl
include q in
theorem RB:∀ us:List Value,us.length=pP.params.length→∀ S,peek W.K S (bindArgs (AU w) ⟨us,[]⟩)=some (pP.params.zip us):=by
 have h:pP.params.length=2:=by kernel_rfl
 rw [h,q.k];intro us hl;refine dX (l6 hl) fun a b q1=>?_;subst q1;intro S;kernel_rfl
include q in
theorem RC:bI W 58 pP:=cK.ok (by rw [q.k];exact Rz w) (RA W w q) (i6 rfl (RB W w q)) (iH rfl)
theorem G8:(cj (KK w) 102).isSome=true:=rfl
noncomputable abbrev AW:FuncData:=(cN (KK w) 102 (G8 w)).2
theorem RD:cj (KK w) 102=some ((cN (KK w) 102 (G8 w)).1,AW w):=rfl
include q in
theorem RE:cK W 102 pQ (AW w):=by
 refine ⟨?_,?_,?_,?_,?_,?_,?_,?_,?_,?_,?_⟩;all_goals (try rw [q.k])
 all_goals kernel_rfl
include q in
theorem RG:∀ us:List Value,us.length=pQ.params.length→∀ S,peek W.K S (bindArgs (AW w) ⟨us,[]⟩)=some (pQ.params.zip us):=by
 have h:pQ.params.length=2:=by kernel_rfl
 rw [h,q.k];intro us hl;refine dX (l6 hl) fun a b q1=>?_;subst q1;intro S;kernel_rfl
include q in
theorem RH:bI W 102 pQ:=cK.ok (by rw [q.k];exact RD w) (RE W w q) (i6 rfl (RG W w q)) (iH rfl)
theorem G9:(cj (KK w) 114).isSome=true:=rfl
noncomputable abbrev AX:FuncData:=(cN (KK w) 114 (G9 w)).2
theorem RK:cj (KK w) 114=some ((cN (KK w) 114 (G9 w)).1,AX w):=rfl
include q in
theorem RL:cK W 114 pS (AX w):=by
 refine ⟨?_,?_,?_,?_,?_,?_,?_,?_,?_,?_,?_⟩;all_goals (try rw [q.k])
 all_goals kernel_rfl
include q in
theorem RM:∀ us:List Value,us.length=pS.params.length→∀ S,peek W.K S (bindArgs (AX w) ⟨us,[]⟩)=some (pS.params.zip us):=by
 have h:pS.params.length=1:=by kernel_rfl
 rw [h,q.k];intro us hl;refine aJ (k8 hl) fun a q1=>?_;subst q1;intro S;kernel_rfl
include q in
theorem RO:bI W 114 pS:=cK.ok (by rw [q.k];exact RK w) (RL W w q) (i6 rfl (RM W w q)) (iH rfl)
theorem Hf:(cj (KK w) 121).isSome=true:=rfl
noncomputable abbrev AY:FuncData:=(cN (KK w) 121 (Hf w)).2
theorem RQ:cj (KK w) 121=some ((cN (KK w) 121 (Hf w)).1,AY w):=rfl
include q in
theorem RS:cK W 121 pT (AY w):=by
 refine ⟨?_,?_,?_,?_,?_,?_,?_,?_,?_,?_,?_⟩;all_goals (try rw [q.k])
 all_goals kernel_rfl
include q in
theorem RT:∀ us:List Value,us.length=pT.params.length→∀ S,peek W.K S (bindArgs (AY w) ⟨us,[]⟩)=some (pT.params.zip us):=by
 have h:pT.params.length=1:=by kernel_rfl
 rw [h,q.k];intro us hl;refine aJ (k8 hl) fun a q1=>?_;subst q1;intro S;kernel_rfl
include q in
theorem RU:bI W 121 pT:=cK.ok (by rw [q.k];exact RQ w) (RS W w q) (i6 rfl (RT W w q)) (iH rfl)
theorem Hg:(cj (KK w) 128).isSome=true:=rfl
noncomputable abbrev AZ:FuncData:=(cN (KK w) 128 (Hg w)).2
theorem RV:cj (KK w) 128=some ((cN (KK w) 128 (Hg w)).1,AZ w):=rfl
include q in
theorem RW:cK W 128 pU (AZ w):=by
 refine ⟨?_,?_,?_,?_,?_,?_,?_,?_,?_,?_,?_⟩;all_goals (try rw [q.k])
 all_goals kernel_rfl
include q in
theorem RX:∀ us:List Value,us.length=pU.params.length→∀ S,peek W.K S (bindArgs (AZ w) ⟨us,[]⟩)=some (pU.params.zip us):=by
 have h:pU.params.length=1:=by kernel_rfl
 rw [h,q.k];intro us hl;refine aJ (k8 hl) fun a q1=>?_;subst q1;intro S;kernel_rfl
include q in
theorem RY:bI W 128 pU:=cK.ok (by rw [q.k];exact RV w) (RW W w q) (i6 rfl (RX W w q)) (iH rfl)
theorem Hh:(cj (KK w) 149).isSome=true:=rfl
noncomputable abbrev A0:FuncData:=(cN (KK w) 149 (Hh w)).2
theorem RZ:cj (KK w) 149=some ((cN (KK w) 149 (Hh w)).1,A0 w):=rfl
include q in
theorem R3:cK W 149 pX (A0 w):=by
 refine ⟨?_,?_,?_,?_,?_,?_,?_,?_,?_,?_,?_⟩;all_goals (try rw [q.k])
 all_goals kernel_rfl
include q in
theorem R5:∀ us:List Value,us.length=pX.params.length→∀ S,peek W.K S (bindArgs (A0 w) ⟨us,[]⟩)=some (pX.params.zip us):=by
 have h:pX.params.length=1:=by kernel_rfl
 rw [h,q.k];intro us hl;refine aJ (k8 hl) fun a q1=>?_;subst q1;intro S;kernel_rfl
include q in
theorem R6:bI W 149 pX:=cK.ok (by rw [q.k];exact RZ w) (R3 W w q) (i6 rfl (R5 W w q)) (iH rfl)
theorem Hi:(cj (KK w) 170).isSome=true:=rfl
noncomputable abbrev A3:FuncData:=(cN (KK w) 170 (Hi w)).2
theorem R7:cj (KK w) 170=some ((cN (KK w) 170 (Hi w)).1,A3 w):=rfl
include q in
theorem R8:cK W 170 gg (A3 w):=by
 refine ⟨?_,?_,?_,?_,?_,?_,?_,?_,?_,?_,?_⟩;all_goals (try rw [q.k])
 all_goals kernel_rfl
include q in
theorem R9:∀ us:List Value,us.length=gg.params.length→∀ S,peek W.K S (bindArgs (A3 w) ⟨us,[]⟩)=some (gg.params.zip us):=by
 have h:gg.params.length=1:=by kernel_rfl
 rw [h,q.k];intro us hl;refine aJ (k8 hl) fun a q1=>?_;subst q1;intro S;kernel_rfl
include q in
theorem Hj:bI W 170 gg:=cK.ok (by rw [q.k];exact R7 w) (R8 W w q) (i6 rfl (R9 W w q)) (iH rfl)
theorem Hl:(cj (KK w) 210).isSome=true:=rfl
noncomputable abbrev A4:FuncData:=(cN (KK w) 210 (Hl w)).2
theorem Sa:cj (KK w) 210=some ((cN (KK w) 210 (Hl w)).1,A4 w):=rfl
include q in
theorem Sd:cK W 210 fMode (A4 w):=by
 refine ⟨?_,?_,?_,?_,?_,?_,?_,?_,?_,?_,?_⟩;all_goals (try rw [q.k])
 all_goals kernel_rfl
include q in
theorem Se:∀ us:List Value,us.length=fMode.params.length→∀ S,peek W.K S (bindArgs (A4 w) ⟨us,[]⟩)=some (fMode.params.zip us):=by
 have h:fMode.params.length=1:=by kernel_rfl
 rw [h,q.k];intro us hl;refine aJ (k8 hl) fun a q1=>?_;subst q1;intro S;kernel_rfl
include q in
theorem Ho:bI W 210 fMode:=cK.ok (by rw [q.k];exact Sa w) (Sd W w q) (i6 rfl (Se W w q)) (iH rfl)
theorem Hp:(cj (KK w) 217).isSome=true:=rfl
noncomputable abbrev A5:FuncData:=(cN (KK w) 217 (Hp w)).2
theorem Sf:cj (KK w) 217=some ((cN (KK w) 217 (Hp w)).1,A5 w):=rfl
include q in
theorem Sg:cK W 217 j7 (A5 w):=by
 refine ⟨?_,?_,?_,?_,?_,?_,?_,?_,?_,?_,?_⟩;all_goals (try rw [q.k])
 all_goals kernel_rfl
include q in
theorem Sh:∀ us:List Value,us.length=j7.params.length→∀ S,peek W.K S (bindArgs (A5 w) ⟨us,[]⟩)=some (j7.params.zip us):=by
 have h:j7.params.length=2:=by kernel_rfl
 rw [h,q.k];intro us hl;refine dX (l6 hl) fun a b q1=>?_;subst q1;intro S;kernel_rfl
include q in
theorem A6:bI W 217 j7:=cK.ok (by rw [q.k];exact Sf w) (Sg W w q) (i6 rfl (Sh W w q)) (iH rfl)
theorem Hq:(cj (KK w) 222).isSome=true:=rfl
noncomputable abbrev A7:FuncData:=(cN (KK w) 222 (Hq w)).2
theorem Si:cj (KK w) 222=some ((cN (KK w) 222 (Hq w)).1,A7 w):=rfl
include q in
theorem Sj:cK W 222 bw (A7 w):=by
 refine ⟨?_,?_,?_,?_,?_,?_,?_,?_,?_,?_,?_⟩;all_goals (try rw [q.k])
 all_goals kernel_rfl
include q in
theorem Sk:∀ us:List Value,us.length=bw.params.length→∀ S,peek W.K S (bindArgs (A7 w) ⟨us,[]⟩)=some (bw.params.zip us):=by
 have h:bw.params.length=3:=by kernel_rfl
 rw [h,q.k];intro us hl;refine pA (AN hl) fun a b c q1=>?_;subst q1;intro S;kernel_rfl
include q in
theorem A8:bI W 222 bw:=cK.ok (by rw [q.k];exact Si w) (Sj W w q) (i6 rfl (Sk W w q)) (iH rfl)
theorem Hr:(cj (KK w) 227).isSome=true:=rfl
noncomputable abbrev A9:FuncData:=(cN (KK w) 227 (Hr w)).2
theorem Ba:cj (KK w) 227=some ((cN (KK w) 227 (Hr w)).1,A9 w):=rfl
include q in
theorem Sl:cK W 227 aU (A9 w):=by
 refine ⟨?_,?_,?_,?_,?_,?_,?_,?_,?_,?_,?_⟩;all_goals (try rw [q.k])
 all_goals kernel_rfl
include q in
theorem So:∀ us:List Value,us.length=aU.params.length→∀ S,peek W.K S (bindArgs (A9 w) ⟨us,[]⟩)=some (aU.params.zip us):=by
 have h:aU.params.length=1:=by kernel_rfl
 rw [h,q.k];intro us hl;refine aJ (k8 hl) fun a q1=>?_;subst q1;intro S;kernel_rfl
include q in
theorem Hs:bI W 227 aU:=cK.ok (by rw [q.k];exact Ba w) (Sl W w q) (i6 rfl (So W w q)) (iH rfl)
theorem Ht:(cj (KK w) 95).isSome=true:=rfl
noncomputable abbrev Hu:FuncData:=(cN (KK w) 95 (Ht w)).2
theorem Sq:cj (KK w) 95=some ((cN (KK w) 95 (Ht w)).1,Hu w):=rfl
include q in
theorem Ss:cK W 95 su (Hu w):=by
 refine ⟨?_,?_,?_,?_,?_,?_,?_,?_,?_,?_,?_⟩;all_goals (try rw [q.k])
 all_goals kernel_rfl
theorem Hv:(cj (KK w) 109).isSome=true:=rfl
noncomputable abbrev wZ:FuncData:=(cN (KK w) 109 (Hv w)).2
theorem Su:cj (KK w) 109=some ((cN (KK w) 109 (Hv w)).1,wZ w):=rfl
include q in
theorem Sv:cK W 109 pR (wZ w):=by
 refine ⟨?_,?_,?_,?_,?_,?_,?_,?_,?_,?_,?_⟩;all_goals (try rw [q.k])
 all_goals kernel_rfl
theorem Hw:(cj (KK w) 142).isSome=true:=rfl
noncomputable abbrev w4:FuncData:=(cN (KK w) 142 (Hw w)).2
theorem Sw:cj (KK w) 142=some ((cN (KK w) 142 (Hw w)).1,w4 w):=rfl
include q in
theorem Sx:cK W 142 pW (w4 w):=by
 refine ⟨?_,?_,?_,?_,?_,?_,?_,?_,?_,?_,?_⟩;all_goals (try rw [q.k])
 all_goals kernel_rfl
theorem Hx {f:Fn} {P:Prop} (h:f.vararg.isSome=true):f.vararg=none→P:=fun z=>by rw [z] at h;cases h
theorem Bb:∀{vs rest:List AV} {us:List Value},aF φ (vs++rest) us→∃ u1 rs,us=u1++rs∧aF φ vs u1∧aF φ rest rs
 |[],_,us,h=>⟨[],us,rfl,.nil,h⟩
 |_::_,_,_,.cons a r=>let ⟨u1,rs,h1,h2,h3⟩:=Bb r;⟨_::u1,rs,by rw [h1];rfl,.cons a h2,h3⟩
theorem Hy {K:Frag} {St:Setting} {rs:List Value} (h:rs.length≤100000) (g:Value→List (Str×Value)):peek1 K St (newTuple rs>>=fun T=>pure (g T))=some (({ cls:=.type "tuple",data:=.seq rs.toArray}:Obj),fun D=>some (g (.ref D))):=by
 have hs:¬rs.toArray.size>sizeLine:=by rw [List.size_toArray];exact Nat.not_lt.mpr (cW (by (exact Nat.le_trans h (by decide))))
 unfold newTuple newObj;dsimp only;rw [if_neg hs];rfl
theorem Sy (a1 a2:Value) (rs:List Value):bindArgs (wZ w) ⟨[a1,a2]++rs,[]⟩=(newTuple rs>>=fun T=>pure ([(S "self",a1),(S "node",a2)]++[(S "predecessors",T)])):=by
 cases rs with
 |nil=>kernel_rfl
 |cons b r=>kernel_rfl
theorem Sz (a1:Value) (rs:List Value):bindArgs (w4 w) ⟨[a1]++rs,[]⟩=(newTuple rs>>=fun T=>pure ([(S "self",a1)]++[(S "nodes",T)])):=by
 cases rs with
 |nil=>kernel_rfl
 |cons b r=>kernel_rfl
include q in
theorem SA:bI W 95 su:=by
 refine cK.ok (by rw [q.k];exact Sq w) (Ss W w q) ?_ (iH (by kernel_rfl));intro _ s φ vs us bs X r hb;have hd:su.dflt=[(S "graph",.none)]:=by kernel_rfl
 have hp:su.params=[S "self",S "graph"]:=by kernel_rfl
 have g1:lk [(S "graph",AV.none)] (S "self")=none:=by kernel_rfl
 have g2:lk [(S "graph",AV.none)] (S "graph")=some AV.none:=by kernel_rfl
 rw [hd,hp] at hb;rcases Rm hb g1 g2 with ⟨v,rfl,rfl⟩|⟨v,v2,rfl,rfl⟩
 ·obtain ⟨u,r',rfl,a,r⟩:=m7 r;cases sC r;exact ⟨[(S "self",u),(S "graph",.none)],kp_binds X (fun St=>by rw [q.k];kernel_rfl),.cons a (.cons .none .nil)⟩
 ·obtain ⟨u,r',rfl,a,r⟩:=m7 r;obtain ⟨u2,r',rfl,a2,r⟩:=m7 r;cases sC r;exact ⟨[(S "self",u),(S "graph",u2)],kp_binds X (fun St=>by rw [q.k];kernel_rfl),.cons a (.cons a2 .nil)⟩
include q in
theorem SD:bI W 109 pR:=by
 refine cK.ok (by rw [q.k];exact Su w) (Sv W w q) (Hx (by kernel_rfl)) ?_;intro x hx;have dR:pR.vararg=some (S "predecessors"):=by kernel_rfl
 rw [dR] at hx;obtain rfl:=Option.some.inj hx;refine ⟨by kernel_rfl,?_,?_⟩
 ·have:((wZ w).scope.names.all fun y=>match y.2 with| .cell=>false|_=>true)=true:=by kernel_rfl
  intro y hy z;have:=List.all_eq_true.mp this y hy;rw [z] at this;cases this
 ·intro φ vs us bs rest r hb hlen;have hd:pR.dflt=[]:=by kernel_rfl
  have hp:pR.params=[S "self",S "node"]:=by kernel_rfl
  rw [hd,hp] at hb;refine aZ (AM hb) fun vs' q1 h2 h3=>?_;subst q1;refine bK (Bb r) fun u1 rs q1 r1 r2=>?_;subst q1;refine dX (l6 h2) fun v1 v2 q1=>?_;subst q1;obtain ⟨a1,r',rfl,q1,r1⟩:=m7 r1;obtain ⟨a2,r',rfl,q2,r1⟩:=m7 r1;cases sC r1
  ·rw [q.k,q.w];refine ⟨rs,[(S "self",a1),(S "node",a2)],fun T=>some ([(S "self",a1),(S "node",a2)]++[(S "predecessors",.ref T)]),r2,by rw [h3];exact .cons q1 (.cons q2 .nil),?_,?_,fun T=>rfl⟩
   ·kernel_rfl
   ·rw [Sy];exact Hy (by rw [r2.length];exact hlen) _
include q in
theorem SE:bI W 142 pW:=by
 refine cK.ok (by rw [q.k];exact Sw w) (Sx W w q) (Hx (by kernel_rfl)) ?_;intro x hx;have dR:pW.vararg=some (S "nodes"):=by kernel_rfl
 rw [dR] at hx;obtain rfl:=Option.some.inj hx;refine ⟨by kernel_rfl,?_,?_⟩
 ·have:((w4 w).scope.names.all fun y=>match y.2 with| .cell=>false|_=>true)=true:=by kernel_rfl
  intro y hy z;have:=List.all_eq_true.mp this y hy;rw [z] at this;cases this
 ·intro φ vs us bs rest r hb hlen;have hd:pW.dflt=[]:=by kernel_rfl
  have hp:pW.params=[S "self"]:=by kernel_rfl
  rw [hd,hp] at hb;refine aZ (AM hb) fun vs' q1 h2 h3=>?_;subst q1;refine bK (Bb r) fun u1 rs q1 r1 r2=>?_;subst q1;refine aJ (k8 h2) fun v1 q1=>?_;subst q1;obtain ⟨a1,r',rfl,q1,r1⟩:=m7 r1;cases sC r1
  ·rw [q.k,q.w];refine ⟨rs,[(S "self",a1)],fun T=>some ([(S "self",a1)]++[(S "nodes",.ref T)]),r2,by rw [h3];exact .cons q1 .nil,?_,?_,fun T=>rfl⟩
   ·kernel_rfl
   ·rw [Sz];exact Hy (by rw [r2.length];exact hlen) _
theorem fW {α:Type} {Q:Nat→α→Prop} {l:List (Nat×α)} {a b:Nat} {v m:α} (h:jK ((b,v)::l) a=some m) (k:Q b v) (j:jK l a=some m→Q a m):Q a m:=by
 have h:(match Nat.beq a b with|true=>some v|false=>jK l a)=some m:=h;cases hb:Nat.beq a b
 ·rw [hb] at h;exact j h
 ·rw [hb] at h;rw [Nat.eq_of_beq_eq_true hb,← Option.some.inj h];exact k
include q in
theorem qR:∀ a fn,jK vt a=some fn→bI W a fn:=by intro a fn h;exact fW (Q:=bI W) h (wY W w q) fun h=>fW (Q:=bI W) h (Rv W w q) fun h=>fW (Q:=bI W) h (AS W w q) fun h=>fW (Q:=bI W) h (RC W w q) fun h=>fW (Q:=bI W) h (SA W w q) fun h=>fW (Q:=bI W) h (RH W w q) fun h=>fW (Q:=bI W) h (SD W w q) fun h=>fW (Q:=bI W) h (RO W w q) fun h=>fW (Q:=bI W) h (RU W w q) fun h=>fW (Q:=bI W) h (RY W w q) fun h=>fW (Q:=bI W) h (SE W w q) fun h=>fW (Q:=bI W) h (R6 W w q) fun h=>fW (Q:=bI W) h (Hj W w q) fun h=>fW (Q:=bI W) h (Ho W w q) fun h=>fW (Q:=bI W) h (A6 W w q) fun h=>fW (Q:=bI W) h (A8 W w q) fun h=>fW (Q:=bI W) h (Hs W w q) fun h=>e0 h
end
section
variable (W:Wo) (w:World) (q:KW W w)
@[elab_as_elim] theorem w5 {Q:Str→Prop} {x y:Str} {r:List Str} (h:jI x (y::r)=true) (k:Q y) (j:jI x r=true→Q x):Q x:=by
 have h:(match sE x y with|true=>true|false=>jI x r)=true:=h;cases e:sE x y
 ·rw [e] at h;exact j h
 ·exact dm.mp e▸k
@[elab_as_elim] theorem Bc {Q:Str→Nat→Prop} {x y:Str} {r:List Str} {b i:Nat} (h:lD x (y::r) b=some i) (k:Q y b) (j:lD x r (b+1)=some i→Q x i):Q x i:=by
 have h:(match sE x y with|true=>some b|false=>lD x r (b+1))=some i:=h;cases e:sE x y
 ·rw [e] at h;exact j h
 ·rw [e] at h;rw [← Option.some.inj h,dm.mp e];exact k
@[elab_as_elim] theorem nF {α:Type} {Q:Str→α→Prop} {x y:Str} {v m:α} {l:List (Str×α)} (h:lk ((y,v)::l) x=some m) (k:Q y v) (j:lk l x=some m→Q x m):Q x m:=by
 cases e:sE x y
 ·exact j ((wG e).symm.trans h)
 ·rw [← Option.some.inj ((An (p:=(y,v)) e).symm.trans h),dm.mp e];exact k
noncomputable def cNode:lB:=⟨some [S "node",S "npredecessors",S "successors"],[],[(S "__init__",58)]⟩
noncomputable def SG:lB:=⟨none,[S "_node2info",S "_ready_nodes",S "_npassedout",S "_nfinished"],[(S "__init__",95),(S "_get_nodeinfo",102),(S "add",109),(S "prepare",114),(S "get_ready",121),(S "is_active",128),(S "done",142),(S "_find_cycle",149)]⟩
noncomputable def SH (K:Frag) (c:Addr) (l:List (Str×Addr)):Bool:=l.all fun p=>(match findIn K (.ref c) p.1 with|some (some (.ref g))=>Nat.beq g p.2|_=>false)&&isFn K (.ref p.2)&&fnIn K p.2&&keepIn K (.ref p.2)
theorem Hz {K:Frag} {c:Addr} {l:List (Str×Addr)} (h:SH K c l=true):∀ x f,lk l x=some f→findIn K (.ref c) x=some (some (.ref f))∧isFn K (.ref f)=true∧fnIn K f=true∧keepIn K (.ref f)=true:=by
 intro x f hl;have:=List.all_eq_true.mp h _ (qN hl);rw [Bool.and_eq_true,Bool.and_eq_true,Bool.and_eq_true] at this;refine aN this fun q1 d=>?_;refine aN q1 fun q2 c'=>?_;refine aN q2 fun a b=>?_;refine ⟨?_,b,c',d⟩;generalize findIn K (.ref c) x=z at a;rcases z with _|_|u
 ·exact Bool.noConfusion a
 ·exact Bool.noConfusion a
 ·induction u using Value.casesOn with
  |ref g=>exact congrArg (fun g=>some (some (Value.ref g))) (Nat.eq_of_beq_eq_true a)
  |_=>exact Bool.noConfusion a
include q in
theorem SI:oB W.K 62 cNode:=by
 rw [q.k];refine { makes:=rfl,v9:=rfl,setattr:=rfl,over:=rfl,plain:=rfl,keep:=rfl,init:=⟨58,rfl,rfl,rfl⟩,attr:=?_,slot:=?_,meth:=Hz rfl,zL:=?_,bound:=?_}
 ·intro x h;cases h
 ·intro ns hn x i hi;obtain rfl:=Option.some.inj hn;refine Bc hi ?_ fun hi=>?_
  ·exact ⟨63,rfl,rfl,rfl,rfl,rfl,rfl⟩
  refine Bc hi ?_ fun hi=>?_
  ·exact ⟨64,rfl,rfl,rfl,rfl,rfl,rfl⟩
  refine Bc hi ?_ fun hi=>?_
  ·exact ⟨65,rfl,rfl,rfl,rfl,rfl,rfl⟩
  exact e0 hi
 ·intro ns hn;cases hn;decide
 ·intro h;cases h
include q in
theorem SJ:oB W.K 159 SG:=by
 rw [q.k];refine { makes:=rfl,v9:=rfl,setattr:=rfl,over:=rfl,plain:=rfl,keep:=rfl,init:=⟨95,rfl,rfl,rfl⟩,attr:=?_,slot:=?_,meth:=Hz rfl,zL:=?_,bound:=?_}
 ·intro x h;refine w5 h ?_ fun h=>?_
  ·exact ⟨rfl,rfl,rfl⟩
  refine w5 h ?_ fun h=>?_
  ·exact ⟨rfl,rfl,rfl⟩
  refine w5 h ?_ fun h=>?_
  ·exact ⟨rfl,rfl,rfl⟩
  refine w5 h ?_ fun h=>?_
  ·exact ⟨rfl,rfl,rfl⟩
  exact Bool.noConfusion h
 ·intro ns hn;cases hn
 ·intro ns hn;cases hn
 ·intro _ x f hl;refine nF hl ?_ fun hl=>?_
  ·exact ⟨rfl,rfl,rfl,rfl⟩
  refine nF hl ?_ fun hl=>?_
  ·exact ⟨rfl,rfl,rfl,rfl⟩
  refine nF hl ?_ fun hl=>?_
  ·exact ⟨rfl,rfl,rfl,rfl⟩
  refine nF hl ?_ fun hl=>?_
  ·exact ⟨rfl,rfl,rfl,rfl⟩
  refine nF hl ?_ fun hl=>?_
  ·exact ⟨rfl,rfl,rfl,rfl⟩
  refine nF hl ?_ fun hl=>?_
  ·exact ⟨rfl,rfl,rfl,rfl⟩
  refine nF hl ?_ fun hl=>?_
  ·exact ⟨rfl,rfl,rfl,rfl⟩
  refine nF hl ?_ fun hl=>?_
  ·exact ⟨rfl,rfl,rfl,rfl⟩
  exact e0 hl
include q in
theorem HA:∀ c k,jK vA c=some k→oB W.K c k:=by intro c k h;exact fW (Q:=oB W.K) h (SI W w q) fun h=>fW (Q:=oB W.K) h (SJ W w q) fun h=>e0 h
include q in
theorem SK:g7 W C0:=⟨fun a fn h=>⟨(qR W w q a fn h).keep,(qR W w q a fn h).fnIn⟩,HA W w q⟩
include q in
theorem w6:l9 W C0:={ SK W w q with fns:=qR W w q,GB:=fun a vs h v h' e=>by cases e}
end
section
variable {W:Wo} {C:Cx} {n:Nat} {D:Md} {A:Around} {env:Env} {ae:au} {φ ψ:List Addr} {s:St} {sh:Shared} {R:Rec} {h h':Heap}
structure tE (W:Wo) (D:Md) (bZ:List Addr) (cO:List Obj) (hR:AH) (h:Heap):Prop where
 br:bZ.length=hR.length
 len:cO.length=hR.length
 get:∀(i:Nat) (a:Addr) (o:Obj),bZ[i]?=some a→cO[i]?=some o→h.get? a=some o∧a≠D.L∧a∉D.fr.map (·.1)∧2<a
 rel:∀(i:Nat) (ao:AO) (o:Obj),hR[i]?=some ao→cO[i]?=some o→OR W.prog W.w bZ ao o
theorem SM {g:Heap} {L':Addr} {m:Str→Option Value} {os:List Obj} {X fr:List (Addr×Obj)} {φ':List Addr} {s':St} {h₂:Heap} {oL:Obj} {k:Nat} (Rw:bH W.prog W.w D φ s h m os (X++fr)) (hsl:c8 D.fr fr) (As:h.get? D.L=some oL) (hlo:∀ φ' dg,Ext φ φ'→c8 fr dg→Lo D φ' s.lo m (X++dg)) (hg:g=hideAll h (D.L::fr.map (·.1))) (R':Rep W.prog W.w ⟨g,L',L',[],none,fun _=>none,k,(D.L,oL)::fr⟩ φ' s' h₂):Rep W.prog W.w D φ s h₂∧∀(i:Nat) (ao:AO) (a:Addr),k≤i→s'.hp[i]?=some ao→φ'[i]?=some a→(∀ o,OR W.prog W.w φ' ao o→OR W.prog W.w (φ++[a]) ao o)→Rep W.prog W.w D (φ++[a]) { s with hp:=s.hp++[ao]} h₂:=by
 obtain ⟨m',os',nl',R'⟩:=R';refine aC R'.lo fun Au hf lo=>?_;have lo:L'=L'∧nl'=[]++Au∧MR φ' s'.lo m':=lo;refine cP lo fun _ q1 _=>?_;subst q1;refine dB hf.inv fun sl iG q1 wI=>?_;subst q1;have Av:=R'.news (D.L,{ oL with slots:=sl}) (List.mem_append_right _ (.head _));have had:=wI.addrs;have nd:=Rw.nd;have z1:((φ.zip os).drop D.ro).map (·.1)=φ.drop D.ro:=by rw [List.map_drop,List.map_fst_zip];rw [Rw.br,Rw.len];exact Nat.le_refl _
 have apart:∀ p∈(φ.zip os).drop D.ro++X,p.1∉fr.map (·.1):=fun p hp q=>by rw [List.map_append,← List.append_assoc,List.nodup_append] at nd;refine nd.2.2 p.1 ?_ p.1 q rfl;rw [← z1,← List.map_append];exact List.mem_map_of_mem hp
 have keep:∀ b o,h.get? b=some o→b≠D.L→b∉fr.map (·.1)→g.get? b=some o∧h₂.get? b=some o:=fun b o e n1 n2=>by
  have:g.get? b=some o:=by
   rw [hg];refine hideAll_get _ e fun q=>?_;rcases List.mem_cons.mp q with q|q
   ·exact n1 q
   ·exact n2 q
  exact ⟨this,R'.fr.keep _ _ this⟩
 have HB:∀ b o,D.g.get? b=some o→b≠D.L∧b∉fr.map (·.1):=fun b o e=>by
  refine ⟨fun q=>?_,fun q=>?_⟩
  ·have:=Heap.get?_none_of_le Rw.fr.above;rw [← q,e] at this;cases this
  ·refine aC (List.mem_map.mp q) fun p hp q1=>?_;subst q1;have:=(Rw.news p (List.mem_append_right _ (List.mem_append_right _ hp))).2.2;rw [e] at this;cases this
 have base:bH W.prog W.w D φ s h₂ m os (X++iG):=by
  refine ⟨⟨?_,fun b o e=>?_,Rw.fr.above⟩,?_,Rw.rd,Rw.len,Rw.br,Rw.c9,Rw.rel,Rw.pin,?_,hlo φ iG (.refl _) wI,Rw.big,Rw.cV⟩
  ·refine iN Rw.fr.ns fun o es ep ho r1 r2 r3=>?_;rw [As] at ho;cases ho;exact ⟨_,es,ep,Av.1,r1,r2,r3⟩
  ·refine aN (HB b o e) fun n1 n2=>?_;exact (keep b o (Rw.fr.keep b o e) n1 n2).2
  ·intro p hp;rw [← List.append_assoc] at hp;rcases List.mem_append.mp hp with q|q
   ·have P:=Rw.news p (by rw [← List.append_assoc];exact List.mem_append_left _ q);exact ⟨(keep _ _ P.1 P.2.1 (apart p q)).2,P.2⟩
   ·have P2:=R'.news p (List.mem_append_right _ (.tail _ q));have:p.1∈fr.map (·.1):=by rw [← had];exact List.mem_map_of_mem q
    refine aC (List.mem_map.mp this) fun p0 hp0 e0=>?_;have P:=Rw.news p0 (List.mem_append_right _ (List.mem_append_right _ hp0));exact ⟨P2.1,by rw [← e0];exact P.2.1,by rw [← e0];exact P.2.2⟩
  ·have:(X++iG).map (·.1)=(X++fr).map (·.1):=by rw [List.map_append,List.map_append,had]
   rw [this];exact nd
 refine ⟨⟨m,os,X++iG,base⟩,fun i ao a hi he ha hor=>?_⟩;refine aZ (R'.at he ha) fun o ho SN hget=>?_;have hmem:(a,o)∈(φ'.zip os').drop k++(D.L,({ oL with slots:=sl}:Obj))::iG:=by
  refine List.mem_append_left _ ?_;have:((φ'.zip os').drop k)[i- k]?=some (a,o):=by rw [List.getElem?_drop,Nat.add_sub_cancel' hi,List.getElem?_zip_eq_some];exact ⟨ha,ho⟩
  exact List.mem_of_getElem? this
 have P:=R'.news (a,o) hmem;have SO:g.get? a=none:=P.2.2;have z2:((φ'.zip os').drop k).map (·.1)=φ'.drop k:=by rw [List.map_drop,List.map_fst_zip];rw [R'.br,R'.len];exact Nat.le_refl _
 have fM:(φ'.drop k++((D.L,({ oL with slots:=sl}:Obj))::iG).map (·.1)).Nodup:=R'.nd;have wW:a∈φ'.drop k:=by
  have:(φ'.drop k)[i- k]?=some a:=by rw [List.getElem?_drop,Nat.add_sub_cancel' hi];exact ha
  exact List.mem_of_getElem? this
 have HC:a≠D.L∧a∉iG.map (·.1):=by rw [List.nodup_append] at fM;refine ⟨fun q=>fM.2.2 a wW D.L (.head _) q,fun q=>fM.2.2 a wW a (.tail _ q) rfl⟩
 have fresh:∀ b ob,h.get? b=some ob→b≠D.L→b∉fr.map (·.1)→a≠b:=fun b ob e n1 n2 q=>by have:=(keep b ob e n1 n2).1;rw [← q,SO] at this;cases this
 have old:a∉φ.drop D.ro++(X++iG).map (·.1):=fun q=>by
  rw [List.map_append] at q;rcases List.mem_append.mp q with q|q
  ·rw [← z1] at q;refine aC (List.mem_map.mp q) fun p hp e=>?_;have P:=Rw.news p (List.mem_append_left _ hp);exact fresh p.1 p.2 P.1 P.2.1 (apart p (List.mem_append_left _ hp)) e.symm
  ·rcases List.mem_append.mp q with q|q
   ·refine aC (List.mem_map.mp q) fun p hp e=>?_;have P:=Rw.news p (List.mem_append_right _ (List.mem_append_left _ hp));exact fresh p.1 p.2 P.1 P.2.1 (apart p (List.mem_append_right _ hp)) e.symm
   ·exact HC.2 q
 have SP:D.g.get? a=none:=by
  cases q:D.g.get? a with
  |none=>rfl
  |some ob=>
   refine aN (HB a ob q) fun n1 n2=>?_;exact absurd rfl (fresh a ob (Rw.fr.keep a ob q) n1 n2)
 refine ⟨m,_,X++iG,base.alloc base.fr (fun p hp=>?_) old (R'.big i a ha) (hor o SN)⟩;rcases List.mem_cons.mp hp with rfl|hp
 ·exact ⟨hget,HC.1,SP⟩
 ·exact base.news p hp
theorem HE (br:bZ.length=hR.length) (len:cO.length=hR.length) (news:∀ p∈nl,h.get? p.1=some p.2∧g.get? p.1=none) (rd:∀(i:Nat) (a:Addr) (o:Obj),bZ[i]?=some a→cO[i]?=some o→g.get? a=some o∧2<a) (rel:∀(i:Nat) (ao:AO) (o:Obj),hR[i]?=some ao→cO[i]?=some o→OR W.prog W.w bZ ao o) (nd:(nl.map (·.1)).Nodup) (cV:2<g.objs.size) (below:∀ b o,g.get? b=some o→h.get? b=some o) (size:g.objs.size=h.objs.size):l8 W g nl (fun _=>none) hR.length bZ cO hR h:=by
 have z:(bZ.zip cO).drop hR.length=[]:=List.drop_of_length_le (by rw [List.length_zip,br,len,Nat.min_self];exact Nat.le_refl _);refine ⟨?_,fun k a o _ ha ho=>(rd k a o ha ho).1,len,br,Nat.le_refl _,rel,fun k o q=>(e0 q),?_,fun k a ha=>?_,cV,below,size⟩
 ·rw [z];exact news
 ·rw [List.drop_of_length_le (Nat.le_of_eq br)];exact nd
 ·have q2:k<cO.length:=by rw [len,← br];exact (List.getElem?_eq_some_iff.mp ha).1
  exact (rd k a _ ha (List.getElem?_eq_getElem q2)).2
theorem SQ {m:Str→Option Value} {os:List Obj} {X fr:List (Addr×Obj)} {oL:Obj} {bZ:List Addr} {cO:List Obj} {hR:AH} (Rw:bH W.prog W.w D φ s h m os (X++fr)) (hsl:c8 D.fr fr) (hL:h.get? D.L=some oL) (jx:tE W D bZ cO hR h):l8 W (hideAll h (D.L::fr.map (·.1))) ([]++(D.L,oL)::fr) (fun _=>none) hR.length bZ cO hR h∧∀ b o,D.g.get? b=some o→(hideAll h (D.L::fr.map (·.1))).get? b=some o:=by
 have had:=hsl.addrs;have NN:∀ p∈(D.L,oL)::fr,h.get? p.1=some p.2∧D.g.get? p.1=none:=fun p hp=>by
  rcases List.mem_cons.mp hp with rfl|hp
  ·exact ⟨hL,Heap.get?_none_of_le Rw.fr.above⟩
  ·have P:=Rw.news p (List.mem_append_right _ (List.mem_append_right _ hp));exact ⟨P.1,P.2.2⟩
 have em:(D.L::fr.map (·.1))=((D.L,oL)::fr).map (·.1):=rfl;refine ⟨HE jx.br jx.len (fun p hp=>⟨(NN p hp).1,hideAll_none _ (em▸List.mem_map_of_mem hp)⟩) (fun i a o ha ho=>?_) jx.rel ?_ (by rw [hideAll_size];exact Rw.hsz) (fun b o e=>of_hideAll _ e) (hideAll_size _ _),fun b o e=>?_⟩
 ·refine nQ (jx.get i a o ha ho) fun p1 p2 p3 p4=>⟨hideAll_get _ p1 fun q=>?_,p4⟩;rcases List.mem_cons.mp q with q|q
  ·exact p2 q
  ·rw [had] at q;exact p3 q
 ·have oF:=Rw.nd;rw [List.map_append,← List.append_assoc,List.nodup_append] at oF;show (D.L::fr.map (·.1)).Nodup;refine List.nodup_cons.mpr ⟨fun q=>?_,oF.2.1⟩;refine aC (List.mem_map.mp q) fun p hp r=>?_;exact (Rw.news p (List.mem_append_right _ (List.mem_append_right _ hp))).2.1 r
 ·refine hideAll_get _ (Rw.fr.keep b o e) fun q=>?_;rw [em] at q;refine aC (List.mem_map.mp q) fun p hp r=>?_;rw [← r,(NN p hp).2] at e;cases e
theorem SR (hx:gF W C n R.ex) {a:Addr} {f:Fn} (Fk:bI W a f) (dR:f.vararg=none) (cy:Cy W D A) (room:dw (n+1) A) (hh:A.handled=none) {bZ:List Addr} {cO:List Obj} {hR h':AH} (Gl:∀ x v,lk C.glob x=some v→∃ u,VR bZ v u∧(W.mg x=some u∨(W.mg x=none∧W.mb x=some u))) (dQ:C.ro=hR.length) (Rp:Rep W.prog W.w D φ s sh.heap) (jx:tE W D bZ cO hR sh.heap) {vs:List AV} {us:List Value} {v:AV} (e:fE C R f vs hR=some (v,h')) (r:aF bZ vs us) {P:Result→Shared→Prop} (k:∀ φ₂ u sh',bu sh sh'→VR φ₂ v u→Rep W.prog W.w D φ s sh'.heap→(∀(i:Nat) (ao:AO) (a:Addr),hR.length≤i→h'[i]?=some ao→φ₂[i]?=some a→(∀ o,OR W.prog W.w φ₂ ao o→OR W.prog W.w (φ++[a]) ao o)→Rep W.prog W.w D (φ++[a]) { s with hp:=s.hp++[ao]} sh'.heap)→P (.ok (.ret u)) sh'):
  codeAny (model W.prog W.w) A (.call (.ref a) ⟨us,[]⟩) P sh:=by
 have ks:=Rp.keeps;refine Ar dR e fun hb hlo hnd he hs hw=>wH Fk dR room (cy.x.keeps ks) r hb fun h5 h6 h7 h8 h9 dK=>?_;subst hs;refine fK cy.b fun outer bW hA hf hk hfr=>?_;obtain ⟨m,os,wJ,Rw⟩:=Rp;refine bK (Lo.parts Rw.lo) fun X fr hnl hsl Aw=>?_;subst hnl;refine iN Rw.fr.ns fun oL PB PC hL qL PD hLf=>?_;refine aN (SQ Rw hsl hL jx) fun B st=>?_;refine Aq h5 h6 h7 h8 h9 B (cy.t.nolimit.keeps ks) hA (cy.x.keeps st) (cy.t.keeps st) (Gv hsl hfr hf hk qL (Nat.lt_of_lt_of_le Rw.cV Rw.fr.above)) room hh dK hlo hnd fun hf' gk Gd x Rc=>?_;refine wpAny_mono ((hx Gd ⟨fun y v q=>aC (Gl y v q) fun u p1 p2=>⟨u,p1.mono x,p2⟩,dQ,fun _ q=>nomatch q⟩ he).use (Q:=fun u aK=>P (.ok (.ret (kX u))) aK) (E:=fun _ _=>False) Rc fun u aK φ₂ s₂' m₂ x₂ aI q=>?_) (fun fl s' z=>z) fun _ _ z=>z.elim;refine aN (SM Rw hsl hL Aw rfl aI) fun b1 b2=>?_;exact k φ₂ _ aK m₂ (hw φ₂ u q.2) b1 (q.1▸b2)
end
inductive PR where
 |val (v:AV)
 |obj (o:AO)
noncomputable def oK:AV→Bool
 | .none=>true| .bool _=>true| .int _=>true| .str _=>true| .jn _=>true
 |_=>false
noncomputable def fP:List AV→Bool
 |[]=>true
 |v::r=>oK v&&fP r
noncomputable def w7:List (Int×AV)→Bool
 |[]=>true
 |p::r=>oK p.2&&w7 r
noncomputable def Bd:AO→Bool
 | .tup vs=>fP vs
 | .dict es 0=>w7 es
 |_=>false
noncomputable def fQ (CR:Cx) (fuel:Nat) (f:Fn) (vs:List AV) (hR:AH):Option PR:=match fE CR (run CR fuel) f vs hR with
 |some (v,h')=>match oK v with
  |true=>some (.val v)
  |false=>match v with
   | .loc m=>match Nat.ble hR.length m with
    |true=>match h'[m]? with
     |some ao=>match Bd ao with|true=>some (.obj ao)|false=>none
     |none=>none
    |false=>none
   |_=>none
 |none=>none
noncomputable def tF (h:AH):PR→AV×AH
 | .val v=>(v,h)
 | .obj o=>(.loc h.length,h++[o])
theorem tG (hs:oK v=true) (h:VR φ v u):VR ψ v u:=by
 cases h with
 |none=>exact .none
 |bool b=>exact .bool b
 |int i t=>exact .int i t
 |str s t q=>exact .str s t q
 |fix=>cases hs
 |loc=>cases hs
 |iT i t=>exact .iT i t
 |gV t=>exact .gV t
theorem oM (h:aF φ v u):fP v=true→aF ψ v u:=by
 induction h with
 |nil=>intro _;exact .nil
 |cons a _ ih=>
  intro hs;have hs:(oK _&&fP _)=true:=hs;rw [Bool.and_eq_true] at hs;exact .cons (tG hs.1 a) (ih hs.2)
theorem SS (h:b7 φ v u):w7 v=true→b7 ψ v u:=by
 induction h with
 |nil=>intro _;exact .nil
 |cons a _ ih=>
  intro hs;have hs:(oK _&&w7 _)=true:=hs;rw [Bool.and_eq_true] at hs;exact .cons (tG hs.1 a) (ih hs.2)
theorem SV (hf:Bd ao=true) (h:OR prog w φ ao o):OR prog w ψ ao o:=by
 induction ao using AO.casesOn with
 |tup=>exact bK h fun us k h1 h2 h3=>⟨us,k,h1,oM h2 hf,h3⟩
 |dict es k=>
  rcases k with _|k
  ·exact aZ h fun kvs h1 h2 h3=>⟨kvs,h1,SS h2 hf,h3⟩
  ·exact Bool.noConfusion hf
 |_=>exact Bool.noConfusion hf
section
variable {W:Wo} {C:Cx} {n:Nat} {D:Md} {A:Around} {φ:List Addr} {s:St} {sh:Shared} {h:Heap}
theorem bH.SW {m:Str→Option Value} {os:List Obj} {nl:List (Addr×Obj)} (R:bH W.prog W.w D φ s h m os nl) {i:Nat} {a:Addr} {o:Obj} (hi:D.ro≤i) (ha:φ[i]?=some a) (ho:os[i]?=some o):(a,o)∈(φ.zip os).drop D.ro:=by
 have:((φ.zip os).drop D.ro)[i- D.ro]?=some (a,o):=by rw [List.getElem?_drop,Nat.add_sub_cancel' hi,List.getElem?_zip_eq_some];exact ⟨ha,ho⟩
 exact List.mem_of_getElem? this
theorem bH.shown {m:Str→Option Value} {os:List Obj} {nl:List (Addr×Obj)} (R:bH W.prog W.w D φ s h m os nl) {i:Nat} {a:Addr} (ha:φ[i]?=some a):a≠D.L∧a∉D.fr.map (·.1)∧2<a:=by
 have hi:i<s.hp.length:=by rw [← R.br];exact (List.getElem?_eq_some_iff.mp ha).1
 obtain ⟨o,ho⟩:∃ o,os[i]?=some o:=⟨_,List.getElem?_eq_getElem (by rw [R.len];exact hi)⟩;refine bK (Lo.parts R.lo) fun X fr hnl hsl hlo=>?_;subst hnl;have had:=hsl.addrs;refine ⟨?_,?_,R.big i a ha⟩
 ·by_cases q:i<D.ro
  ·intro e;have:=R.rd i a o q ha ho;rw [e,Heap.get?_none_of_le R.fr.above] at this;cases this
  ·exact (R.news (a,o) (List.mem_append_left _ (bH.SW R (Nat.le_of_not_lt q) ha ho))).2.1
 ·by_cases q:i<D.ro
  ·intro e;rw [← had] at e;refine aC (List.mem_map.mp e) fun p hp r=>?_;have P:=(R.news p (List.mem_append_right _ (List.mem_append_right _ hp))).2.2;rw [r,R.rd i a o q ha ho] at P;cases P
  ·intro e;rw [← had] at e;have nd:=R.nd;rw [List.map_append,← List.append_assoc,List.nodup_append] at nd;refine nd.2.2 a (List.mem_append_left _ ?_) a e rfl;have:(φ.drop D.ro)[i- D.ro]?=some a:=by rw [List.getElem?_drop,Nat.add_sub_cancel' (Nat.le_of_not_lt q)];exact ha
   exact List.mem_of_getElem? this
theorem xd (S:qP W CR fuel) (Fk:bI W a f) (dR:f.vararg=none) (cy:Cy W D A) (room:dw (fuel+1) A) (hh:A.handled=none) (e:fQ CR fuel f vs hR=some pr) (dQ:CR.ro=hR.length) (jx:∀ sh:Shared,Rep W.prog W.w D φ s sh.heap→∃ bZ cO,tE W D bZ cO hR sh.heap∧aF bZ vs us∧∀ x v,lk CR.glob x=some v→∃ u,VR bZ v u∧(W.mg x=some u∨(W.mg x=none∧W.mb x=some u))):ju W D A (.call (.ref a) ⟨us,[]⟩) φ s (Val { s with hp:=(tF s.hp pr).2} (tF s.hp pr).1):=by
 intro sh Rp;refine bK (jx sh Rp) fun bZ cO sees rv Gl=>?_;unfold fQ at e;refine eH e fun v h' hc e=>?_;refine SR S.ex Fk dR cy room hh Gl dQ Rp sees hc rv fun φ₂ u sh' m r1 r2 r3=>?_;split at e
 ·rename_i hs;obtain rfl:=Option.some.inj e;exact ⟨m,φ,_,.refl _,r2,rfl,tG hs r1⟩
 ·split at e
  ·rename_i l _;refine eT e fun hb e=>?_;split at e
   ·rename_i ao hao;refine eT e fun hf e=>?_;obtain rfl:=Option.some.inj e;refine aC (VR.inv r1) fun _ q1 ha=>?_;subst q1;have R':=r3 l ao _ (Nat.le_of_ble_eq_true hb) hao ha fun o ho=>SV hf ho;refine ⟨m,_,_,Ext.app φ _,R',rfl,?_⟩;have hl:φ.length=s.hp.length:=let ⟨_,_,_,Rw⟩:=Rp;Rw.br
    exact .loc (by show (φ++[_])[s.hp.length]?=_;rw [← hl];simp)
   ·exact e0 e
  ·exact e0 e
end
noncomputable def FU:Nat:=80
noncomputable def tH:List AV→Option (List (Option Int))
 |[]=>some []
 |v::r=>ob (pM v) fun o=>ob (tH r) fun l=>some (o::l)
noncomputable def Be {α:Type}:List α→Option (α×α×α×α)
 |[]=>.none
 |x::r=>ob (three r) fun y=>some (x,y)
noncomputable def qT (h:AH) (v:AV):Option (List AV):=ob (gR h v) fun x=>match fP x with
 |true=>some x
 |false=>.none
noncomputable def qU (h:AH) (n:Nat):Option (List (List AV)):=ob (bO h[n]?) fun vs=>ob (Be vs) fun q=>ob (qT h q.1) fun x=>ob (qT h q.2.1) fun y=>ob (qT h q.2.2.1) fun z=>ob (qT h q.2.2.2) fun w=>some [x,y,z,w]
noncomputable def ownOf (h:AH) (o:Nat):Option (List (Option Int)):=ob (bO h[o]?) tH
noncomputable def eX (ns:List (List AV)) (own:List AV):AH:=.list [.loc 1,.loc 2,.loc 3,.loc 4]::(ns.map AO.list++[.list own])
noncomputable def HF (h:AH) (n o:Nat):Option PR:=ob (qU h n) fun ns=>ob (ownOf h o) fun os=>fQ (CQ 6) FU j7 [.loc 0,.loc 5] (eX ns (os.map .jn))
noncomputable def HG (h:AH) (n o:Nat) (k:Int):Option PR:=ob (qU h n) fun ns=>ob (ownOf h o) fun os=>fQ (CQ 6) FU bw [.loc 0,.loc 5,.int k] (eX ns (os.map aP))
noncomputable def i7 (a b:Str) (m:Int):Option PR:=fQ (CQ 0) FU bg [.str a,.str b,.int m] []
noncomputable def cz {α:Type} (o:Option α) (f:α→Bool):Bool:=match o with
 |some a=>f a
 | .none=>false
noncomputable def Bf (a b:AV):Bool:=match a with
 | .int i=>cz (dP b) (iE i)
 | .str x=>cz (iO b) (sE x)
 | .loc n=>cz (cT b) fun m=>Nat.beq n m&&Nat.blt n 33
 |_=>false
noncomputable def tK:List AV→List AV→Bool
 |[],bs=>bs.isEmpty
 |a::r,bs=>match bs with
  |[]=>false
  |b::t=>Bf a b&&tK r t
noncomputable def jy:AH→AH→Bool
 |[],_=>true
 |x::r,hs=>match hs with
  |[]=>false
  |y::t=>cz (dY (some x)) fun a=>cz (dY (some y)) fun b=>tK a b&&jy r t
noncomputable def tL (i:Int) (w:Str):Option PR:=fQ CT FU fT [.int i,.str w,.fix (.ref 210)] b5
noncomputable def k9 (h:AH) (p:Option PR):Option (AV×AH):=ob p fun p=>some (tF h p)
noncomputable def gd {β:Type} (b:Bool) (x:Option β):Option β:=match b with
 |true=>x
 |false=>.none
noncomputable def HH (w:Str) (h:AH):Option (AV×AH):=gd (lim (iR w).cps.size) (some (.str (iR w),h))
noncomputable def SX (o:Option Int) (w:Str) (h:AH):Option (AV×AH):=match o with
 | .none=>HH w h
 |some i=>k9 h (tL i w)
noncomputable def SY (vs:List AV) (h:AH):Option (AV×AH):=ob (three vs) fun q=>ob (pM q.1) fun o=>ob (iO q.2.1) fun w=>ob (ob (zb q.2.2) kM) fun f=>match Nat.beq f 210&&jy b5 h with
 |true=>SX o w h
 |false=>.none
noncomputable def S0 (vs:List AV) (h:AH):Option (AV×AH):=ob (three vs) fun q=>ob (iO q.1) fun x=>ob (iO q.2.1) fun y=>ob (dP q.2.2) fun m=>k9 h (i7 x y m)
noncomputable def S2 (vs:List AV) (h:AH):Option (AV×AH):=ob (two vs) fun q=>ob (cT q.1) fun n=>ob (cT q.2) fun o=>k9 h (HF h n o)
noncomputable def S3 (vs:List AV) (h:AH):Option (AV×AH):=ob (three vs) fun q=>ob (cT q.1) fun n=>ob (cT q.2.1) fun o=>ob (dP q.2.2) fun k=>k9 h (HG h n o k)
noncomputable def lg (a:Addr) (vs:List AV) (h:AH):Option (AV×AH):=match Nat.beq a 29 with
 |true=>SY vs h
 |false=>match Nat.beq a 43 with
  |true=>S0 vs h
  |false=>match Nat.beq a 217 with
   |true=>S2 vs h
   |false=>match Nat.beq a 222 with
    |true=>S3 vs h
    |false=>.none
noncomputable def CL:Cx:={ C0 with ct:=lg}
section
variable {W:Wo} {C:Cx} {n:Nat} {D:Md} {A:Around} {φ:List Addr} {s:St} {sh:Shared} {h:Heap}
theorem Bg:∀{vs:List AV} {os:List (Option Int)},tH vs=some os→vs=os.map .jn
 |[],os,h=>by cases h;rfl
 |v::r,os,h=>ah (x:=pM v) (F:=fun o=>ob (tH r) fun l=>some (o::l)) h fun o ho h=>ah h fun l hl h=>by
  obtain rfl:=Option.some.inj h;rw [Bg hl,vF ho];rfl
theorem HJ {α:Type} {l:List α} {p:α×α×α×α} (e:Be l=some p):l=[p.1,p.2.1,p.2.2.1,p.2.2.2]:=by
 rcases l with _|⟨a,l⟩
 ·exact e0 e
 ·exact ah e fun y h e=>(sN h▸congrArg (fun z:α×α×α×α=>[z.1,z.2.1,z.2.2.1,z.2.2.2]) (Option.some.inj e))
theorem xg {P:Prop} {h:AH} {v:AV} {x:List AV} (e:qT h v=some x) (k:∀ a,v=.loc a→h[a]?=some (.list x)→fP x=true→P):P:=ah e fun y hy e=>eT e fun hs e=>ah hy fun a ha hl=>k a (lQ ha) (Option.some.inj e▸lR hl) (Option.some.inj e▸hs)
theorem xh {h:AH} {a:Nat} {x:List AV} (h1:h[a]?=some (.list x)) (h2:fP x=true):qT h (.loc a)=some x:=aG (a:=x) (congrArg bO h1) (by rw [h2])
theorem xj {G:AV→AH→Prop} {h h':AH} {v:AV} {p:Option PR} (e:k9 h p=some (v,h')) (k:∀ pr,p=some pr→G (tF h pr).1 (tF h pr).2):G v h':=ah e fun pr hp e=>by have z:=k pr hp;rw [Option.some.inj e] at z;exact z
theorem S4 {P:Prop} {β:Type} {b:Bool} {x:Option β} {r:β} (e:gd b x=some r) (k:b=true→x=some r→P):P:=by
 rcases b with _|_
 ·exact e0 e
 ·exact k rfl e
noncomputable def vInt (f:Value):Option (Int):=dh f.ctorIdx 4 fun h=>Value.int.elim (motive:=fun _=>Option (Int)) f h fun i _=>some i
theorem HK (e:vInt f=some i):∃ t,f=.int i t:=dF e fun z=>Value.int.elim (motive:=fun f=>∀ z:f.ctorIdx=4,Value.int.elim (motive:=fun _=>Option (Int)) f z (fun i _=>some i)=some i→∃ t,f=.int i t) f z (fun i t _ h=>⟨t,Option.some.inj h▸rfl⟩) z
noncomputable def vStr (f:Value):Option (Str):=dh f.ctorIdx 6 fun h=>Value.str.elim (motive:=fun _=>Option (Str)) f h fun i _=>some i
theorem S5 (e:vStr f=some i):∃ t,f=.str i t:=dF e fun z=>Value.str.elim (motive:=fun f=>∀ z:f.ctorIdx=6,Value.str.elim (motive:=fun _=>Option (Str)) f z (fun i _=>some i)=some i→∃ t,f=.str i t) f z (fun i t _ h=>⟨t,Option.some.inj h▸rfl⟩) z
noncomputable def tM (f:Value):Option (String):=dh f.ctorIdx 8 fun h=>Value.type.elim (motive:=fun _=>Option (String)) f h fun i=>some i
theorem Bh (e:tM f=some i):f=.type i:=dF e fun z=>Value.type.elim (motive:=fun f=>∀ z:f.ctorIdx=8,Value.type.elim (motive:=fun _=>Option (String)) f z (fun i=>some i)=some i→f=.type i) f z (fun i _ h=>Option.some.inj h▸rfl) z
noncomputable def Bj (f:Value):Option (String):=dh f.ctorIdx 9 fun h=>Value.builtin.elim (motive:=fun _=>Option (String)) f h fun i=>some i
theorem HM (e:Bj f=some i):f=.builtin i:=dF e fun z=>Value.builtin.elim (motive:=fun f=>∀ z:f.ctorIdx=9,Value.builtin.elim (motive:=fun _=>Option (String)) f z (fun i=>some i)=some i→f=.builtin i) f z (fun i _ h=>Option.some.inj h▸rfl) z
theorem HN {P:Prop} {h:AH} {n:Nat} {ns:List (List AV)} (e:qU h n=some ns) (k:∀ a b c d x y z w,h[n]?=some (.list [.loc a,.loc b,.loc c,.loc d])→h[a]?=some (.list x)→h[b]?=some (.list y)→h[c]?=some (.list z)→h[d]?=some (.list w)→fP x=true→fP y=true→fP z=true→fP w=true→ns=[x,y,z,w]→P):P:=
 ah e fun vs hl e=>ah e fun q hq e=>ah e fun x hx e=>ah e fun y hy e=>ah e fun z hz e=>ah e fun w hw e=>
 xg hx fun a ea ha s1=>xg hy fun b eb hb s2=>xg hz fun c ec hc s3=>xg hw fun d ed hd s4=>
 k a b c d x y z w (ea▸eb▸ec▸ed▸HJ hq▸lR hl) ha hb hc hd s1 s2 s3 s4 (Option.some.inj e).symm
theorem HO {h:AH} {n:Nat} {ns:List (List AV)} {o:List AV} (e:qU h n=some ns):(eX ns o).length=6:=HN e fun _ _ _ _ _ _ _ _ _ _ _ _ _ _ _ _ _ q=>q▸rfl
noncomputable def Al (Q:α→β→Prop):List α→List β→Prop
 |[],_=>True
 |_::_,[]=>True
 |a::l,b::m=>Q a b∧Al Q l m
theorem Al.at {α β:Type} {Q:α→β→Prop} {l:List α}:∀{m:List β},Al Q l m→∀(i:Nat) (a:α) (b:β),l[i]?=some a→m[i]?=some b→Q a b:=by
 induction l with
 |nil=>exact fun _ i a b h=>e0 h
 |cons x l ih=>
  intro m;induction m with
  |nil=>exact fun _ i a b _ h=>e0 h
  |cons y m _=>
   intro h i;induction i with
   |zero=>exact fun a b ha hb=>Option.some.inj ha▸Option.some.inj hb▸h.1
   |succ i _=>exact fun a b ha hb=>ih h.2 i a b ha hb
theorem HQ (Rp:Rep W.prog W.w D φ s h) {n o:Nat} {ns:List (List AV)} {vo tN:List AV} (hn:qU s.hp n=some ns) (ho:s.hp[o]?=some (.list vo)) (ht:∀ φ us,aF φ vo us→∀ ψ,aF ψ tN us) {un uo:Value} (r1:VR φ (.loc n) un) (r2:VR φ (.loc o) uo):∃ bZ cO,tE W D bZ cO (eX ns tN) h∧VR bZ (.loc 0) un∧VR bZ (.loc 5) uo:=by
 refine HN hn fun a b c d x y z w hl ha hb hc hd s1 s2 s3 s4 q=>?_;subst q;obtain ⟨m,os,nl,R⟩:=Rp;refine r1.loc' fun an hna=>r2.loc' fun ao hoa=>?_;refine aZ (R.at hl hna) fun on _ q1 gn=>?_;refine bK q1 fun us k en v1 v2=>?_;refine aZ (R.at ho hoa) fun oo _ q1 go=>?_;refine bK q1 fun HR ko eo Bk S6=>?_;revert en v2;refine fL v1 fun ua _ ra v1=>fL v1 fun ub _ rb v1=>fL v1 fun uc _ rc v1=>fL v1 fun ud _ rd v1=>jq v1 fun en v2=>?_;revert en;refine ra.loc' fun aa s6=>rb.loc' fun ab hab=>rc.loc' fun ac hac=>rd.loc' fun ad had en=>?_;refine aZ (R.at ha s6) fun oa _ q1 ga=>?_;refine bK q1 fun Z8 ka ea S7 S8=>?_;refine aZ (R.at hb hab) fun ob _ q1 gb=>?_;refine bK q1 fun Z9 kb eb S9 Tc=>?_;refine aZ (R.at hc hac) fun oc _ q1 gc=>?_;refine bK q1 fun usc kc ec Td Te=>?_;refine aZ (R.at hd had) fun od _ q1 gd=>?_;refine bK q1 fun usd kd ed Tf Tg=>?_;have Th:tN.length=vo.length:=by rw [←(ht φ HR Bk φ).length,Bk.length]
 exact ⟨[an,aa,ab,ac,ad,ao],[on,oa,ob,oc,od,oo],⟨rfl,rfl,Al.at ⟨⟨gn,R.shown hna⟩,⟨ga,R.shown s6⟩,⟨gb,R.shown hab⟩,⟨gc,R.shown hac⟩,⟨gd,R.shown had⟩,⟨go,R.shown hoa⟩,trivial⟩,Al.at ⟨⟨_,_,en,.cons (.loc rfl) (.cons (.loc rfl) (.cons (.loc rfl) (.cons (.loc rfl) .nil))),(by decide:4≤100000)⟩,⟨_,_,ea,oM S7 s1,S8⟩,⟨_,_,eb,oM S9 s2,Tc⟩,⟨_,_,ec,oM Td s3,Te⟩,⟨_,_,ed,oM Tf s4,Tg⟩,⟨_,_,eo,ht φ HR Bk _,Th▸S6⟩,trivial⟩⟩,.loc rfl,.loc rfl⟩
theorem cR {P:Prop} {α:Type} {o:Option α} {f:α→Bool} (e:cz o f=true) (k:∀ a,o=some a→f a=true→P):P:=by
 rcases o with _|a
 ·exact Bool.noConfusion e
 ·exact k a rfl e
theorem tO (h:cT a=.none):∀ n,a=.loc n→n<33:=fun n q=>e0 (h.symm.trans (congrArg cT q))
theorem Ti {a b:AV} (h:Bf a b=true):a=b∧∀ n,a=.loc n→n<33:=by
 induction a with
 |int i=>exact cR (o:=dP b) h fun j hj h=>⟨m5 hj▸dI.mp h▸rfl,tO rfl⟩
 |str i=>exact cR (o:=iO b) h fun j hj h=>⟨pY hj▸dm.mp h▸rfl,tO rfl⟩
 |loc i=>exact cR (o:=cT b) (f:=fun m=>Nat.beq i m&&Nat.blt i 33) h fun j hj h=>aN ((Bool.and_eq_true ..).mp h) fun h1 h2=>⟨(congrArg AV.loc (Nat.eq_of_beq_eq_true h1)).trans (lQ hj).symm,fun n q=>Option.some.inj (congrArg cT q)▸Nat.le_of_ble_eq_true h2⟩
 |_=>exact Bool.noConfusion h
theorem Tj:∀{b:List AV},tK a b=true→a=b∧∀ n,AV.loc n∈a→n<33:=by
 induction a with
 |nil=>exact fun h=>⟨(nil_eq h).symm,fun n q=>nomatch q⟩
 |cons x r ih=>
  intro b;induction b with
  |nil=>exact fun h=>Bool.noConfusion h
  |cons y t _=>
   intro h;have h:(Bf x y&&tK r t)=true:=h;refine aN ((Bool.and_eq_true ..).mp h) fun h1 h2=>aN (Ti h1) fun h1 h3=>aN (ih h2) fun h2 h4=>⟨h1▸h2▸rfl,fun n q=>?_⟩;exact (List.mem_cons.mp q).elim (fun q=>h3 n q.symm) (h4 n)
theorem Tn {x:AO} {r H:AH} (h:jy (x::r) H=true):∃ a t,x=.tup a∧H=.tup a::t∧(∀ n,AV.loc n∈a→n<33)∧jy r t=true:=by
 induction H with
 |nil=>exact Bool.noConfusion h
 |cons y t _=>
  have h:cz (dY (some x)) (fun a=>cz (dY (some y)) fun b=>tK a b&&jy r t)=true:=h;refine cR h fun a ha h=>cR h fun b hb h=>aN ((Bool.and_eq_true ..).mp h) fun h1 h2=>aN (Tj h1) fun h3 h4=>?_;exact ⟨a,t,Option.some.inj (m6 ha),h3▸Option.some.inj (m6 hb)▸rfl,h4,h2⟩
theorem tQ:∀{b:AH},jy a b=true→∀(i:Nat) (ao:AO),a[i]?=some ao→b[i]?=some ao∧∃ vs,ao=.tup vs∧∀ n,AV.loc n∈vs→n<33:=by
 induction a with
 |nil=>exact fun _ i ao e=>e0 e
 |cons x r ih=>
  intro b h i;refine fK (Tn h) fun x t q1 q2 h2 h3=>?_;subst q1;subst q2;induction i with
  |zero=>exact fun ao e=>Option.some.inj e▸⟨rfl,x,rfl,h2⟩
  |succ i _=>exact fun ao e=>ih h3 i ao e
theorem tR (hv:∀ n,v=.loc n→n<k) (h:VR φ v u):VR (φ.take k) v u:=by
 cases h with
 |none=>exact .none
 |bool b=>exact .bool b
 |int i t=>exact .int i t
 |str s t q=>exact .str s t q
 |fix=>exact .fix _
 |loc ha=>exact .loc (by rw [List.getElem?_take,if_pos (hv _ rfl)];exact ha)
 |iT i t=>exact .iT i t
 |gV t=>exact .gV t
theorem To (h:aF φ v u):(∀ n,AV.loc n∈v→n<k)→aF (φ.take k) v u:=by
 induction h with
 |nil=>intro _;exact .nil
 |cons a _ ih=>intro hv;exact .cons (tR (fun n q=>hv n (q▸ .head _)) a) (ih fun n q=>hv n (.tail _ q))
theorem Tp (Rp:Rep W.prog W.w D φ s h) (ht:jy b5 s.hp=true) (hl:b5.length=33):∃ bZ cO,tE W D bZ cO b5 h∧bZ=φ.take 33:=by
 obtain ⟨m,os,nl,R⟩:=Rp;have big:33≤s.hp.length:=by have Bl:∃ ao,b5[32]?=some ao:=⟨_,List.getElem?_eq_getElem (by rw [hl];decide)⟩;refine aJ Bl fun ao Bl=>?_;have:=(List.getElem?_eq_some_iff.mp (tQ ht 32 ao Bl).1).1;assumption
 refine ⟨φ.take 33,os.take 33,⟨?_,?_,fun i a o hi ho=>?_,fun i ao o hi ho=>?_⟩,rfl⟩
 ·rw [List.length_take,R.br,hl];lia
 ·rw [List.length_take,R.len,hl];lia
 ·rw [List.getElem?_take] at hi ho;split at hi
  ·rename_i q;rw [if_pos q] at ho;obtain ⟨ao,hao⟩:∃ ao,s.hp[i]?=some ao:=⟨_,List.getElem?_eq_getElem (by (exact Nat.lt_of_lt_of_le q big))⟩;refine aZ (R.at hao hi) fun o' h1 _ h3=>?_;rw [ho] at h1;cases h1;exact ⟨h3,R.shown hi⟩
  ·exact e0 hi
 ·refine rN (tQ ht i ao hi) fun h1 vs q1 h2=>?_;subst q1;rw [List.getElem?_take] at ho;split at ho
  ·have:=R.rel i _ o h1 ho;refine bK this fun us k e1 e2 e3=>?_;exact ⟨us,k,e1,To e2 h2,e3⟩
  ·exact e0 ho
noncomputable def HS:AV→Bool
 | .loc _=>false
 |_=>true
theorem Tq (hv:HS v=true) (h:VR φ v u):VR ψ v u:=by
 cases h with
 |none=>exact .none
 |bool b=>exact .bool b
 |int i t=>exact .int i t
 |str s t q=>exact .str s t q
 |fix=>exact .fix _
 |loc ha=>cases hv
 |iT i t=>exact .iT i t
 |gV t=>exact .gV t
theorem Bm (Gl:aH W CL D φ) (ψ:List Addr):∀ x v,lk sy x=some v→∃ u,VR ψ v u∧(W.mg x=some u∨(W.mg x=none∧W.mb x=some u)):=by
 intro x v hx;have hn:(sy.all fun p=>HS p.2)=true:=by decide+kernel
 have hv:=List.all_eq_true.mp hn _ (qN hx);refine aC (Gl.glob x v (by show lk (sy++_) x=some v;rw [wF,hx])) fun u h1 h2=>?_;exact ⟨u,Tq hv h1,h2⟩
theorem Tt (Gl:aH W CL D φ):∀ x v,lk vB x=some v→∃ u,VR (φ.take 33) v u∧(W.mg x=some u∨(W.mg x=none∧W.mb x=some u)):=by
 intro x v hx;refine aC (Gl.glob x v hx) fun u h1 h2=>?_;have hn:(vB.all fun p=>match p.2 with| .loc n=>Nat.blt n 33|_=>true)=true:=by decide+kernel
 have hv:=List.all_eq_true.mp hn _ (qN hx);exact ⟨u,tR (fun n q=>by rw [q] at hv;exact Nat.le_of_ble_eq_true hv) h1,h2⟩
end
noncomputable def xm (W:Wo):Prop:=∀{t:Str} {D:Md} {A:Around} {φ:List Addr} {s:St} {us:List Value},(iR t).cps.size≤100000→Cy W D A→dw 90 A→A.handled=none→aH W CL D φ→aF φ [.jn none,.str t,.fix (.ref 210)] us→jy b5 s.hp=true→
 ju W D A (.call (.ref 29) ⟨us,[]⟩) φ s (Val s (.str (iR t)))
theorem HT:∀ os:List (Option Int),fP (os.map .jn)=true
 |[]=>rfl
 |_::r=>by show (true&&fP (r.map .jn))=true;rw [HT r];rfl
theorem HU:∀{os:List (Option Int)} {us:List Value},aF φ (os.map .jn) us→aF ψ (os.map aP) us
 |[],us,h=>by cases h;exact .nil
 |o::r,us,h=>by
  obtain ⟨_,_,rfl,a,h⟩:=m7 h;exact .cons (tG (by cases o <;>rfl) (qG a)) (HU h)
section
variable (W:Wo) (w:World) (q:KW W w)
include q
theorem Bo (h1:C.fn=jK vt) (h2:C.cls=jK vA) (h3:Ay W C):l9 W C:=⟨⟨fun a fn h=>(by rw [h1] at h;exact ⟨(qR W w q a fn h).keep,(qR W w q a fn h).fnIn⟩),fun c k h=>(by rw [h2] at h;exact HA W w q c k h)⟩,
  fun a fn h=>(by rw [h1] at h;exact qR W w q a fn h),h3⟩
theorem Bp (k:Nat):l9 W (CQ k):=Bo W w q rfl rfl fun a vs h v h' e=>by cases e
theorem Tu:l9 W CT:=Bo W w q rfl rfl fun a vs h v h' e=>by cases e
theorem Tv (T:xm W):Ay W CL:=by
 intro a vs h v h' e0 D A φ s us cy room hh Gl hs r;subst hs;have rm:dw (FU+1) A:=room.less (by decide);have e:lg a vs s.hp=some (v,h'):=e0;clear e0;refine bE e (fun ha e=>?_) fun _ e=>bE e (fun ha e=>?_) fun _ e=>bE e (fun ha e=>?_) fun _ e=>eT e fun ha e=>?_
 ·have ha:=Nat.eq_of_beq_eq_true ha;subst ha;refine ⟨(wY W w q).fnIn,?_⟩;refine ah e fun p hp e=>ah e fun o ho e=>ah e fun t hw e=>ah e fun f hf e=>eT e fun hc z=>ah hf fun g hg hf=>?_;have hv:vs=[.jn o,.str t,.fix (.ref 210)]:=by rw [sN hp,vF ho,pY hw,D6 hg,pZ hf,Nat.eq_of_beq_eq_true ((Bool.and_eq_true ..).mp hc).1]
  have ht:=((Bool.and_eq_true ..).mp hc).2;clear hp hf hg hc hw ho;subst hv;rcases o with _|i
  ·have e:HH t s.hp=some (v,h'):=z;refine S4 e fun hl e=>aN (pin e) fun q1 q2=>?_;subst q1;subst q2;exact T (gD hl) cy room hh Gl r ht
  ·have e:k9 s.hp (tL i t)=some (v,h'):=z;refine xj (G:=fun v h'=>ju W D A (.call (.ref 29) ⟨us,[]⟩) φ s (Val { s with hp:=h'} v)) e fun pr hp=>?_;refine xd (jw (Tu W w q) FU) (wY W w q) rfl cy rm hh hp rfl fun sh Rp=>?_;refine dB (Tp Rp ht rfl) fun bZ cO S1 q1=>?_;subst q1;exact ⟨_,cO,S1,fL r fun _ _ r1 r=>fL r fun _ _ r2 r=>fL r fun _ _ r3 r=>jq r (.cons (tR (tO rfl) (qG r1)) (.cons (tR (tO rfl) r2) (.cons (tR (tO rfl) r3) .nil))),Tt Gl⟩
 ·have ha:=Nat.eq_of_beq_eq_true ha;subst ha;refine ⟨(AS W w q).fnIn,ah e fun p hp e=>ah e fun x hx e=>ah e fun y hy e=>ah e fun m hm e=>?_⟩;refine xj (G:=fun v h'=>ju W D A (.call (.ref 43) ⟨us,[]⟩) φ s (Val { s with hp:=h'} v)) e fun pr jz=>?_;refine xd (jw (Bp W w q 0) FU) (AS W w q) rfl cy rm hh jz rfl fun sh Rp=>?_;have r:aF φ [.str x,.str y,.int m] us:=pY hx▸pY hy▸m5 hm▸sN hp▸r;exact ⟨[],[],⟨rfl,rfl,fun i a o h=>EV.e0 h,fun i ao o h=>EV.e0 h⟩,oM r rfl,Bm Gl []⟩
 ·have ha:=Nat.eq_of_beq_eq_true ha;subst ha;refine ⟨(A6 W w q).fnIn,ah e fun p hp e=>ah e fun n hn e=>ah e fun o ho e=>?_⟩;refine xj (G:=fun v h'=>ju W D A (.call (.ref 217) ⟨us,[]⟩) φ s (Val { s with hp:=h'} v)) e fun pr jz=>?_;refine ah jz fun ns hns jz=>ah jz fun os hos jz=>ah hos fun vo Bq hos=>?_;refine xd (jw (Bp W w q 6) FU) (A6 W w q) rfl cy rm hh jz (HO hns).symm fun sh Rp=>?_;have r:aF φ [.loc n,.loc o] us:=lQ hn▸lQ ho▸two_eq hp▸r;refine fL r fun u1 _ r1 r=>fL r fun u2 _ r2 r=>jq r ?_;refine bK (HQ (tN:=os.map .jn) Rp hns (lR Bq) (fun φ us x ψ=>oM (Bg hos▸x) (HT os)) r1 r2) fun bZ cO S1 v1 v2=>?_;exact ⟨bZ,cO,S1,.cons v1 (.cons v2 .nil),Bm Gl bZ⟩
 ·have ha:=Nat.eq_of_beq_eq_true ha;subst ha;refine ⟨(A8 W w q).fnIn,ah e fun p hp e=>ah e fun n hn e=>ah e fun o ho e=>ah e fun k hk e=>?_⟩;refine xj (G:=fun v h'=>ju W D A (.call (.ref 222) ⟨us,[]⟩) φ s (Val { s with hp:=h'} v)) e fun pr jz=>?_;refine ah jz fun ns hns jz=>ah jz fun os hos jz=>ah hos fun vo Bq hos=>?_;refine xd (jw (Bp W w q 6) FU) (A8 W w q) rfl cy rm hh jz (HO hns).symm fun sh Rp=>?_;have r:aF φ [.loc n,.loc o,.int k] us:=lQ hn▸lQ ho▸m5 hk▸sN hp▸r;refine fL r fun u1 _ r1 r=>fL r fun u2 _ r2 r=>fL r fun u3 _ r3 r=>jq r ?_;refine bK (HQ (tN:=os.map aP) Rp hns (lR Bq) (fun φ us x ψ=>HU (Bg hos▸x)) r1 r2) fun bZ cO S1 v1 v2=>?_;exact ⟨bZ,cO,S1,.cons v1 (.cons v2 (.cons (tG rfl r3) .nil)),Bm Gl bZ⟩
theorem Tw (T:xm W):l9 W CL:=Bo W w q rfl rfl (Tv W w q T)
end
theorem Tz:fillsNumberSlot (.type "str") "and" =pure false:=by
 have hf:typeLookup (.type "str") (dunder "and")=pure none:=by rw [typeLookup_type,builtinLookup_eq_fast];rfl
 have hr:typeLookup (.type "str") (dunderR "and")=pure none:=by rw [typeLookup_type,builtinLookup_eq_fast];rfl
 simp only [fillsNumberSlot,hf,hr,pure_bind];rfl
theorem TF (hh:A.handled=none) (h:∀ h' tk e,Heap.NewExc s.heap h' e "TypeError" →E (.ref e) { s with heap:=h',toks:=tk}):wpAny (model prog w) A (binaryOp .BitAnd (.str a t) (.int b u)) Q E s:=by
 unfold binaryOp;refine wpAny_holding ?_;show wpAny _ A (binaryOp1 "and" (.str a t) (.int b u)>>=_) _ _ _;refine wpAny_bind (wpAny_binaryOp1_right_declines (T:= "str") (U:= "int") (nm:= "and") (by decide) ?_ ?_ Tz fills_int_and F.slot_int_rand ?_)
 ·exact rfl
 ·exact rfl
 ·refine call_gives F.slot_int_rand (show _ from rfl) F.entry_int_rand (F.args_int_rand_2 _ _) (PySem.AutoIntG7.int___rand___int_str_0 b u a t) ?_;refine ⟨rfl,?_⟩;show wpAny (model prog w) A (binopTypeError "&" (.str a t) (.int b u)) Q E s;unfold binopTypeError;refine wpAny_bind (wpAny_rule (wpAny_bind (wpAny_typeNameOf' (T:= "str") rfl (by decide) (wpAny_bind (wpAny_typeNameOf' (T:= "int") rfl (by decide) (wpAny_raiseTypeError hh h ?_))))));exact Nat.le_of_ble_eq_true rfl
end EV
namespace EV
end EV
namespace EV
open PySem PySem.W PySem.Calls PyProof.Rows
section
variable {W:Wo} {C:Cx} {n:Nat} {D:Md} {A:Around} {env bW:Env} {l:List Env} {ae:au} {φ ψ:List Addr} {s:St} {sh:Shared} {h h':Heap} {e:Addr}
noncomputable def gJ (W:Wo) (D:Md) (l:List Env) (φ:List Addr) (s:St) (e:Addr) (h:Heap):Prop:=∃(hr base:Heap) (cls a0:Value),(∀ h',base.StaysIn h'→hr.UpToSlots h'→Rep W.prog W.w D φ s h')∧hr.UpToSlots h∧(Heap.FlyingW base l e cls a0 h∨Heap.HeldW base l e cls a0 D.L h)
noncomputable def EP (W:Wo) (D:Md) (l:List Env) (iC:List Addr) (d7:Shared) (P:St→Prop) (v:Value) (sh':Shared):Prop:=∃ e φ' s',v=.ref e∧bu d7 sh'∧Ext iC φ'∧gJ W D l φ' s' e sh'.heap∧P s'
noncomputable def xq (s s':St):Prop:=s'.lo=s.lo∧∃ ex,s'.hp=s.hp++ex
noncomputable def HV (h:AH) (s':St):Prop:=∃ ex,s'.hp=h++ex
theorem EP.weak (x:EP W D l φ aO P v aK) (k:∀ s,P s→P' s):EP W D l φ aO P' v aK:=by refine mS x fun e φ' s' h1 h2 h3 h4 h5=>?_;exact ⟨e,φ',s',h1,h2,h3,h4,k _ h5⟩
theorem EP.next (x:EP W D l φ₁ aO P v aK) (hx:Ext φ φ₁) (m:bu sh aO):EP W D l φ sh P v aK:=by refine mS x fun e φ' s' h1 h2 h3 h4 h5=>?_;exact ⟨e,φ',s',h1,m.trans h2,hx.trans h3,h4,h5⟩
theorem TG (hf:env.frame=some D.L) (hf2:bW.frame=some D.L) (v:Value):noteFrame v env=noteFrame v bW:=by unfold noteFrame PySem.frameOf;rw [hf,hf2]
theorem HW (hA:A.frames=some (bW::l)) (hf2:bW.frame=some D.L) (hf:env.frame=some D.L) (x:gJ W D (bW::l) φ s e sh.heap) (k:∀ h',gJ W D (bW::l) φ s e h'→Q () { sh with heap:=h'}):wpAny M A (noteFrame (.ref e) env) Q E sh:=by
 refine nR x fun hr base cls a0 x1 x2 x3=>?_;rw [TG hf hf2];rcases x3 with x3|x3
 ·exact wpAny_looks_onW hA hf2 x3 fun h' hh hu=>k h' ⟨hr,base,cls,a0,x1,x2.trans hu,.inr hh⟩
 ·exact wpAny_noteFrame_againW hf2 x3.2.2.2 (k sh.heap ⟨hr,base,cls,a0,x1,x2,.inr x3⟩)
theorem TH {M:Model} {base:Heap} {cls a0 fl:Value} {L:Addr} {E:Value→Shared→Prop} {Q:Unit→Shared→Prop} (hkb:base.StaysIn sh.heap) (hl:sh.heap.FunFrames base l) (ht:sh.heap.TracedAtW base e cls a0 fl) (k:∀ h',base.StaysIn h'→h'.FunFrames base l→h'.TracedAtW base e cls a0 (rawInt L)→(∀ b o,sh.heap.get? b=some o→(∀ vs,o.data≠ .fields vs)→h'.get? b=some o)→Q () { sh with heap:=h'}):
  wpAny M A (setFlight (.ref e) (some L)) Q E sh:=by
 refine Ky ht fun oe vs T oT ts he hcls hd h1 HX HY hT xr h3=>?_;have HZ:3<ts.size:=(Array.getElem?_eq_some_iff.mp h3).1;have other:∀ b,b≠T→(sh.heap.update T (Obj.mapFields (·.setIfInBounds 3 ((some L).elim Value.none fun f=>rawInt f)))).get? b=sh.heap.get? b:=fun b hb=>Heap.get?_update_other _ _ (Ne.symm hb);have H6:∀ b o,sh.heap.get? b=some o→(∀ vs,o.data≠ .fields vs)→b≠T:=fun b o hb hnf q=>by rw [q,hT] at hb;injection hb with hb;subst hb;exact hnf ts xr
 unfold setFlight;refine wpAny_bind (wpAny_field he hd h1 ?_);rw [if_pos (show (Value.ref T !=Value.none)=true from by simp)];refine wpAny_setField hT xr HZ (k _ (fun b o hbo=>(other b fun q=>by rw [q,HX] at hbo;cases hbo).trans (hkb b o hbo))
  (hl.of_keeps fun b o hb hnf=>⟨o,(other b (H6 b o hb hnf)).trans hb,rfl⟩) ?_ fun b o hb hnf=>(other b (H6 b o hb hnf)).trans hb)
 exact ⟨oe,vs,T,_,_,(other e (Ne.symm HY)).trans he,hcls,hd,h1,HX,HY,Heap.get?_update_self _ hT (Obj.isFreed_of_fields (Obj.data_mapFields xr _)),Obj.data_mapFields xr _,by simp [HZ]⟩
theorem gJ.at (x:gJ W D l φ s e h):∃(hr base:Heap) (cls a0 fl:Value),(∀ h',base.StaysIn h'→hr.UpToSlots h'→Rep W.prog W.w D φ s h')∧hr.UpToSlots h∧base.StaysIn h∧base.get? e=none∧h.FunFrames base l∧h.TracedAtW base e cls a0 fl:=by
 refine nR x fun hr base cls a0 x1 x2 x3=>?_;rcases x3 with ⟨y1,y2,y3,y4⟩|⟨y1,y2,y3,y4⟩
 ·exact ⟨hr,base,cls,a0,_,x1,x2,y1,y2,y3,y4.at⟩
 ·exact ⟨hr,base,cls,a0,_,x1,x2,y1,y2,y3,y4⟩
theorem TJ (hf:env.frame=some D.L) (x:gJ W D l φ s e sh.heap) (k:∀ h',gJ W D l φ s e h'→E (.ref e) { sh with heap:=h'}):cameBackBy M A env E (.ref e) sh:=by refine CV x.at fun hr base cls a0 fl x1 x2 x3 x4 x5 x6=>?_;unfold cameBackBy;refine Kw x6 fun oe vs T oT ts he hcls hd h1 r=>?_;refine wpAny_bind (wpAny_field he hd h1 ?_);rw [if_neg (by simp),hf];refine TH (L:=D.L) x3 x5 ⟨oe,vs,T,oT,ts,he,hcls,hd,h1,r⟩ fun h' k1 k2 k3 k4=>?_;exact k h' ⟨hr,base,cls,a0,x1,x2.trans fun b o hb hn=>⟨o.slots,k4 b o hb hn⟩,.inr ⟨k1,x4,k2,k3⟩⟩
theorem H7 (x:gJ W D l φ s e sh.heap) (k:∀ h',gJ W D l φ s e h'→Q () { sh with heap:=h'}):wpAny M A (setFlight (.ref e) none) Q E sh:=by refine CV x.at fun hr base cls a0 fl x1 x2 x3 x4 x5 x6=>?_;exact wpAny_setFlight_noneW x3 x5 x6 fun h' k1 k2 k3 k4=>k h' ⟨hr,base,cls,a0,x1,x2.trans fun b o hb hn=>⟨o.slots,k4 b o hb hn⟩,.inl ⟨k1,x4,k2,k3⟩⟩
theorem gJ.rep (x:gJ W D l φ s e h):Rep W.prog W.w D φ s h:=by refine Kq x.at fun hr base cls a0 fl x1 x2 x3 _=>?_;exact x1 h x3 x2
theorem TL (hA:A.frames=some (env::l)) (hf:env.frame=some D'.L) (x:gJ W D' (env::l) φ s' e sh.heap) (back:∀ h₂,Rep W.prog W.w D' φ s' h₂→Rep W.prog W.w D φ s h₂) (k:∀ h',gJ W D l φ s e h'→Q () { sh with heap:=h'}):wpAny M A (leaving env (.ref e)) Q E sh:=by
 refine nR x fun hr base cls a0 x1 x2 x3=>?_;rcases x3 with x3|x3
 ·exact wpAny_leaves_onW hA hf x3 fun h' hh hu=>k h' ⟨hr,base,cls,a0,fun h₂ q1 q2=>back h₂ (x1 h₂ q1 q2),x2.trans hu,.inl hh⟩
 ·unfold leaving;refine wpAny_bind (wpAny_noteFrame_againW hf x3.2.2.2 ?_);refine wpAny_landsW x3 fun h' hfl hu=>?_;refine nQ hfl fun k1 k2 q1 k4=>?_;refine cP q1 fun _ _ k3=>?_;exact k h' ⟨hr,base,cls,a0,fun h₂ q1 q2=>back h₂ (x1 h₂ q1 q2),x2.trans hu,.inl ⟨k1,k2,k3,k4⟩⟩
theorem TM (cy:Cy W D' A) (hA:A.frames=some (env::l)) (hf:env.frame=some D'.L) (Rp:Rep W.prog W.w D' φ s' h) (x:Heap.NewExc h sh.heap e cls) (back:∀ h₂,Rep W.prog W.w D' φ s' h₂→Rep W.prog W.w D φ s h₂) (k:∀ h',gJ W D l φ s e h'→Q () { sh with heap:=h'}):wpAny M A (leaving env (.ref e)) Q E sh:=by
 refine fK cy.b fun outer aaa gk hf' hkd hfr=>?_;rw [hA] at gk;cases gk;obtain ⟨base,hbase⟩:∃ base,base=hideAll h (D'.L::D'.fr.map (·.1)):=⟨_,rfl⟩;have hb0:∀ b o,base.get? b=some o→h.get? b=some o:=fun b o q=>by rw [hbase] at q;exact of_hideAll _ q
 have AF:base.StaysIn sh.heap:=fun b o q=>x.keeps b o (hb0 b o q);have hen:base.get? e=none:=by
  cases q:base.get? e with
  |none=>rfl
  |some o=>have:=hb0 _ _ q;rw [x.new] at this;cases this
 have hfun:sh.heap.FunFrames base (env::l):=by
  obtain ⟨m,os,nl,Rw⟩:=Rp;refine bK (Lo.parts Rw.lo) fun X fr hnl hsl hlo=>?_;subst hnl;refine AE fun env' he=>?_;rcases List.mem_cons.mp he with rfl|he
  ·refine pB Rw.fr.ns fun oL es ep hL hd _=>?_;exact ⟨by rw [hkd];simp,D'.L,oL,hf,by rw [hbase];exact hideAll_none _ (.head _),x.keeps _ _ hL,fun vs q=>by rw [hd] at q;cases q⟩
  ·refine yq (hfr.2 env' he) fun k1 a o es ep k2 k3 k4=>?_;refine aJ (hsl.mem k3) fun sl k5=>?_;exact ⟨k1,a,_,k2,by rw [hbase];exact hideAll_none _ (.tail _ (List.mem_map_of_mem (f:=Prod.fst) k3)),x.keeps _ _ (Rw.news _ (List.mem_append_right _ (List.mem_append_right _ k5))).1,fun vs q=>by have q:o.data=.fields vs:=q;rw [k4] at q;cases q⟩
 have stay:∀ h₂,base.StaysIn h₂→h.UpToSlots h₂→Rep W.prog W.w D' φ s' h₂:=fun h₂ k1 k2=>by
  refine Rp.slots (fun b o hb h1 h2=>k1 b o ?_) fun b o hb hor=>?_
  ·rw [hbase];refine hideAll_get _ hb fun q=>?_;rcases List.mem_cons.mp q with q|q
   ·exact h1 q
   ·exact h2 q
  ·refine k2 b o hb fun vs q=>?_;obtain ⟨m,os,nl,Rw⟩:=Rp;refine bK (Lo.parts Rw.lo) fun X fr hnl hsl hlo=>?_;subst hnl;rcases hor with rfl|hor
   ·refine pB Rw.fr.ns fun oL es ep hL hd _=>?_;rw [hb] at hL;cases hL;rw [hd] at q;cases q
   ·rw [← hsl.addrs] at hor;refine aC (List.mem_map.mp hor) fun p hp q1=>?_;subst q1;have P:=(Rw.news p (List.mem_append_right _ (List.mem_append_right _ hp))).1;rw [hb] at P;cases P;refine aZ (hsl.mem' hp) fun p0 p1 _ p3=>?_;refine mQ (hfr.1 p0 p1) fun _ es ep p4=>?_;rw [p3,p4] at q;cases q
 refine bK x.there fun ob t he hcls hd=>?_;refine wpAny_leaving_firstW (base:=base) (a0:=t) hA hfun hf he AF hen hd rfl rfl fun h' hL=>?_;refine nQ hL fun k1 q1 k3 k4=>?_;refine cP q1 fun _ _ k2=>?_;exact k h' ⟨h,base,_,t,fun h₂ q1 q2=>back h₂ (stay h₂ q1 q2),(Heap.UpToSlots.of_keeps x.keeps).trans k4,.inl ⟨k1,hen,k2,k3⟩⟩
end
section
variable {W:Wo} {w:World} {n:Nat} {D:Md} {A:Around} {env bW:Env} {l:List Env} {ae:au} {φ ψ:List Addr} {s:St} {sh:Shared} {h h':Heap} {e:Addr}
theorem TN (Gl:aH W CL D φ):aH W C0 D φ:=⟨Gl.glob,Gl.ro,Gl.deep⟩
theorem TP (X:l9 W C0) (n:Nat) (st:Stmt):S1 W C0 (n+1) (cG C0 (run C0 n)) st:=by have I:=jw X n;intro D A env ae φ s v s' G Gl he;exact Gk X.tog7 I.ev I.tr I.ex I.wh I.fo I.cu (fun ht=>GR I.ev I.ex ht) (fun hen G Gl he=>GX I.ev I.fe hen G Gl he) G Gl he
noncomputable def RP (W:Wo) (D:Md) (l:List Env) (φ:List Addr) (sh:Shared) (P:St→Prop):Result→Shared→Prop:=fun r sh'=>match r with
 | .ok _=>False
 | .error v=>EP W D l φ sh P v sh'
theorem TQ (q:KW W w) (cy:Cy W D A) (room:dw 8 A) (hh:A.handled=none) (Gl:aH W C0 D φ) (hA:A.frames=some l) (Rp:Rep W.prog W.w D φ s sh.heap) (r:VR φ (.jn none) u):codeAny (model W.prog W.w) A (.call (.ref 170) ⟨[u],[]⟩) (RP W D l φ sh (xq s)) sh:=by
 have S:=jw (w6 W w q) 7;refine Ax (n:=7) (C:=C0) (Hj W w q) rfl cy room hh Gl Rp (vs:=[.jn none]) (us:=[u]) (bs:=[(EV.S "mode",.jn none)]) (lo:=[(EV.S "mode",.jn none)]) (.cons r .nil) rfl rfl rfl ?_;intro D' A' env' l' φ' h₁ tk gk qV hf tT G' kB x' R' back;rw [hA] at qV;cases qV;generalize hb:gg.body=bd
 conv at hb=>lhs;whnf
 subst hb;rw [execs_cons];refine wpAny_bind (wpAny_Return_some (wpAny_BinOp ?_));refine (S.ev G' kB (v:=.jn none) (s':={ lo:=[(EV.S "mode",.jn none)],hp:=s.hp++(cF gg.names).map fun x=>.cell (lk [(EV.S "mode",AV.jn none)] x)}) rfl).use (sh:={ sh with heap:=h₁,toks:=tk}) R' fun u1 aO φ₁ s₁ m₁ x₁ aD ⟨q1,r1⟩=>?_;subst q1;refine (S.ev (G'.mono x₁) (kB.mono x₁) (v:=.int 61440) (s':={ lo:=[(EV.S "mode",.jn none)],hp:=s.hp++(cF gg.names).map fun x=>.cell (lk [(EV.S "mode",AV.jn none)] x)}) rfl).use aD fun u2 aK φ₂ s₂ m₂ x₂ aI ⟨q2,r2⟩=>?_;subst q2;cases r1 with
 |gV t=>
  cases r2;refine TF tT fun h' tk' e hx=>?_;refine TM (D:=D) (s:=_) (φ:=φ₂) (A:=A') (sh:={ aK with heap:=h',toks:=tk'}) G'.cy gk hf aI hx (fun h₂ bz=>back φ₂ _ h₂ (x₁.trans x₂) bz) fun h₃ hfl=>?_;exact ⟨e,φ₂,_,rfl,bu.trans (bu.trans ⟨rfl,rfl,rfl⟩ m₁) (bu.trans m₂ ⟨rfl,rfl,rfl⟩),x'.trans (x₁.trans x₂),hfl,rfl,_,rfl⟩
end
section
variable {W:Wo} {w:World} {n:Nat} {D:Md} {A:Around} {env bW:Env} {l:List Env} {ae:au} {φ ψ:List Addr} {s:St} {sh:Shared} {h h':Heap} {e:Addr}
theorem gJ.map (x:gJ W D' l φ s' e h) (hL:D'.L=D.L) (back:∀ h₂,Rep W.prog W.w D' φ s' h₂→Rep W.prog W.w D φ s h₂):gJ W D l φ s e h:=by refine nR x fun hr base cls a0 x1 x2 x3=>?_;exact ⟨hr,base,cls,a0,fun h₂ q1 q2=>back h₂ (x1 h₂ q1 q2),x2,by rw [← hL];exact x3⟩
theorem EP.map (x:EP W D' l φ aO P v aK) (hL:D'.L=D.L) (back:∀ φ₂ s₂ h₂,Rep W.prog W.w D' φ₂ s₂ h₂→Rep W.prog W.w D φ₂ s₂ h₂):EP W D l φ aO P v aK:=by refine mS x fun e φ' s' h1 h2 h3 h4 h5=>?_;exact ⟨e,φ',s',h1,h2,h3,h4.map hL (back φ' s'),h5⟩
theorem H8 (X:l9 W C0) (Z:qP W C0 n) (G:Good W n D A env ae φ) (Gl:aH W C0 D φ) (hq:ae.quiet=true) (Rp:Rep W.prog W.w D φ s sh.heap) (hx:load C0 ae x s=some (.fix (.ref a))) (ns:noStar as=true) (hv:cJ (run C0 n) ae as s=some ([v],s)) (hfn:C0.fn a=some fn) (hr:∀{φ₂:List Addr} {u:Value} (aK:Shared),Ext φ φ₂→Rep W.prog W.w D φ₂ s aK.heap→VR φ₂ v u→codeAny (model W.prog W.w) A (.call (.ref a) ⟨[u],[]⟩) (RP W D l φ₂ aK P) aK):wpAny (model W.prog W.w) A (eval (.Call (.Name x p') as [] p) env) Q (EP W D l φ sh P) sh:=by
 refine fU (t':=eval (.Name x p') env>>=fun g=>callWith p g [] (backTo p (starEach as env)) []) rfl (wpAny_bind ((jS G Gl hx).eK Rp fun g aO m₁ aD q3=>q3.n8 ?_));refine wc (W:=W) (P:=fun h=>W.K.In h) (keeps_K (X.fnIn a fn hfn).1) (kW Z.ev G Gl (qE ns) ((qD ns).trans hv) aD fun us aK cU m₂ x₃ aI k3=>⟨G.cy.x.keeps aI.keeps,?_⟩);refine fL k3 fun u us r rs=>jq (G:=fun us=>wpAny _ _ (call _ ([]++u::us) []) _ _ _) rs (wpAny_call (codeAny_mono (hr aK x₃ aI r) fun rr s' z=>?_));rcases rr with e|f
 ·exact EP.next z x₃ (m₁.trans m₂)
 ·exact z.elim
noncomputable def H9:List Stmt:=bX (aY (bX (aY fMode.body 1)) 0)
theorem TR (q:KW W w) (Z:qP W C0 10) (G:Good W 10 D A env (bh fMode) φ) (room:dw 20 A) (Gl:aH W C0 D φ) (hA:A.frames=some l) (hh:A.handled=none) (Rp:Rep W.prog W.w D φ s sh.heap) (hf:env.frame=some D.L) (h1:lk s.lo (EV.S "mode")=some (.jn none)) (h2:lk s.lo (EV.S "index")=some (.int 0)):wpAny (model W.prog W.w) A (execs H9 env) Q (EP W D l φ sh (xq s)) sh:=by
 obtain ⟨lo,hp⟩:=s;have X:=w6 W w q;have hn:fMode.names=fMode.names:=rfl
 conv at hn=>rhs;whnf
 generalize hb:H9=bd
 conv at hb=>lhs;whnf
 subst hb;rw [execs_cons];refine wpAny_bind (wpAny_If ?_);refine (Z.tr G Gl (v:=true) (s':=⟨lo,hp⟩) ?_).use Rp fun b aO φ₁ s₁ m₁ x₁ aD ⟨q1,q2⟩=>?_
 ·have h2:lk lo (Str.ofString "index")=some (.int 0):=h2;have i0:iE 0 0=true:=rfl;exact bF (bD rfl (aq (az rfl h2)) bx ((iV _ _ _).trans (congrArg some i0)))
 ·subst q1;subst q2;show wpAny _ A (execs _ env) _ _ aO;rw [execs_cons];refine wpAny_bind (wpAny_If (wpAny_isTrue_Compare1 ?_));refine wpAny_mono (H8 (l:=l) X Z (G.mono x₁) (Gl.mono x₁) rfl aD (v:=.jn none) (a:=170) (fn:=gg) ?_ rfl ?_ rfl ?_) (fun _ _ z=>z) fun v aK z=>EP.next z x₁ m₁
  ·exact bR rfl rfl
  ·have h1:lk lo (Str.ofString "mode")=some (.jn none):=h1;exact bq (aq (az rfl h1)) bJ
  ·intro φ₂ u aK x₂ aI r;exact TQ q G.cy (room.less (by decide)) hh ((Gl.mono x₁).mono x₂) hA aI r
end
section
variable {W:Wo} {w:World} {n:Nat} {D:Md} {A:Around} {env bW:Env} {l:List Env} {ae:au} {φ ψ:List Addr} {s:St} {sh:Shared} {h h':Heap} {e:Addr}
theorem Ia (hA:A.frames=some (bW::l)) (hf2:bW.frame=some D.L) (hf:env.frame=some D.L) (x:EP W D (bW::l) iC d7 P v sh) (k:∀ sh',EP W D (bW::l) iC d7 P v sh'→E v sh'):notedBy M A env E v sh:=by refine mS x fun e φ' s' q1 h2 h3 h4 h5=>?_;subst q1;exact HW hA hf2 hf h4 fun h' q=>k _ ⟨e,φ',s',rfl,h2.trans ⟨rfl,rfl,rfl⟩,h3,q,h5⟩
theorem Ib (hf:env.frame=some D.L) (x:EP W D l iC d7 P v sh) (k:∀ sh',EP W D l iC d7 P v sh'→E v sh'):cameBackBy M A env E v sh:=by refine mS x fun e φ' s' q1 h2 h3 h4 h5=>?_;subst q1;exact TJ hf h4 fun h' q=>k _ ⟨e,φ',s',rfl,h2.trans ⟨rfl,rfl,rfl⟩,h3,q,h5⟩
theorem TS (Z:qP W C0 n) (G:Good W n D A env ae φ) (Gl:aH W C0 D φ) (hq:ae.quiet=true) (hA:A.frames=some (bW::l)) (hf2:bW.frame=some D.L) (Rp:Rep W.prog W.w D φ s sh.heap) (hi:iter C0 (run C0 n) ae x s=some (.fh li 0,s₁)) (hs:lH x=false) (l7:next s₁.hp (.fh li 0)=some (some ([v],it'))) (ht:fC C0 ae t [v] s₁=some s₂) (hb:∀{D':Md} {φ':List Addr} (sh':Shared),D'.L=D.L→Good W n D' A env ae φ'→aH W C0 D' φ'→Rep W.prog W.w D' φ' s₂ sh'.heap→wpAny (model W.prog W.w) A (execs b env) (fun _ _=>False) (EP W D' (bW::l) φ' sh' P) sh'):wpAny (model W.prog W.w) A (exec (.For t x b o p) env) Q (EP W D (bW::l) φ sh P) sh:=by
 have hh:=G.quiet hq;have hf:env.frame=some D.L:=G.ev.frame;refine wpAny_For (wu Z.ev G Gl hi (hf:=s₁.hp) rfl (fun l i q=>by cases q) Rp fun φ₁ I aO m₁ x₁ into=>?_) (fun y=>by cases x <;>first|rfl|cases hs);refine kI into fun D₁ io hp aD xi back _=>?_;have hL:D₁.L=D.L:=by refine aJ hp fun p' q1=>?_;subst q1;rfl
 have G₁:=(G.mono x₁).pin hp;have s7:=(Gl.mono x₁).pin hp;refine codeAny_mono (R:=RP W D (bW::l) φ sh P) (codeAny_of_tree ?_) fun r aK z=>?_
 ·show wpAny _ A ((forTurn t (.ref I) b o env).onRaise (fun x=>do noteFrame x env;theTreesLotGoes x)) _ _ aO;refine wpAny_noted ?_;simp only [forTurn];refine wpAny_bind (wpAny_standAt (wpAny_bind (wpAny_onRaise ?_)));refine Aa hh xi aD l7 (fun hr h' aI=>by cases hr) fun w' Br o' u h' tk hr x' aI ru=>?_;cases hr;have key:=Ad (I:=I) (o:=o') hh G₁ s7 x' ru ht { aO with heap:=h',toks:=tk} aI;have comb:∀(k:Unit→Sem Fin),(letOwnedTupleGo t (.ref I) u>>=fun _=>PySem.assign t env u>>=fun z=>k z)=((letOwnedTupleGo t (.ref I) u>>=fun _=>PySem.assign t env u)>>=k):=fun k=>by rw [bind_assoc]
  show wpAny _ A (letOwnedTupleGo t (.ref I) u>>=fun _=>PySem.assign t env u>>=fun _=>execs b env>>=fun f=>match f with
   | .next| .cont=>again (.forLoop t (.ref I) b o env)
   | .brk=>pure (.done .next)
   | .ret v=>pure (.done (.ret v))) _ _ _
  rw [comb];refine wpAny_bind (kQ key fun _ aK z=>?_);obtain ⟨m₂,φ₂,s₂',x₂,bz,q1,q2⟩:=z;subst q1;subst q2;refine wpAny_bind (wpAny_mono (hb (D':=D₁.hid (I,o')) aK hL G₁.hid s7.hid bz) (fun _ _ z=>z.elim) fun v' d9 z=>?_);have z1:EP W D (bW::l) φ sh P v' d9:=((z.map (D':=D₁.hid (I,o')) (D:=D) hL fun wk s₄ h₄ iY=>back wk s₄ h₄ iY.drop s₄.hp rfl)).next x₁ (m₁.trans (bu.trans ⟨rfl,rfl,rfl⟩ m₂))
  exact Ia hA hf2 hf z1 fun sO z4=>z4
 ·cases r with
  |ok f=>exact z.elim
  |error v'=>exact Ib hf z fun d9 z3=>z3
end
section
variable {W:Wo} {w:World} {n:Nat} {D:Md} {A:Around} {env bW:Env} {l:List Env} {ae:au} {φ ψ:List Addr} {s:St} {sh:Shared} {h h':Heap} {e:Addr}
theorem TU (Z:qP W C0 n) (G:Good W n D A env ae φ) (Gl:aH W C0 D φ) (hq:ae.quiet=true) (hA:A.frames=some (bW::l)) (hf2:bW.frame=some D.L) (Rp:Rep W.prog W.w D φ s sh.heap) (hk:kind ae f=some .globalImplicit) (hg:lk C0.glob f=some (.fix (.type "enumerate"))) (hn:noStar [x]=true) (hl:(run C0 n).ev x ae s=some (.loc li,s)) (hv:s.hp[li]?=some (.tup vs)) (hw:vs[0]?=some w0) (hs:storeAll C0 ae es [.int 0,w0] s=some s₂) (hb:∀{D':Md} {φ':List Addr} (sh':Shared),D'.L=D.L→Good W n D' A env ae φ'→aH W C0 D' φ'→Rep W.prog W.w D' φ' s₂ sh'.heap→wpAny (model W.prog W.w) A (execs b env) (fun _ _=>False) (EP W D' (bW::l) φ' sh' P) sh'):wpAny (model W.prog W.w) A (exec (.For (.Tuple es k1 p1) (.Call (.Name f p2) [x] [] p3) b o p4) env) Q (EP W D (bW::l) φ sh P) sh:=by
 have hh:=G.quiet hq;have hf:env.frame=some D.L:=G.ev.frame;refine wpAny_For ?_ (fun x=>rfl);refine fU (t':=eval (.Name f p2) env>>=fun g=>callWith p3 g [] (backTo p3 (starEach [x] env)) []) rfl (wpAny_bind ((jS G Gl (zU hk hg)).eK Rp fun g aO m₁ aD q3=>q3.n8 ?_));have hev:cJ (run C0 n) ae [x] s=some ([.loc li],s):=bG hl (bG (a:=[]) (c:=s) rfl rfl);refine PySem.callWith_type (qC hn) (kW Z.ev G Gl (qE hn) ((qD hn).trans hev) aD fun us0 aK φ₂ m₂ x₂ aI k3=>fL k3 fun u0 us1 a r=>jq (G:=fun us=>wpAny _ _ (call _ ([]++u0::us) []) _ _ _) r (a.loc' fun la ha=>?_));refine aC (aI.at hv ha) fun ol q1 gl=>?_;refine bK q1 fun us kk q2 r1 hl'=>?_;subst q2;refine GS ⟨_,gl,rfl,_,rfl⟩ ?_;have bz:=(aI.hide (o:=kZ la 0)).hide (o:=mq aK.heap.objs.size 0 .none);have hsz:(aK.heap.push (kZ la 0)).objs.size=aK.heap.objs.size+1:=Heap.size_push ..;rw [hsz] at bz;refine wpAny_pyIter_enum (it:=aK.heap.objs.size) (i:=0) (old:=.none) bz.g6.1 ?_;obtain ⟨I,hI⟩:∃ I,I=aK.heap.objs.size:=⟨_,rfl⟩;rw [← hI] at bz ⊢;have hne:I+1≠I:=Nat.succ_ne_self _;refine codeAny_mono (R:=RP W D (bW::l) φ sh P) (codeAny_of_tree ?_) fun r d9 z=>?_
 ·show wpAny _ A ((forTurn (.Tuple es k1 p1) (.ref (I+1)) b o env).onRaise (fun x=>do noteFrame x env;theTreesLotGoes x)) _ _ _;refine wpAny_noted ?_;simp only [forTurn];have gE:=bz.g6.1;have gI:=bz.drop.g6.1;have Rd:=bz.drop.drop;refine aC (Rd.at hv ha) fun ol3 q1 g3=>?_;refine bK q1 fun us3 kk3 q2 TV hl3=>?_;subst q2;refine aC (TV.get hw) fun u3 TX TY=>?_;refine wpAny_bind (wpAny_standAt (wpAny_bind (wpAny_onRaise ?_)));refine GV gE ⟨_,gI,rfl,rfl⟩ ⟨_,g3,rfl,_,rfl⟩ (by simpa using TX) hne fun h' a1 a2 a3 k=>?_;refine aZ a2 fun AK b1 b2 b3=>?_;have AL:=Heap.lt_size gE;refine wpAny_bind (wpAny_letOwnedTupleGo_enum a1 fun h₂ e1 hs₂=>?_);have iY:=Rep.GW bz (fun c o c1 c2 hc=>(hs₂.2 c c2).trans (k c o c2 c1 hc)) ((hs₂.2 I (Ne.symm hne)).trans b1) e1;have gT:=(hs₂.2 _ (Nat.ne_of_gt AL)).trans a3;refine aN (Ab (env:=env) hs) fun n1 n2=>?_;refine wpAny_bind (assign_Tuple_tuple hh (qk gT) (by rw [n1];rfl) n2 fun h₃ k7=>?_);have oE:=iY.ext (h':=h₃) fun c ob hc=>k7 c ob (Nat.ne_of_lt (Heap.lt_size hc)) hc;have xx:=(G.mono x₂);refine (Ac xx.hid.hid (Gl.mono x₂).hid.hid (.cons (.int _ _) (.cons TY .nil)) hs).kg oE fun _ sO m₄ qO=>?_;refine wpAny_bind (wpAny_mono (hb (D':=(D.hid (I,AK)).hid (I+1,mq I ((0:Int)+1) u3)) sO rfl xx.hid.hid (Gl.mono x₂).hid.hid qO) (fun _ _ z=>z.elim) fun v' wB z=>?_);have z1:EP W D (bW::l) φ sh P v' wB:=(z.map (D:=D) rfl fun Bs s₆ h₆ TZ=>TZ.drop.drop).next x₂ (m₁.trans (m₂.trans (bu.trans ⟨rfl,rfl,rfl⟩ m₄)))
  exact Ia hA hf2 hf z1 fun T4 z6=>z6
 ·cases r with
  |ok f=>exact z.elim
  |error v'=>exact Ib hf z fun d9 z3=>z3
end
theorem T5:b5[0]?=some (.tup ((List.range 10).map fun i=>.loc (1+i)))∧b5[1]?=some (.tup ((List.range 7).map fun i=>.loc (11+i)))∧b5[11]?=some (.tup [.int 40960,.str (EV.S "l")]):=⟨rfl,rfl,rfl⟩
section
variable {W:Wo} {w:World} {n:Nat} {D:Md} {A:Around} {env bW:Env} {l:List Env} {ae:au} {φ ψ:List Addr} {s:St} {sh:Shared} {h h':Heap} {e:Addr}
theorem T6 (q:KW W w) (cy:Cy W D A) (room:dw 21 A) (hh:A.handled=none) (Gl:aH W C0 D φ) (hA:A.frames=some l) (Rp:Rep W.prog W.w D φ s sh.heap) (ht:jy b5 s.hp=true) (r:VR φ (.jn none) u):codeAny (model W.prog W.w) A (.call (.ref 210) ⟨[u],[]⟩) (RP W D l φ sh (xq s)) sh:=by
 have X:=w6 W w q;refine cP T5 fun t0 t1 t2=>?_;have g0:=(tQ ht 0 _ t0).1;have g1:=(tQ ht 1 _ t1).1;have g2:=(tQ ht 11 _ t2).1;refine Ax (n:=20) (C:=C0) (Ho W w q) rfl cy room hh Gl Rp (vs:=[.jn none]) (us:=[u]) (bs:=[(EV.S "mode",.jn none)]) (lo:=[(EV.S "mode",.jn none)]) (.cons r .nil) rfl rfl rfl ?_;intro D' A' env' l' φ' h₁ tk gk qV hf tT G' kB x' R' back;rw [hA] at qV;cases qV;have hc:(cF fMode.names).map (fun x=>AO.cell (lk [(EV.S "mode",AV.jn none)] x))=[]:=rfl;rw [hc] at R';obtain ⟨H,hH⟩:∃ H,H=s.hp++([]:AH):=⟨_,rfl⟩;rw [← hH] at R';have gH:∀{i:Nat} {o:AO},s.hp[i]?=some o→H[i]?=some o:=fun {i o} e=>by rw [hH,List.append_nil];exact e
 have xy:∀{i:Nat} {o:AO},H[i]?=some o→(H++[AO.list []])[i]?=some o:=fun {i o} e=>by rw [List.getElem?_append_left (List.getElem?_eq_some_iff.mp e).1];exact e
 have hn:fMode.names=fMode.names:=rfl
 conv at hn=>rhs;whnf
 generalize hb:fMode.body=bd
 conv at hb=>lhs;whnf
 subst hb;rw [execs_cons];refine wpAny_bind ((TP X 10 _ (G'.less (by decide)) kB (v:=.next) (s':=⟨put [(EV.S "mode",.jn none)] (EV.S "perm") (.loc H.length),H++[.list []]⟩) rfl).use (sh:={ sh with heap:=h₁,toks:=tk}) R' fun f aO φ₁ s₁ m₁ x₁ aD ⟨q1,q2⟩=>?_);cases q2;subst q1;show wpAny _ A' (execs _ env') _ _ aO;rw [execs_cons];have G₁:Good W 10 D' A' env' (bh fMode) φ₁:=(G'.mono x₁).less (by decide);refine wpAny_bind (wpAny_mono (TU (n:=10) (l:=l) (P:=HV H) (jw X 10) G₁ (kB.mono x₁) rfl gk hf aD (li:=0) (s₂:=⟨put (put (put [(EV.S "mode",.jn none)] (EV.S "perm") (.loc H.length)) (EV.S "index") (.int 0)) (EV.S "table") (.loc 1),H++[.list []]⟩) rfl rfl rfl rfl (xy (gH g0)) (w0:=.loc 1) rfl rfl ?_) (fun _ _ z=>z) fun v aK z=>?_)
 ·intro D₂ φ₂ aK hL xx AD aI;rw [execs_cons];have Ic:env'.frame=some D₂.L:=by rw [hL];exact hf
  refine wpAny_bind (TS (n:=10) (l:=l) (P:=HV H) (jw X 10) xx AD rfl gk Ic aI (li:=1) (v:=.loc 11) (s₁:=⟨put (put (put [(EV.S "mode",.jn none)] (EV.S "perm") (.loc H.length)) (EV.S "index") (.int 0)) (EV.S "table") (.loc 1),H++[.list []]⟩) (it':=.fh 1 1) (s₂:=⟨put (put (put (put (put [(EV.S "mode",.jn none)] (EV.S "perm") (.loc H.length)) (EV.S "index") (.int 0)) (EV.S "table") (.loc 1)) (EV.S "bit") (.int 40960)) (EV.S "char") (.str (EV.S "l")),H++[.list []]⟩) ?_ rfl ?_ ?_ ?_)
  ·have e1:=xy (gH g1);exact DZ rfl rfl rfl rfl (aq (az rfl rfl)) e1
  ·have e1:=xy (gH g1);simp only [next,e1];rfl
  ·have e2:=xy (gH g2);exact zd e2 rfl
  ·intro aab cU d9 T7 T8 T9 bz;refine wpAny_mono (TR q (jw X 10) T8 (G'.room.less (by decide)) T9 gk tT bz (by rw [T7];exact Ic) rfl rfl) (fun _ _ z=>z) fun v sO z=>z.weak fun s₅ z5=>by refine Kn z5 fun _ ex z6=>?_;exact ⟨AO.list []::ex,by rw [z6];simp⟩
 ·refine mS z fun e cU s₃ q1 p2 p3 p4 p5=>?_;subst q1;refine TL (D:=D) (s:={ s with hp:=s₃.hp}) (φ:=cU) gk hf p4 (fun h₂ bz=>back cU s₃ h₂ (x₁.trans p3) bz) fun h₃ hfl=>?_;exact ⟨e,cU,_,rfl,bu.trans ⟨rfl,rfl,rfl⟩ (m₁.trans (bu.trans p2 ⟨rfl,rfl,rfl⟩)),x'.trans (x₁.trans p3),hfl,rfl,by refine aJ p5 fun ex z6=>?_;exact ⟨ex,by show s₃.hp=_;rw [z6,hH,List.append_nil]⟩⟩
end
section
variable {prog:Program} {w:World} {φ ψ:List Addr}
theorem VR.cut (e:Ext φ ψ) (h₀:VR φ v u₀) (h:VR ψ v u):VR φ v u:=by
 cases h with
 |none=>exact .none
 |bool b=>exact .bool b
 |int i t=>exact .int i t
 |str s t q=>exact .str s t q
 |fix=>exact .fix _
 |loc q=>
  cases h₀ with
  |loc Ie=>
   have:=e _ _ Ie;rw [q] at this;cases this;exact .loc Ie
 |iT i t=>exact .iT i t
 |gV t=>exact .gV t
theorem aF.cut (e:Ext φ ψ) (h:aF ψ v u):∀{u₀:List Value},aF φ v u₀→aF φ v u:=by
 induction h with
 |nil=>intro u₀ h₀;exact .nil
 |cons a _ ih=>intro u₀ h₀;cases h₀ with|cons a₀ r₀=>exact .cons (a₀.cut e a) (ih r₀)
theorem b7.cut (e:Ext φ ψ) (h:b7 ψ v u):∀{u₀:List (Int×Value)},b7 φ v u₀→b7 φ v u:=by
 induction h with
 |nil=>intro u₀ h₀;exact .nil
 |cons a _ ih=>intro u₀ h₀;cases h₀ with|cons a₀ r₀=>exact .cons (a₀.cut e a) (ih r₀)
theorem MR.cut (e:Ext φ ψ) {lo:List (Str×AV)} {m₀ m:Str→Option Value} (h₀:MR φ lo m₀) (h:MR ψ lo m):MR φ lo m:=fun x v q=>
 let ⟨_,_,r₀⟩:=h₀ x v q
 let ⟨u,a,r⟩:=h x v q
 ⟨u,a,r₀.cut e r⟩
theorem OR.cut (e:Ext φ ψ) (h₀:OR prog w φ ao o₀) (h:OR prog w ψ ao o):OR prog w φ ao o:=by
 have at_:∀{d:Nat} {a b:Addr},φ[d]?=some a→ψ[d]?=some b→φ[d]?=some b:=fun {d a b} q q'=>by have:=e _ _ q;rw [q'] at this;cases this;exact q
 cases ao with
 |list vs=>refine bK h₀ fun Bt n₀ a₀ b₀ c₀=>?_;refine bK h fun us n a b c=>?_;exact ⟨us,n,a,b.cut e b₀,c⟩
 |tup vs=>refine bK h₀ fun Bt n₀ a₀ b₀ c₀=>?_;refine bK h fun us n a b c=>?_;exact ⟨us,n,a,b.cut e b₀,c⟩
 |dict es fr=>refine aZ h₀ fun Bt a₀ b₀ c₀=>?_;refine aZ h fun us a b c=>?_;exact ⟨us,a,b.cut e b₀,c⟩
 |set xs=>exact h
 |cell v=>cases v with
  |none=>exact h
  |some v=>refine aC h₀ fun u₀ a₀ b₀=>?_;refine aC h fun u a b=>?_;exact ⟨u,a,b₀.cut e b⟩
 |inst C d=>refine aC h₀ fun Ua a₀ b₀=>?_;refine aC h fun dx a b=>?_;exact ⟨dx,at_ a₀ a,b⟩
 |ns m=>
  refine nT h₀ fun Ub n₀ a₀ k₀ b₀ c₀ f₀ g₀=>?_;refine nT h fun es n a k b c f f2=>?_;exact ⟨es,n,a,k,fun x v q=>let ⟨u₀,p₀,r₀⟩:=b₀ x v q;let ⟨u,p,r⟩:=b x v q;⟨u,p,r₀.cut e r⟩,c,f,f2⟩
 |slots C d vs=>
  refine kI h₀ fun Ua Bt a₀ b₀ z₀ l₀ c₀=>?_;refine kI h fun dx us a b z l c=>?_;exact ⟨dx,us,at_ a₀ a,b,z,l,fun i v q=>let ⟨u₀,p₀,r₀⟩:=c₀ i v q;let ⟨u,p,r⟩:=c i v q;⟨u,p,r₀.cut e r⟩⟩
 |jG l i=>refine aC h₀ fun a₀ b₀ c₀=>?_;refine aC h fun a b c=>?_;exact ⟨a,at_ b₀ b,c⟩
 |meth l=>refine aC h₀ fun a₀ b₀ c₀=>?_;refine aC h fun a b c=>?_;exact ⟨a,at_ b₀ b,c⟩
 |dead=>exact True.intro
theorem Lo.cut {D:Md} (e:Ext φ ψ) {lo:List (Str×AV)} {m₀ m:Str→Option Value} {wJ nl:List (Addr×Obj)} (h₀:Lo D φ lo m₀ wJ) (h:Lo D ψ lo m nl):Lo D φ lo m nl:=by
 refine aC h₀ fun aac hf₀ h₀=>?_;refine aC h fun fr hf h=>?_;refine ⟨fr,hf,?_⟩;split at h
 ·rename_i hm;rw [hm] at h₀;exact ⟨h.1,h.2.1,h₀.2.2.cut e h.2.2⟩
 ·rename_i mF hm;rw [hm] at h₀;refine mR h₀ fun a₀ kY b₀ Ub aad c₀ d₀ f₀=>?_;refine mR h fun a oc b es ep c d f=>?_;exact ⟨a,oc,b,es,ep,c,d,f₀.cut e f⟩
theorem Rep.cut (R₀:Rep prog w D φ s h₀) (e:Ext φ ψ) (R:Rep prog w D ψ { s with hp:=s.hp++ex} h):Rep prog w D φ s h:=by
 obtain ⟨m₀,aae,wJ,R₀⟩:=R₀;obtain ⟨m,os,nl,R⟩:=R;obtain ⟨k,hk⟩:∃ k,k=s.hp.length:=⟨_,rfl⟩;have Bu:φ.length=k:=R₀.br.trans hk.symm;have lψ:ψ.length=k+ex.length:=R.br.trans (by show (s.hp++ex).length=_;rw [List.length_append,hk]);have los:os.length=k+ex.length:=R.len.trans (by show (s.hp++ex).length=_;rw [List.length_append,hk]);have hφ:φ=ψ.take k:=by
  apply List.ext_getElem?;intro i;rw [List.getElem?_take];by_cases hi:i<k
  ·rw [if_pos hi];have:=e i φ[i] (List.getElem?_eq_getElem (by rw [Bu];exact hi));rw [this];exact List.getElem?_eq_getElem _
  ·rw [if_neg hi];exact List.getElem?_eq_none (by rw [Bu];exact Nat.le_of_not_lt hi)
 have hz:φ.zip (os.take k)=(ψ.zip os).take k:=by rw [hφ];simp [List.zip,List.take_zipWith]
 have Uc:(φ.zip (os.take k)).drop D.ro=((ψ.zip os).drop D.ro).take (k- D.ro):=by rw [hz,List.drop_take]
 have Ud:φ.drop D.ro=(ψ.drop D.ro).take (k- D.ro):=by rw [hφ,List.drop_take]
 have Bv:∀{i:Nat},i<k→(os.take k)[i]?=os[i]?:=fun {i} hi=>by rw [List.getElem?_take,if_pos hi]
 refine ⟨m,os.take k,nl,R.fr,?_,?_,?_,R₀.br,R₀.c9,?_,?_,?_,R₀.lo.cut e R.lo,R₀.big,R.cV⟩
 ·intro p hp;refine R.news p ?_;rcases List.mem_append.mp hp with q|q
  ·rw [Uc] at q;exact List.mem_append_left _ (List.mem_of_mem_take q)
  ·exact List.mem_append_right _ q
 ·intro n a o hn ha ho;have hnk:n<k:=by rw [← Bu];exact (List.getElem?_eq_some_iff.mp ha).1
  rw [Bv hnk] at ho;exact R.rd n a o hn (e _ _ ha) ho
 ·rw [List.length_take,los,← hk];exact Nat.min_eq_left (Nat.le_add_right _ _)
 ·intro n ao o hao ho;have hnk:n<k:=by rw [hk];exact (List.getElem?_eq_some_iff.mp hao).1
  rw [Bv hnk] at ho;refine fK (R₀.addr hao) fun a₀ o₀ _ _ r₀ _=>?_;refine r₀.cut e (R.rel n ao o ?_ ho);show (s.hp++ex)[n]?=_;rw [List.getElem?_append_left (by rw [← hk];exact hnk)];exact hao
 ·intro n o hp;refine mQ (R₀.pin n o hp) fun _ es kk q=>?_;have hnk:n<k:=by rw [hk];exact (List.getElem?_eq_some_iff.mp q).1
  exact ⟨by rw [Bv hnk];exact (R.pin n o hp).1,es,kk,q⟩
 ·refine R.nd.sublist ?_;rw [Ud];exact List.Sublist.append (List.take_sublist _ _) (List.Sublist.refl _)
end
end EV
namespace EV
open PySem
open PySem.Sem (wp)
theorem Bw:typeOf (.builtin "function.__name__")=pure (.type "getset_descriptor"):=rfl
theorem Ue:entryFor table "function.__name__" =some Builtin.«function.__name__»:=entryFor_of_tree rfl
theorem Ug:(".".intercalate ("function.__name__".cutAt '.').dropLast)= "function" :=by
 have e0: "function.__name__".cutAt '.'=["function","__name__"]:=by first|rfl|decide+kernel
 rw [e0];decide+kernel
theorem Uh (a b:Value):argsOk "object.__getattribute__" ⟨[a,b],[]⟩:=by unfold argsOk;kernel_rfl
theorem xA:Slot "function" "__getattribute__" "object.__getattribute__" :=.of (owner:= "object") (n:= "__getattribute__") (by rw [typeLookup_type,builtinLookup_eq_fast];rfl) (by decide+kernel) (by decide+kernel) (by decide+kernel)
  (by first|exact .inl (by decide+kernel)|exact .inr (by decide+kernel)) (by rw [isSubtype_type];rfl)
theorem Ui:typeLookup (.type "function") "__name__" =pure (some (.builtin "function.__name__")):=by rw [typeLookup_type,builtinLookup_eq_fast];rfl
theorem Uj:isSubtype (.type "function") (.type "function")=pure true:=by rw [isSubtype_type];rfl
theorem Uk:entryFor table "object.__getattribute__" =some Builtin.«object.__getattribute__»:=entryFor_of_tree rfl
section
variable {prog:Program} {w:World} {A:Around} {E:Value→Shared→Prop} {h:Heap} {g:Array GenState} {d:Drawn} {t:Nat} {os:OsState} {a:Addr} {o:Obj} {fd:FuncData}
theorem Ul (hx:h.get? a=some o) (hc:o.cls=.type "function") (hd:o.data=.func fd) (hz:fd.name.length≤sizeLine) (hq:∀ u,R (.ok (.ret (.str fd.name u))) ⟨h,g,d,t+1,os⟩):codeAny (model prog w) A (.call (.builtin "getset_descriptor.__get__") ⟨[.builtin "function.__name__",.ref a,.type "function"],[]⟩) R ⟨h,g,d,t,os⟩:=by
 have hT:(⟨h,g,d,t,os⟩:Shared).TypeIs (.ref a) "function" :=⟨_,hx,hc⟩;have wg:(⟨h,g,d,t,os⟩:Shared).TypeIs (.builtin "function.__name__") "getset_descriptor" :=Bw;have f8:isSubtype (.type "function") (.type (".".intercalate ("function.__name__".cutAt '.').dropLast))=pure true:=by rw [Ug];exact Uj
 refine codeAny_call_builtin F.slot_gs_get.plain F.entry_gs_get (F.slot_gs_get.check _ _ _ _ _ _ _ _ wg (F.args_gs_get _ _ _) ?_);repeat (any_goals (first|assumption|wp_step))
 refine ⟨Code.quiet_builtin _ (by decide+kernel),codeAny_builtin Ue ?_⟩;unfold Builtin.«function.__name__» funcData;repeat (any_goals (first|assumption|wp_step))
 rw [hd];refine wpAny_pure ?_;unfold retStr;first
  |exact wpAny_bind (wpAny_bind (wpAny_mkStr (wpAny_pure (wpAny_pure (hq _))) hz))
  |exact wpAny_bind (wpAny_mkStr (wpAny_pure (hq _)) hz)
  |exact wpAny_bind (wpAny_bind (wpAny_mkStr (wpAny_pure (hq _)) hz))
theorem Um (hx:h.get? a=some o) (hc:o.cls=.type "function") (hd:o.data=.func fd) (hz:fd.name.length≤sizeLine) (hq:∀ u,Q (.done (.ret (.str fd.name u))) ⟨h,g,d,t+1,os⟩):wpAny (model prog w) A (Builtin.«object.__getattribute__» ⟨[.ref a,.str "__name__" tk],[]⟩) Q E ⟨h,g,d,t,os⟩:=by
 have hT:(⟨h,g,d,t,os⟩:Shared).TypeIs (.ref a) "function" :=⟨_,hx,hc⟩;have wg:(⟨h,g,d,t,os⟩:Shared).TypeIs (.builtin "function.__name__") "getset_descriptor" :=Bw;have f4:=Ui;have f5:=Bw;have f6:=F.slot_gs_get.lookup;have f7:=F.slot_gs_set.lookup;repeat (any_goals (first|assumption|wp_step))
 refine Ul hx hc hd hz fun u=>?_;repeat (any_goals (first|assumption|exact hq _|wp_step))
theorem Un (hx:h.get? a=some o) (hc:o.cls=.type "function") (hd:o.data=.func fd) (hz:fd.name.length≤sizeLine) (hq:∀ u,R (.ok (.ret (.str fd.name u))) ⟨h,g,d,t+1,os⟩):codeAny (model prog w) A (.call (.builtin "object.__getattribute__") ⟨[.ref a,.str "__name__" tk],[]⟩) R ⟨h,g,d,t,os⟩:=codeAny_call_builtin xA.plain Uk (xA.check _ _ _ _ _ _ _ _ (show (⟨h,g,d,t,os⟩:Shared).TypeIs (.ref a) "function" from ⟨_,hx,hc⟩) (Uh _ _) (Um hx hc hd hz hq))
theorem Uo (hx:h.get? a=some o) (hc:o.cls=.type "function") (hd:o.data=.func fd) (hz:fd.name.length≤sizeLine) (hq:∀ u,Q (.str fd.name u) ⟨h,g,d,t+1,os⟩):wpAny (model prog w) A (getAttrBy (.ref a) (.str "__name__" tk) fill expr) Q E ⟨h,g,d,t,os⟩:=by
 have hT:(⟨h,g,d,t,os⟩:Shared).TypeIs (.ref a) "function" :=⟨_,hx,hc⟩;have f2:=xA.lookup;have f3:=xA.bind (.ref a);have Ig:(expr&&onTheHeap (Value.builtin "object.__getattribute__"))=false:=by cases expr <;>rfl
 repeat (any_goals (first|assumption|wp_step))
 refine Un hx hc hd hz fun u=>?_;repeat (any_goals (first|assumption|exact hq _|wp_step))
theorem Up (hx:h.get? a=some o) (hc:o.cls=.type "function") (hd:o.data=.func fd) (hz:fd.name.length≤sizeLine) (hq:∀ u t',Q (.str fd.name u) ⟨h,g,d,t',os⟩):wpAny (model prog w) A (getAttr (.ref a) "__name__" expr) Q E ⟨h,g,d,t,os⟩:=by unfold getAttr;refine wpAny_bind (wpAny_mkText ?_);exact Uo hx hc hd hz fun u=>hq u _
end
end EV
namespace EV
open PySem PySem.W PySem.Calls PyProof.Rows
theorem Uq (t:Str):((((Str.empty++Str.ofString "<")++t)++Str.ofString " ")++Str.ofString "filemode")++Str.ofString "() failed>" =iR t:=by
 have e1:(Str.empty++Str.ofString "<").cps=(EV.S "<").cps:=rfl;have e2:(EV.S " filemode() failed>").cps=(Str.ofString " ").cps++((Str.ofString "filemode").cps++(Str.ofString "() failed>").cps):=rfl;have e3:((((Str.empty++Str.ofString "<").cps++t.cps)++(Str.ofString " ").cps)++(Str.ofString "filemode").cps)++(Str.ofString "() failed>").cps=((EV.S "<").cps++t.cps)++(EV.S " filemode() failed>").cps:=by rw [e1,e2];simp only [Array.append_assoc]
 exact congrArg Str.mk e3
theorem Ur (t:Str):(iR t).cps.size=t.cps.size+20:=by
 have e:(iR t).cps.size=((EV.S "<").cps.size+t.cps.size)+(EV.S " filemode() failed>").cps.size:=by show (((EV.S "<").cps++t.cps)++(EV.S " filemode() failed>").cps).size=_;rw [Array.size_append,Array.size_append]
 rw [e,show (EV.S "<").cps.size=1 by kernel_rfl,show (EV.S " filemode() failed>").cps.size=19 by kernel_rfl];omega
noncomputable def nameOf (K:Frag) (a:Addr):Option (Value×Str):=match K.lookup a with
 |some o=>match o.data with
  | .func fd=>some (o.cls,fd.name)
  |_=>none
 |none=>none
theorem Us (w:World):nameOf (KK w) 210=some (.type "function",EV.S "filemode"):=rfl
theorem Ut {K:Frag} {a:Addr} {c:Value} {x:Str} (h:nameOf K a=some (c,x)):∃ o fd,K.lookup a=some o∧o.cls=c∧o.data=.func fd∧fd.name=x:=by
 unfold nameOf at h;generalize hz:K.lookup a=z at h;rcases z with _|⟨c',y,d,l⟩
 ·exact e0 h
 ·induction d using Data.casesOn with
  |func g=>exact aN (pin h) fun q1 q2=>⟨_,g,rfl,q1,rfl,q2⟩
  |_=>exact e0 h
section
variable {W:Wo} {w:World}
set_option maxHeartbeats 400000 in
theorem Uu (q:KW W w):xm W:=by
 intro t D A φ s us ht cy room hh Gl r hT sh Rp;have X:=w6 W w q;refine dB (id cy.b) fun outer bW hA _=>?_;have htl:t.cps.size+20≤100000:=by rw [← Ur];exact ht
 cases r with
 |cons r1 r=>
 cases r with
 |cons r2 r=>
 cases r with
 |cons r3 r=>
 cases r;obtain ⟨lo,hlo⟩:∃ lo:List (Str×AV),lo=[(EV.S "value",.jn none),(EV.S "what",.str t),(EV.S "func",.fix (.ref 210))]:=⟨_,rfl⟩;refine Ax (n:=40) (C:=C0) (wY W w q) rfl cy (room.less (by decide)) hh (TN Gl) Rp (vs:=[.jn none,.str t,.fix (.ref 210)]) (bs:=lo) (lo:=lo) (.cons r1 (.cons r2 (.cons r3 .nil))) (by subst hlo;rfl) (by subst hlo;rfl) (by subst hlo;rfl) ?_;intro D' A' env' l' φ' h₁ tk gk qV hf tT G' kB x' R' back;have hc:(cF fT.names).map (fun x=>AO.cell (lk lo x))=[]:=rfl;rw [hc,List.append_nil] at R';have hn:fT.names=fT.names:=rfl
 conv at hn=>rhs;whnf
 generalize hb:fT.body=bd
 conv at hb=>lhs;whnf
 subst hb;rw [execs_cons];refine wpAny_bind (wpAny_Try_except ?_);rw [execs_cons];have G₁:Good W 30 D' A' env' (bh fT) φ':=G'.less (by decide);refine wpAny_bind (wpAny_Return_some (wpAny_mono (H8 (l:=env'::l') (P:=xq ⟨lo,s.hp⟩) X (jw X 30) G₁ kB rfl R' (v:=.jn none) (a:=210) (fn:=fMode) (by subst hlo;rfl) rfl (by subst hlo;rfl) rfl ?_) (fun _ _ z=>z) fun v aK z=>?_))
 ·intro φ₂ u aK x₂ aI r;exact T6 q G'.cy (G'.room.less (by decide)) tT (kB.mono x₂) gk aI hT r
 ·refine Kv z fun e φ₂ s₂ q1 z2 z3 z4 z5 ex z6=>?_;subst q1;obtain ⟨lo₂,hp₂⟩:=s₂;have z5:lo₂=lo:=z5;have z6:hp₂=s.hp++ex:=z6;subst z5;subst z6;refine HW gk hf hf z4 fun h2 q2=>H7 q2 fun h3 q3=>handleBy_bare (by intro q;cases q) (H7 q3 fun h4 q4=>?_);have R4:=q4.rep;have G4:=GQ (e:=.ref e) (G₁.mono z3);have Ih:=kB.mono z3;have S:=jw X 30;rw [execs_cons];refine wpAny_bind (wpAny_Return_some (JoinedStr_many ?_));refine joinParts_cons (wpAny_mkText ⟨cW (by decide),?_⟩);refine joinParts_cons (FormattedValue_plain ((S.ev G4 Ih (v:=.str t) (s':=⟨lo₂,s.hp++ex⟩) (by subst hlo;rfl)).use R4 fun aaf wB aag s₅ Ah xB oE ⟨p1,p2⟩=>?_));subst p1;cases p2 with
  |str _ t5 hz5=>
   refine formatField_str (fun t6 Uv=>?_) (cW (by show t.cps.size≤_;omega));have sz:∀(a b:Str),(a++b).cps.size=a.cps.size+b.cps.size:=fun a b=>strLen_append a b;have l1:(Str.empty++Str.ofString "<").cps.size=1:=rfl;have l2:(Str.ofString " ").cps.size=1:=rfl;have l3:(Str.ofString "filemode").cps.size=8:=rfl;have l4:(Str.ofString "() failed>").cps.size=10:=rfl;refine ⟨cW (by show (Str.empty++Str.ofString "<" ++t).cps.size≤_;rw [sz,l1];omega),?_⟩;refine joinParts_consE (joinParts_cons (wpAny_mkText ⟨cW (by show (Str.empty++Str.ofString "<" ++t++Str.ofString " ").cps.size≤_;rw [sz,sz,l1,l2];omega),?_⟩));refine joinParts_consE (joinParts_cons (FormattedValue_plain (Attribute_name ((S.ev (G4.mono xB) (Ih.mono xB) (v:=.fix (.ref 210)) (s':=⟨lo₂,s.hp++ex⟩) (by subst hlo;rfl)).use (sh:={ wB with toks:=Uv+1}) oE fun aah T4 Bs s₆ Uw Ii qO ⟨p3,p4⟩=>?_))));subst p3;cases p4;refine fK (Ut (Us w)) fun o fd k1 k2 k3 k4=>?_;rw [← q.k] at k1;have k4:fd.name=Str.ofString "filemode" :=k4;refine Up ((G'.cy.x.keeps qO.keeps) _ _ k1) k2 k3 (by rw [k4];exact cW (by decide)) fun aai tk7=>?_;rw [k4];refine formatField_str (fun t8 tk8=>?_) (cW (by decide));refine ⟨cW (by show (Str.empty++Str.ofString "<" ++t++Str.ofString " " ++Str.ofString "filemode").cps.size≤_;rw [sz,sz,sz,l1,l2,l3];omega),?_⟩;refine joinParts_consE (joinParts_cons (wpAny_mkText ⟨cW (by show (Str.empty++Str.ofString "<" ++t++Str.ofString " " ++Str.ofString "filemode" ++Str.ofString "() failed>").cps.size≤_;rw [sz,sz,sz,sz,l1,l2,l3,l4];omega),?_⟩));show wpAny _ _ (joinParts _ []) _ _ _;refine joinParts_nil ?_ ?_
   rotate_left
   ·exact cW (by show (Str.empty++Str.ofString "<" ++t++Str.ofString " " ++Str.ofString "filemode" ++Str.ofString "() failed>").cps.size≤_;rw [sz,sz,sz,sz,l1,l2,l3,l4];omega)
   have e0:Str.empty++Str.ofString "<" ++t++Str.ofString " " ++Str.ofString "filemode" ++Str.ofString "() failed>" =iR t:=Uq t;rw [e0];have xf:Ext φ Bs:=x'.trans (z3.trans (xB.trans Ii));have Rf:=back Bs _ _ (z3.trans (xB.trans Ii)) qO;refine wpAny_pure (wpAny_pure ?_);refine ⟨?_,φ,s,.refl _,Rp.cut xf Rf,rfl,.str _ _ ht⟩;exact bu.trans (bu.trans ⟨rfl,rfl,rfl⟩ z2) (bu.trans ⟨rfl,rfl,rfl⟩ (bu.trans Ah (bu.trans ⟨rfl,rfl,rfl⟩ (bu.trans Uw ⟨rfl,rfl,rfl⟩))))
end
structure Ij (W:Wo) (bZ:List Addr) (cO:List Obj) (hR:AH) (h:Heap):Prop where
 br:bZ.length=hR.length
 len:cO.length=hR.length
 get:∀(i:Nat) (a:Addr) (o:Obj),bZ[i]?=some a→cO[i]?=some o→h.get? a=some o∧2<a
 rel:∀(i:Nat) (ao:AO) (o:Obj),hR[i]?=some ao→cO[i]?=some o→OR W.prog W.w bZ ao o
section
variable {W:Wo} {C:Cx} {n:Nat} {sh:Shared} {R:Rec}
theorem Ux (hx:gF W C n R.ex) (Fk:bI W a f) (dR:f.vararg=none) (X:W.K.In sh.heap) (T:Top W.p W.loose W.mean W.mg W.mb sh.heap) (cV:2<sh.heap.objs.size) (room:dw (n+1) callerA) (Gl:∀ x v,lk C.glob x=some v→∃ u,VR bZ v u∧(W.mg x=some u∨(W.mg x=none∧W.mb x=some u))) (dQ:C.ro=hR.length) (Uy:C.deep=false) (jx:Ij W bZ cO hR sh.heap) (e:fE C R f vs hR=some (v,h')) (r:aF bZ vs us) (k:∀ φ₂ u sh',bu sh sh'→VR φ₂ v u→(∀ b o,sh.heap.get? b=some o→sh'.heap.get? b=some o)→P (.ok (.ret u)) sh'):codeAny (model W.prog W.w) callerA (.call (.ref a) ⟨us,[]⟩) P sh:=by refine Ar dR e fun hb hlo hnd he _ hw=>wH Fk dR room X r hb fun h5 h6 h7 h8 h9 dK=>?_;have B:l8 W sh.heap ([]++[]) (fun _=>none) hR.length bZ cO hR sh.heap:=HE jx.br jx.len (fun p hp=>nomatch hp) jx.get jx.rel List.nodup_nil cV (fun _ _ z=>z) rfl;refine Aq h5 h6 h7 h8 h9 B T.nolimit rfl X T ⟨fun p hp=>(nomatch hp),fun e he=>(nomatch he)⟩ room rfl dK hlo hnd fun hf' gk Gd x Rc=>?_;refine wpAny_mono ((hx Gd ⟨fun y v q=>aC (Gl y v q) fun u p1 p2=>⟨u,p1.mono x,p2⟩,dQ,fun q=>Bool.noConfusion (Uy.symm.trans q)⟩ he).use (Q:=fun u aK=>P (.ok (.ret (kX u))) aK) (E:=fun _ _=>False) Rc fun u aK φ₂ s₂' m₂ x₂ aI q=>?_) (fun fl s' z=>z) fun _ _ z=>z.elim;exact k φ₂ _ aK m₂ (hw φ₂ u q.2) aI.keeps
end
end EV
section
open PySem PySem.W PySem.Calls PyProof.Rows
namespace EV
noncomputable def Bx (φ:List Addr) (v:AV) (u:Value):Bool:=match v with
 | .int i=>cz (vInt u) (iE i)
 | .str s=>cz (vStr u) fun t=>sE s t&&Nat.ble s.cps.size 100000
 | .loc n=>cz (kM u) fun a=>cz φ[n]? fun b=>Nat.beq a b
 |_=>false
noncomputable def tU (φ:List Addr):List AV→List Value→Bool
 |[],us=>us.isEmpty
 |v::r,us=>match us with
  |[]=>false
  |u::t=>Bx φ v u&&tU φ r t
theorem Uz (h:Bx φ v u=true):VR φ v u:=by
 induction v with
 |int i=>exact cR (o:=vInt u) h fun j hj h=>aJ (HK hj) fun t q=>q▸dI.mp h▸ .int i t
 |str s=>exact cR (o:=vStr u) (f:=fun t=>sE s t&&Nat.ble s.cps.size 100000) h fun j hj h=>aJ (S5 hj) fun t q=>q▸dm.mp ((Bool.and_eq_true ..).mp h).1▸ .str s t (Nat.le_of_ble_eq_true ((Bool.and_eq_true ..).mp h).2)
 |loc n=>exact cR (o:=kM u) (f:=fun a=>cz φ[n]? fun b=>Nat.beq a b) h fun a ha h=>cR h fun b hb h=>pZ ha▸Nat.eq_of_beq_eq_true h▸ .loc hb
 |_=>exact Bool.noConfusion h
theorem UA:∀{u:List Value},tU φ v u=true→aF φ v u:=by
 induction v with
 |nil=>exact fun h=>nil_eq h▸ .nil
 |cons v r ih=>
  intro u;induction u with
  |nil=>exact fun h=>Bool.noConfusion h
  |cons u t _=>
   intro h;have h:(Bx φ v u&&tU φ r t)=true:=h;exact .cons (Uz ((Bool.and_eq_true ..).mp h).1) (ih ((Bool.and_eq_true ..).mp h).2)
noncomputable def By (d:Data):Option (Array Value×Nat):=dh d.ctorIdx 2 fun h=>Data.seq.elim (motive:=fun _=>Option (Array Value×Nat)) d h fun us n=>some (us,n)
theorem UB (e:By d=some p):d=.seq p.1 p.2:=dF e fun z=>Data.seq.elim (motive:=fun d=>∀ z:d.ctorIdx=2,Data.seq.elim (motive:=fun _=>Option (Array Value×Nat)) d z (fun us n=>some (us,n))=some p→d=.seq p.1 p.2) d z (fun us n _ h=>Option.some.inj h▸rfl) z
noncomputable def Ik (φ:List Addr) (ao:AO) (o:Option Obj):Bool:=cz o fun o=>cz (dY (some ao)) fun vs=>cz (tM o.cls) fun t=>cz (By o.data) fun p=>(t== "tuple")&&(o.dict.isNone&&(rP p.2&&(Nat.beq o.slots.size 0&&(tU φ vs p.1.toList&&Nat.ble vs.length 100000))))
theorem UC (h:Ik φ ao (some o)=true):OR prog w φ ao o:=by obtain ⟨c,dt,d,sl⟩:=o;refine cR (o:=dY (some ao)) (f:=fun vs=>cz (tM c) fun t=>cz (By d) fun p=>(t== "tuple")&&(dt.isNone&&(rP p.2&&(Nat.beq sl.size 0&&(tU φ vs p.1.toList&&Nat.ble vs.length 100000))))) h fun vs hv h=>cR h fun t ht h=>cR h fun p hp h=>?_;have cut:∀{a b:Bool} {P:Prop},(a&&b)=true→(a=true→b=true→P)→P:=fun h k=>aN ((Bool.and_eq_true ..).mp h) k;refine cut h fun h1 h=>cut h fun h2 h=>cut h fun h3 h=>cut h fun h4 h=>cut h fun h5 h6=>?_;rw [Option.some.inj (m6 hv),Bh ht,beq_iff_eq.mp h1,Option.isNone_iff_eq_none.mp h2,UB hp,D9 h3,Array.eq_empty_of_size_eq_zero (Nat.eq_of_beq_eq_true h4)];exact ⟨p.1.toList,0,rfl,UA h5,Nat.le_of_ble_eq_true h6⟩
noncomputable def gq:List Addr:=[203,178,180,182,186,188,190,194,196,198,202,171,172,173,174,175,176,177,179,181,183,184,185,187,189,191,192,193,195,197,199,200,201]
noncomputable def xC (w:World):List Obj:=gq.map fun a=>((KK w).lookup a).getD jv
theorem UD (w:World):((List.range 33).all fun i=>Ik gq (b5.getD i .dead) ((KK w).lookup (gq.getD i 0))&&Nat.blt 2 (gq.getD i 0))=true:=by kernel_rfl
noncomputable def xD (w:World) (x:Str):Option Value:=match (KK w).lookup 3 with
 |some ⟨_,_,.dict es _,_⟩=>nsFind es x
 |_=>none
noncomputable def Il (f u:Value):Bool:=cz (kM f) (fun a=>cz (kM u) (Nat.beq a))||(cz (Bj f) (fun a=>cz (Bj u) (a== ·))||cz (tM f) fun a=>cz (tM u) (a== ·))
noncomputable def vE (u:Option Value) (v:AV):Bool:=cz u fun u=>match v with
 | .int i=>cz (vInt u) (iE i)
 | .fix f=>Il f u
 | .loc n=>cz (kM u) fun b=>Nat.beq n 0&&Nat.beq b 203
 |_=>false
noncomputable def Im (w:World) (p:Str×AV):Bool:=vE (xD w p.1) p.2||((xD w p.1).isNone&&vE (bootBuiltins p.1) p.2&& !sE p.1 "__name__")
theorem UE (w:World):(vB.all (Im w))=true:=by kernel_rfl
theorem UG (h:Il f u=true):u=f:=((Bool.or_eq_true ..).mp h).elim (fun h=>cR h fun a ha h=>cR h fun b hb h=>by rw [pZ ha,pZ hb,Nat.eq_of_beq_eq_true h])
  fun h=>((Bool.or_eq_true ..).mp h).elim (fun h=>cR h fun a ha h=>cR h fun b hb h=>by rw [HM ha,HM hb,beq_iff_eq.mp h]) fun h=>cR h fun a ha h=>cR h fun b hb h=>by rw [Bh ha,Bh hb,beq_iff_eq.mp h]
theorem Io (hφ:φ[0]?=some 203) (h:vE o v=true):∃ u,o=some u∧VR φ v u:=by
 refine cR h fun u hu h=>⟨u,hu,?_⟩;induction v with
 |int i=>exact cR (o:=vInt u) h fun j hj h=>aJ (HK hj) fun t q=>q▸dI.mp h▸ .int i t
 |fix f=>rw [UG h];exact .fix f
 |loc n=>exact cR (o:=kM u) (f:=fun b=>Nat.beq n 0&&Nat.beq b 203) h fun b hb h=>aN ((Bool.and_eq_true ..).mp h) fun h1 h2=>by rw [pZ hb,Nat.eq_of_beq_eq_true h1,Nat.eq_of_beq_eq_true h2];exact .loc hφ
 |_=>exact Bool.noConfusion h
theorem BA (X:(KK w).In h) (g:h.Ns mainGlobals mg):mg x=xD w x:=by refine iN g fun o3 es ep h1 h2 _ h3=>?_;have k3:∃ o,(KK w).lookup 3=some o:=Option.isSome_iff_exists.mp (by kernel_rfl);refine aJ k3 fun o ho=>?_;have:=X 3 o ho;have h1:h.get? 3=some o3:=h1;rw [h1] at this;cases this;unfold xD;rw [ho];obtain ⟨c,d,dt,sl⟩:=o3;cases h2;exact (h3 x).symm
noncomputable def Ip (N:Nat):Prop:=∀ xs:List Int,xs.length≤63→∃ h',fE CL (run CL N) aU [.loc 33] (hp0 xs)=some (.bool true,h')
theorem UH (h0:a≠0) (h1:a≠1) (h2:a≠2):2<a:=by lia
theorem UI {φ:List Addr} {P:Params} {h:Heap} {xs:List Int}:∀{us:List Value},WellAll P h us (ofPys (xs.map PyData.int))→aF φ (xs.map .int) us:=by
 induction xs with
 |nil=>intro us hw;cases hw;exact .nil
 |cons x r ih=>
  intro us hw;cases hw with
  |cons a hw=>
   cases a;exact .cons (.int _ _) (ih hw)
theorem Iq (hi:i<33):∃ a o ao,gq[i]?=some a∧(xC w)[i]?=some o∧b5[i]?=some ao∧(KK w).lookup a=some o∧OR prog' w' gq ao o∧2<a:=by
 have h:=List.all_eq_true.mp (UD w) i (List.mem_range.mpr hi);rw [Bool.and_eq_true] at h;refine aN h fun h1 h2=>?_;have l1:gq.length=33:=rfl;have l2:b5.length=33:=by kernel_rfl
 obtain ⟨a,ha⟩:∃ a,gq[i]?=some a:=⟨_,List.getElem?_eq_getElem (by rw [l1];exact hi)⟩;obtain ⟨ao,hao⟩:∃ ao,b5[i]?=some ao:=⟨_,List.getElem?_eq_getElem (by rw [l2];exact hi)⟩;have e1:gq.getD i 0=a:=by rw [List.getD_eq_getElem?_getD,ha];rfl
 have e2:b5.getD i .dead=ao:=by rw [List.getD_eq_getElem?_getD,hao];rfl
 rw [e1,e2] at h1;rw [e1] at h2;cases hl:(KK w).lookup a with
 |none=>rw [hl] at h1;exact Bool.noConfusion h1
 |some o=>
  rw [hl] at h1;refine ⟨a,o,ao,ha,?_,hao,hl,UC h1,Nat.le_of_ble_eq_true h2⟩;show (gq.map _)[i]?=_;rw [List.getElem?_map,ha];show some (((KK w).lookup a).getD jv)=_;rw [hl];rfl
theorem UJ (X:(KK w).In h) (xs:List Int) (gl:h.get? lw=some (listOf (List.toArray vs) 0)) (big:2<lw) (rl:aF (gq++[lw]) (xs.map .int) vs) (len:xs.length≤63):Ij W (gq++[lw]) (xC w++[listOf (List.toArray vs) 0]) (hp0 xs) h:=by
 have l1:gq.length=33:=rfl;have l2:b5.length=33:=by kernel_rfl
 have l3:(xC w).length=33:=by show (gq.map _).length=33;rw [List.length_map];rfl
 have l4:(hp0 xs).length=34:=by show (b5++[AO.list (xs.map .int)]).length=34;rw [List.length_append,l2];rfl
 refine ⟨?_,?_,fun i a o ha ho=>?_,fun i ao o ha ho=>?_⟩
 ·rw [l4,List.length_append,l1];rfl
 ·rw [l4,List.length_append,l3];rfl
 ·by_cases q:i<33
  ·refine yr (Iq (prog':=W.prog) (w':=W.w) (w:=w) q) fun a' o' ao h1 h2 h3 h4 h5 h6=>?_;rw [List.getElem?_append_left (by rw [l1];exact q),h1] at ha;rw [List.getElem?_append_left (by rw [l3];exact q),h2] at ho;cases ha;cases ho;exact ⟨X _ _ h4,h6⟩
  ·have q:=Nat.le_of_not_lt q;rw [List.getElem?_append_right (by rw [l1];exact q),l1] at ha;rw [List.getElem?_append_right (by rw [l3];exact q),l3] at ho;have:i- 33=0:=by have:=(List.getElem?_eq_some_iff.mp ha).1;simp at this;omega
   rw [this] at ha ho;cases ha;cases ho;exact ⟨gl,big⟩
 ·have ha:(b5++[AO.list (xs.map .int)])[i]?=some ao:=ha;by_cases q:i<33
  ·refine yr (Iq (prog':=W.prog) (w':=W.w) (w:=w) q) fun a' o' j9 h1 h2 h3 h4 h5 h6=>?_;rw [List.getElem?_append_left (by rw [l2];exact q),h3] at ha;rw [List.getElem?_append_left (by rw [l3];exact q),h2] at ho;cases ha;cases ho;exact h5.mono (Ext.app _ _)
  ·have q:=Nat.le_of_not_lt q;rw [List.getElem?_append_right (by rw [l2];exact q),l2] at ha;rw [List.getElem?_append_right (by rw [l3];exact q),l3] at ho;have:i- 33=0:=by have:=(List.getElem?_eq_some_iff.mp ha).1;simp at this;omega
   rw [this] at ha ho;cases ha;cases ho;exact ⟨vs,0,rfl,rl,by rw [List.length_map];(exact Nat.le_trans len (by decide))⟩
theorem go (hN:N≤300) (LP:Ip N) (ST:∀(W:Wo) (w:World),KW W w→xm W):PySem.Challenge.rw_un0050_01.Holds:=head (by
 intro w s₀ s₁ mg mb G Y fa o pm cd doc dV kV ho hd hcd hD hmg hg args vals as hpre hlay hrd hwl hlo;have KX:=kIn_of Y;refine Ground.open G ?_;intro T B D TE TW;refine dX (bmod_of_top T) fun _ _ M=>?_;have TA:=at_of_top T;try (refine dB (based_of_top T rfl hmg ho hd) fun _ _ he B0=>?_;have he':cd=_:=he;subst he';clear he)
 have UK:=hlo
 wrow_args hpre hlay hrd hwl hlo
 rename_i xs hs aaj hL1 hr1 hl2 a1 a2 lw us a3 hL ra w1 r0 hI hr qW aak;have d0:∃ es ep,∃ o0,s₁.heap.get? 0=some o0∧o0.data=.dict es ep:=by refine pB T.b fun o0 es ep h1 h2 _=>?_;exact ⟨es,ep,o0,h1,h2⟩
 have d2:∃ es ep,∃ o0,s₁.heap.get? 2=some o0∧o0.data=.dict es ep:=by refine aC T.nolimit fun mc q1 _=>?_;refine pB q1 fun o0 es ep h1 h2 _=>?_;exact ⟨es,ep,o0,h1,h2⟩
 have UL:∃ vs,s₁.heap.get? lw=some (listOf (List.toArray vs) 0)∧aF (gq++[lw]) (xs.map .int) vs:=by
  cases w1 with
  |list h1 h2=>exact ⟨_,h1,UI h2⟩
 refine aC UL fun vs gl rl=>?_;have big:2<lw:=by
  have n1:lw≠1:=by
   cases r0 with
   |list=>
    have:=UK lw (List.mem_append_left _ (.head _));intro e;rw [e] at this;exact absurd this (by decide)
  have n0:lw≠0:=by refine fZ d0 fun es ep o0 h1 h2=>?_;intro e;rw [e,h1] at gl;cases gl;cases h2
  have n2:lw≠2:=by refine fZ d2 fun es ep o0 h1 h2=>?_;intro e;rw [e,h1] at gl;cases gl;cases h2
  exact UH n0 n1 n2
 have cV:2<s₁.heap.objs.size:=Nat.lt_trans big (Heap.lt_size gl);have Ba:mg (S "law")=some (.ref 227):=by
  rw [BA KX T.g]
  kernel_rfl
 have AB:fa=227:=by have:mg (Str.ofString "law")=some (.ref fa):=hmg;rw [show Str.ofString "law" =S "law" from rfl,Ba] at this;cases this;rfl
 subst AB;have len:xs.length≤63:=by lia
 refine aJ (LP xs len) fun h' hrun=>?_;obtain ⟨loose,mean,T⟩:∃ loose mean,Top vw loose mean mg mb s₁.heap:=⟨_,_,T⟩
 let W:Wo:=⟨PySem.Challenge.rw_un0050_01.row.prog,w,KK w,vw,loose,mean,mg,mb⟩
 have q:KW W w:=⟨rfl,rfl⟩;have X1:=Tw W w q (ST W w q);have room:dw (N+1) callerA:=⟨by show 1+claimMargin+(N+1) <900;have:claimMargin=300:=(by decide+kernel);lia,by show 4+8*(N+1) <9000;lia⟩;refine wpAny_call ?_;refine Ux (W:=W) (jw X1 N).ex (Hs W w q) (by kernel_rfl) KX T cV room (bZ:=gq++[lw]) (cO:=xC w++[listOf (List.toArray vs) 0]) ?_ rfl rfl ?_ hrun (.cons (.loc rfl) .nil) fun φ₂ u sh' m r k=>?_
 ·intro x v hx;have hg:=List.all_eq_true.mp (UE w) _ (qN hx);unfold Im at hg;rw [Bool.or_eq_true] at hg;rcases hg with hg|hg
  ·refine aC (Io (φ:=gq++[lw]) rfl hg) fun u h1 h2=>?_;exact ⟨u,h2,.inl (by rw [show W.mg=mg from rfl,BA KX T.g];exact h1)⟩
  ·simp only [Bool.and_eq_true,Bool.not_eq_true'] at hg;refine aN hg fun q1 g3=>?_;refine aN q1 fun g1 g2=>?_;refine aC (Io (φ:=gq++[lw]) rfl g2) fun u h1 h2=>?_;refine ⟨u,h2,.inr ⟨?_,?_⟩⟩
   ·rw [show W.mg=mg from rfl,BA KX T.g];exact Option.isNone_iff_eq_none.mp g1
   ·have:=T.builtins x (fun e=>by rw [e,iB] at g3;cases g3);exact this.trans h1
 ·exact UJ KX xs gl big rl len
 ·cases r;refine GoodW.toG ⟨.inl ⟨.bool true,.bool true,[],rfl,fun cls=>?_,.bool true,?_,fun _=>⟨.nil,fun a ha=>by cases ha⟩⟩,k,m.2.2,m.1.trans hg⟩
  ·rfl
  ·first|kernel_rfl|w_fin|(simp;done))
end EV
end
namespace EV
open PySem
theorem UM (h:a<b):Nat.blt a b=true:=Nat.ble_eq_true_of_le h
theorem Ir (C:Cx) (n:Nat) (a b:Int) (h:AH):(run C (n+1)).ca (.fix (.builtin "min")) [.int a,.int b] h=some (.int (eG a b),h):=rfl
noncomputable def xE:List Stmt:=bX (aY (bX (aY bg.body 15)) 3)
noncomputable def i8 (c d r x:Int):Int:=eG (eG r x+2) (d+c)
theorem UN (rs:List Int) (j:Nat) (v:Int):(rs.map AV.int).set j (.int v)=(rs.set j v).map .int:=by rw [List.map_set]
theorem UO (hj:j<vs.length) (v:AV):setItem (CQ 0) [.list vs] (.loc 0) (.int (j:Nat)) v=some [.list (vs.set j v)]:=by show (match bf (j:Int) 0|| !Nat.blt j vs.length with|true=>none|false=>some [AO.list (vs.set j v)])=_;rw [UM hj];rfl
theorem xF:lk (bh bg).names (Str.ofString "distance")=some .local:=rfl
theorem oN:lk (bh bg).names (Str.ofString "result")=some .local:=rfl
theorem Iu:lk (bh bg).names (Str.ofString "bchar")=some .local:=rfl
theorem Iv:lk (bh bg).names (Str.ofString "a")=some .local:=rfl
theorem BB:lk (bh bg).names (Str.ofString "index")=some .local:=rfl
theorem Iw:lk (bh bg).names (Str.ofString "row")=some .local:=rfl
theorem tV:lk (bh bg).names (Str.ofString "minimum")=some .local:=rfl
theorem Iz:lk (bh bg).names (Str.ofString "substitute")=some .local:=rfl
theorem IA:lk (bh bg).names (Str.ofString "insert_delete")=some .local:=rfl
theorem UP (BC:lk l4 (S "result")=some (.int v)) (BD:lk l4 (S "minimum")=some (.int mn)):∃ l5,(run (CQ 0) (n+15)).ex (xE.drop 5) (bh bg) ⟨l4,hp⟩=some (.next,⟨l5,hp⟩)∧lk l5 (S "minimum")=some (.int (eG mn v))∧∀ z,sE z (S "minimum")=false→lk l5 z=lk l4 z:=by
 generalize hq:xE.drop 5=q
 conv at hq=>lhs;whnf
 subst hq;unfold eG;cases hm:bf v mn with
 |true=>exact ⟨put l4 (S "minimum") (.int v),bM (jR (bF (bD rfl (aq (az oN BC)) (aq (az tV BD)) (by rw [vV,hm]))) (bM (fV (aq (az oN BC)) (cg tV)) bY)) bY,b8,fun z e=>by rw [aL,e]⟩
 |false=>exact ⟨l4,bM (d8 (bF (bD rfl (aq (az oN BC)) (aq (az tV BD)) (by rw [vV,hm]))) bY) bY,BD,fun z _=>rfl⟩
theorem UQ {n:Nat} {lo:List (Str×AV)} {rs:List Int} {j:Nat} {a bc y:Str} {d r mn x:Int} (h1:lk lo (S "a")=some (.str a)) (h2:lk lo (S "bchar")=some (.str bc)) (h3:lk lo (S "distance")=some (.int d)) (h4:lk lo (S "result")=some (.int r)) (h5:lk lo (S "row")=some (.loc 0)) (h6:lk lo (S "index")=some (.int (j:Nat))) (h7:lk lo (S "minimum")=some (.int mn)) (g1:strAt a (j:Nat)=some y) (g2:rs[j]?=some x) (l1:iF bc) (l2:iF y):∃ lo',(run (CQ 0) (n+20)).ex xE (bh bg) ⟨lo,[.list (rs.map .int)]⟩=some (.next,⟨lo',[.list ((rs.set j (i8 (dJ bc y) d r x)).map .int)]⟩)∧lk lo' (S "distance")=some (.int x)∧lk lo' (S "result")=some (.int (i8 (dJ bc y) d r x))∧lk lo' (S "minimum")=some (.int (eG mn (i8 (dJ bc y) d r x)))∧lk lo' (S "a")=some (.str a)∧lk lo' (S "bchar")=some (.str bc)∧lk lo' (S "row")=some (.loc 0)∧lk lo' (S "b")=lk lo (S "b")∧lk lo' (S "max_cost")=lk lo (S "max_cost"):=by
 have g3:(rs.map AV.int)[j]?=some (.int x):=by rw [List.getElem?_map,g2];rfl
 have g4:j< (rs.map AV.int).length:=by rw [List.length_map];exact (List.getElem?_eq_some_iff.mp g2).1
 have ga:getItem [.list (rs.map .int)] (.str a) (.int (j:Nat))=some (.str y):=by rw [ow,g1]
 have gr:getItem [.list (rs.map .int)] (.loc 0) (.int (j:Nat))=some (.int x):=g3;have gs:=UO g4 (.int (i8 (dJ bc y) d r x));rw [UN] at gs;have k1 {z:Str} {v:AV} (e:sE z (S "substitute")=false) (k:lk lo z=some v):lk (put lo (S "substitute") (.int (d+dJ bc y))) z=some v:=bT e k;have k2 {z:Str} {v:AV} (e:sE z (S "substitute")=false) (e2:sE z (S "distance")=false) (k:lk lo z=some v):lk (put (put lo (S "substitute") (.int (d+dJ bc y))) (S "distance") (.int x)) z=some v:=bT e2 (k1 e k);have k3 {z:Str} {v:AV} (e:sE z (S "substitute")=false) (e2:sE z (S "distance")=false) (e3:sE z (S "insert_delete")=false) (k:lk lo z=some v):lk (put (put (put lo (S "substitute") (.int (d+dJ bc y))) (S "distance") (.int x)) (S "insert_delete") (.int (eG r x+2))) z=some v:=bT e3 (k2 e e2 k);have k4 {z:Str} {v:AV} (e:sE z (S "substitute")=false) (e2:sE z (S "distance")=false) (e3:sE z (S "insert_delete")=false) (e4:sE z (S "result")=false) (k:lk lo z=some v):lk (put (put (put (put lo (S "substitute") (.int (d+dJ bc y))) (S "distance") (.int x)) (S "insert_delete") (.int (eG r x+2))) (S "result") (.int (i8 (dJ bc y) d r x))) z=some v:=bT e4 (k3 e e2 e3 k);have r4:lk (put (put (put (put lo (S "substitute") (.int (d+dJ bc y))) (S "distance") (.int x)) (S "insert_delete") (.int (eG r x+2))) (S "result") (.int (i8 (dJ bc y) d r x))) (S "result")=some (.int (i8 (dJ bc y) d r x)):=b8;have d4:lk (put (put (put (put lo (S "substitute") (.int (d+dJ bc y))) (S "distance") (.int x)) (S "insert_delete") (.int (eG r x+2))) (S "result") (.int (i8 (dJ bc y) d r x))) (S "distance")=some (.int x):=bT rfl (bT rfl b8);refine aZ (UP (n:=n) (hp:=[.list ((rs.set j (i8 (dJ bc y) d r x)).map .int)]) r4 (k4 rfl rfl rfl rfl h7)) fun l5 q1 q2 q3=>?_;refine ⟨l5,?_,(q3 _ rfl).trans d4,(q3 _ rfl).trans r4,q2,(q3 _ rfl).trans (k4 rfl rfl rfl rfl h1),(q3 _ rfl).trans (k4 rfl rfl rfl rfl h2),(q3 _ rfl).trans (k4 rfl rfl rfl rfl h5),(q3 _ rfl).trans ?_,(q3 _ rfl).trans ?_⟩
 rotate_left
 ·rw [aL,aL,aL,aL];rfl
 ·rw [aL,aL,aL,aL];rfl
 ·generalize hq:xE=q at q1 ⊢
  conv at hq=>lhs;whnf
  subst hq;refine bM (fV (bV (aq (az xF h3)) (cX (bR rfl rfl) rfl rfl (bq (aq (az Iu h2)) (bq (bS rfl (aq (az Iv h1)) (aq (az BB h6)) ga) bJ)) rfl (MC 0) (MP 0 (n+8) bc y _ l1 l2)) (lZ _ _ _)) (cg Iz)) ?_;refine bM (fV (bS rfl (aq (az Iw (k1 rfl h5))) (aq (az BB (k1 rfl h6))) gr) (cg xF)) ?_;refine bM (fV (bV (cX (bR rfl rfl) rfl rfl (bq (aq (az oN (k2 rfl rfl h4))) (bq (aq (az xF b8)) bJ)) rfl (fH _ _) (Ir _ _ _ _ _)) (aq (bR (v:=.int 2) rfl rfl)) (lZ _ _ _)) (cg IA)) ?_;refine bM (fV (cX (bR rfl rfl) rfl rfl (bq (aq (az IA b8)) (bq (aq (az Iz (bT rfl (bT rfl b8)))) bJ)) rfl (fH _ _) (Ir _ _ _ _ _)) (cg oN)) ?_;rw [show eG (eG r x+2) (d+dJ bc y)=i8 (dJ bc y) d r x from rfl];refine bM (E4 (aq (az oN r4)) (aq (az Iw (k4 rfl rfl rfl rfl h5))) (aq (az BB (k4 rfl rfl rfl rfl h6))) gs) ?_;exact q1
noncomputable def cS:List Nat→List Nat→Nat
 |x::a,y::b=>match Nat.beq x y with|true=>cS a b+1|false=>0
 |_,_=>0
theorem UR (l:List Nat):(T l).cps=l.toArray:=rfl
theorem qX (h:AH) (hp:p≤l.length):slice h (.str (T l)) (.int (p:Nat)) .none=some (.str (T (l.drop p)),h):=by show some (AV.str ⟨(dD (some (p:Int)) none l).toArray⟩,h)=_;unfold dD W.kms_lo W.kms_hi;simp only [];rw [if_neg (by lia)];rw [Int.toNat_natCast,Nat.min_eq_left hp,List.take_of_length_le (by rw [List.length_drop];exact Nat.le_refl _)];rfl
theorem US (h:AH) (l:List Nat):slice h (.str (T l)) .none .none=some (.str (T l),h):=by show some (AV.str ⟨(dD none none l).toArray⟩,h)=_;unfold dD W.kms_lo W.kms_hi;simp only [];rw [List.drop_zero,List.take_of_length_le (by (exact Nat.le_refl _))];rfl
theorem UT (h:AH) (l:List Nat) (q:Nat):slice h (.str (T l)) .none (.int (-((q:Int)+1)))=some (.str (T (l.take (l.length- (q+1)))),h):=by show some (AV.str ⟨(dD none (some (-((q:Int)+1))) l).toArray⟩,h)=_;unfold dD W.kms_lo W.kms_hi;simp only [];rw [if_pos (by lia),List.drop_zero,Nat.sub_zero,show (- -((q:Int)+1)).toNat=q+1 by (exact rfl)];rfl
theorem xG (h:l[p]?=some x):strAt (T l) (p:Nat)=some (T [x]):=by exact aG (a:=x) (by show l.toArray[p]?=_;rw [List.getElem?_toArray];exact h) rfl
theorem IB {l:List Nat} {q x:Nat} (hq:q<l.length) (h:l[l.length- 1- q]?=some x):strAt (T l) (-(q:Int) - 1)=some (T [x]):=by unfold strAt;rw [show bf (-(q:Int) - 1) 0=true from lV.mpr (by omega)];simp only [UR,List.size_toArray];rw [show bf (-(q:Int) - 1+(l.length:Int)) 0=false from by rw [dZ];simp;lia];simp only [];rw [show (-(q:Int) - 1+(l.length:Int)).toNat=l.length- 1- q by lia];exact aG (a:=x) (by show l.toArray[_]?=_;rw [List.getElem?_toArray];exact h) rfl
theorem IC (x y:Nat):sE (T [x]) (T [y])=Nat.beq x y:=by show (match Nat.beq x y with|true=>true|false=>false)=_;cases Nat.beq x y <;>rfl
noncomputable def qY:Stmt:=aY bg.body 2
noncomputable def qZ:Stmt:=aY bg.body 6
theorem jT (e:l.isEmpty= !b):truthy h (.str (T l))=some b:=by rw [truthy_T,e,Bool.not_not]
theorem nG:lk (bh bg).names (Str.ofString "a")=some .local:=rfl
theorem mw:lk (bh bg).names (Str.ofString "b")=some .local:=rfl
theorem lq:lk (bh bg).names (Str.ofString "pre")=some .local:=rfl
theorem BE (h1:lk lo (S "a")=some (.str (T A))) (h2:lk lo (S "b")=some (.str (T B))) (h3:lk lo (S "pre")=some (.int (p:Nat))) (pa:p≤A.length) (pb:p≤B.length) (ha:(A.drop p).isEmpty=false→(B.drop p).isEmpty=false→∃ c d,A[p]?=some c∧B[p]?=some d∧Nat.beq c d=r) (hr:(A.drop p).isEmpty=true∨(B.drop p).isEmpty=true→r=false):(run (CQ 0) (n+19)).tr (fG qY) (bh bg) ⟨lo,[]⟩=some (r,⟨lo,[]⟩):=by
 generalize hq:fG qY=q
 conv at hq=>lhs;whnf
 subst hq;refine jO ?_;cases ea:(A.drop p).isEmpty with
 |true=>
  rw [hr (.inl ea)];exact jt (kT (gZ (aq (az nG h1)) (gX (aq (az lq h3))) gY (qX [] pa)) (jT ea))
 |false=>
  refine jP (kT (gZ (aq (az nG h1)) (gX (aq (az lq h3))) gY (qX [] pa)) (jT ea)) ?_;cases eb:(B.drop p).isEmpty with
  |true=>
   rw [hr (.inr eb)];exact jt (kT (gZ (aq (az mw h2)) (gX (aq (az lq h3))) gY (qX [] pb)) (jT eb))
  |false=>
   refine jP (kT (gZ (aq (az mw h2)) (gX (aq (az lq h3))) gY (qX [] pb)) (jT eb)) ?_;refine bK (ha ea eb) fun c d a1 b1 hc=>?_;have ga:getItem [] (.str (T A)) (.int (p:Nat))=some (.str (T [c])):=by rw [ow,xG a1]
   have gb:getItem [] (.str (T B)) (.int (p:Nat))=some (.str (T [d])):=by rw [ow,xG b1]
   have ce:cmp [] .Eq (.str (T [c])) (.str (T [d]))=some r:=by rw [nj,IC,hc]
   cases r with
   |true=>exact jP (bF (bD rfl (bS rfl (aq (az nG h1)) (aq (az lq h3)) ga) (bS rfl (aq (az mw h2)) (aq (az lq h3)) gb) ce)) zG
   |false=>exact jt (bF (bD rfl (bS rfl (aq (az nG h1)) (aq (az lq h3)) ga) (bS rfl (aq (az mw h2)) (aq (az lq h3)) gb) ce))
theorem UU (h3:lk lo (S "pre")=some (.int (p:Nat))):(run (CQ 0) (n+3)).ex (bX qY) (bh bg) ⟨lo,[]⟩=some (.next,⟨put lo (S "pre") (.int ((p+1:Nat):Int)),[]⟩):=by
 generalize hq:bX qY=q
 conv at hq=>lhs;whnf
 subst hq;exact bM (MI (az lq h3) bx (cg lq)) bY
theorem stay (h:lk lo z=some v):lk lo x=lk (put lo z v) x:=by
 rw [aL];cases hx:sE x z with
 |false=>rfl
 |true=>rw [dm.mp hx];exact h
theorem UW:∀(la lb:List Nat) (p n:Nat) (lo:List (Str×AV)),lk lo (S "a")=some (.str (T A))→lk lo (S "b")=some (.str (T B))→lk lo (S "pre")=some (.int (p:Nat))→A.drop p=la→B.drop p=lb→p≤A.length→p≤B.length→∃ lo',(run (CQ 0) (n+la.length+20)).wh (fG qY) (bX qY) [] (bh bg) ⟨lo,[]⟩=some (.next,⟨lo',[]⟩)∧∀ x,lk lo' x=lk (put lo (S "pre") (.int ((p+cS la lb:Nat):Int))) x:=by
 intro la;induction la with
 |nil=>
  intro lb p n lo h1 h2 h3 ha hb pa pb;exact ⟨lo,qw (BE (r:=false) h1 h2 h3 pa pb (fun q=>by rw [ha] at q;cases q) fun _=>rfl) bY,fun x=>stay h3⟩
 |cons c la ih=>
  intro lb p n lo h1 h2 h3 ha hb pa pb;have a1:A[p]?=some c:=by rw [← Nat.add_zero p,← List.getElem?_drop,ha];rfl
  have UX:p+1≤A.length:=(List.getElem?_eq_some_iff.mp a1).1;have ha':A.drop (p+1)=la:=by rw [← List.drop_drop,ha];rfl
  cases lb with
  |nil=>exact ⟨lo,qw (BE (r:=false) h1 h2 h3 pa pb (fun _ q=>by rw [hb] at q;cases q) fun _=>rfl) bY,fun x=>stay h3⟩
  |cons d lb=>
   have b1:B[p]?=some d:=by rw [← Nat.add_zero p,← List.getElem?_drop,hb];rfl
   have UY:p+1≤B.length:=(List.getElem?_eq_some_iff.mp b1).1;have hb':B.drop (p+1)=lb:=by rw [← List.drop_drop,hb];rfl
   have ex:(A.drop p).isEmpty=false→(B.drop p).isEmpty=false→∃ c' d',A[p]?=some c'∧B[p]?=some d'∧Nat.beq c' d'=Nat.beq c d:=fun _ _=>⟨c,d,a1,b1,rfl⟩;have tr:=BE (n:=n+la.length+1) h1 h2 h3 pa pb ex fun q=>by rw [ha,hb] at q;rcases q with q|q <;>cases q
   unfold cS;cases hcd:Nat.beq c d with
   |false=>
    rw [hcd] at tr;exact ⟨lo,qw tr bY,fun x=>stay h3⟩
   |true=>
    rw [hcd] at tr;refine aC (ih lb (p+1) n (put lo (S "pre") (.int ((p+1:Nat):Int))) (by rw [aL];exact h1) (by rw [aL];exact h2) (by rw [aL,iB]) ha' hb' UX UY) fun lo' e hl=>?_;refine ⟨lo',E5 tr (UU h3) e,fun x=>?_⟩;rw [hl,aL,aL,aL,Nat.add_assoc,Nat.add_comm 1];cases sE x (S "pre") <;>rfl
theorem BF (h:AH) (l:List Nat):slice h (.str (T l)) .none .none=some (.str (T (l.take (l.length- 0))),h):=by rw [US,Nat.sub_zero,List.take_length]
theorem BG (h:AH) (l:List Nat) (q:Nat):slice h (.str (T l)) .none (.int (-((q+1:Nat):Int)))=some (.str (T (l.take (l.length- (q+1)))),h):=UT h l q
theorem UZ {A:List Nat} {q:Nat}:A.reverse.drop q=(A.take (A.length- q)).reverse:=by rw [List.drop_reverse]
theorem xH {A ra:List Nat} {q:Nat} (h:A.reverse.drop q=ra):(A.take (A.length- q)).isEmpty=ra.isEmpty:=by rw [← h,UZ,List.isEmpty_reverse]
theorem ID {A ra:List Nat} {q c:Nat} (h:A.reverse.drop q=c::ra):q<A.length∧A[A.length- 1- q]?=some c:=by
 have h1:A.reverse[q]?=some c:=by rw [← Nat.add_zero q,← List.getElem?_drop,h];rfl
 have hq:q<A.length:=by have:=(List.getElem?_eq_some_iff.mp h1).1;simpa using this
 rw [List.getElem?_reverse hq] at h1;exact ⟨hq,h1⟩
theorem nH:lk (bh bg).names (Str.ofString "post")=some .local:=rfl
noncomputable def IE:Nat→AV
 |0=>.none
 |q+1=>.int (-((q+1:Nat):Int))
theorem xJ (h:AH) (l:List Nat):∀ q,slice h (.str (T l)) .none (IE q)=some (.str (T (l.take (l.length- q))),h)
 |0=>BF h l
 |q+1=>BG h l q
theorem xK (h3:lk lo (S "post")=some (.int (-(q:Nat)))):boolOp (run (CQ 0) (n+1)) (bh bg) .Or [.Name (Str.ofString "post") p1,.Constant .none k p2] ⟨lo,h⟩=some (IE q,⟨lo,h⟩):=by
 cases q with
 |zero=>exact zJ (aq (az nH h3)) rfl (zH zF)
 |succ q=>exact zI (aq (az nH h3)) rfl
theorem BH {A B:List Nat} {q n:Nat} {lo:List (Str×AV)} {r:Bool} (h1:lk lo (S "a")=some (.str (T A))) (h2:lk lo (S "b")=some (.str (T B))) (h3:lk lo (S "post")=some (.int (-(q:Nat)))) (ha:(A.take (A.length- q)).isEmpty=false→(B.take (B.length- q)).isEmpty=false→∃ c d,strAt (T A) (-(q:Int) - 1)=some (T [c])∧strAt (T B) (-(q:Int) - 1)=some (T [d])∧Nat.beq c d=r) (hr:(A.take (A.length- q)).isEmpty=true∨(B.take (B.length- q)).isEmpty=true→r=false):(run (CQ 0) (n+19)).tr (fG qZ) (bh bg) ⟨lo,[]⟩=some (r,⟨lo,[]⟩):=by
 generalize hq:fG qZ=w
 conv at hq=>lhs;whnf
 subst hq;refine jO ?_;cases ea:(A.take (A.length- q)).isEmpty with
 |true=>
  rw [hr (.inl ea)];exact jt (kT (gZ (aq (az nG h1)) gY (gX (nq (xK h3))) (xJ [] A q)) (jT ea))
 |false=>
  refine jP (kT (gZ (aq (az nG h1)) gY (gX (nq (xK h3))) (xJ [] A q)) (jT ea)) ?_;cases eb:(B.take (B.length- q)).isEmpty with
  |true=>
   rw [hr (.inr eb)];exact jt (kT (gZ (aq (az mw h2)) gY (gX (nq (xK h3))) (xJ [] B q)) (jT eb))
  |false=>
   refine jP (kT (gZ (aq (az mw h2)) gY (gX (nq (xK h3))) (xJ [] B q)) (jT eb)) ?_;refine bK (ha ea eb) fun c d a1 b1 hc=>?_;have ga:getItem [] (.str (T A)) (.int (-(q:Int) - 1))=some (.str (T [c])):=by rw [ow,a1]
   have gb:getItem [] (.str (T B)) (.int (-(q:Int) - 1))=some (.str (T [d])):=by rw [ow,b1]
   have ce:cmp [] .Eq (.str (T [c])) (.str (T [d]))=some r:=by rw [nj,IC,hc]
   cases r with
   |true=>exact jP (bF (bD rfl (bS rfl (aq (az nG h1)) (bV (aq (az nH h3)) bx (nh _ _ _)) ga) (bS rfl (aq (az mw h2)) (bV (aq (az nH h3)) bx (nh _ _ _)) gb) ce)) zG
   |false=>exact jt (bF (bD rfl (bS rfl (aq (az nG h1)) (bV (aq (az nH h3)) bx (nh _ _ _)) ga) (bS rfl (aq (az mw h2)) (bV (aq (az nH h3)) bx (nh _ _ _)) gb) ce))
theorem U0 {q n:Nat} {lo:List (Str×AV)} (h3:lk lo (S "post")=some (.int (-(q:Nat)))):(run (CQ 0) (n+3)).ex (bX qZ) (bh bg) ⟨lo,[]⟩=some (.next,⟨put lo (S "post") (.int (-(q:Int) - 1)),[]⟩):=by
 generalize hq:bX qZ=w
 conv at hq=>lhs;whnf
 subst hq;exact bM (MJ (az nH h3) bx (cg nH)) bY
theorem U1 {A B:List Nat}:∀(ra rb:List Nat) (q n:Nat) (lo:List (Str×AV)),lk lo (S "a")=some (.str (T A))→lk lo (S "b")=some (.str (T B))→lk lo (S "post")=some (.int (-(q:Nat)))→A.reverse.drop q=ra→B.reverse.drop q=rb→∃ lo',(run (CQ 0) (n+ra.length+20)).wh (fG qZ) (bX qZ) [] (bh bg) ⟨lo,[]⟩=some (.next,⟨lo',[]⟩)∧∀ x,lk lo' x=lk (put lo (S "post") (.int (-((q+cS ra rb:Nat):Int)))) x:=by
 intro ra;induction ra with
 |nil=>
  intro rb q n lo h1 h2 h3 ha hb;exact ⟨lo,qw (BH (r:=false) h1 h2 h3 (fun z=>by rw [xH ha] at z;cases z) fun _=>rfl) bY,fun x=>stay h3⟩
 |cons c ra ih=>
  intro rb q n lo h1 h2 h3 ha hb;refine aN (ID ha) fun qa a1=>?_;have ha':A.reverse.drop (q+1)=ra:=by rw [← List.drop_drop,ha];rfl
  cases rb with
  |nil=>exact ⟨lo,qw (BH (r:=false) h1 h2 h3 (fun _ z=>by rw [xH hb] at z;cases z) fun _=>rfl) bY,fun x=>stay h3⟩
  |cons d rb=>
   refine aN (ID hb) fun qb b1=>?_;have hb':B.reverse.drop (q+1)=rb:=by rw [← List.drop_drop,hb];rfl
   have tr:=BH (n:=n+ra.length+1) (r:=Nat.beq c d) h1 h2 h3 (fun _ _=>⟨c,d,IB qa a1,IB qb b1,rfl⟩) fun z=>by rw [xH ha,xH hb] at z;rcases z with z|z <;>cases z
   unfold cS;cases hcd:Nat.beq c d with
   |false=>
    rw [hcd] at tr;exact ⟨lo,qw tr bY,fun x=>stay h3⟩
   |true=>
    rw [hcd] at tr;have em: -(q:Int) - 1= -((q+1:Nat):Int):=by lia
    refine aC (ih rb (q+1) n (put lo (S "post") (.int (-(q:Int) - 1))) (by rw [aL];exact h1) (by rw [aL];exact h2) (by rw [aL,iB,em]) ha' hb') fun lo' e hl=>?_;refine ⟨lo',E5 tr (U0 h3) e,fun x=>?_⟩;rw [hl,aL,aL,aL,Nat.add_assoc,Nat.add_comm 1];cases sE x (S "post") <;>rfl
end EV
namespace EV
open PySem PySem.W PySem.Calls PyProof.Rows
noncomputable def dst (i:Nat) (prev:Nat→Int):Nat→Int
 |0=>(i:Int)*2
 |j+1=>prev (j+1)
noncomputable def IF (ci:Nat→Int) (i:Nat) (prev:Nat→Int):Nat→Int
 |0=>(i:Int)*2
 |j+1=>i8 (ci j) (dst i prev j) (IF ci i prev j) (prev (j+1))
noncomputable def DD (c:Nat→Nat→Int):Nat→Nat→Int
 |0=>fun j=>2*(j:Nat)
 |i+1=>IF (c i) i (DD c i)
noncomputable def g8 (c:Nat→Nat→Int) (m i j:Nat):List Int:=(List.range m).map fun t=>if t<j then DD c (i+1) (t+1) else DD c i (t+1)
theorem BI (c:Nat→Nat→Int) (m i j:Nat):(g8 c m i j).length=m:=by unfold g8;simp
theorem BJ (h:t<m):(g8 c m i j)[t]?=some (if t<j then DD c (i+1) (t+1) else DD c i (t+1)):=by unfold g8;rw [List.getElem?_map,List.getElem?_range h];rfl
theorem U3 (h:j<m):(g8 c m i j).set j (DD c (i+1) (j+1))=g8 c m i (j+1):=by
 apply List.ext_getElem?;intro t;by_cases ht:t<m
 ·rw [List.getElem?_set,BJ ht,BJ ht];by_cases e:j=t
  ·subst e;rw [if_pos rfl,if_pos (by rw [BI];exact h),if_pos (by (exact Nat.lt_succ_self _))]
  ·rw [if_neg e];by_cases q:t<j
   ·rw [if_pos q,if_pos (by (exact Nat.lt_succ_of_lt q))]
   ·rw [if_neg q,if_neg (by lia)]
 ·rw [List.getElem?_eq_none (by rw [List.length_set,BI];(exact Nat.le_of_not_lt ht)),List.getElem?_eq_none (by rw [BI];(exact Nat.le_of_not_lt ht))]
theorem U4 (c:Nat→Nat→Int) (m i:Nat):g8 c m i m=g8 c m (i+1) 0:=by unfold g8;apply List.map_congr_left;intro t ht;rw [if_pos (List.mem_range.mp ht),if_neg (by lia)]
theorem BK (a b:Int):eG a b≤a∧eG a b≤b:=by
 unfold eG;rw [dZ];by_cases h:b<a
 ·rw [decide_eq_true h];simp only [];lia
 ·rw [decide_eq_false h];simp only [];lia
theorem U5 (a b:Int):eG a b=a∨eG a b=b:=by
 unfold eG;cases bf b a
 ·exact .inl rfl
 ·exact .inr rfl
noncomputable def IG (x y:Nat):Int:=dJ (T [x]) (T [y])
noncomputable def cL (A B:List Nat) (i j:Nat):Int:=IG (B.getD i 0) (A.getD j 0)
noncomputable def rq:Stmt:=aY (bX (aY bg.body 15)) 3
theorem BL {lo:List (Str×AV)} {x y:Str} (v:AV) (h:sE y x=false):lk (put lo x v) y=lk lo y:=by rw [aL,h]
theorem xM (h:AH) (j k:Nat):next h (.range (j:Nat) ((k+1:Nat):Int) 1)=some (some ([.int (j:Nat)],.range ((j+1:Nat):Int) (k:Nat) 1)):=by show (match bf 0 ((k+1:Nat):Int) with|true=>some (some ([AV.int j],It.range (j+1) (((k+1:Nat):Int) - 1) 1))|false=>some none)=_;rw [show bf 0 ((k+1:Nat):Int)=true from rfl,show ((k+1:Nat):Int) - 1=k by lia];rfl
theorem U6 {A B:List Nat} {i m:Nat} (hA:A.length=m) (hi:i<B.length) (oO:∀ x∈A,iF (T [x])) (oR:∀ x∈B,iF (T [x])):∀(k j n:Nat) (lo:List (Str×AV)) (mn:Int),j+k=m→lk lo (S "a")=some (.str (T A))→lk lo (S "bchar")=some (.str (T [B.getD i 0]))→lk lo (S "distance")=some (.int (dst i (DD (cL A B) i) j))→lk lo (S "result")=some (.int (DD (cL A B) (i+1) j))→lk lo (S "row")=some (.loc 0)→lk lo (S "minimum")=some (.int mn)→(∀ t,t<j→mn≤DD (cL A B) (i+1) (t+1))→∃ lo' xN,(run (CQ 0) (n+k+25)).fo (fG rq) (.range j k 1) (bX rq) [] (bh bg) ⟨lo,[.list ((g8 (cL A B) m i j).map .int)]⟩=some (.next,⟨lo',[.list ((g8 (cL A B) m i m).map .int)]⟩)∧lk lo' (S "result")=some (.int (DD (cL A B) (i+1) m))∧lk lo' (S "minimum")=some (.int xN)∧(∀ t,t<m→xN≤DD (cL A B) (i+1) (t+1))∧lk lo' (S "a")=some (.str (T A))∧lk lo' (S "row")=some (.loc 0)∧lk lo' (S "b")=lk lo (S "b")∧lk lo' (S "max_cost")=lk lo (S "max_cost"):=by
 intro k;induction k with
 |zero=>
  intro j n lo mn hj h1 h2 h3 h4 h5 h7 hm;have:j=m:=by omega
  subst this;exact ⟨lo,mn,rfl,h4,h7,hm,h1,h5,rfl,rfl⟩
 |succ k ih=>
  intro j n lo mn hj h1 h2 h3 h4 h5 h7 hm;have BN:j<m:=by lia
  have aj:A[j]?=some (A.getD j 0):=by rw [List.getD_eq_getElem?_getD,List.getElem?_eq_getElem (by (exact hA▸BN))];rfl
  have bi:B[i]?=some (B.getD i 0):=by rw [List.getD_eq_getElem?_getD,List.getElem?_eq_getElem hi];rfl
  have g2:(g8 (cL A B) m i j)[j]?=some (DD (cL A B) i (j+1)):=by rw [BJ BN,if_neg (by lia)]
  refine Ku (UQ (n:=n+k+5) (lo:=put lo (S "index") (.int (j:Nat))) (rs:=g8 (cL A B) m i j) (j:=j) (a:=T A) (bc:=T [B.getD i 0]) (y:=T [A.getD j 0]) (d:=dst i (DD (cL A B) i) j) (r:=DD (cL A B) (i+1) j) (mn:=mn) (x:=DD (cL A B) i (j+1)) (by rw [aL];exact h1) (by rw [aL];exact h2) (by rw [aL];exact h3) (by rw [aL];exact h4) (by rw [aL];exact h5) (by rw [aL,iB]) (by rw [aL];exact h7) (xG aj) g2 (oR _ (List.mem_of_getElem? bi)) (oO _ (List.mem_of_getElem? aj))) fun l1 e1 q3 q4 q7 q1 q2 q5 q8 q9=>?_;have ec:i8 (dJ (T [B.getD i 0]) (T [A.getD j 0])) (dst i (DD (cL A B) i) j) (DD (cL A B) (i+1) j) (DD (cL A B) i (j+1))=DD (cL A B) (i+1) (j+1):=rfl;rw [ec] at e1 q4 q7;rw [U3 BN] at e1;refine CS (ih (j+1) n l1 (eG mn (DD (cL A B) (i+1) (j+1))) (by lia) q1 q2 q3 q4 q5 q7 (fun t ht=>by
   by_cases e:t=j
   ·subst e;exact (BK _ _).2
   ·exact Int.le_trans (BK _ _).1 (hm t (by lia)))) fun l2 xN e2 p1 p2 p3 p4 p5 p6 p7=>?_
  refine ⟨l2,xN,?_,p1,p2,p3,p4,p5,p6.trans (q8.trans (BL _ rfl)),p7.trans (q9.trans (BL _ rfl))⟩;rw [show n+(k+1)+25=(n+k+25)+1 by (exact Nat.add_assoc ..)];exact sJ (xM _ j k) rfl e1 e2
theorem U7 (x y:Str):0≤dJ x y∧dJ x y≤2:=by
 unfold dJ;cases sE x y with
 |true=>simp only [];decide
 |false=>cases sE (Txt.lower x) (Txt.lower y) <;>decide
theorem II (c:Nat→Nat→Int) (i:Nat):DD c (i+1) (i+1)≤DD c i i+c i i:=by
 show i8 (c i i) (dst i (DD c i) i) _ _≤_;unfold i8;refine Int.le_trans (BK _ _).2 ?_;cases i with
 |zero=>
  show ((0:Nat):Int)*2+c 0 0≤2*((0:Nat):Int)+c 0 0;lia
 |succ i=>exact Int.le_refl _
theorem IJ:∀ i:Nat,DD (cL A B) i i≤2*(i:Int)
 |0=>by show 2*((0:Nat):Int)≤_;(exact Int.natCast_nonneg _)
 |i+1=>by
  have h1:=II (cL A B) i;have h2:=IJ (A:=A) (B:=B) i;have h3:cL A B i i≤2:=(U7 _ _).2;lia
theorem rz (i:Nat) (h:i<1000000000000):small (i:Int)=true:=by unfold small;rw [dZ,dZ,decide_eq_true (by omega),decide_eq_true (by omega)];rfl
theorem oU (h:AH) (ha:small a=true) (hb:small b=true):binop h .Mult (.int a) (.int b)=some (.int (a*b),h):=by exact aG (a:=a*b) (by show (match small a&&small b with|true=>some (a*b)|false=>none)=_;rw [ha,hb];rfl) rfl
theorem U8 (h:AH) (i:Nat) (hi:i<1000000000000):binop h .Mult (.int (i:Nat)) (.int 2)=some (.int ((i:Int)*2),h):=oU h (rz i hi) rfl
theorem U9 (m:Nat) (hm:m≤40):Builtin.Range.small 0 (m:Int) 1=true:=small_one (by (exact Int.natCast_nonneg _)) (by (exact Int.natCast_nonneg _)) (by (exact Int.natCast_nonneg _)) (by omega)
theorem Va (n:Int) (h:Builtin.Range.small 0 n 1=true):jJ [.int n]=some (0,n,1):=by exact aG (a:=[n]) rfl (dG (a:=n) rfl (by unfold rR;rw [h]))
theorem mz (m:Nat) (hm:m≤40):jJ [.int (m:Nat)]=some (0,(m:Int),1):=Va _ (U9 m hm)
theorem mC (m:Nat):Builtin.Range.rangeSize 0 (m:Int) 1=(m:Int):=by rw [PyProof.Rows.rangeSize_nat];(exact rfl)
theorem jU (h1:bQ C ae e=some as) (h2:cJ R ae as s=some (vs,s')) (h3:jJ vs=some (i,n,k)):iter C R ae e s=some (.range i (Builtin.Range.rangeSize i n k) k,s'):=by exact dG h1 (by unfold C8;exact bG h2 (aG h3 rfl))
theorem IK (C:Cx) (n:Nat) (l:List Nat) (h:AH):(run C (n+1)).ca (.fix (.builtin "len")) [.str (T l)] h=some (.int (l.length:Nat),h):=by show some (AV.int (l.toArray.size:Nat),h)=_;rw [List.size_toArray]
noncomputable def oV:Stmt:=aY bg.body 15
theorem Vb {A:List Nat} {m n:Nat} {lo:List (Str×AV)} {h:AH} (h1:lk lo (S "a")=some (.str (T A))) (hA:A.length=m) (hm:m≤40):iter (CQ 0) (run (CQ 0) (n+10)) (bh bg) (eO rq) ⟨lo,h⟩=some (.range 0 (m:Nat) 1,⟨lo,h⟩):=by
 have e:cJ (run (CQ 0) (n+10)) (bh bg) (match bQ (CQ 0) (bh bg) (eO rq) with|some as=>as|none=>[]) ⟨lo,h⟩=some ([.int (m:Nat)],⟨lo,h⟩):=by
  generalize hb:(match bQ (CQ 0) (bh bg) (eO rq) with|some as=>as|none=>[])=bd
  conv at hb=>lhs;whnf
  subst hb;refine bq (cX (bR rfl rfl) rfl rfl (bq (aq (az Iv h1)) bJ) rfl (fH _ "len") ?_) bJ;rw [← hA];exact IK _ _ _ _
 rw [jU (as:=match bQ (CQ 0) (bh bg) (eO rq) with|some as=>as|none=>[]) rfl e (mz m hm),mC]
theorem IL:lk (bh bg).names (Str.ofString "bindex")=some .local:=rfl
theorem Vc:lk (bh bg).names (Str.ofString "max_cost")=some .local:=rfl
theorem Vd {A B:List Nat} {m:Nat} {mc:Int} (hA:A.length=m) (hB:B.length=m) (hmc:2*(m:Int)≤mc) (Ve:m≤40) (oO:∀ x∈A,iF (T [x])) (oR:∀ x∈B,iF (T [x])):∀(k i n:Nat) (lo:List (Str×AV)),i+k=m→lk lo (S "a")=some (.str (T A))→lk lo (S "b")=some (.str (T B))→lk lo (S "max_cost")=some (.int mc)→lk lo (S "row")=some (.loc 0)→(0<i→lk lo (S "result")=some (.int (DD (cL A B) i m)))→∃ lo' h',(run (CQ 0) (n+k+m+40)).fo (fG oV) (.range i k 1) (bX oV) [] (bh bg) ⟨lo,[.list ((g8 (cL A B) m i 0).map .int)]⟩=some (.next,⟨lo',h'⟩)∧(0<m→lk lo' (S "result")=some (.int (DD (cL A B) m m))):=by
 intro k;induction k with
 |zero=>
  intro i n lo hi h1 h2 h3 h4 h5;have:i=m:=by omega
  subst this;exact ⟨lo,_,rfl,h5⟩
 |succ k ih=>
  intro i n lo hi h1 h2 h3 h4 h5;have BO:i<m:=by lia
  have bi:B[i]?=some (B.getD i 0):=by rw [List.getD_eq_getElem?_getD,List.getElem?_eq_getElem (by (exact hB▸BO))];rfl
  have sb:=xG bi;refine CS (U6 (i:=i) hA (by (exact hB▸BO)) oO oR m 0 (n+k+11) (put (put (put (put (put lo (S "bindex") (.int (i:Nat))) (S "bchar") (.str (T [B.getD i 0]))) (S "distance") (.int ((i:Int)*2))) (S "result") (.int ((i:Int)*2))) (S "minimum") (.int 9223372036854775807)) 9223372036854775807 (by (exact Nat.add_comm ..))
   (by rw [aL,aL,aL,aL,aL];exact h1) (by rw [aL,aL,aL,aL];rfl) (by rw [aL,aL,aL];rfl) (by rw [aL,aL];rfl) (by rw [aL,aL,aL,aL,aL];exact h4) (by rw [aL];rfl) (fun t ht=>absurd ht (Nat.not_lt_zero t))) fun l1 mn e1 q1 q2 q3 q4 q5 q6 q7=>?_
  have Vf:bf mc mn=false:=by have a1:=q3 i BO;have a2:=IJ (A:=A) (B:=B) (i+1);rw [dZ];exact decide_eq_false (by lia)
  refine dB (ih (i+1) n l1 (by lia) q4 (q6.trans (by rw [aL,aL,aL,aL,aL];exact h2)) (q7.trans (by rw [aL,aL,aL,aL,aL];exact h3)) q5 (fun _=>q1)) fun lo' h' e2 p2=>?_;refine ⟨lo',h',?_,p2⟩;rw [U4,show n+k+11+m+25=n+k+m+36 by lia,show ((0:Nat):Int)=0 from rfl] at e1;have sm:∀ h,binop h .Mult (.int (i:Nat)) (.int 2)=some (.int ((i:Int)*2),h):=fun h=>U8 h i (by omega);rw [show n+(k+1)+m+40=(n+k+m+40)+1 by lia];refine sJ (s1:=⟨put lo (S "bindex") (.int (i:Nat)),[.list ((g8 (cL A B) m i 0).map .int)]⟩) (xM _ i k) rfl ?_ e2;generalize hb:bX oV=bd
  conv at hb=>lhs;whnf
  subst hb;have c1 {z:Str} {v:AV} (e:sE z (S "bindex")=false) (k:lk lo z=some v):lk (put lo (S "bindex") (.int (i:Nat))) z=some v:=bT e k;have c2 {z:Str} {v:AV} (e:sE z (S "bindex")=false) (e2:sE z (S "bchar")=false) (k:lk lo z=some v):lk (put (put lo (S "bindex") (.int (i:Nat))) (S "bchar") (.str (T [B.getD i 0]))) z=some v:=bT e2 (c1 e k);refine bM (fV (bS rfl (aq (az mw (c1 rfl h2))) (aq (az IL b8)) (by rw [ow];exact congrArg (fun z=>match z with|some y=>some (AV.str y)|none=>none) sb)) (cg Iu)) ?_;refine bM (MK (bV (aq (az IL (bT rfl b8))) (aq (bR (v:=.int 2) rfl rfl)) (sm _)) (cg xF) (cg oN)) ?_;refine bM (fV bx (cg tV)) ?_;refine bM (oA rfl (Vb (bT rfl (bT rfl (bT rfl (c2 rfl rfl h1)))) hA Ve) rfl e1 rfl) ?_;exact bM (d8 (bF (bD rfl (aq (az tV q2)) (aq (az Vc (q7.trans (bT rfl (bT rfl (bT rfl (c2 rfl rfl h3))))))) (by rw [oz,Vf]))) bY) bY
theorem i9 (e:l.length=m):(run C (n+1)).ca (.fix (.builtin "len")) [.str (T l)] h=some (.int (m:Nat),h):=by rw [← e];exact IK C n l h
theorem tW:∀ a b:List Nat,cS a b≤a.length∧cS a b≤b.length
 |[],_=>⟨Nat.zero_le _,Nat.zero_le _⟩
 |_::_,[]=>⟨Nat.zero_le _,Nat.zero_le _⟩
 |x::a,y::b=>by
  unfold cS;have:=tW a b;cases Nat.beq x y
  ·exact ⟨Nat.zero_le _,Nat.zero_le _⟩
  ·simp only [List.length_cons];lia
theorem IM (a b:List Nat):sE (T a) (T b)=decide (a=b):=by unfold sE;rw [qt];exact decide_eq_decide.mpr Iff.rfl
noncomputable def A1 (A B:List Nat):List Nat:=A.drop (cS A B)
noncomputable def B1 (A B:List Nat):List Nat:=B.drop (cS A B)
noncomputable def qq (A B:List Nat):Nat:=cS (A1 A B).reverse (B1 A B).reverse
noncomputable def A2 (A B:List Nat):List Nat:=(A1 A B).take ((A1 A B).length- qq A B)
noncomputable def B2 (A B:List Nat):List Nat:=(B1 A B).take ((B1 A B).length- qq A B)
theorem IP (hne:A≠B) (hL:A.length≤30) (mc:AV):∃ lo,(run (CQ 0) (n+80)).ex bg.body (bh bg) ⟨[(S "a",.str (T A)),(S "b",.str (T B)),(S "max_cost",mc)],[]⟩=(run (CQ 0) (n+71)).ex (bg.body.drop 9) (bh bg) ⟨lo,[]⟩∧lk lo (S "a")=some (.str (T (A2 A B)))∧lk lo (S "b")=some (.str (T (B2 A B)))∧lk lo (S "max_cost")=some mc:=by
 refine aN (tW A B) fun pa pb=>?_;refine aN (tW (A1 A B).reverse (B1 A B).reverse) fun qa qb=>?_;have e0:sE (T A) (T B)=false:=by rw [IM];exact decide_eq_false hne
 refine aC (UW (A:=A) (B:=B) A B 0 (n+57- A.length) (put [(S "a",.str (T A)),(S "b",.str (T B)),(S "max_cost",mc)] (S "pre") (.int 0)) (by rw [aL];rfl) (by rw [aL];rfl) (by rw [aL];rfl) rfl rfl (Nat.zero_le _) (Nat.zero_le _)) fun l1 w1 k1=>?_;rw [show n+57- A.length+A.length+20=n+77 by lia] at w1;rw [Nat.zero_add] at k1;refine aC (U1 (A:=A1 A B) (B:=B1 A B) (A1 A B).reverse (B1 A B).reverse 0 (n+53- (A1 A B).reverse.length) (put (put (put l1 (S "a") (.str (T (A1 A B)))) (S "b") (.str (T (B1 A B)))) (S "post") (.int 0)) (by rw [aL,aL,aL];rfl) (by rw [aL,aL];rfl) (by rw [aL];rfl) rfl rfl) fun l2 w2 k2=>?_;have lr:(A1 A B).reverse.length≤30:=by unfold A1;rw [List.length_reverse,List.length_drop];lia
 rw [show n+53- (A1 A B).reverse.length+(A1 A B).reverse.length+20=n+73 by lia] at w2;rw [Nat.zero_add] at k2;have kq:lk l2 (S "post")=some (.int (-(qq A B:Nat))):=by rw [k2,aL];rfl
 have ka:lk l2 (S "a")=some (.str (T (A1 A B))):=by rw [k2,aL,aL,aL,aL];rfl
 have kb:lk l2 (S "b")=some (.str (T (B1 A B))):=by rw [k2,aL,aL,aL];rfl
 have km:lk l2 (S "max_cost")=some mc:=by rw [k2,aL,aL,aL,aL,k1,aL,aL];rfl
 refine ⟨put (put l2 (S "a") (.str (T (A2 A B)))) (S "b") (.str (T (B2 A B))),?_,by rw [aL,aL];rfl,by rw [aL];rfl,by rw [aL,aL];exact km⟩;have Vg:lk l1 (Str.ofString "a")=some (.str (T A)):=by rw [show lk l1 (Str.ofString "a")=_ from k1 _,aL];rfl
 have kb1:lk l1 (Str.ofString "b")=some (.str (T B)):=by rw [show lk l1 (Str.ofString "b")=_ from k1 _,aL];rfl
 have IQ:lk l1 (Str.ofString "pre")=some (.int (cS A B:Nat)):=(k1 _).trans b8;have sa:slice [] (.str (T A)) (.int (cS A B:Nat)) .none=some (.str (T (A1 A B)),[]):=qX [] pa;have sb:slice [] (.str (T B)) (.int (cS A B:Nat)) .none=some (.str (T (B1 A B)),[]):=qX [] pb;have fa:lk [(S "a",.str (T A)),(S "b",.str (T B)),(S "max_cost",mc)] (Str.ofString "a")=some (.str (T A)):=rfl;have fb:lk [(S "a",.str (T A)),(S "b",.str (T B)),(S "max_cost",mc)] (Str.ofString "b")=some (.str (T B)):=rfl;have ka:lk l2 (Str.ofString "a")=some (.str (T (A1 A B))):=ka;have kb:lk l2 (Str.ofString "b")=some (.str (T (B1 A B))):=kb;have kq:lk l2 (Str.ofString "post")=some (.int (-(qq A B:Nat))):=kq;have tq:∃ c:Bool,truthy [] (.int (-(qq A B:Nat)))=some c∧slice [] (.str (T (A1 A B))) .none (match c with|true=>.int (-(qq A B:Nat))|false=>.none)=some (.str (T (A2 A B)),[])∧slice [] (.str (T (B1 A B))) .none (match c with|true=>.int (-(qq A B:Nat))|false=>.none)=some (.str (T (B2 A B)),[]):=by
  unfold A2 B2;generalize qq A B=q;cases q with
  |zero=>exact ⟨false,rfl,BF ..,BF ..⟩
  |succ q=>exact ⟨true,rfl,BG ..,BG ..⟩
 refine aZ tq fun c tq ta tb=>?_;generalize hb:bg.body=bd
 conv at hb=>lhs;whnf
 subst hb;refine bM (d8 (s1:=⟨[(S "a",.str (T A)),(S "b",.str (T B)),(S "max_cost",mc)],[]⟩) (by exact bF (bD rfl (aq (az rfl fa)) (aq (az rfl fb)) (Eq.trans (nj _ _ _) (congrArg some e0)))) bY) ?_;refine bM (fV bx (cg rfl)) ?_;refine bM w1 ?_;refine bM (fV (v:=.str (T (A1 A B))) (s1:=⟨l1,[]⟩) (by exact gZ (aq (az rfl Vg)) (gX (aq (az rfl IQ))) gY sa) (cg rfl)) ?_;refine bM (fV (v:=.str (T (B1 A B))) (s1:=⟨put l1 (Str.ofString "a") (.str (T (A1 A B))),[]⟩) (by exact gZ (aq (az rfl (bT rfl kb1))) (gX (aq (az rfl (bT rfl IQ)))) gY sb) (cg rfl)) ?_;refine bM (fV bx (cg rfl)) ?_;refine bM w2 ?_;cases c with
 |true=>
  dsimp only at ta tb;refine bM (fV (v:=.str (T (A2 A B))) (s1:=⟨l2,[]⟩) (by exact gZ (aq (az rfl ka)) gY (gX (nq (zI (aq (az rfl kq)) tq))) ta) (cg rfl)) ?_;exact bM (fV (v:=.str (T (B2 A B))) (s1:=⟨put l2 (Str.ofString "a") (.str (T (A2 A B))),[]⟩) (by exact gZ (aq (az rfl (bT rfl kb))) gY (gX (nq (zI (aq (az rfl (bT rfl kq))) tq))) tb) (cg rfl)) rfl
 |false=>
  dsimp only at ta tb;refine bM (fV (v:=.str (T (A2 A B))) (s1:=⟨l2,[]⟩) (by exact gZ (aq (az rfl ka)) gY (gX (nq (zJ (aq (az rfl kq)) tq (zH zF)))) ta) (cg rfl)) ?_;exact bM (fV (v:=.str (T (B2 A B))) (s1:=⟨put l2 (Str.ofString "a") (.str (T (A2 A B))),[]⟩) (by exact gZ (aq (az rfl (bT rfl kb))) gY (gX (nq (zJ (aq (az rfl (bT rfl kq))) tq (zH zF)))) tb) (cg rfl)) rfl
theorem Vh (m:Nat) (hm:m≤10):jJ [.int 2,.int (2*((m:Int)+1)),.int 2]=some (2,2*((m:Int)+1),2):=by
 have h:m<11:=Nat.lt_succ_of_le hm;iterate 11 refine aW h rfl fun h=>?_
 exact absurd h (Nat.not_lt_zero m)
theorem Vi (m:Nat) (hm:m≤10):Builtin.Range.rangeSize 2 (2*((m:Int)+1)) 2=(m:Int):=by
 have h:m<11:=Nat.lt_succ_of_le hm;iterate 11 refine aW h (by rfl) fun h=>?_
 exact absurd h (Nat.not_lt_zero m)
theorem Vj (c:Nat→Nat→Int) (m:Nat):∀(k:Nat),(List.range' k m).map (fun t=>2*((t+1:Nat):Int))=dj (2*((k+1:Nat):Int)) 2 m:=by
 induction m with
 |zero=>intro k;rfl
 |succ m ih=>
  intro k;rw [List.range'_succ,List.map_cons,ih,dj];congr 2
theorem Vk (c:Nat→Nat→Int) (m:Nat):g8 c m 0 0=dj 2 2 m:=by have:=Vj c m 0;rw [← List.range_eq_range'] at this;exact this
theorem Vl {C:Cx} {R:Rec} {ae:au} {x:PySem.Expr} {s s':St} {as:List PySem.Expr} {vs:List AV} {i n k:Int} {m:Nat} (h1:bQ C ae x=some as) (h2:cJ R ae as s=some (vs,s')) (h3:jJ vs=some (i,n,k)) (hs:Builtin.Range.rangeSize i n k=(m:Int)) (hm:m<1000) (hq:ae.quiet=true):mW C R ae (.type "list") [x] s=some (.loc s'.hp.length,{ s' with hp:=s'.hp++[.list ((dj i k m).map .int)]}):=by refine aG h1 (bG h2 (aG h3 ?_));unfold yL;dsimp only;rw [hs,hq,dZ,dZ,decide_eq_true (by (exact Int.ofNat_lt.2 hm)),decide_eq_false (by lia)];rfl
theorem Vm {B:List Nat} {m n:Nat} {lo:List (Str×AV)} {h:AH} (h1:lk lo (S "b")=some (.str (T B))) (hB:B.length=m) (hm:m≤40):iter (CQ 0) (run (CQ 0) (n+10)) (bh bg) (eO oV) ⟨lo,h⟩=some (.range 0 (m:Nat) 1,⟨lo,h⟩):=by
 have e:cJ (run (CQ 0) (n+10)) (bh bg) (match bQ (CQ 0) (bh bg) (eO oV) with|some as=>as|none=>[]) ⟨lo,h⟩=some ([.int (m:Nat)],⟨lo,h⟩):=by
  have h1:lk lo (Str.ofString "b")=some (.str (T B)):=h1;generalize hb:(match bQ (CQ 0) (bh bg) (eO oV) with|some as=>as|none=>[])=bd
  conv at hb=>lhs;whnf
  subst hb;exact bq (cX (bR rfl rfl) rfl rfl (bq (aq (az rfl h1)) bJ) rfl (fH _ _) (i9 hB)) bJ
 rw [jU (as:=match bQ (CQ 0) (bh bg) (eO oV) with|some as=>as|none=>[]) rfl e (mz m hm),mC]
noncomputable def Vn (st:Stmt):PySem.Expr:=(aV (DJ st) fun _ v=>ob (nZ v) fun p=>p.2.1.head?).getD default
noncomputable def xO:PySem.Expr:=Vn (aY bg.body 13)
theorem Vo {A:List Nat} {m n:Nat} {lo:List (Str×AV)} {h:AH} (h1:lk lo (S "a")=some (.str (T A))) (hA:A.length=m) (hm:m≤10):mW (CQ 0) (run (CQ 0) (n+12)) (bh bg) (.type "list") [xO] ⟨lo,h⟩=some (.loc h.length,⟨lo,h++[.list ((dj 2 2 m).map .int)]⟩):=by
 have sm:∀ h,binop h .Mult (.int 2) (.int ((m:Int)+1))=some (.int (2*((m:Int)+1)),h):=fun h=>oU h rfl (rz (m+1) (by lia));have e:cJ (run (CQ 0) (n+12)) (bh bg) (match bQ (CQ 0) (bh bg) xO with|some as=>as|none=>[]) ⟨lo,h⟩=some ([.int 2,.int (2*((m:Int)+1)),.int 2],⟨lo,h⟩):=by
  have h1:lk lo (Str.ofString "a")=some (.str (T A)):=h1;have sm:=sm h;generalize hb:(match bQ (CQ 0) (bh bg) xO with|some as=>as|none=>[])=bd
  conv at hb=>lhs;whnf
  subst hb;exact bq (aq (bR rfl rfl)) (bq (bV (aq (bR rfl rfl)) (bV (cX (bR rfl rfl) rfl rfl (bq (aq (az rfl h1)) bJ) rfl (fH _ _) (i9 hA)) bx (lZ _ _ _)) sm) (bq (aq (bR rfl rfl)) bJ))
 exact Vl (as:=match bQ (CQ 0) (bh bg) xO with|some as=>as|none=>[]) rfl e (Vh m hm) (Vi m hm) (by (exact Nat.lt_of_le_of_lt hm (by decide))) rfl
theorem Vp {A B:List Nat} {m n:Nat} {lo:List (Str×AV)} (h1:lk lo (S "a")=some (.str (T A))) (h2:lk lo (S "b")=some (.str (T B))) (h3:lk lo (S "max_cost")=some (.int 20)) (hA:A.length=m) (hB:B.length=m) (h0:0<m) (hm:m≤10) (oO:∀ x∈A,iF (T [x])) (oR:∀ x∈B,iF (T [x])):∃ s,(run (CQ 0) (n+71)).ex (bg.body.drop 9) (bh bg) ⟨lo,[]⟩=some (.ret (.int (DD (cL A B) m m)),s):=by
 have eA:A.isEmpty= !true:=by cases A with|nil=>rw [← hA] at h0;cases h0|cons=>rfl
 have eB:B.isEmpty= !true:=by cases B with|nil=>rw [← hB] at h0;cases h0|cons=>rfl
 have IS:bf 40 (m:Int)=false:=by rw [dZ];exact decide_eq_false (by lia)
 have Vq:bf (m:Int) (m:Int)=false:=by rw [dZ];exact decide_eq_false (by lia)
 have sm:∀ h,binop h .Mult (.int ((m:Int) - (m:Int))) (.int 2)=some (.int 0,h):=fun h=>by rw [Int.sub_self];rfl
 have BP:=sm [];have Vr:bf 20 0=false:=rfl;refine dB (Vd hA hB (show 2*(m:Int)≤20 by lia) (by (exact Nat.le_trans hm (by decide))) oO oR m 0 (n+24- m- m) (put (put lo (S "row") (.loc 0)) (S "result") (.int 0)) (Nat.zero_add m) (bT rfl (bT rfl h1)) (bT rfl (bT rfl h2)) (bT rfl (bT rfl h3)) (bT rfl b8) (fun q=>absurd q (Nat.lt_irrefl _))) fun l1 hp1 w1 k1=>?_;rw [show n+24- m- m+m+m+40=n+64 by lia,Vk,show ((0:Nat):Int)=0 from rfl] at w1;have k1:=k1 h0;refine ⟨⟨l1,hp1⟩,?_⟩;have h1:lk lo (Str.ofString "a")=some (.str (T A)):=h1;have h2:lk lo (Str.ofString "b")=some (.str (T B)):=h2;have h3:lk lo (Str.ofString "max_cost")=some (.int 20):=h3;generalize hb:bg.body.drop 9=bd
 conv at hb=>lhs;whnf
 subst hb;refine bM (d8 (s1:=⟨lo,[]⟩) (by exact jO (nk (v7 (v5 (aq (az rfl h1)) (jT eA)) rfl) (nk (v7 (v5 (aq (az rfl h2)) (jT eB)) rfl) vY))) bY) ?_;refine bM (d8 (s1:=⟨lo,[]⟩) (by exact jO (nk (bF (bD rfl (cX (bR rfl rfl) rfl rfl (bq (aq (az rfl h1)) bJ) rfl (fH _ _) (i9 hA)) (aq (bR rfl rfl)) (Eq.trans (oz _ _ _) (congrArg some IS)))) (nk (bF (bD rfl (cX (bR rfl rfl) rfl rfl (bq (aq (az rfl h2)) bJ) rfl (fH _ _) (i9 hB)) (aq (bR rfl rfl)) (Eq.trans (oz _ _ _) (congrArg some IS)))) vY))) bY) ?_;refine bM (d8 (s1:=⟨lo,[]⟩) (by exact bF (bD rfl (cX (bR rfl rfl) rfl rfl (bq (aq (az rfl h2)) bJ) rfl (fH _ _) (i9 hB)) (cX (bR rfl rfl) rfl rfl (bq (aq (az rfl h1)) bJ) rfl (fH _ _) (i9 hA)) (Eq.trans (vV _ _ _) (congrArg some Vq)))) bY) ?_;refine bM (d8 (s1:=⟨lo,[]⟩) (by exact bF (bD rfl (bV (bV (cX (bR rfl rfl) rfl rfl (bq (aq (az rfl h2)) bJ) rfl (fH _ _) (i9 hB)) (cX (bR rfl rfl) rfl rfl (bq (aq (az rfl h1)) bJ) rfl (fH _ _) (i9 hA)) (nh _ _ _)) (aq (bR rfl rfl)) BP) (aq (az rfl h3)) (Eq.trans (oz _ _ _) (congrArg some Vr)))) bY) ?_;refine bM (fV (v:=.loc 0) (s1:=⟨lo,[.list ((dj 2 2 m).map .int)]⟩) (MN (bR rfl rfl) (Vo h1 hA hm)) (cg rfl)) ?_;refine bM (fV bx (cg rfl)) ?_;refine bM (oA rfl (Vm (bT rfl (bT rfl h2)) hB (by (exact Nat.le_trans hm (by decide)))) rfl w1 rfl) ?_;exact iW (jQ (aq (az rfl k1)))
theorem Vs (hx:lk ae.names x=some .local) (hy:lk ae.names y=some .local) (e:sE x y=false) (hp:Nat.beq p2.line p1.line=true) (hq:ae.quiet=true) (h1:load C ae c s=some v) (h2:load C ae d s=some w) (h3:store C ae y w s=some s1) (h4:store C ae x v s1=some s2):cG C (run C n) (.Assign [.Tuple [.Name x p1,.Name y p2] k1 p3] (.Tuple [.Name c p4,.Name d p5] k2 p6) p7) ae s=some (.next,s2):=by
 have lc:∀{z:Str},lk ae.names z=some .local→mY ae z=true:=fun h=>by unfold mY kind;rw [h]
 have q:vh C ae (x,p1) (y,p2) c d s=some s2:=by unfold vh;dsimp only;rw [lc hx,lc hy,e,hp,hq];exact aG h1 (aG h2 (aG h3 h4))
 show lO (vh C ae (x,p1) (y,p2) c d s)=_;rw [q];rfl
theorem Vt {A B:List Nat} {n:Nat} {lo:List (Str×AV)} (h1:lk lo (S "a")=some (.str (T A))) (h2:lk lo (S "b")=some (.str (T B))) (h3:lk lo (S "max_cost")=some (.int 20)) (hA:A.length=26) (hB:B.length=10):∃ s,(run (CQ 0) (n+71)).ex (bg.body.drop 9) (bh bg) ⟨lo,[]⟩=some (.ret (.int 21),s):=by
 have eA:A.isEmpty= !true:=by cases A with|nil=>cases hA|cons=>rfl
 have eB:B.isEmpty= !true:=by cases B with|nil=>cases hB|cons=>rfl
 have i1:bf 40 ((26:Nat):Int)=false:=rfl;have i2:bf 40 ((10:Nat):Int)=false:=rfl;have i3:bf ((10:Nat):Int) ((26:Nat):Int)=true:=rfl;have sm:∀ h,binop h .Mult (.int (((26:Nat):Int) - ((10:Nat):Int))) (.int 2)=some (.int 32,h):=fun h=>rfl;have i4:bf 20 32=true:=rfl;have i5:Nat.beq 35 35=true:=rfl;have h1:lk lo (Str.ofString "a")=some (.str (T A)):=h1;have h2:lk lo (Str.ofString "b")=some (.str (T B)):=h2;have h3:lk lo (Str.ofString "max_cost")=some (.int 20):=h3;have BP:=sm [];refine ⟨⟨put (put lo (Str.ofString "b") (.str (T A))) (Str.ofString "a") (.str (T B)),[]⟩,?_⟩;generalize hb:bg.body.drop 9=bd
 conv at hb=>lhs;whnf
 subst hb;refine bM (d8 (s1:=⟨lo,[]⟩) (by exact jO (nk (v7 (v5 (aq (az rfl h1)) (jT eA)) rfl) (nk (v7 (v5 (aq (az rfl h2)) (jT eB)) rfl) vY))) bY) ?_;refine bM (d8 (s1:=⟨lo,[]⟩) (by exact jO (nk (bF (bD rfl (cX (bR rfl rfl) rfl rfl (bq (aq (az rfl h1)) bJ) rfl (fH _ _) (i9 hA)) (aq (bR rfl rfl)) (Eq.trans (oz _ _ _) (congrArg some i1)))) (nk (bF (bD rfl (cX (bR rfl rfl) rfl rfl (bq (aq (az rfl h2)) bJ) rfl (fH _ _) (i9 hB)) (aq (bR rfl rfl)) (Eq.trans (oz _ _ _) (congrArg some i2)))) vY))) bY) ?_;refine bM (jR (s1:=⟨lo,[]⟩) (by exact bF (bD rfl (cX (bR rfl rfl) rfl rfl (bq (aq (az rfl h2)) bJ) rfl (fH _ _) (i9 hB)) (cX (bR rfl rfl) rfl rfl (bq (aq (az rfl h1)) bJ) rfl (fH _ _) (i9 hA)) (Eq.trans (vV _ _ _) (congrArg some i3)))) (bM (Vs rfl rfl rfl rfl rfl (v:=.str (T B)) (w:=.str (T A)) (by exact az rfl h2) (by exact az rfl h1) (cg rfl) (cg rfl)) bY)) ?_;exact iW (jR (s1:=⟨put (put lo (Str.ofString "b") (.str (T A))) (Str.ofString "a") (.str (T B)),[]⟩) (by exact bF (bD rfl (bV (bV (cX (bR rfl rfl) rfl rfl (bq (aq (az rfl (bT rfl b8))) bJ) rfl (fH _ _) (i9 hA)) (cX (bR rfl rfl) rfl rfl (bq (aq (az rfl b8)) bJ) rfl (fH _ _) (i9 hB)) (nh _ _ _)) (aq (bR rfl rfl)) BP) (aq (az rfl (bT rfl (bT rfl h3)))) (Eq.trans (oz _ _ _) (congrArg some i4)))) (iW (jQ (by exact bV (aq (az rfl (bT rfl (bT rfl h3)))) bx rfl))))
theorem Vu (R:Rec) (a b:Str) (m:Int):fE (CQ 0) R bg [.str a,.str b,.int m] []=out (R.ex bg.body (bh bg) ⟨[(S "a",.str a),(S "b",.str b),(S "max_cost",.int m)],[]++[]⟩):=rfl
theorem BQ (h:(run (CQ 0) FU).ex bg.body (bh bg) ⟨[(S "a",.str a),(S "b",.str b),(S "max_cost",.int 20)],[]⟩=some (.ret (.int d),s)):i7 a b 20=some (.val (.int d)):=by unfold i7 fQ;rw [Vu,List.append_nil,h];rfl
noncomputable def nI (A B:List Nat):Int:=if A=B then 0 else DD (cL (A2 A B) (B2 A B)) (A2 A B).length (A2 A B).length
theorem BR:∀{a b:List Nat},a.length=b.length→cS a b=a.length→a=b
 |[],[],_,_=>rfl
 |x::a,y::b,h,q=>by
  unfold cS at q;cases e:Nat.beq x y with
  |true=>
   rw [e] at q;simp only [List.length_cons] at q h;have ih:=BR (a:=a) (b:=b) (by lia) (by lia);rw [Nat.eq_of_beq_eq_true e,ih]
  |false=>rw [e] at q;simp at q
theorem xP:∀(a b:List Nat),a.take (cS a b)=b.take (cS a b)
 |[],_=>by unfold cS;simp
 |_::_,[]=>by unfold cS;simp
 |x::a,y::b=>by
  unfold cS;cases e:Nat.beq x y with
  |true=>simp only [List.take_succ_cons];rw [Nat.eq_of_beq_eq_true e,xP a b]
  |false=>rfl
theorem IT (hL:A.length=B.length):(A2 A B).length=(B2 A B).length:=by unfold A2 B2 A1 B1;simp only [List.length_take,List.length_drop,hL]
theorem Vv (hL:A.length=B.length) (hne:A≠B):0< (A2 A B).length:=by
 refine aN (tW A B) fun p1 p2=>?_;refine aN (tW (A1 A B).reverse (B1 A B).reverse) fun q1 q2=>?_;have h1:cS A B<A.length:=by apply Nat.lt_of_le_of_ne p1;intro e;exact hne (BR hL e)
 have e1:(A1 A B).length=A.length- cS A B:=by unfold A1;rw [List.length_drop]
 have e2:(B1 A B).length=B.length- cS A B:=by unfold B1;rw [List.length_drop]
 have h2:qq A B< (A1 A B).length:=by unfold qq;rw [List.length_reverse] at q1;apply Nat.lt_of_le_of_ne q1;intro e;have:=BR (by rw [List.length_reverse,List.length_reverse,e1,e2,hL]) (e.trans (by rw [List.length_reverse]));have:=List.reverse_inj.mp this;apply hne;have ta:=List.take_append_drop (cS A B) A;have tb:=List.take_append_drop (cS A B) B;have td:A.drop (cS A B)=B.drop (cS A B):=this;have tt:=xP A B;generalize cS A B=p at td tt ta tb;rw [tt,td] at ta;exact ta.symm.trans tb
 unfold A2;rw [List.length_take];omega
theorem IU (h:x∈A2 A B):x∈A:=List.mem_of_mem_drop (List.mem_of_mem_take h)
theorem IV (h:x∈B2 A B):x∈B:=List.mem_of_mem_drop (List.mem_of_mem_take h)
theorem Vw (hA:A.length=10) (hB:B.length=10) (oO:∀ x∈A,iF (T [x])) (oR:∀ x∈B,iF (T [x])):i7 (T A) (T B) 20=some (.val (.int (nI A B))):=by
 by_cases e:A=B
 ·subst e;unfold nI;rw [if_pos rfl];refine BQ (s:=⟨[(S "a",.str (T A)),(S "b",.str (T A)),(S "max_cost",.int 20)],[]⟩) ?_;generalize hb:bg.body=bd
  conv at hb=>lhs;whnf
  subst hb;have e0:sE (T A) (T A)=true:=by rw [IM];exact decide_eq_true rfl
  have fa:lk [(S "a",AV.str (T A)),(S "b",AV.str (T A)),(S "max_cost",AV.int 20)] (Str.ofString "a")=some (.str (T A)):=rfl;have fb:lk [(S "a",AV.str (T A)),(S "b",AV.str (T A)),(S "max_cost",AV.int 20)] (Str.ofString "b")=some (.str (T A)):=rfl;exact iW (n:=79) (jR (by exact bF (bD rfl (aq (az rfl fa)) (aq (az rfl fb)) (Eq.trans (nj _ _ _) (congrArg some e0)))) (iW (jQ bx)))
 ·have hL:A.length=B.length:=hA.trans hB.symm;refine uJ (IP (n:=0) e (by lia) (.int 20)) fun lo w1 k1 k2 k3=>?_;have hm:(A2 A B).length≤10:=by unfold A2 A1;rw [List.length_take,List.length_drop];omega
  refine aJ (Vp (n:=0) k1 k2 k3 rfl (IT hL).symm (Vv hL e) hm (fun x h=>oO x (IU h)) (fun x h=>oR x (IV h))) fun s w2=>?_;unfold nI;rw [if_neg e];exact BQ (w1.trans w2)
theorem Vx {A B:List Nat} (hA:A.length=26) (hB:B.length=10) (h1:cS A B=0) (h2:cS A.reverse B.reverse=0):i7 (T A) (T B) 20=some (.val (.int 21)):=by
 have e:A≠B:=fun q=>by rw [q,hB] at hA;cases hA
 refine uJ (IP (n:=0) e (by lia) (.int 20)) fun lo w1 k1 k2 k3=>?_;have a1:A1 A B=A:=by unfold A1;rw [h1];rfl
 have b1:B1 A B=B:=by unfold B1;rw [h1];rfl
 have q0:qq A B=0:=by unfold qq;rw [a1,b1,h2]
 have a2:A2 A B=A:=by unfold A2;rw [q0,a1];exact List.take_length
 have b2:B2 A B=B:=by unfold B2;rw [q0,b1];exact List.take_length
 rw [a2] at k1;rw [b2] at k2;refine aJ (Vt (n:=0) k1 k2 k3 hA hB) fun s w2=>?_;exact BQ (w1.trans w2)
noncomputable def al (x:Nat):Prop:=x=45∨x=114∨x=119∨x=120
noncomputable def mi (x:Nat):Int:=if x=45 then 1 else 0
theorem xQ (x:Nat):0≤mi x∧mi x≤1:=by unfold mi;split <;>decide
theorem Vy (hx:al x) (hy:al y):IG x y=if x=y then 0 else 2:=by rcases hx with rfl|rfl|rfl|rfl <;>rcases hy with rfl|rfl|rfl|rfl <;>rfl
theorem IW (hx:al x):iF (T [x]):=by rcases hx with rfl|rfl|rfl|rfl <;>exact ⟨rfl,rfl⟩
noncomputable def Sm (f:Nat→Int):Nat→Int
 |0=>0
 |n+1=>Sm f n+f n
theorem xR (hf:∀ j,0≤f j∧f j≤1):∀ n:Nat,0≤Sm f n∧Sm f n≤n
 |0=>by unfold Sm;decide
 |n+1=>by
  have:=xR hf n;have:=hf n;unfold Sm;lia
theorem IX (h1:a≤b) (h2:a≤c):a≤eG b c:=by
 rcases U5 b c with h|h <;>rw [h]
 ·exact h1
 ·exact h2
theorem Vz {a b c d x y:Int} (h:2*(a- c)≤x) (k:2*(b- d)≤y):2*(a+b- (c+d))≤x+y:=by lia
theorem VA {a b c x:Int} (h:2*(a- c)≤x) (k:b≤1):2*(a+b- c) - 2≤x:=by lia
theorem VB {a c d x:Int} (h:2*(a- c)≤x) (k:0≤d):2*(a- (c+d)) - 2≤x:=by lia
theorem VC {a x:Int} (h:a≤x):2*(a- 0)≤2*x:=by lia
theorem IY {a x:Int} (h:0≤a) (k:0≤x):2*(0- a)≤x*2:=by lia
theorem VD (hf:∀ j,0≤f j∧f j≤1) (hg:∀ i,0≤g i∧g i≤1) (hc:∀ i j,i<m→j<m→2*(f j- g i)≤c i j) (i:Nat):i≤m→∀ j,j≤m→2*(Sm f j- Sm g i)≤DD c i j:=by
 induction i with
 |zero=>exact fun _ j _=>VC (xR hf j).2
 |succ i ih=>
  intro hi j;induction j with
  |zero=>exact fun _=>IY (xR hg (i+1)).1 (Int.natCast_nonneg i)
  |succ j jh=>
   intro hj;have r3:2*(Sm f j- Sm g i)≤dst i (DD c i) j:=by
    cases j with
    |zero=>exact IY (xR hg i).1 (Int.natCast_nonneg i)
    |succ j=>exact ih (Nat.le_of_succ_le hi) (j+1) (Nat.le_of_succ_le hj)
   exact IX (Int.le_add_of_sub_right_le (IX (VA (jh (Nat.le_of_succ_le hj)) (hf j).2) (VB (ih (Nat.le_of_succ_le hi) (j+1) hj) (hg i).1))) (Vz r3 (hc i j hi hj))
theorem IZ (hc:∀ i,i<m→c i i=2*(f i- g i)):∀ i,i≤m→DD c i i≤2*(Sm f i- Sm g i)
 |0,_=>by show 2*((0:Nat):Int)≤2*(0- 0);(exact Int.natCast_nonneg _)
 |i+1,hi=>by
  have h1:=II c i;have h2:=IZ hc i (by (exact Nat.le_of_succ_le hi));have h3:=hc i (by assumption);have e1:Sm f (i+1)=Sm f i+f i:=rfl;have e2:Sm g (i+1)=Sm g i+g i:=rfl;lia
noncomputable def cm:List Nat→Int
 |[]=>0
 |x::r=>mi x+cm r
theorem oW:∀ a b:List Nat,cm (a++b)=cm a+cm b
 |[],b=>by simp [cm]
 |x::a,b=>by
  show mi x+cm (a++b)=mi x+cm a+cm b;rw [oW a b];lia
theorem BS:∀ a:List Nat,cm a.reverse=cm a
 |[]=>rfl
 |x::a=>by
  rw [List.reverse_cons,oW,BS a];show cm a+(mi x+0)=mi x+cm a;lia
theorem I0 (A:List Nat):∀ n,n≤A.length→Sm (fun j=>mi (A.getD j 0)) n=cm (A.take n)
 |0,_=>by simp [Sm,cm]
 |n+1,h=>by
  have e:A.take (n+1)=A.take n++[A.getD n 0]:=by rw [List.take_succ,List.getD_eq_getElem?_getD,List.getElem?_eq_getElem (by assumption)];rfl
  rw [e,oW,← I0 A n (by (exact Nat.le_of_succ_le h))];show Sm (fun j=>mi (A.getD j 0)) n+mi (A.getD n 0)=_+(mi (A.getD n 0)+0);lia
theorem I1 (A:List Nat):Sm (fun j=>mi (A.getD j 0)) A.length=cm A:=by rw [I0 A _ (Nat.le_refl _),List.take_length]
noncomputable def BU (A B:List Nat):Prop:=∀(i x y:Nat),A[i]?=some x→B[i]?=some y→x=y∨x=45
theorem VE (hA:A.length=m) (hB:B.length=m) (aA:∀ x∈A,al x) (aB:∀ x∈B,al x) (hN:BU A B):DD (cL A B) m m=2*(cm A- cm B):=by
 have at':∀{A:List Nat} {i:Nat},i<A.length→A[i]?=some (A.getD i 0):=fun {A i} h=>by rw [List.getD_eq_getElem?_getD,List.getElem?_eq_getElem h];rfl
 have cE:∀ i j,i<m→j<m→cL A B i j=if B.getD i 0=A.getD j 0 then 0 else 2:=fun i j hi hj=>Vy (aB _ (List.mem_of_getElem? (at' (by (exact hB▸hi))))) (aA _ (List.mem_of_getElem? (at' (by (exact hA▸hj)))))
 have h1:=VD (c:=cL A B) (f:=fun j=>mi (A.getD j 0)) (g:=fun j=>mi (B.getD j 0)) (m:=m) (fun j=>xQ _) (fun j=>xQ _) (fun i j hi hj=>by
  rw [cE i j hi hj];have:=xQ (A.getD j 0);have:=xQ (B.getD i 0);split
  ·rename_i e;simp only [e];lia
  ·show 2*(mi (A.getD j 0) - mi (B.getD i 0))≤2;lia) m (Nat.le_refl _) m (Nat.le_refl _)
 have h2:=IZ (c:=cL A B) (f:=fun j=>mi (A.getD j 0)) (g:=fun j=>mi (B.getD j 0)) (m:=m) (fun i hi=>by
  rw [cE i i hi hi];rcases hN i _ _ (at' (by (exact hA▸hi))) (at' (by (exact hB▸hi))) with e|e
  ·rw [if_pos e.symm];simp only [e];lia
  ·by_cases q:B.getD i 0=A.getD i 0
   ·rw [if_pos q];simp only [q];lia
   ·rw [if_neg q];show 2=2*(mi (A.getD i 0) - mi (B.getD i 0));rw [e] at q ⊢;unfold mi;rw [if_pos rfl,if_neg q];rfl) m (Nat.le_refl _)
 have s1:=I1 A;have s2:=I1 B;rw [hA] at s1;rw [hB] at s2;rw [s1,s2] at h1 h2;lia
theorem VF (hL:A.length=B.length):cm A- cm B=cm (A2 A B) - cm (B2 A B):=by
 have a1:cm A=cm (A.take (cS A B))+cm (A1 A B):=by rw [← oW];unfold A1;rw [List.take_append_drop]
 have b1:cm B=cm (B.take (cS A B))+cm (B1 A B):=by rw [← oW];unfold B1;rw [List.take_append_drop]
 have e1:=xP A B;have a2:cm (A1 A B)=cm (A2 A B)+cm ((A1 A B).reverse.take (qq A B)):=by rw [List.take_reverse,BS,← oW];unfold A2;rw [List.take_append_drop]
 have b2:cm (B1 A B)=cm (B2 A B)+cm ((B1 A B).reverse.take (qq A B)):=by rw [List.take_reverse,BS,← oW];unfold B2;rw [List.take_append_drop]
 have e2:(A1 A B).reverse.take (qq A B)=(B1 A B).reverse.take (qq A B):=xP _ _;rw [e1] at a1;rw [e2] at a2;lia
theorem VG (hL:A.length=B.length) (aA:∀ x∈A,al x) (aB:∀ x∈B,al x) (hN:BU A B):nI A B=2*(cm A- cm B):=by
 unfold nI;split
 ·rename_i e;rw [e];lia
 ·rw [VF hL];refine VE rfl (IT hL).symm (fun x h=>aA x (IU h)) (fun x h=>aB x (IV h)) ?_;intro i x y hx hy;unfold A2 A1 at hx;unfold B2 B1 at hy;rw [List.getElem?_take] at hx hy;split at hx
  ·split at hy
   ·rw [List.getElem?_drop] at hx hy;exact hN _ x y hx hy
   ·cases hy
  ·cases hx
noncomputable def HP (p:List AV):AH:=b5++[.list p]
theorem BV (p:List AV):(HP p)[33]?=some (.list p):=rfl
theorem oX (p:List AV) (h:k<33):(HP p)[k]?=b5[k]?:=List.getElem?_append_left h
theorem VH (p q:List AV):(HP p).set 33 (.list q)=HP q:=rfl
theorem VI (p:List AV):kJ CT (HP p) (Str.ofString "append") (.loc 33)=none:=rfl
theorem VJ (p:List AV):mU (HP p) (Str.ofString "append") (.loc 33)=some .append:=rfl
theorem VK (x:AV) (h:p.length≤50):j6 CT (HP p) .append (.loc 33) [x]=some (.none,HP (p++[x])):=by
 show (match (HP p)[33]? with
  |some (.list vs)=>match lim (vs.length+1) with
   |true=>match bL (HP p) CT.ro 33 (.list (vs++[x])) with
    |some h'=>some (AV.none,h')
    |none=>none
   |false=>none
  |_=>none)=_
 rw [BV];have e:lim (p.length+1)=true:=Nat.ble_eq_true_of_le (by (exact Nat.lt_of_le_of_lt h (by decide)));have e2:bL (HP p) CT.ro 33 (.list (p++[x]))=some (HP (p++[x])):=by unfold bL;rw [show Nat.ble CT.ro 33=true from rfl,BV,VH]
 simp only [e,e2]
theorem I2:jo CT (.fix (.ref 170))=true:=rfl
theorem VL (R:Rec) (a:Int) (h:AH):fE CT R gg [.int a] h=out (R.ex gg.body (bh gg) ⟨[(S "mode",.int a)],h++[]⟩):=rfl
theorem VM (n:Nat) (a:Int) (h:AH):fE CT (run CT (n+8)) gg [.int a] h=some (.int (Builtin.bitAnd a 61440),h):=by
 rw [VL,List.append_nil];have e:(run CT (n+8)).ex gg.body (bh gg) ⟨[(S "mode",.int a)],h⟩=some (.ret (.int (Builtin.bitAnd a 61440)),⟨[(S "mode",.int a)],h⟩):=by
  generalize hq:gg.body=q
  conv at hq=>lhs;whnf
  subst hq;exact iW (jQ (bV (aq (az rfl rfl)) bx (qu _ _ _)))
 rw [e];rfl
theorem VN (n:Nat) (a:Int) (h:AH):(run CT (n+9)).ca (.fix (.ref 170)) [.int a] h=some (.int (Builtin.bitAnd a 61440),h):=by refine vU (dH (zE _) (dG (a:=gg) rfl ?_));exact VM n a h
noncomputable def I3 (idx:Nat) (i b:Int):Bool:=match idx with
 |0=>iE (Builtin.bitAnd i 61440) b
 |_+1=>iE (Builtin.bitAnd i b) b
noncomputable def pick (idx:Nat) (i:Int):List (Int×String)→Str
 |[]=>match idx with|0=>S "?" |_+1=>S "-"
 |(b,c)::r=>match I3 idx i b with|true=>S c|false=>pick idx i r
noncomputable def I4 (o:Option AO) (q:Int×String):Bool:=cz (dY o) fun vs=>cz (two vs) fun z=>cz (dP z.1) fun b'=>cz (iO z.2) fun c'=>iE q.1 b'&&sE (S q.2) c'
noncomputable def tX:List AV→List (Int×String)→Bool
 |[],ps=>ps.isEmpty
 |w::ws,ps=>match ps with
  |[]=>false
  |q::ps=>cz (cT w) fun a=>Nat.blt a 33&&I4 b5[a]? q&&tX ws ps
noncomputable def jA:Stmt:=aY (bX (aY fMode.body 1)) 0
noncomputable def I5:Stmt→List Stmt
 | .For _ _ _ o _=>o
 |_=>[]
theorem BW:iE ((0:Nat):Int) 0=true:=rfl
theorem BX (k:Nat):iE ((k+1:Nat):Int) 0=false:=rfl
theorem VO:lim (Str.ofString "?").cps.size=true:=rfl
theorem VP:lim (Str.ofString "-").cps.size=true:=rfl
theorem VQ {lo:List (Str×AV)} {p:List AV} {a:Nat} {b:Int} {c:Str} (ha:a<33) (h:b5[a]?=some (.tup [.int b,.str c])):fC CT (bh fMode) (fG jA) [.loc a] ⟨lo,HP p⟩=some ⟨put (put lo (S "bit") (.int b)) (S "char") (.str c),HP p⟩:=by
 have hn:fMode.names=fMode.names:=rfl
 conv at hn=>rhs;whnf
 generalize hb:fG jA=bd
 conv at hb=>lhs;whnf
 subst hb;have h:=(oX p ha).trans h;exact zd h rfl
theorem xS {n:Nat} {x:PySem.Expr} {v:AV} {lo:List (Str×AV)} {p:List AV} {q1 q2 q3:Pos} (hq:(rW (.Name (Str.ofString "perm") q1)|| !Nat.beq q2.endLine q3.line|| !Nat.blt [x].length 30)=false) (hn:noStar [x]=true) (hx:(run CT n).ev x (bh fMode) ⟨lo,HP p⟩=some (v,⟨lo,HP p⟩)) (hp:p.length≤50) (h2:(run CT n).ev (.Name (Str.ofString "perm") q1) (bh fMode) ⟨lo,HP p⟩=some (.loc 33,⟨lo,HP p⟩)):(run CT (n+1)).ev (.Call (.Attribute (.Name (Str.ofString "perm") q1) (Str.ofString "append") q2) [x] [] q3) (bh fMode) ⟨lo,HP p⟩=some (.none,⟨lo,HP (p++[v])⟩):=nu hq h2 (VI p) (VJ p) hn (bq hx bJ) (VK v hp)
theorem VS {i:Int} {idx l:Nat} {whole:List AV} (hl:l<33) (hw:b5[l]?=some (.tup whole)):∀(ps:List (Int×String)) (ws:List AV) (t n:Nat) (lo:List (Str×AV)) (p:List AV),p.length≤50→whole.drop t=ws→tX ws ps=true→lk lo (S "mode")=some (.int i)→lk lo (S "perm")=some (.loc 33)→lk lo (S "index")=some (.int (idx:Nat))→∃ lo',(run CT (n+ps.length+25)).fo (fG jA) (.fh l t) (bX jA) (I5 jA) (bh fMode) ⟨lo,HP p⟩=some (.next,⟨lo',HP (p++[.str (pick idx i ps)])⟩)∧lk lo' (S "mode")=some (.int i)∧lk lo' (S "perm")=some (.loc 33):=by
 intro ps;induction ps with
 |nil=>
  intro ws t n lo p hp hd hc h1 h2 h3;have:ws=[]:=by cases ws with|nil=>rfl|cons w ws=>cases hc
  subst this;have ht:whole[t]?=none:=by rw [← Nat.add_zero t,← List.getElem?_drop,hd];rfl
  refine ⟨lo,?_,h1,h2⟩;have h2:lk lo (Str.ofString "perm")=some (.loc 33):=h2;have h3:lk lo (Str.ofString "index")=some (.int (idx:Nat)):=h3;rw [List.length_nil,Nat.add_zero];refine zK (LC ((oX p hl).trans hw) ht) ?_;generalize ho:I5 jA=od
  conv at ho=>lhs;whnf
  subst ho;cases idx with
  |zero=>
   have i0:=BW;exact bM (jR (s1:=⟨lo,HP p⟩) (by exact bF (bD rfl (aq (az rfl h3)) bx (Eq.trans (iV _ _ _) (congrArg some i0)))) (bM (x_call (xS rfl rfl (jN VO) hp (by exact aq (az rfl h2)))) bY)) bY
  |succ k=>
   have i0:=BX k;exact bM (d8 (s1:=⟨lo,HP p⟩) (by exact bF (bD rfl (aq (az rfl h3)) bx (Eq.trans (iV _ _ _) (congrArg some i0)))) (bM (x_call (xS rfl rfl (jN VP) hp (by exact aq (az rfl h2)))) bY)) bY
 |cons q ps ih=>
  intro ws t n lo p hp hd hc h1 h2 h3;obtain ⟨b,c⟩:=q;rcases ws with _|⟨w,ws'⟩
  ·exact Bool.noConfusion hc
  refine cR (o:=cT w) (f:=fun a=>Nat.blt a 33&&I4 b5[a]? (b,c)&&tX ws' ps) hc fun a hwl hc=>?_;rw [lQ hwl] at hd;refine aN ((Bool.and_eq_true ..).mp hc) fun q1 c3=>aN ((Bool.and_eq_true ..).mp q1) fun c1 c2=>?_;have ha:a<33:=Nat.le_of_ble_eq_true c1;have VT:b5[a]?=some (.tup [.int b,.str (S c)]):=cR c2 fun vs hv c2=>cR c2 fun z hz c2=>cR c2 fun b' hb c2=>cR c2 fun c' hc' c2=>aN ((Bool.and_eq_true ..).mp c2) fun e1 e2=>by rw [m6 hv,two_eq hz,m5 hb,pY hc',(dI.mp e1:b=b'),(dm.mp e2:S c=c')]
  have ht:whole[t]?=some (.loc a):=by rw [← Nat.add_zero t,← List.getElem?_drop,hd];rfl
  have hd':whole.drop (t+1)=ws':=by rw [← List.drop_drop,hd];rfl
  have tg:=VQ (lo:=lo) (p:=p) ha VT;have e1:next (St.mk lo (HP p)).hp (.fh l t)=some (some ([.loc a],.fh l (t+1))):=LD ((oX p hl).trans hw) ht
  have qz {z:Str} {v:AV} (e1:sE z (Str.ofString "bit")=false) (e2:sE z (Str.ofString "char")=false) (k:lk lo z=some v):lk (put (put lo (Str.ofString "bit") (.int b)) (Str.ofString "char") (.str (S c))) z=some v:=bT e2 (bT e1 k);have g1:lk (put (put lo (Str.ofString "bit") (.int b)) (Str.ofString "char") (.str (S c))) (Str.ofString "mode")=some (.int i):=qz rfl rfl h1;have g2:lk (put (put lo (Str.ofString "bit") (.int b)) (Str.ofString "char") (.str (S c))) (Str.ofString "perm")=some (.loc 33):=qz rfl rfl h2;have g3:lk (put (put lo (Str.ofString "bit") (.int b)) (Str.ofString "char") (.str (S c))) (Str.ofString "index")=some (.int (idx:Nat)):=qz rfl rfl h3;have g4:lk (put (put lo (Str.ofString "bit") (.int b)) (Str.ofString "char") (.str (S c))) (Str.ofString "bit")=some (.int b):=bT rfl b8;have g5:lk (put (put lo (Str.ofString "bit") (.int b)) (Str.ofString "char") (.str (S c))) (Str.ofString "char")=some (.str (S c)):=b8;generalize hL:put (put lo (Str.ofString "bit") (.int b)) (Str.ofString "char") (.str (S c))=L at g1 g2 g3 g4 g5;have tg:fC CT (bh fMode) (fG jA) [.loc a] ⟨lo,HP p⟩=some ⟨L,HP p⟩:=by rw [← hL];exact tg
  have ca:=fun n=>VN n i (HP p);cases jc:I3 idx i b with
  |true=>
   refine ⟨L,?_,g1,g2⟩;rw [show pick idx i ((b,c)::ps)=S c by rw [pick,jc]];refine ML (n:=n+ps.length+25) e1 tg ?_;generalize hb:bX jA=bd
   conv at hb=>lhs;whnf
   subst hb;cases idx with
   |zero=>
    have jc:iE (Builtin.bitAnd i 61440) b=true:=jc;have i0:=BW;exact qx (jR (s1:=⟨L,HP p⟩) (by exact bF (bD rfl (aq (az rfl g3)) bx (Eq.trans (iV _ _ _) (congrArg some i0)))) (qx (jR (s1:=⟨L,HP p⟩) (bF (bD rfl (cX (bR rfl rfl) rfl rfl (by exact bq (aq (az rfl g1)) bJ) rfl I2 (ca _)) (by exact aq (az rfl g4)) (by exact Eq.trans (iV _ _ _) (congrArg some jc)))) (bM (x_call (xS rfl rfl (by exact aq (az rfl g5)) hp (by exact aq (az rfl g2)))) (qx E6)))))
   |succ k=>
    have jc:iE (Builtin.bitAnd i b) b=true:=jc;have i0:=BX k;exact qx (d8 (s1:=⟨L,HP p⟩) (by exact bF (bD rfl (aq (az rfl g3)) bx (Eq.trans (iV _ _ _) (congrArg some i0)))) (qx (jR (s1:=⟨L,HP p⟩) (by exact bF (bD rfl (bV (aq (az rfl g1)) (aq (az rfl g4)) (qu _ _ _)) (aq (az rfl g4)) (Eq.trans (iV _ _ _) (congrArg some jc)))) (bM (x_call (xS rfl rfl (by exact aq (az rfl g5)) hp (by exact aq (az rfl g2)))) (qx E6)))))
  |false=>
   refine aZ (ih ws' (t+1) n L p hp hd' c3 g1 g2 g3) fun lo' w k1 k2=>?_;refine ⟨lo',?_,k1,k2⟩;rw [show pick idx i ((b,c)::ps)=pick idx i ps by rw [pick,jc]];refine sJ (n:=n+ps.length+25) (s2:=⟨L,HP p⟩) e1 tg ?_ w;generalize hb:bX jA=bd
   conv at hb=>lhs;whnf
   subst hb;cases idx with
   |zero=>
    have jc:iE (Builtin.bitAnd i 61440) b=false:=jc;have i0:=BW;exact bM (jR (s1:=⟨L,HP p⟩) (by exact bF (bD rfl (aq (az rfl g3)) bx (Eq.trans (iV _ _ _) (congrArg some i0)))) (bM (d8 (s1:=⟨L,HP p⟩) (bF (bD rfl (cX (bR rfl rfl) rfl rfl (by exact bq (aq (az rfl g1)) bJ) rfl I2 (ca _)) (by exact aq (az rfl g4)) (by exact Eq.trans (iV _ _ _) (congrArg some jc)))) bY) bY)) bY
   |succ k=>
    have jc:iE (Builtin.bitAnd i b) b=false:=jc;have i0:=BX k;exact bM (d8 (s1:=⟨L,HP p⟩) (by exact bF (bD rfl (aq (az rfl g3)) bx (Eq.trans (iV _ _ _) (congrArg some i0)))) (bM (d8 (s1:=⟨L,HP p⟩) (by exact bF (bD rfl (bV (aq (az rfl g1)) (aq (az rfl g4)) (qu _ _ _)) (aq (az rfl g4)) (Eq.trans (iV _ _ _) (congrArg some jc)))) bY) bY)) bY
noncomputable def picks (i:Int):Nat→Nat→List AV
 |_,0=>[]
 |k,r+1=>.str (pick k i (gS.getD k []))::picks i (k+1) r
noncomputable def letter (b:Nat):Nat:=[120,119,114].getD (b%3) 0
noncomputable def ez (m:Nat):List Nat:=45::[8,7,6,5,4,3,2,1,0].map fun b=>match m.testBit b with|true=>letter b|false=>45
noncomputable def I6 (m:Nat):Bool:=match strsOf (picks ((32768+m:Nat):Int) 0 10) with
 |some l=>lim (lG l+l.length*(S "").cps.size)&&lim (Txt.join (S "") l).cps.size&&sE (Txt.join (S "") l) (T (ez m))
 |none=>false
set_option maxHeartbeats 0 in
theorem VU:((List.range 512).all I6)=true:=by kernel_rfl
noncomputable def VV (k:Nat):Bool:=cz (dY b5[1+k]?) fun ws=>tX ws (gS.getD k [])&&Nat.ble (gS.getD k []).length 7
theorem I7:((List.range 10).all VV)=true:=rfl
noncomputable def oY:Stmt:=aY fMode.body 1
theorem BY:b5[0]?=some (.tup ((List.range 10).map fun i=>.loc (1+i))):=rfl
theorem VW (h:k<10):next (HP p) (.enum 0 k)=some (some ([.int (k:Nat),.loc (1+k)],.enum 0 (k+1))):=LG ((oX p (by decide)).trans BY) (by simp only [List.getElem?_map,List.getElem?_range h,Option.map_some])
theorem VX:next (HP p) (.enum 0 10)=some none:=LF ((oX p (by decide)).trans BY) rfl
theorem VY {lo:List (Str×AV)} {p:List AV} {k n:Nat} (h1:lk lo (S "table")=some (.loc (1+k))) (hk:k<10):iter CT (run CT (n+1)) (bh fMode) (eO jA) ⟨lo,HP p⟩=some (.fh (1+k) 0,⟨lo,HP p⟩):=by
 have hn:fMode.names=fMode.names:=rfl
 conv at hn=>rhs;whnf
 have hc:=List.all_eq_true.mp I7 k (List.mem_range.mpr hk);refine cR hc fun ws e _=>?_;have e2:=(oX p (show 1+k<33 by lia)).trans (m6 e);generalize hb:eO jA=bd
 conv at hb=>lhs;whnf
 subst hb;exact DZ rfl rfl rfl rfl (aq (az rfl h1)) e2
theorem VZ {i:Int} {k n:Nat} {lo:List (Str×AV)} {p:List AV} (hk:k<10) (hp:p.length≤50) (h1:lk lo (S "mode")=some (.int i)) (h2:lk lo (S "perm")=some (.loc 33)) (h3:lk lo (S "index")=some (.int (k:Nat))) (h4:lk lo (S "table")=some (.loc (1+k))):∃ lo',(run CT (n+40)).ex (bX oY) (bh fMode) ⟨lo,HP p⟩=some (.next,⟨lo',HP (p++[.str (pick k i (gS.getD k []))])⟩)∧lk lo' (S "mode")=some (.int i)∧lk lo' (S "perm")=some (.loc 33):=by
 have hc:=List.all_eq_true.mp I7 k (List.mem_range.mpr hk);refine cR hc fun ws e hc=>?_;have e:=m6 e;have hc:(tX ws (gS.getD k [])&&Nat.ble (gS.getD k []).length 7)=true:=hc;rw [Bool.and_eq_true] at hc;have hl:(gS.getD k []).length≤7:=Nat.le_of_ble_eq_true hc.2;refine aZ (VS (i:=i) (idx:=k) (show 1+k<33 by lia) e (gS.getD k []) ws 0 (n+14- (gS.getD k []).length) lo p hp rfl hc.1 h1 h2 h3) fun lo' w k1 k2=>?_;rw [show n+14- (gS.getD k []).length+(gS.getD k []).length+25=n+39 by lia] at w;have hi:=VY (n:=n+38) (p:=p) h4 hk;refine ⟨lo',?_,k1,k2⟩;have e1:cG CT (run CT (n+39)) jA (bh fMode) ⟨lo,HP p⟩=some (.next,⟨lo',HP (p++[.str (pick k i (gS.getD k []))])⟩):=by
  generalize hb:jA=bd at hi w
  conv at hb=>lhs;whnf
  subst hb;have hi:iter CT (run CT (n+39)) (bh fMode) (eO _) ⟨lo,HP p⟩=_:=hi;exact oA (Mz _) hi rfl w rfl
 exact eW e1
theorem V0 {i:Int}:∀(r k n:Nat) (lo:List (Str×AV)) (p:List AV),k+r=10→p.length≤k→lk lo (S "mode")=some (.int i)→lk lo (S "perm")=some (.loc 33)→∃ lo',(run CT (n+r+41)).fo (fG oY) (.enum 0 k) (bX oY) [] (bh fMode) ⟨lo,HP p⟩=some (.next,⟨lo',HP (p++picks i k r)⟩)∧lk lo' (S "perm")=some (.loc 33):=by
 intro r;induction r with
 |zero=>
  intro k n lo p hk hp h1 h2;have:k=10:=by omega
  subst this;refine ⟨lo,?_,h2⟩;rw [show picks i 10 0=[] from rfl,List.append_nil];exact zK VX bY
 |succ r ih=>
  intro k n lo p hk hp h1 h2;have hk':k<10:=by lia
  refine aZ (VZ (i:=i) (n:=n+r+1) (lo:=put (put lo (S "index") (.int (k:Nat))) (S "table") (.loc (1+k))) (p:=p) hk' (by lia) (by rw [aL,aL];exact h1) (by rw [aL,aL];exact h2) (by rw [aL,aL];rfl) (by rw [aL];rfl)) fun l1 w1 q1 q2=>?_;refine aC (ih (k+1) n l1 (p++[.str (pick k i (gS.getD k []))]) (by lia) (by rw [List.length_append];simp;omega) q1 q2) fun l2 w2 q3=>?_;refine ⟨l2,?_,q3⟩;rw [show picks i k (r+1)=[.str (pick k i (gS.getD k []))]++picks i (k+1) r from rfl,← List.append_assoc,← w2];rw [show n+(r+1)+41=(n+r+41)+1 by (exact Nat.add_assoc ..)];exact sJ (VW hk') (s1:=⟨put (put lo (S "index") (.int (k:Nat))) (S "table") (.loc (1+k)),HP p⟩) rfl (by rw [show n+r+41=n+r+1+40 by (exact Nat.add_assoc ..)];exact w1) rfl
theorem V1:jo CT (.fix (.ref 210))=true:=rfl
theorem V2 (R:Rec) (a:Int):fE CT R fMode [.int a] b5=out (R.ex fMode.body (bh fMode) ⟨[(S "mode",.int a)],b5⟩):=rfl
theorem V3 {lo:List (Str×AV)} {p:List AV} {n:Nat}:iter CT (run CT (n+1)) (bh fMode) (eO oY) ⟨lo,HP p⟩=some (.enum 0 0,⟨lo,HP p⟩):=by
 have hn:fMode.names=fMode.names:=rfl
 conv at hn=>rhs;whnf
 have e2:=(oX p (show 0<33 by (exact Nat.succ_pos _))).trans BY;generalize hb:eO oY=bd
 conv at hb=>lhs;whnf
 subst hb;exact LJ rfl rfl (aq (bR rfl rfl)) e2
theorem V4 {m:Nat} (hm:m<512) (n:Nat):∃ s,(run CT (n+60)).ex fMode.body (bh fMode) ⟨[(S "mode",.int ((32768+m:Nat):Int))],b5⟩=some (.ret (.str (T (ez m))),s):=by
 have hn:fMode.names=fMode.names:=rfl
 conv at hn=>rhs;whnf
 have hc:=List.all_eq_true.mp VU m (List.mem_range.mpr hm);unfold I6 at hc;cases e:strsOf (picks ((32768+m:Nat):Int) 0 10) with
 |none=>rw [e] at hc;cases hc
 |some l=>
  rw [e] at hc;have hc:(lim (lG l+l.length*(S "").cps.size)&&lim (Txt.join (S "") l).cps.size&&sE (Txt.join (S "") l) (T (ez m)))=true:=hc;rw [Bool.and_eq_true,dm] at hc;refine aN hc fun h1 h2=>?_;refine aC (V0 (i:=((32768+m:Nat):Int)) 10 0 (n+7) (put [(S "mode",.int ((32768+m:Nat):Int))] (S "perm") (.loc 33)) [] rfl (Nat.le_refl _) (by rw [aL];rfl) (by rw [aL];rfl)) fun lo' w k1=>?_;rw [List.nil_append] at w;have hi:=V3 (lo:=put [(S "mode",.int ((32768+m:Nat):Int))] (S "perm") (.loc 33)) (p:=[]) (n:=n+57);refine ⟨⟨lo',HP (picks ((32768+m:Nat):Int) 0 10)⟩,?_⟩;rw [show fMode.body=[aY fMode.body 0,oY,aY fMode.body 2] from rfl];refine (eW (n:=n+59) (s1:=⟨put [(S "mode",.int ((32768+m:Nat):Int))] (S "perm") (.loc 33),HP []⟩) ?_).trans ?_
  ·generalize hb:aY fMode.body 0=bd
   conv at hb=>lhs;whnf
   subst hb;rfl
  refine (eW (n:=n+58) (s1:=⟨lo',HP (picks ((32768+m:Nat):Int) 0 10)⟩) ?_).trans ?_
  ·generalize hb:oY=bd at hi w
   conv at hb=>lhs;whnf
   subst hb;exact oA rfl hi rfl w rfl
  refine v8 (n:=n+57) ?_;generalize hb:aY fMode.body 2=bd
  conv at hb=>lhs;whnf
  subst hb;simp only [S] at k1 h1 h2;have mj:j6 CT (HP (picks ((32768+m:Nat):Int) 0 10)) .join (.str (Str.ofString "")) [.loc 33]=some (.str (T (ez m)),HP (picks ((32768+m:Nat):Int) 0 10)):=(DY (sA (BV _)) e h1).trans (by rw [h2]);have l0:lim (Str.ofString "").cps.size=true:=rfl;exact jQ (nu rfl (jN l0) rfl (EZ _ _) rfl (bq (aq (az rfl k1)) bJ) mj)
theorem V5 (R:Rec) (a b c:AV):fE CT R fT [a,b,c] b5=out (R.ex fT.body (bh fT) ⟨[(S "value",a),(S "what",b),(S "func",c)],b5⟩):=rfl
theorem V6 (hm:m<512) (n:Nat):∃ h,(run CT (n+61)).ca (.fix (.ref 210)) [.int ((32768+m:Nat):Int)] b5=some (.str (T (ez m)),h):=by refine aJ (V4 hm n) fun s w=>?_;refine ⟨s.hp,?_⟩;refine vU (dH (zE _) (dG (a:=fMode) rfl ?_));rw [V2,w];rfl
theorem safe_eq (hm:m<512) (w:Str):tL ((32768+m:Nat):Int) w=some (.val (.str (T (ez m)))):=by
 have hn:fT.names=fT.names:=rfl
 conv at hn=>rhs;whnf
 refine aJ (V6 hm 17) fun h' e=>?_;have:fE CT (run CT FU) fT [.int ((32768+m:Nat):Int),.str w,.fix (.ref 210)] b5=some (.str (T (ez m)),h'):=by
  rw [V5];generalize hb:fT.body=bd
  conv at hb=>lhs;whnf
  subst hb;exact (congrArg out (iW (n:=79) (MM (cX (az rfl rfl) rfl rfl (bq (aq (az rfl rfl)) bJ) rfl V1 e)))).trans rfl
 unfold tL fQ;rw [this];rfl
noncomputable def turn (C:Cx) (R:Rec) (e:PySem.Expr) (d:Nat) (g:Comprehension) (vs:List AV) (a:Nat) (ae:au) (s:St):Option St:=ob (fC C ae g.target vs s) fun s=>aV (iP R ae g.ifs s) fun ok s=>Df C R e d a ae ok s
section
variable {C:Cx} {R:Rec} {e:PySem.Expr} {d a:Nat} {g:Comprehension} {it it':It} {vs:List AV} {ae:au} {s s1:St}
theorem BZ (hg:(clauses e)[d]?=some g) (ha:iE g.is_async 0=true) (h:next s.hp it=some none):pL C R e d it a ae s=some s:=aG hg (by rw [ha];exact aG h (dH rfl rfl))
theorem B3 (hg:(clauses e)[d]?=some g) (ha:iE g.is_async 0=true) (h:next s.hp it=some (some (vs,it'))) (k:turn C R e d g vs a ae s=some s1):pL C R e d it a ae s=R.co e d it' a ae s1:=ah k fun s2 h2 k=>aQ k fun ok s3 h3 k=>aG hg (by rw [ha];exact aG h (dG (a:=(vs,it')) rfl (aG h2 (bG h3 (aG k rfl)))))
theorem I8 (hc:clauses e=g::gens) (hq:(ae.quiet&&iE g.is_async 0&&pJ sc)=true) (hi:iter C R ae g.iter s=some (it,s1)) (hp:pK it=true) (hcl:mV ae sc.names []=some cl) (h:R.co e 0 it s1.hp.length (compEnv ae sc.names cl s1.hp.length) (uW sc.names acc s1.hp)=some s2):comp C R e (clauses e) sc acc ae s=some (.loc s1.hp.length,⟨s1.lo,s2.hp⟩):=by
 have z:De it=true∧freeze it s1.hp=some s1.hp∧∀ h,kL it h=some h:=by
  induction it with
  |range=>exact ⟨rfl,rfl,fun _=>rfl⟩
  |lst=>exact ⟨rfl,rfl,fun _=>rfl⟩
  |fh=>exact ⟨rfl,rfl,fun _=>rfl⟩
  |_=>exact Bool.noConfusion hp
 rw [hc];show (match ae.quiet&&iE g.is_async 0&&pJ sc with|true=>_|false=>_)=_;rw [hq];refine bG hi ?_;rw [z.1];exact aG hcl (aG z.2.1 (aG h (aG (z.2.2 _) rfl)))
end
inductive Seq (base:AH):It→List AV→Prop
 |nil {it:It}:(∀ t,next (base++t) it=some none)→Seq base it []
 |cons {it it':It} {x:AV} {xs:List AV}:(∀ t,next (base++t) it=some (some ([x],it')))→Seq base it' xs→Seq base it (x::xs)
theorem mD {base t:AH} {l:Nat} {o:AO} (h:base[l]?=some o):(base++t)[l]?=some o:=by rw [List.getElem?_append_left (List.getElem?_eq_some_iff.mp h).1,h]
theorem nJ {base:AH} {l:Nat} {vs:List AV} (h:base[l]?=some (.list vs)):∀(xs:List AV) (i:Nat),vs.drop i=xs→Seq base (.lst l i) xs
 |[],i,hd=>.nil fun t=>DU (mD h) (by rw [← Nat.add_zero i,← List.getElem?_drop,hd];rfl)
 |x::xs,i,hd=>.cons (fun t=>DV (mD h) (by rw [← Nat.add_zero i,← List.getElem?_drop,hd];rfl)) (nJ h xs (i+1) (by rw [← List.drop_drop,hd];rfl))
theorem mG:∀(n:Nat) (i:Int),Seq base (.range i (n:Nat) k) ((dj i k n).map .int)
 |0,i=>.nil fun t=>rfl
 |n+1,i=>.cons (it':=.range (i+k) (n:Nat) k) (fun t=>by
   show (match bf 0 ((n+1:Nat):Int) with|true=>some (some ([AV.int i],It.range (i+k) (((n+1:Nat):Int) - 1) k))|false=>some none)=_;rw [show bf 0 ((n+1:Nat):Int)=true from rfl,show ((n+1:Nat):Int) - 1=n by lia]) (mG n (i+k))
theorem V7 (A:α→AO) (base:AH) (P:AH→Prop) (st:α→AV→α) (m:Nat) (hg:(clauses e)[d]?=some g) (ha:iE g.is_async 0=true) (xs:List AV) (iI:α) (hturn:∀ pre x post,xs=pre++x::post→∀ k t lo,P t→∃ lo' t',P t'∧turn C (run C (m+k)) e d g [x] base.length ae ⟨lo,base++A (pre.foldl st iI)::t⟩=some ⟨lo',base++A ((pre++[x]).foldl st iI)::t'⟩):∀(post pre:List AV) (it:It) (t:AH) (lo:List (Str×AV)) (k:Nat),xs=pre++post→Seq base it post→P t→∃ lo' t',P t'∧(run C (m+post.length+1+k)).co e d it base.length ae ⟨lo,base++A (pre.foldl st iI)::t⟩=some ⟨lo',base++A (xs.foldl st iI)::t'⟩:=by
 intro post;induction post with
 |nil=>
  intro pre it t lo k hx hs hp;rw [List.append_nil] at hx;subst hx;refine ⟨lo,t,hp,?_⟩;rw [show m+List.length ([]:List AV)+1+k=(m+k)+1 by simp;(exact Nat.add_right_comm ..),qp];cases hs with
  |nil h=>exact BZ hg ha (h _)
 |cons x post ih=>
  intro pre it t lo k hx hs hp;cases hs with
  | @cons _ it' _ _ h1 h2=>
   refine dB (hturn pre x post hx (post.length+1+k) t lo hp) fun l1 t1 p1 w1=>?_;refine dB (ih (pre++[x]) it' t1 l1 k (by rw [hx,List.append_assoc];rfl) h2 p1) fun l2 t2 p2 w2=>?_;refine ⟨l2,t2,p2,?_⟩;rw [show m+(x::post).length+1+k=(m+(post.length+1+k))+1 by rw [List.length_cons];lia,qp,B3 hg ha (h1 _) w1];rw [← w2,show m+(post.length+1+k)=m+post.length+1+k by (exact (Nat.add_assoc ..).symm)]
theorem lu (A:α→AO) (P:AH→Prop) (st:α→AV→α) (m:Nat) (xs:List AV) (iI:α) (hc:clauses e=g::gens) (hq:(ae.quiet&&iE g.is_async 0&&pJ sc)=true) (hi:iter C (run C N) ae g.iter s=some (it,s1)) (hp:pK it=true) (hcl:mV ae sc.names []=some cl) (hN:m+xs.length+1≤N) (hs:Seq s1.hp it xs) (hP:P ((cF sc.names).map fun _=>.cell none)) (hturn:∀ pre x post,xs=pre++x::post→∀ k t lo,P t→∃ lo' t',P t'∧turn C (run C (m+k)) e 0 g [x] s1.hp.length { names:=sc.names.map (jm ae),cells:=(fD (s1.hp.length+1) sc.names cl).1,quiet:=true} ⟨lo,s1.hp++A (pre.foldl st iI)::t⟩=some ⟨lo',s1.hp++A ((pre++[x]).foldl st iI)::t'⟩):∃ t',P t'∧comp C (run C N) e (clauses e) sc (A iI) ae s=some (.loc s1.hp.length,⟨s1.lo,s1.hp++A (xs.foldl st iI)::t'⟩):=by
 have ha:iE g.is_async 0=true:=by rw [Bool.and_eq_true,Bool.and_eq_true] at hq;exact hq.1.2
 refine dB (V7 A s1.hp P st (ae:={ names:=sc.names.map (jm ae),cells:=(fD (s1.hp.length+1) sc.names cl).1,quiet:=true}) m (by rw [hc];rfl) ha xs iI hturn xs [] it _ [] (N- (m+xs.length+1)) rfl hs hP) fun lo' t' p w=>?_;rw [show m+xs.length+1+(N- (m+xs.length+1))=N by (exact Nat.add_sub_cancel' hN)] at w;refine ⟨t',p,?_⟩;exact I8 hc hq hi hp hcl (s2:=⟨lo',s1.hp++A (xs.foldl st iI)::t'⟩) (by unfold uW;rw [List.append_assoc];exact w)
theorem jB (base t:AH) (o:AO):(base++o::t)[base.length]?=some o:=by rw [List.getElem?_append_right (Nat.le_refl _),Nat.sub_self];rfl
theorem V8 (base t:AH) (o o':AO):(base++o::t).set base.length o'=base++o'::t:=by rw [List.set_append_right _ _ (Nat.le_refl _),Nat.sub_self];rfl
theorem B4 (h:ro≤base.length):bL (base++o::t) ro base.length o'=some (base++o'::t):=by unfold bL;rw [Nat.ble_eq_true_of_le h,jB,V8]
theorem V9 {C:Cx} {R:Rec} {elt:PySem.Expr} {gens:List Comprehension} {sc:Scope} {p:Pos} {ae:au} {s:St} {base t:AH} {acc:List AV} {lo:List (Str×AV)} {v:AV} (he:R.ev elt ae s=some (v,⟨lo,base++ .list acc::t⟩)) (hl:acc.length<100000) (dQ:C.ro≤base.length):emit C R (.ListComp elt gens sc p) base.length ae s=some ⟨lo,base++ .list (acc++[v])::t⟩:=by show uX C R elt base.length ae s=_;unfold uX;refine bG he (aG (congrArg bO (jB base t (.list acc))) ?_);rw [show lim (acc.length+1)=true from Nat.ble_eq_true_of_le (by assumption)];exact aG (B4 dQ) rfl
section
variable {C:Cx} {n:Nat} {ae:au} {s s1:St} {x c:PySem.Expr} {v:AV}
theorem gu (h:store C ae z v s=some s1):fC C ae (.Name z p) [v] s=some s1:=dG (a:=(z,p)) rfl (aG (a:=v) rfl h)
theorem B5 (h:R.tr c ae s=some (true,s1)) (k:iP R ae r s1=z):iP R ae (c::r) s=z:=bG h k
theorem B6 (h:R.tr c ae s=some (false,s1)):iP R ae (c::r) s=some (false,s1):=bG h rfl
theorem aX (k:lk ae.names z=some .cell) (h1:lk ae.cells z=some l) (h2:h[l]?=some (.cell (some v))):load C ae z ⟨g,h⟩=some v:=aG k (aG h1 (aG (congrArg nW h2) rfl))
theorem I9 (e:nY h a b=some q):cmp h .NotIn a b=some (!q):=aG e rfl
theorem Wa (h1:h[l]?=some (.list vs)) (h2:h[k]?=some (.list ys)) (h3:(lim (vs.length+ys.length)&&Nat.ble C.ro k)=true) (h4:bL h C.ro l (.list (vs++ys))=some h'):j6 C h .extend (.loc l) [.loc k]=some (.none,h'):=by show ob (bO h[l]?) (fun vs=>ob (bO h[k]?) fun ys=>yE C h l k vs ys)=_;exact aG (congrArg bO h1) (aG (congrArg bO h2) (by unfold yE;rw [h3];exact aG h4 rfl))
end
theorem jV {C:Cx} {R:Rec} {elt:PySem.Expr} {gens:List Comprehension} {sc:Scope} {p:Pos} {ae:au} {d:Nat} {g:Comprehension} {vs:List AV} {s s1 s2:St} {base t:AH} {acc:List AV} {lo:List (Str×AV)} {v:AV} (h1:fC C ae g.target vs s=some s1) (h2:iP R ae g.ifs s1=some (true,s2)) (h3:gens[d+1]?=none) (he:R.ev elt ae s2=some (v,⟨lo,base++ .list acc::t⟩)) (hl:acc.length<100000) (dQ:C.ro≤base.length):turn C R (.ListComp elt gens sc p) d g vs base.length ae s=some ⟨lo,base++ .list (acc++[v])::t⟩:=by exact aG h1 (bG h2 (show uZ C R (.ListComp elt gens sc p) d base.length ae s2=_ from dH h3 (V9 he hl dQ)))
theorem tY (h1:fC C ae g.target vs s=some s1) (h2:iP R ae g.ifs s1=some (false,s2)):turn C R e d g vs a ae s=some s2:=aG h1 (bG h2 rfl)
noncomputable def HD (x0 x1 x2 x3 own:List AV) (L:List AV) (r:Option AV) (t:AH):AH:=.list [.loc 1,.loc 2,.loc 3,.loc 4]::.list x0::.list x1::.list x2::.list x3::.list own::.cell (some (.loc 5))::.cell (some (.loc 9))::.cell r::.list L::t
section
variable (x0 x1 x2 x3 own L:List AV) (r:Option AV) (t u:AH)
theorem gK:HD x0 x1 x2 x3 own L r t++u=HD x0 x1 x2 x3 own L r (t++u):=rfl
theorem Wb:(HD x0 x1 x2 x3 own L r t)[0]?=some (.list [.loc 1,.loc 2,.loc 3,.loc 4]):=rfl
theorem Wc:(HD x0 x1 x2 x3 own L r t)[5]?=some (.list own):=rfl
theorem Ja:(HD x0 x1 x2 x3 own L r t)[6]?=some (.cell (some (.loc 5))):=rfl
theorem tZ:(HD x0 x1 x2 x3 own L r t)[7]?=some (.cell (some (.loc 9))):=rfl
theorem Jb:(HD x0 x1 x2 x3 own L r t)[8]?=some (.cell r):=rfl
theorem nK:(HD x0 x1 x2 x3 own L r t)[9]?=some (.list L):=rfl
theorem rA:10≤(HD x0 x1 x2 x3 own L r t).length:=by unfold HD;simp only [List.length_cons];(exact Nat.le_add_left ..)
end
noncomputable def bU:au:=⟨bw.names,[(S "rights",8),(S "leading",7),(S "own",6)],true⟩
theorem Wd (R:Rec) (x0 x1 x2 x3 own:List AV) (k:Int):fE (CQ 6) R bw [.loc 0,.loc 5,.int k] (eX [x0,x1,x2,x3] own)=out (R.ex bw.body bU ⟨[(S "needs",.loc 0),(S "k",.int k)],eX [x0,x1,x2,x3] own++[.cell (some (.loc 5)),.cell none,.cell none]⟩):=rfl
noncomputable def rB (x0 x1 x2 x3:List AV):Nat→List AV
 |0=>x0|1=>x1|2=>x2|3=>x3|_=>[]
noncomputable def cE:PySem.Expr→PySem.Expr
 | .Call _ (a::_) _ _=>a
 |_=>default
noncomputable def kD:Stmt→PySem.Expr
 | .Expr e _=>e
 | .Assign _ e _=>e
 |_=>default
noncomputable def oZ:Stmt:=aY bw.body 1
noncomputable def iJ:PySem.Expr:=cE (kD (aY (bX oZ) 0))
noncomputable def fq (L:List Int) (i:Int):Bool:=match L with
 |[]=>false
 |y::r=>iE i y||fq r i
theorem ue (i:Int):∀ L:List Int,j4 (.int i) (L.map .int)=some (fq L i)
 |[]=>rfl
 |y::r=>by
  exact zf rfl (ue i r)
noncomputable def fR (L:List Int) (N:List Int):List Int:=N.filter fun i=> !fq L i
theorem fold_filter (f:AV→List AV→List AV) (p:Int→Bool) (hf:∀ i acc,f (.int i) acc=match p i with|true=>acc++[.int i]|false=>acc):∀(N:List Int) (acc:List AV),(N.map AV.int).foldl (fun a x=>f x a) acc=acc++(N.filter p).map .int
 |[],acc=>by simp
 |i::N,acc=>by
  rw [List.map_cons,List.foldl_cons,hf,fold_filter f p hf N];cases h:p i with
  |true=>rw [List.filter_cons_of_pos h];simp
  |false=>rw [List.filter_cons_of_neg (by simp [h])]
noncomputable def o7 (L:List Int) (x:AV) (acc:List AV):List AV:=match x with
 | .int i=>(match fq L i with|true=>acc|false=>acc++[.int i])
 |_=>acc
noncomputable def gv:PySem.Expr→Scope
 | .ListComp _ _ sc _=>sc
 | .DictComp _ _ _ sc _=>sc
 |_=>default
noncomputable def gE (e:PySem.Expr):Comprehension:=(clauses e).headD default
theorem rC:gE (.ListComp elt (g::gs) sc p)=g:=rfl
theorem rD:gE (.DictComp k v (g::gs) sc p)=g:=rfl
noncomputable def cA (ae:au) (e:PySem.Expr) (cl:List (Str×Nat)):au:=⟨(gv e).names.map (jm ae),cl,true⟩
theorem uf (h:AH) (a:AV) (l:Nat):cmp h .In a (.loc l)=nY h a (.loc l):=rfl
theorem ug (a:AV) (e:h[l]?=some (.list vs)):nY h a (.loc l)=j4 a vs:=ze e
theorem We {x0 x1 x2 x3 own:List AV} {L:List Int} {t u:AH} {lo:List (Str×AV)} {i:Int} {acc:List AV} {n:Nat} (ha:acc.length<1000):∃ lo',turn (CQ 6) (run (CQ 6) (n+20)) iJ 0 (gE iJ) [.int i] (HD x0 x1 x2 x3 own (L.map .int) none t).length (cA bU iJ [(S "leading",7)]) ⟨lo,HD x0 x1 x2 x3 own (L.map .int) none t++ .list acc::u⟩=some ⟨lo',HD x0 x1 x2 x3 own (L.map .int) none t++ .list (o7 L (.int i) acc)::u⟩:=by
 have hn:(cA bU iJ [(S "leading",7)]).names=[(S ".0",.local),(S "i",.local),(S "leading",.cell)]:=rfl;have hc:(cA bU iJ [(S "leading",7)]).cells=[(S "leading",7)]:=rfl;have hq:(cA bU iJ [(S "leading",7)]).quiet=true:=rfl;generalize cA bU iJ [(S "leading",7)]=ae at hn hc hq;have hl:=rA x0 x1 x2 x3 own (L.map .int) none t;have e9:=nK x0 x1 x2 x3 own (L.map .int) none (t++ .list acc::u);have e7:=tZ x0 x1 x2 x3 own (L.map .int) none (t++ .list acc::u);refine ⟨put lo (S "i") (.int i),?_⟩;generalize hx:iJ=xe
 conv at hx=>lhs;whnf
 subst hx;simp only [rC,rD];cases hin:fq L i with
 |true=>
  rw [show o7 L (.int i) acc=acc by unfold o7;simp only [hin]];refine tY (s1:=⟨put lo (S "i") (.int i),HD x0 x1 x2 x3 own (L.map .int) none t++ .list acc::u⟩) ?_ ?_
  ·exact gu (cg (by rw [hn];rfl))
  ·rw [gK];exact B6 (bF (bD rfl (aq (az (by rw [hn];rfl) b8)) (aq (aX (by rw [hn];rfl) (by rw [hc];rfl) e7)) (I9 ((ze e9).trans ((ue i L).trans (congrArg some hin))))))
 |false=>
  rw [show o7 L (.int i) acc=acc++[.int i] by unfold o7;simp only [hin]];refine jV (s1:=⟨put lo (S "i") (.int i),HD x0 x1 x2 x3 own (L.map .int) none t++ .list acc::u⟩) (s2:=⟨put lo (S "i") (.int i),HD x0 x1 x2 x3 own (L.map .int) none t++ .list acc::u⟩) ?_ ?_ rfl ?_ (by (exact Nat.lt_of_lt_of_le ha (by decide))) (by show 6≤_;(exact Nat.le_add_left ..))
  ·exact gu (cg (by rw [hn];rfl))
  ·rw [gK];exact B5 (bF (bD rfl (aq (az (by rw [hn];rfl) b8)) (aq (aX (by rw [hn];rfl) (by rw [hc];rfl) e7)) (I9 ((ze e9).trans ((ue i L).trans (congrArg some hin)))))) rfl
  ·exact aq (az (by rw [hn];rfl) b8)
theorem Jc (hj:j<4):(HD x0 x1 x2 x3 own L r t)[1+j]?=some (.list (rB x0 x1 x2 x3 j)):=by
 iterate 4 refine aW hj (by rfl) fun hj=>?_
 exact absurd hj (Nat.not_lt_zero j)
theorem Wf (hj:j<4):getItem (HD x0 x1 x2 x3 own L r t) (.loc 0) (.int (j:Nat))=some (.loc (1+j)):=by
 rw [jr,Wb];iterate 4 refine aW hj (by rfl) fun hj=>?_
 exact absurd hj (Nat.not_lt_zero j)
theorem Wg {x0 x1 x2 x3 own:List AV} {L N:List Int} {t:AH} {lo:List (Str×AV)} {j n:Nat} (hj:j<4) (hx:rB x0 x1 x2 x3 j=N.map .int) (hN:N.length≤10) (h1:lk lo (S "needs")=some (.loc 0)) (h2:lk lo (S "j")=some (.int (j:Nat))):∃ t',(run (CQ 6) (n+40)).ev iJ bU ⟨lo,HD x0 x1 x2 x3 own (L.map .int) none t⟩=some (.loc (HD x0 x1 x2 x3 own (L.map .int) none t).length,⟨lo,HD x0 x1 x2 x3 own (L.map .int) none (t++ .list ((fR L N).map .int)::t')⟩):=by
 have hn:bw.names=bw.names:=rfl
 conv at hn=>rhs;whnf
 have hi:iter (CQ 6) (run (CQ 6) (n+39)) bU (gE iJ).iter ⟨lo,HD x0 x1 x2 x3 own (L.map .int) none t⟩=some (.lst (1+j) 0,⟨lo,HD x0 x1 x2 x3 own (L.map .int) none t⟩):=by
  generalize hx:(gE iJ).iter=xe
  conv at hx=>lhs;whnf
  subst hx;have e:=Jc (x0:=x0) (x1:=x1) (x2:=x2) (x3:=x3) (own:=own) (L:=L.map .int) (r:=none) (t:=t) hj;have e2:=Wf (x0:=x0) (x1:=x1) (x2:=x2) (x3:=x3) (own:=own) (L:=L.map .int) (r:=none) (t:=t) hj;simp only [S] at h1 h2;exact mZ rfl rfl rfl rfl (bS rfl (aq (az rfl h1)) (aq (az rfl h2)) e2) e
 refine Exists.elim (lu (C:=CQ 6) (e:=iJ) (g:=gE iJ) (gens:=[]) (sc:=gv iJ) (ae:=bU) (cl:=[(S "leading",7)]) AO.list (fun u=>True) (fun acc x=>o7 L x acc) (n+20) (N.map .int) [] rfl rfl hi rfl rfl (by rw [List.length_map];lia) (nJ (Jc hj) _ 0 (by rw [List.drop_zero,hx])) trivial ?_) fun t' ht=>?_
 ·intro pre x post hpp k u lo' _;obtain ⟨i,rfl⟩:∃ i,x=.int i:=by
   have:x∈N.map AV.int:=by rw [hpp];simp
   refine aC (List.mem_map.mp this) fun i _ q1=>?_;subst q1;exact ⟨i,rfl⟩
  have hlen:(pre.foldl (fun acc x=>o7 L x acc) []).length<1000:=by
   obtain ⟨P,rfl⟩:∃ P:List Int,pre=P.map .int:=by refine ⟨N.take pre.length,?_⟩;rw [List.map_take,hpp,List.take_left'];rfl
   rw [fold_filter _ (fun i=> !fq L i) (fun i acc=>by show (match fq L i with|true=>acc|false=>acc++[AV.int i])=_;cases fq L i <;>rfl)];have h1:(P.filter fun i=> !fq L i).length≤P.length:=List.length_filter_le _ _;have h2:=congrArg List.length hpp;simp at h2 ⊢;lia
  refine aJ (We (x0:=x0) (x1:=x1) (x2:=x2) (x3:=x3) (own:=own) (L:=L) (t:=t) (u:=u) (lo:=lo') (i:=i) (n:=n+k) hlen) fun lo2 w=>?_;refine ⟨lo2,u,trivial,?_⟩;rw [List.foldl_append];rw [show n+20+k=n+k+20 by (exact Nat.add_right_comm ..)];exact w
 ·refine aN ht fun q1 w=>?_;clear q1;refine ⟨t',?_⟩;rw [fold_filter _ (fun i=> !fq L i) (fun i acc=>by show (match fq L i with|true=>acc|false=>acc++[AV.int i])=_;cases fq L i <;>rfl)] at w;rw [gK] at w;exact w
noncomputable def xT:List Stmt:=bX oZ
theorem Wh {x0 x1 x2 x3 own:List AV} {L N:List Int} {t:AH} {lo:List (Str×AV)} {j n:Nat} (hj:j<4) (hx:rB x0 x1 x2 x3 j=N.map .int) (hN:N.length≤10) (hL:L.length≤50) (h1:lk lo (S "needs")=some (.loc 0)) (h2:lk lo (S "j")=some (.int (j:Nat))):∃ t',(run (CQ 6) (n+45)).ex xT bU ⟨lo,HD x0 x1 x2 x3 own (L.map .int) none t⟩=some (.next,⟨lo,HD x0 x1 x2 x3 own ((L++fR L N).map .int) none t'⟩):=by
 have hn:bw.names=bw.names:=rfl
 conv at hn=>rhs;whnf
 refine aJ (Wg (own:=own) (L:=L) (t:=t) (n:=n+3) hj hx hN h1 h2) fun t1 w=>?_;refine ⟨t++ .list ((fR L N).map .int)::t1,?_⟩;generalize hb:xT=bd
 conv at hb=>lhs;whnf
 generalize Jd:iJ=xe at w
 conv at Jd=>lhs;whnf
 subst hb;subst Jd;refine (eW (n:=n+44) (s1:=⟨lo,HD x0 x1 x2 x3 own ((L++fR L N).map .int) none (t++ .list ((fR L N).map .int)::t1)⟩) ?_).trans rfl;have e7:=tZ x0 x1 x2 x3 own (L.map .int) none t;have hmo:kJ (CQ 6) (HD x0 x1 x2 x3 own (L.map .int) none t) (Str.ofString "extend") (.loc 9)=none:=rfl;have hms:mU (HD x0 x1 x2 x3 own (L.map .int) none t) (Str.ofString "extend") (.loc 9)=some .extend:=rfl;have hmi:j6 (CQ 6) (HD x0 x1 x2 x3 own (L.map .int) none (t++ .list ((fR L N).map .int)::t1)) .extend (.loc 9) [.loc (HD x0 x1 x2 x3 own (L.map .int) none t).length]=some (AV.none,HD x0 x1 x2 x3 own ((L++fR L N).map .int) none (t++ .list ((fR L N).map .int)::t1)):=by
  have e9:=nK x0 x1 x2 x3 own (L.map .int) none (t++ .list ((fR L N).map .int)::t1);have ek:(HD x0 x1 x2 x3 own (L.map .int) none (t++AO.list ((fR L N).map .int)::t1))[(HD x0 x1 x2 x3 own (L.map .int) none t).length]?=some (AO.list ((fR L N).map .int)):=by rw [← gK];exact jB _ _ _
  have hl:=rA x0 x1 x2 x3 own (L.map .int) none t;have hnl:(fR L N).length≤N.length:=List.length_filter_le _ _;have hlim:(lim ((L.map AV.int).length+((fR L N).map AV.int).length)&&Nat.ble (CQ 6).ro (HD x0 x1 x2 x3 own (L.map .int) none t).length)=true:=by
   rw [Bool.and_eq_true];refine ⟨Nat.ble_eq_true_of_le ?_,Nat.ble_eq_true_of_le ?_⟩
   ·rw [List.length_map,List.length_map];lia
   ·show 6≤_;(exact Nat.le_add_left ..)
  generalize hK:(HD x0 x1 x2 x3 own (L.map .int) none t).length=K at ek hlim;have hs:bL (HD x0 x1 x2 x3 own (L.map .int) none (t++ .list ((fR L N).map .int)::t1)) (CQ 6).ro 9 (.list (L.map .int++(fR L N).map .int))=some (HD x0 x1 x2 x3 own ((L++fR L N).map .int) none (t++ .list ((fR L N).map .int)::t1)):=by unfold bL;rw [show Nat.ble (CQ 6).ro 9=true from rfl,e9,← List.map_append];rfl
  exact Wa e9 ek hlim hs
 exact x_call (nu rfl (aq (aX rfl rfl e7)) hmo hms rfl (bq w bJ) hmi)
noncomputable def rE (N:Nat→List Int):Nat→Nat→List Int→Option (List Int)
 |0,_,_=>none
 |f+1,i,L=>match L[i]? with
  |none=>some L
  |some (.ofNat j)=>match Nat.blt j 4 with
   |true=>rE N f (i+1) (L++fR L (N j))
   |false=>none
  |some _=>none
theorem Wi (hx:∀ j,j<4→rB x0 x1 x2 x3 j=(N j).map .int) (hN:∀ j,(N j).length≤4):∀(f i n:Nat) (L L':List Int) (t:AH) (lo:List (Str×AV)),rE N f i L=some L'→L.length+5*f≤40→lk lo (S "needs")=some (.loc 0)→∃ t' lo',(run (CQ 6) (n+f+46)).fo (fG oZ) (.lst 9 i) xT [] bU ⟨lo,HD x0 x1 x2 x3 own (L.map .int) none t⟩=some (.next,⟨lo',HD x0 x1 x2 x3 own (L'.map .int) none t'⟩)∧lk lo' (S "k")=lk lo (S "k")∧lk lo' (S "needs")=some (.loc 0):=by
 intro f;induction f with
 |zero=>intro i n L L' t lo h;cases h
 |succ f ih=>
  intro i n L L' t lo h hl h1;unfold rE at h;rw [show n+(f+1)+46=(n+f+46)+1 by (exact Nat.add_assoc ..)];have e9:=nK x0 x1 x2 x3 own (L.map .int) none t;cases e:L[i]? with
  |none=>
   rw [e] at h;exact ⟨t,lo,Option.some.inj h▸zK (DU e9 (by rw [List.getElem?_map,e];rfl)) bY,rfl,h1⟩
  |some j=>
   rw [e] at h;rcases j with j|j
   ·refine eT h fun hj h=>?_;have hj:j<4:=Nat.le_of_ble_eq_true hj;refine aJ (Wh (own:=own) (L:=L) (t:=t) (lo:=put lo (S "j") (.int (j:Nat))) (n:=n+f+1) hj (hx j hj) (Nat.le_trans (hN j) (by decide)) (by lia) (by rw [aL];exact h1) (by rw [aL];rfl)) fun t1 w=>?_;have hle:(fR L (N j)).length≤4:=Nat.le_trans (List.length_filter_le _ _) (hN j);refine bK (ih (i+1) n (L++fR L (N j)) L' t1 (put lo (S "j") (.int (j:Nat))) h (by rw [List.length_append];lia) (by rw [aL];exact h1)) fun t2 l2 w2 k2 k3=>?_;exact ⟨t2,l2,sJ (DV e9 (by rw [List.getElem?_map,e];rfl)) (s1:=⟨put lo (S "j") (.int (j:Nat)),HD x0 x1 x2 x3 own (L.map .int) none t⟩) rfl (by rw [show n+f+46=n+f+1+45 by (exact Nat.add_assoc ..)];exact w) w2,k2.trans (BL _ rfl),k3⟩
   ·exact e0 h
theorem Wj {x0 x1 x2 x3 own:List AV} {L:List AV} {r:Option AV} {t:AH} {lo:List (Str×AV)} {n:Nat}:iter (CQ 6) (run (CQ 6) (n+1)) bU (eO oZ) ⟨lo,HD x0 x1 x2 x3 own L r t⟩=some (.lst 9 0,⟨lo,HD x0 x1 x2 x3 own L r t⟩):=by
 have hn:bw.names=bw.names:=rfl
 conv at hn=>rhs;whnf
 have e7:=tZ x0 x1 x2 x3 own L r t;have e9:=nK x0 x1 x2 x3 own L r t;generalize hx:eO oZ=xe
 conv at hx=>lhs;whnf
 subst hx;exact mZ rfl rfl rfl rfl (aq (aX rfl rfl e7)) e9
theorem Wl {x0 x1 x2 x3 own:List AV} {N:Nat→List Int} {k:Int} {L:List Int} {n:Nat} (hx:∀ j,j<4→rB x0 x1 x2 x3 j=(N j).map .int) (hN:∀ j,(N j).length≤4) (hb:rE N 7 0 [k]=some L):∃ t lo,(run (CQ 6) (n+70)).ex bw.body bU ⟨[(S "needs",.loc 0),(S "k",.int k)],eX [x0,x1,x2,x3] own++[.cell (some (.loc 5)),.cell none,.cell none]⟩=(run (CQ 6) (n+68)).ex (bw.body.drop 2) bU ⟨lo,HD x0 x1 x2 x3 own (L.map .int) none t⟩∧lk lo (S "k")=some (.int k):=by
 have hn:bw.names=bw.names:=rfl
 conv at hn=>rhs;whnf
 refine bK (Wi (own:=own) hx hN 7 0 (n+15) [k] L [] [(S "needs",.loc 0),(S "k",.int k)] hb (show 1+5*7≤40 by decide) rfl) fun t lo w k1 k2=>?_;refine ⟨t,lo,?_,k1⟩;have hi:=Wj (x0:=x0) (x1:=x1) (x2:=x2) (x3:=x3) (own:=own) (L:=[.int k]) (r:=none) (t:=[]) (lo:=[(S "needs",.loc 0),(S "k",.int k)]) (n:=n+67);rw [show bw.body=aY bw.body 0::oZ::bw.body.drop 2 from rfl];refine (eW (n:=n+69) (s1:=⟨[(S "needs",.loc 0),(S "k",.int k)],HD x0 x1 x2 x3 own [.int k] none []⟩) ?_).trans ?_
 ·generalize hb:aY bw.body 0=bd
  conv at hb=>lhs;whnf
  subst hb;rfl
 refine (eW (n:=n+68) (s1:=⟨lo,HD x0 x1 x2 x3 own (L.map .int) none t⟩) ?_).trans rfl;generalize hb:oZ=bd at hi w
 conv at hb=>lhs;whnf
 generalize hb2:xT=lb at w
 conv at hb2=>lhs;whnf
 subst hb;subst hb2;rw [show n+15+7+46=n+68 by (exact Nat.add_right_comm ..)] at w;exact oA rfl hi rfl w rfl
noncomputable def cB (own:List AV):AV→AV
 | .int j=>own.getD j.toNat .none
 |_=>.none
noncomputable def Pl (own:List AV) (L:List Int):Prop:=∀ j∈L,0≤j∧j.toNat<own.length
theorem fold_map (f:AV→AV):∀(xs:List AV) (acc:List AV),xs.foldl (fun a x=>a++[f x]) acc=acc++xs.map f
 |[],acc=>by simp
 |x::xs,acc=>by rw [List.foldl_cons,fold_map f xs];simp
theorem get_own (h0:0≤j) (h1:j.toNat<own.length):getItem (HD x0 x1 x2 x3 own L r t) (.loc 5) (.int j)=some (cB own (.int j)):=by rw [jr];show alt (bO _) _ _=_;refine dG (congrArg bO (Wc x0 x1 x2 x3 own L r t)) ?_;show uM own j=_;unfold uM;rw [show bf j 0=false by rw [dZ];exact decide_eq_false (by lia)];show own[j.toNat]?=some (own.getD j.toNat .none);rw [List.getD_eq_getElem?_getD,List.getElem?_eq_getElem h1];rfl
noncomputable def g9:PySem.Expr:=(ob (yN (fG (aY bw.body 2))) fun q=>q.2.2.head?).getD default
theorem Wm {x0 x1 x2 x3 own:List AV} {L:List AV} {r:Option AV} {t u:AH} {lo:List (Str×AV)} {j:Int} {acc:List AV} {n:Nat} (ha:acc.length<1000) (h0:0≤j) (h1:j.toNat<own.length):∃ lo',turn (CQ 6) (run (CQ 6) (n+20)) g9 0 (gE g9) [.int j] (HD x0 x1 x2 x3 own L r t).length (cA bU g9 [(S "own",6)]) ⟨lo,HD x0 x1 x2 x3 own L r t++ .list acc::u⟩=some ⟨lo',HD x0 x1 x2 x3 own L r t++ .list (acc++[cB own (.int j)])::u⟩:=by
 have hn:(cA bU g9 [(S "own",6)]).names=[(S ".0",.local),(S "j",.local),(S "own",.cell)]:=rfl;have hc:(cA bU g9 [(S "own",6)]).cells=[(S "own",6)]:=rfl;have hq:(cA bU g9 [(S "own",6)]).quiet=true:=rfl;generalize cA bU g9 [(S "own",6)]=ae at hn hc hq;have hl:=rA x0 x1 x2 x3 own L r t;have e6:=Ja x0 x1 x2 x3 own L r (t++ .list acc::u);have eg:=get_own (x0:=x0) (x1:=x1) (x2:=x2) (x3:=x3) (L:=L) (r:=r) (t:=t++ .list acc::u) h0 h1;refine ⟨put lo (S "j") (.int j),?_⟩;generalize hx:g9=xe
 conv at hx=>lhs;whnf
 subst hx;simp only [rC,rD];refine jV (s1:=⟨put lo (S "j") (.int j),HD x0 x1 x2 x3 own L r t++ .list acc::u⟩) (s2:=⟨put lo (S "j") (.int j),HD x0 x1 x2 x3 own L r t++ .list acc::u⟩) ?_ ?_ rfl ?_ (by omega) (by show 6≤_;(exact Nat.le_add_left ..))
 ·exact gu (cg (by rw [hn];rfl))
 ·rfl
 ·exact bS rfl (aq (aX (by rw [hn];rfl) (by rw [hc];rfl) e6)) (aq (az (by rw [hn];rfl) b8)) eg
theorem rF {f:AV→AV} {xs pre post:List AV} {x:AV} (h:xs=pre++x::post) (hl:xs.length≤100):(pre.foldl (fun a x=>a++[f x]) []).length<1000:=by rw [fold_map,List.nil_append,List.length_map];have:=congrArg List.length h;simp at this;lia
theorem nL (h:xs=pre++x::post):x∈xs:=by rw [h];simp
theorem Je {x0 x1 x2 x3 own:List AV} {L:List Int} {r:Option AV} {t:AH} {lo:List (Str×AV)} {n:Nat} (hL:L.length≤15) (hp:Pl own L):∃ t',(run (CQ 6) (n+60)).ev g9 bU ⟨lo,HD x0 x1 x2 x3 own (L.map .int) r t⟩=some (.loc (HD x0 x1 x2 x3 own (L.map .int) r t).length,⟨lo,HD x0 x1 x2 x3 own (L.map .int) r (t++ .list ((L.map .int).map (cB own))::t')⟩):=by
 have hn:bw.names=bw.names:=rfl
 conv at hn=>rhs;whnf
 have hi:iter (CQ 6) (run (CQ 6) (n+59)) bU (gE g9).iter ⟨lo,HD x0 x1 x2 x3 own (L.map .int) r t⟩=some (.lst 9 0,⟨lo,HD x0 x1 x2 x3 own (L.map .int) r t⟩):=by
  have e7:=tZ x0 x1 x2 x3 own (L.map .int) r t;have e9:=nK x0 x1 x2 x3 own (L.map .int) r t;generalize hx:(gE g9).iter=xe
  conv at hx=>lhs;whnf
  subst hx;exact mZ rfl rfl rfl rfl (aq (aX rfl rfl e7)) e9
 refine Exists.elim (lu (C:=CQ 6) (e:=g9) (g:=gE g9) (gens:=[]) (sc:=gv g9) (ae:=bU) (cl:=[(S "own",6)]) AO.list (fun u=>True) (fun acc x=>acc++[cB own x]) (n+20) (L.map .int) [] rfl rfl hi rfl rfl (by rw [List.length_map];lia) (nJ (nK _ _ _ _ _ _ _ _) _ 0 (List.drop_zero)) trivial ?_) fun t' ht=>?_
 ·intro pre x post hpp k u lo' _;refine aC (List.mem_map.mp (nL hpp)) fun j hj q1=>?_;subst q1;have hlen:=rF (f:=cB own) hpp (by rw [List.length_map];(exact Nat.le_trans hL (by decide)));refine aJ (Wm (x0:=x0) (x1:=x1) (x2:=x2) (x3:=x3) (own:=own) (L:=L.map .int) (r:=r) (t:=t) (u:=u) (lo:=lo') (n:=n+k) hlen (hp j hj).1 (hp j hj).2) fun lo2 w=>?_;refine ⟨lo2,u,trivial,?_⟩;rw [List.foldl_append,show n+20+k=n+k+20 by (exact Nat.add_right_comm ..)];exact w
 ·refine aN ht fun q1 w=>?_;clear q1;refine ⟨t',?_⟩;rw [fold_map,List.nil_append,gK] at w;exact w
noncomputable def jW (os:List (Option Int)) (L:List Int):Bool:=match L with
 |[]=>false
 |j::r=>(os.getD j.toNat (some 0)).isNone||jW os r
theorem Wn:sE (S "none") (S "none")=true:=rfl
theorem B7 {os:List (Option Int)}:∀{L:List Int},Pl (os.map aP) L→j4 (.str (S "none")) ((L.map .int).map (cB (os.map aP)))=some (jW os L)
 |[],_=>rfl
 |j::r,hp=>by
  have hj:=hp j (.head _);rw [List.length_map] at hj;have e:cB (os.map aP) (.int j)=aP (os.getD j.toNat (some 0)):=by show (os.map aP).getD j.toNat .none=_;rw [List.getD_eq_getElem?_getD,List.getD_eq_getElem?_getD,List.getElem?_map,List.getElem?_eq_getElem hj.2];rfl
  have e2:∀ o:Option Int,aeq (.str (S "none")) (aP o)=some o.isNone:=fun o=>by
   cases o with
   |none=>exact congrArg some Wn
   |some i=>rfl
  exact zf (by rw [e];exact e2 _) (B7 fun i hi=>hp i (.tail _ hi))
noncomputable def eY (v:AV) (b:Nat):Bool:=match v with
 | .int i=>iE (Builtin.bitAnd (rsh i (b:Nat)) 1) 1
 |_=>false
noncomputable def Jf:AV→Bool
 | .int _=>true
 |_=>false
noncomputable def gw:PySem.Expr:=kD (aY bw.body 3)
noncomputable def kE:PySem.Expr:=match (gE gw).ifs with
 |[.Compare _ _ [e] _]=>e
 |_=>default
noncomputable def iK (B:Nat):au:=cA bU gw [(S "b",B+1),(S "own",6),(S "leading",7)]
noncomputable def uh (B:Nat):au:=cA (iK B) kE [(S "own",6),(S "b",B+1)]
section
variable (x0 x1 x2 x3 own L:List AV) (r:Option AV)
theorem B8 (t:AH) (a c:AO) (u:AH):(HD x0 x1 x2 x3 own L r (t++a::c::u))[(HD x0 x1 x2 x3 own L r t).length+1]?=some c:=by rw [← gK,List.getElem?_append_right (by (exact Nat.le_add_right ..)),show (HD x0 x1 x2 x3 own L r t).length+1- (HD x0 x1 x2 x3 own L r t).length=1 by lia];rfl
theorem Ws (t:AH) (a c c':AO) (u:AH):(HD x0 x1 x2 x3 own L r (t++a::c::u)).set ((HD x0 x1 x2 x3 own L r t).length+1) c'=HD x0 x1 x2 x3 own L r (t++a::c'::u):=by rw [← gK,List.set_append_right _ _ (by (exact Nat.le_add_right ..)),show (HD x0 x1 x2 x3 own L r t).length+1- (HD x0 x1 x2 x3 own L r t).length=1 by lia];rfl
end
theorem B9 (h:AH) (v:Int) (b:Nat):binop h .RShift (.int v) (.int (b:Nat))=some (.int (rsh v (b:Nat)),h):=(MB h v b).trans (by rw [E1])
theorem Wt {x0 x1 x2 x3 own:List AV} {L:List AV} {r:Option AV} {t u u2:AH} {aR:AO} {lo:List (Str×AV)} {j:Int} {b:Nat} {acc:List AV} {n:Nat} (ha:acc.length<1000) (h0:0≤j) (h1:j.toNat<own.length) (hI:Jf (cB own (.int j))=true):∃ lo',turn (CQ 6) (run (CQ 6) (n+20)) kE 0 (gE kE) [.int j] (HD x0 x1 x2 x3 own L r (t++aR::.cell (some (.int (b:Nat)))::u)).length (uh (HD x0 x1 x2 x3 own L r t).length) ⟨lo,HD x0 x1 x2 x3 own L r (t++aR::.cell (some (.int (b:Nat)))::u)++ .list acc::u2⟩=some ⟨lo',HD x0 x1 x2 x3 own L r (t++aR::.cell (some (.int (b:Nat)))::u)++ .list (acc++[.bool (eY (cB own (.int j)) b)])::u2⟩:=by
 have hn:(uh (HD x0 x1 x2 x3 own L r t).length).names=[(S ".0",.local),(S "j",.local),(S "b",.cell),(S "own",.cell)]:=rfl;have hc:(uh (HD x0 x1 x2 x3 own L r t).length).cells=[(S "own",6),(S "b",(HD x0 x1 x2 x3 own L r t).length+1)]:=rfl;have hq:(uh (HD x0 x1 x2 x3 own L r t).length).quiet=true:=rfl;generalize uh (HD x0 x1 x2 x3 own L r t).length=ae at hn hc hq;have hl:=rA x0 x1 x2 x3 own L r (t++aR::.cell (some (.int (b:Nat)))::u);have eb:(HD x0 x1 x2 x3 own L r (t++aR::.cell (some (.int (b:Nat)))::u++ .list acc::u2))[(HD x0 x1 x2 x3 own L r t).length+1]?=some (.cell (some (.int (b:Nat)))):=by rw [List.append_assoc];exact B8 _ _ _ _ _ _ _ _ _ _ _
 have e6:=Ja x0 x1 x2 x3 own L r (t++aR::.cell (some (.int (b:Nat)))::u++ .list acc::u2);have eg:=get_own (x0:=x0) (x1:=x1) (x2:=x2) (x3:=x3) (L:=L) (r:=r) (t:=t++aR::.cell (some (.int (b:Nat)))::u++ .list acc::u2) h0 h1;generalize (HD x0 x1 x2 x3 own L r t).length+1=B1 at hc eb;refine ⟨put lo (S "j") (.int j),?_⟩;generalize hx:kE=xe
 conv at hx=>lhs;whnf
 subst hx;simp only [rC,rD];refine jV (s1:=⟨put lo (S "j") (.int j),HD x0 x1 x2 x3 own L r (t++aR::.cell (some (.int (b:Nat)))::u)++ .list acc::u2⟩) (s2:=⟨put lo (S "j") (.int j),HD x0 x1 x2 x3 own L r (t++aR::.cell (some (.int (b:Nat)))::u)++ .list acc::u2⟩) ?_ ?_ rfl ?_ (by omega) (by show 6≤_;(exact Nat.le_add_left ..))
 ·exact gu (cg (by rw [hn];rfl))
 ·rfl
 ·rw [gK];cases hv:cB own (.int j) with
  |int v=>
   rw [hv] at eg;exact MG (bD rfl (bV (bV (bS rfl (aq (aX (by rw [hn];rfl) (by rw [hc];rfl) e6)) (aq (az (by rw [hn];rfl) b8)) eg) (aq (aX (by rw [hn];rfl) (by rw [hc];rfl) eb)) (B9 _ v b)) bx (qu _ _ _)) bx (iV _ _ _))
  |_=>rw [hv] at hI;cases hI
noncomputable def um (own:List AV) (L:List Int):Prop:=∀ j∈L,Jf (cB own (.int j))=true
theorem Wu {x0 x1 x2 x3 own:List AV} {L:List Int} {r:Option AV} {t u:AH} {aR:AO} {lo:List (Str×AV)} {b n:Nat} (hL:L.length≤15) (hp:Pl own L) (hI:um own L):∃ t',(run (CQ 6) (n+40)).ev kE (iK (HD x0 x1 x2 x3 own (L.map .int) r t).length) ⟨lo,HD x0 x1 x2 x3 own (L.map .int) r (t++aR::.cell (some (.int (b:Nat)))::u)⟩=some (.loc (HD x0 x1 x2 x3 own (L.map .int) r (t++aR::.cell (some (.int (b:Nat)))::u)).length,⟨lo,HD x0 x1 x2 x3 own (L.map .int) r (t++aR::.cell (some (.int (b:Nat)))::(u++ .list ((L.map .int).map fun x=>.bool (eY (cB own x) b))::t'))⟩):=by
 have hn:(iK (HD x0 x1 x2 x3 own (L.map .int) r t).length).names=[(S ".0",.local),(S "b",.cell),(S "leading",.cell),(S "own",.cell)]:=rfl;have hc:(iK (HD x0 x1 x2 x3 own (L.map .int) r t).length).cells=[(S "b",(HD x0 x1 x2 x3 own (L.map .int) r t).length+1),(S "own",6),(S "leading",7)]:=rfl;have hi:iter (CQ 6) (run (CQ 6) (n+39)) (iK (HD x0 x1 x2 x3 own (L.map .int) r t).length) (gE kE).iter ⟨lo,HD x0 x1 x2 x3 own (L.map .int) r (t++aR::.cell (some (.int (b:Nat)))::u)⟩=some (.lst 9 0,⟨lo,HD x0 x1 x2 x3 own (L.map .int) r (t++aR::.cell (some (.int (b:Nat)))::u)⟩):=by
  have e7:=tZ x0 x1 x2 x3 own (L.map .int) r (t++aR::.cell (some (.int (b:Nat)))::u);have e9:=nK x0 x1 x2 x3 own (L.map .int) r (t++aR::.cell (some (.int (b:Nat)))::u);generalize iK (HD x0 x1 x2 x3 own (L.map .int) r t).length=ae at hn hc;generalize hx:(gE kE).iter=xe
  conv at hx=>lhs;whnf
  subst hx;exact mZ rfl rfl rfl rfl (aq (aX (by rw [hn];rfl) (by rw [hc];rfl) e7)) e9
 refine Exists.elim (lu (C:=CQ 6) (e:=kE) (g:=gE kE) (gens:=[]) (sc:=gv kE) (ae:=iK (HD x0 x1 x2 x3 own (L.map .int) r t).length) (cl:=[(S "own",6),(S "b",(HD x0 x1 x2 x3 own (L.map .int) r t).length+1)]) AO.list (fun u=>True) (fun acc x=>acc++[.bool (eY (cB own x) b)]) (n+20) (L.map .int) [] rfl rfl hi rfl rfl (by rw [List.length_map];lia) (nJ (nK _ _ _ _ _ _ _ _) _ 0 (List.drop_zero)) trivial ?_) fun t' ht=>?_
 ·intro pre x post hpp k u2 lo' _;refine aC (List.mem_map.mp (nL hpp)) fun j hj q1=>?_;subst q1;have hlen:=rF (f:=fun x=>.bool (eY (cB own x) b)) hpp (by rw [List.length_map];(exact Nat.le_trans hL (by decide)));refine aJ (Wt (x0:=x0) (x1:=x1) (x2:=x2) (x3:=x3) (own:=own) (L:=L.map .int) (r:=r) (t:=t) (u:=u) (u2:=u2) (aR:=aR) (b:=b) (lo:=lo') (n:=n+k) hlen (hp j hj).1 (hp j hj).2 (hI j hj)) fun lo2 w=>?_;refine ⟨lo2,u2,trivial,?_⟩;rw [List.foldl_append,show n+20+k=n+k+20 by (exact Nat.add_right_comm ..)];exact w
 ·refine aN ht fun q1 w=>?_;clear q1;refine ⟨t',?_⟩;rw [fold_map,List.nil_append,gK,List.append_assoc] at w;exact w
noncomputable def eZ (own:List AV) (L:List Int) (b:Nat):Bool:=match L with
 |[]=>false
 |j::r=>eY (cB own (.int j)) b||eZ own r b
theorem Jg (own:List AV) (b:Nat):∀ L:List Int,j4 (.bool true) ((L.map .int).map fun x=>.bool (eY (cB own x) b))=some (eZ own L b)
 |[]=>rfl
 |j::r=>by
  refine (zf rfl (Jg own b r)).trans ?_;show some ((true==eY (cB own (.int j)) b)||eZ own r b)=some (eY (cB own (.int j)) b||eZ own r b);cases eY (cB own (.int j)) b <;>rfl
noncomputable def keepR (own:List AV) (L:List Int) (x:AV) (acc:List AV):List AV:=match x with
 | .int i=>(match eZ own L i.toNat with|true=>acc++[.int i]|false=>acc)
 |_=>acc
theorem rG (k:lk ae.names z=some .cell) (h1:lk ae.cells z=some l) (h2:h[l]?=some (.cell w)) (h3:bL h C.ro l (.cell (some v))=some h'):store C ae z v ⟨g,h⟩=some ⟨g,h'⟩:=aG k (aG h1 (aG (congrArg nW h2) (aG h3 rfl)))
theorem Jh (h:R.tr c ae s=some (q,s1)):iP R ae [c] s=some (q,s1):=bG h (by cases q <;>rfl)
theorem Wv {x0 x1 x2 x3 own:List AV} {L:List Int} {r:Option AV} {t u:AH} {v:Option AV} {lo:List (Str×AV)} {b n:Nat} {acc:List AV} (ha:acc.length<1000) (hL:L.length≤15) (hp:Pl own L) (hI:um own L):∃ lo' u',turn (CQ 6) (run (CQ 6) (n+60)) gw 0 (gE gw) [.int (b:Nat)] (HD x0 x1 x2 x3 own (L.map .int) r t).length (iK (HD x0 x1 x2 x3 own (L.map .int) r t).length) ⟨lo,HD x0 x1 x2 x3 own (L.map .int) r t++ .list acc::.cell v::u⟩=some ⟨lo',HD x0 x1 x2 x3 own (L.map .int) r t++ .list (keepR own L (.int (b:Nat)) acc)::.cell (some (.int (b:Nat)))::u'⟩:=by
 have hn:(iK (HD x0 x1 x2 x3 own (L.map .int) r t).length).names=[(S ".0",.local),(S "b",.cell),(S "leading",.cell),(S "own",.cell)]:=rfl;have hc:(iK (HD x0 x1 x2 x3 own (L.map .int) r t).length).cells=[(S "b",(HD x0 x1 x2 x3 own (L.map .int) r t).length+1),(S "own",6),(S "leading",7)]:=rfl;have hl:=rA x0 x1 x2 x3 own (L.map .int) r t;refine aJ (Wu (x0:=x0) (x1:=x1) (x2:=x2) (x3:=x3) (own:=own) (r:=r) (t:=t) (u:=u) (aR:=.list acc) (lo:=lo) (b:=b) (n:=n+19) hL hp hI) fun u' w=>?_;have e1:=B8 x0 x1 x2 x3 own (L.map .int) r t (.list acc) (.cell v) u;have Ji:bL (HD x0 x1 x2 x3 own (L.map .int) r (t++ .list acc::.cell v::u)) (CQ 6).ro ((HD x0 x1 x2 x3 own (L.map .int) r t).length+1) (.cell (some (.int (b:Nat))))=some (HD x0 x1 x2 x3 own (L.map .int) r (t++ .list acc::.cell (some (.int (b:Nat)))::u)):=by unfold bL;rw [Nat.ble_eq_true_of_le (show (CQ 6).ro≤_ from by show 6≤_;(exact Nat.le_add_left ..)),e1,Ws]
 have e2:=B8 x0 x1 x2 x3 own (L.map .int) r t (.list acc) (.cell (some (.int (b:Nat)))) (u++ .list ((L.map .int).map fun x=>.bool (eY (cB own x) b))::u');have e3:(HD x0 x1 x2 x3 own (L.map .int) r (t++AO.list acc::.cell (some (.int (b:Nat)))::(u++ .list ((L.map .int).map fun x=>.bool (eY (cB own x) b))::u')))[(HD x0 x1 x2 x3 own (L.map .int) r (t++AO.list acc::.cell (some (.int (b:Nat)))::u)).length]?=some (.list ((L.map .int).map fun x=>.bool (eY (cB own x) b))):=by rw [show t++AO.list acc::.cell (some (.int (b:Nat)))::(u++ .list ((L.map .int).map fun x=>.bool (eY (cB own x) b))::u')=(t++AO.list acc::.cell (some (.int (b:Nat)))::u)++ .list ((L.map .int).map fun x=>.bool (eY (cB own x) b))::u' by simp,← gK];exact jB _ _ _
 have e4:=ug (.bool true) e3;rw [Jg] at e4;refine ⟨lo,u++ .list ((L.map .int).map fun x=>.bool (eY (cB own x) b))::u',?_⟩;have kr:keepR own L (.int (b:Nat)) acc=match eZ own L b with|true=>acc++[.int (b:Nat)]|false=>acc:=rfl
 rw [kr];have s1:fC (CQ 6) (iK (HD x0 x1 x2 x3 own (L.map .int) r t).length) (gE gw).target [.int (b:Nat)] ⟨lo,HD x0 x1 x2 x3 own (L.map .int) r t++ .list acc::.cell v::u⟩=some ⟨lo,HD x0 x1 x2 x3 own (L.map .int) r (t++ .list acc::.cell (some (.int (b:Nat)))::u)⟩:=by
  rw [gK];generalize iK (HD x0 x1 x2 x3 own (L.map .int) r t).length=ae at hn hc;generalize hx:(gE gw).target=xe
  conv at hx=>lhs;whnf
  subst hx;generalize (HD x0 x1 x2 x3 own (L.map .int) r t).length+1=B1 at hc e1 Ji;exact gu (rG (by rw [hn];rfl) (by rw [hc];rfl) e1 Ji)
 have s2:iP (run (CQ 6) (n+60)) (iK (HD x0 x1 x2 x3 own (L.map .int) r t).length) (gE gw).ifs ⟨lo,HD x0 x1 x2 x3 own (L.map .int) r (t++ .list acc::.cell (some (.int (b:Nat)))::u)⟩=some (eZ own L b,⟨lo,HD x0 x1 x2 x3 own (L.map .int) r (t++ .list acc::.cell (some (.int (b:Nat)))::(u++ .list ((L.map .int).map fun x=>.bool (eY (cB own x) b))::u'))⟩):=by
  generalize iK (HD x0 x1 x2 x3 own (L.map .int) r t).length=ae at hn hc w;generalize hx:(gE gw).ifs=xe
  conv at hx=>lhs;whnf
  generalize mH:kE=xb at w
  conv at mH=>lhs;whnf
  subst hx;subst mH;exact Jh (bF (bD rfl E2 w ((uf _ _ _).trans e4)))
 cases hv:eZ own L b with
 |false=>
  rw [hv] at s2;rw [tY s1 s2,gK]
 |true=>
  rw [hv] at s2;generalize hx:gw=xe at s1 s2;have Ig:=hx
  conv at hx=>lhs;whnf
  generalize iK (HD x0 x1 x2 x3 own (L.map .int) r t).length=ae at hn hc w s1 s2;subst hx;refine jV (s1:=⟨lo,HD x0 x1 x2 x3 own (L.map .int) r (t++ .list acc::.cell (some (.int (b:Nat)))::u)⟩) (s2:=⟨lo,HD x0 x1 x2 x3 own (L.map .int) r (t++ .list acc::.cell (some (.int (b:Nat)))::(u++ .list ((L.map .int).map fun x=>.bool (eY (cB own x) b))::u'))⟩) s1 s2 rfl ?_ (by (exact Nat.lt_of_lt_of_le ha (by decide))) (by show 6≤_;(exact Nat.le_add_left ..));rw [gK];generalize (HD x0 x1 x2 x3 own (L.map .int) r t).length+1=B1 at hc e2;exact aq (aX (by rw [hn];rfl) (by rw [hc];rfl) e2)
noncomputable def Jj:List Int:=[8,7,6,5,4,3,2,1,0]
noncomputable def bC:List Nat:=[8,7,6,5,4,3,2,1,0]
theorem xU:dj 8 (-1) 9=Jj:=rfl
theorem xV:Jj=bC.map fun b=>((b:Nat):Int):=rfl
theorem Jk:jJ [.int 8,.int (-1),.int (-1)]=some (8, -1, -1):=rfl
theorem Jl:Builtin.Range.rangeSize 8 (-1) (-1)=((9:Nat):Int):=rfl
theorem Ww {x0 x1 x2 x3 own:List AV} {L:List Int} {r:Option AV} {t:AH} {lo:List (Str×AV)} {n:Nat} (hL:L.length≤15) (hp:Pl own L) (hI:um own L):∃ t',(run (CQ 6) (n+75)).ev gw bU ⟨lo,HD x0 x1 x2 x3 own (L.map .int) r t⟩=some (.loc (HD x0 x1 x2 x3 own (L.map .int) r t).length,⟨lo,HD x0 x1 x2 x3 own (L.map .int) r (t++ .list ((bC.filter (eZ own L)).map fun b=>.int (b:Nat))::t')⟩):=by
 have hn:bw.names=bw.names:=rfl
 conv at hn=>rhs;whnf
 have hi:iter (CQ 6) (run (CQ 6) (n+74)) bU (gE gw).iter ⟨lo,HD x0 x1 x2 x3 own (L.map .int) r t⟩=some (.range 8 ((9:Nat):Int) (-1),⟨lo,HD x0 x1 x2 x3 own (L.map .int) r t⟩):=by
  have e:cJ (run (CQ 6) (n+74)) bU (match bQ (CQ 6) bU (gE gw).iter with|some as=>as|none=>[]) ⟨lo,HD x0 x1 x2 x3 own (L.map .int) r t⟩=some ([.int 8,.int (-1),.int (-1)],⟨lo,HD x0 x1 x2 x3 own (L.map .int) r t⟩):=by
   generalize hb:(match bQ (CQ 6) bU (gE gw).iter with|some as=>as|none=>[])=bd
   conv at hb=>lhs;whnf
   subst hb;rfl
  rw [jU (as:=match bQ (CQ 6) bU (gE gw).iter with|some as=>as|none=>[]) rfl e Jk,Jl]
 refine Exists.elim (lu (C:=CQ 6) (e:=gw) (g:=gE gw) (gens:=[]) (sc:=gv gw) (ae:=bU) (cl:=[(S "own",6),(S "leading",7)]) AO.list (fun u=>∃ v u',u=.cell v::u') (fun acc x=>keepR own L x acc) (n+60) ((dj 8 (-1) 9).map .int) [] rfl rfl hi rfl rfl (by show n+60+9+1≤_;lia) (mG 9 8) ⟨none,[],rfl⟩ ?_) fun t' ht=>?_
 ·intro pre x post hpp k u lo' hu;refine dX hu fun v u1 q1=>?_;subst q1;rw [xU,xV,List.map_map] at hpp;refine aC (List.mem_map.mp (nL hpp)) fun b hb q1=>?_;subst q1;have hlen:(pre.foldl (fun acc x=>keepR own L x acc) []).length<1000:=by
   have:∀(pre acc:List AV),(pre.foldl (fun acc x=>keepR own L x acc) acc).length≤acc.length+pre.length:=by
    intro pre;induction pre with
    |nil=>intro acc;simp
    |cons x pre ih=>
     intro acc;rw [List.foldl_cons];refine Nat.le_trans (ih _) ?_;have:(keepR own L x acc).length≤acc.length+1:=by
      unfold keepR;split
      ·split <;>simp
      ·(exact Nat.le_add_right ..)
     simp;lia
   have h1:=this pre [];have h2:=congrArg List.length hpp;simp [bC] at h1 h2;lia
  refine dX (Wv (x0:=x0) (x1:=x1) (x2:=x2) (x3:=x3) (own:=own) (L:=L) (r:=r) (t:=t) (u:=u1) (v:=v) (b:=b) (lo:=lo') (n:=n+k) hlen hL hp hI) fun lo2 u2 w=>?_;refine ⟨lo2,.cell (some (.int (b:Nat)))::u2,⟨_,_,rfl⟩,?_⟩;rw [List.foldl_append,show n+60+k=n+k+60 by (exact Nat.add_right_comm ..)];exact w
 ·refine aN ht fun q1 w=>?_;clear q1;refine ⟨t',?_⟩;have hf:∀(l:List Nat) (acc:List AV),(l.map (fun b=>AV.int (b:Nat))).foldl (fun acc x=>keepR own L x acc) acc=acc++(l.filter (eZ own L)).map fun b=>AV.int (b:Nat):=by
   intro l;induction l with
   |nil=>intro acc;simp
   |cons b l ih=>
    intro acc;rw [List.map_cons,List.foldl_cons,ih];have kr:keepR own L (.int (b:Nat)) acc=match eZ own L b with|true=>acc++[.int (b:Nat)]|false=>acc:=rfl
    rw [kr];cases h:eZ own L b with
    |true=>rw [List.filter_cons_of_pos h];simp
    |false=>rw [List.filter_cons_of_neg (by simp [h])]
  rw [xU,xV,List.map_map,show ((AV.int∘fun (b:Nat)=>(b:Int))=fun b=>AV.int (b:Nat)) from rfl,hf,List.nil_append,gK] at w;exact w
noncomputable def gM:PySem.Expr:=(ob (DN (aY bw.body 4)) fun e=>ob e fun e=>ob (uS e) fun es=>ob es.head? fun b=>ob (u6 b) fun q=>ob (nZ q.2.2) fun p=>p.2.1.head?).getD default
noncomputable def fc (RI:List Int) (b:Nat):Str:=match fq RI (b:Nat) with|true=>T [letter b]|false=>T [45]
theorem Jm:Str.ofString "-" =T [45]:=rfl
theorem Wx (hb:b∈bC):strAt (Str.ofString "rwx") (2- Int.fmod (b:Nat) 3)=some (T [letter b]):=by
 have h:bC.all (fun b=>match strAt (Str.ofString "rwx") (2- Int.fmod (b:Nat) 3) with|some s=>lE s.cps.toList [letter b]|none=>false)=true:=rfl;have h:=List.all_eq_true.mp h b hb;cases e:strAt (Str.ofString "rwx") (2- Int.fmod (b:Nat) 3) with
 |none=>rw [e] at h;cases h
 |some s=>
  rw [e] at h;have h:lE s.cps.toList [letter b]=true:=h;rw [qt] at h;have h:=of_decide_eq_true h;congr 1;exact congrArg Str.mk (Array.ext' h)
theorem Wy:lim (Str.ofString "rwx").cps.size=true:=rfl
theorem Wz:iE 3 0=false:=rfl
section
variable {C:Cx} {n:Nat} {ae:au} {s s1 s2:St} {x y c:PySem.Expr} {v:AV} {p:Pos}
theorem WA (hj:lJ x=false) (h:(run C n).tr c ae s=some (true,s1)) (k:(run C n).ev x ae s1=some (v,s2)):(run C (n+1)).ev (.IfExp c x y p) ae s=some (v,s2):=by show mX C (run C n) c x y ae s=_;unfold mX;exact dH (by unfold r8;rw [hj]) (by rw [h];exact k)
theorem WB (hj:lJ x=false) (h:(run C n).tr c ae s=some (false,s1)) (k:(run C n).ev y ae s1=some (v,s2)):(run C (n+1)).ev (.IfExp c x y p) ae s=some (v,s2):=by show mX C (run C n) c x y ae s=_;unfold mX;exact dH (by unfold r8;rw [hj]) (by rw [h];exact k)
theorem Jo (hn:(noStar es&&lim es.length)=true) (e:cJ (run C n) ae es s=some (vs,⟨g,h⟩)):(run C (n+1)).ev (.Tuple es k p) ae s=some (.loc h.length,⟨g,h++[.tup vs]⟩):=by show n7 (run C n) .tup es ae s=_;unfold n7;rw [hn];dsimp only;rw [e]
theorem Ca (h0:iE b 0=false):binop h .Mod (.int a) (.int b)=some (.int (Int.fmod a b),h):=(MA h a b).trans (by rw [h0])
end
theorem WC {base u:AH} {RI:List Int} {R b n:Nat} {acc:List AV} {lo:List (Str×AV)} (e8:base[8]?=some (.cell (some (.loc R)))) (eR:base[R]?=some (.list (RI.map .int))) (hb:b∈bC) (ha:acc.length<1000):∃ lo',turn (CQ 6) (run (CQ 6) (n+20)) gM 0 (gE gM) [.int (b:Nat)] base.length (cA bU gM [(S "rights",8)]) ⟨lo,base++ .list acc::u⟩=some ⟨lo',base++ .list (acc++[.str (fc RI b)])::u⟩:=by
 have hn:(cA bU gM [(S "rights",8)]).names=[(S ".0",.local),(S "b",.local),(S "rights",.cell)]:=rfl;have hc:(cA bU gM [(S "rights",8)]).cells=[(S "rights",8)]:=rfl;have hq:(cA bU gM [(S "rights",8)]).quiet=true:=rfl;generalize cA bU gM [(S "rights",8)]=ae at hn hc hq;have hl:6≤base.length:=by have:=(List.getElem?_eq_some_iff.mp e8).1;(exact Nat.lt_of_le_of_lt (Nat.le_add_left ..) this)
 have xW:=mD (t:=.list acc::u) e8;have Cb:=mD (t:=.list acc::u) eR;have ei:=ug (.int (b:Nat)) Cb;rw [ue] at ei;have hs:=Wx hb;refine ⟨put lo (S "b") (.int (b:Nat)),?_⟩;generalize hx:gM=xe
 conv at hx=>lhs;whnf
 subst hx;simp only [rC,rD];refine jV (s1:=⟨put lo (S "b") (.int (b:Nat)),base++ .list acc::u⟩) (s2:=⟨put lo (S "b") (.int (b:Nat)),base++ .list acc::u⟩) ?_ ?_ rfl ?_ (by (exact Nat.lt_of_lt_of_le ha (by decide))) (by show 6≤_;omega)
 ·exact gu (cg (by rw [hn];rfl))
 ·rfl
 ·cases hin:fq RI (b:Nat) with
  |true=>
   rw [show fc RI b=T [letter b] by unfold fc;rw [hin]];exact WA rfl (bF (bD rfl (aq (az (by rw [hn];rfl) b8)) (aq (aX (by rw [hn];rfl) (by rw [hc];rfl) xW)) ((uf _ _ _).trans (ei.trans (congrArg some hin))))) (bS rfl (jN Wy) (bV bx (bV (aq (az (by rw [hn];rfl) b8)) bx (Ca Wz)) (nh _ _ _)) ((ow _ _ _).trans (by rw [hs])))
  |false=>
   rw [show fc RI b=T [45] by unfold fc;rw [hin],← Jm];exact WB rfl (bF (bD rfl (aq (az (by rw [hn];rfl) b8)) (aq (aX (by rw [hn];rfl) (by rw [hc];rfl) xW)) ((uf _ _ _).trans (ei.trans (congrArg some hin))))) (jN rfl)
theorem WD {base:AH} {RI:List Int} {R n:Nat} {lo:List (Str×AV)} (e8:base[8]?=some (.cell (some (.loc R)))) (eR:base[R]?=some (.list (RI.map .int))):∃ t',(run (CQ 6) (n+55)).ev gM bU ⟨lo,base⟩=some (.loc base.length,⟨lo,base++ .list (bC.map fun b=>.str (fc RI b))::t'⟩):=by
 have hn:bw.names=bw.names:=rfl
 conv at hn=>rhs;whnf
 have hi:iter (CQ 6) (run (CQ 6) (n+54)) bU (gE gM).iter ⟨lo,base⟩=some (.range 8 ((9:Nat):Int) (-1),⟨lo,base⟩):=by
  have e:cJ (run (CQ 6) (n+54)) bU (match bQ (CQ 6) bU (gE gM).iter with|some as=>as|none=>[]) ⟨lo,base⟩=some ([.int 8,.int (-1),.int (-1)],⟨lo,base⟩):=by
   generalize hb:(match bQ (CQ 6) bU (gE gM).iter with|some as=>as|none=>[])=bd
   conv at hb=>lhs;whnf
   subst hb;rfl
  rw [jU (as:=match bQ (CQ 6) bU (gE gM).iter with|some as=>as|none=>[]) rfl e Jk,Jl]
 refine Exists.elim (lu (C:=CQ 6) (e:=gM) (g:=gE gM) (gens:=[]) (sc:=gv gM) (ae:=bU) (cl:=[(S "rights",8)]) AO.list (fun u=>True) (fun acc x=>acc++[match x with| .int i=>.str (fc RI i.toNat)|v=>v]) (n+20) ((dj 8 (-1) 9).map .int) [] rfl rfl hi rfl rfl (by show n+20+9+1≤_;lia) (mG 9 8) trivial ?_) fun t' ht=>?_
 ·intro pre x post hpp k u lo' hu;rw [xU,xV,List.map_map] at hpp;refine aC (List.mem_map.mp (nL hpp)) fun b hb q1=>?_;subst q1;have hlen:=rF (f:=fun x=>match x with| .int i=>.str (fc RI i.toNat)|v=>v) hpp (by simp [bC]);refine aJ (WC (base:=base) (RI:=RI) (R:=R) (u:=u) (b:=b) (lo:=lo') (n:=n+k) e8 eR hb hlen) fun lo2 w=>?_;refine ⟨lo2,u,trivial,?_⟩;rw [List.foldl_append,show n+20+k=n+k+20 by (exact Nat.add_right_comm ..)];exact w
 ·refine aN ht fun q1 w=>?_;clear q1;refine ⟨t',?_⟩;rw [fold_map (fun x=>match x with| .int i=>.str (fc RI i.toNat)|v=>v),xU,xV,List.nil_append,List.map_map,List.map_map] at w;exact w
theorem Cc (a b:List Nat):T a++T b=T (a++b):=by apply Str.ext';rw [Str.cps_append];show a.toArray++b.toArray=(a++b).toArray;simp
theorem Jq:∀ l:List Nat,Str.join (Str.ofString "") (l.map fun c=>T [c])=T l
 |[]=>by kernel_rfl
 |[x]=>rfl
 |x::y::l=>by
  have e:Str.join (Str.ofString "") ((x::y::l).map fun c=>T [c])=T [x]++Str.ofString "" ++Str.join (Str.ofString "") ((y::l).map fun c=>T [c]):=rfl;rw [e,Jq (y::l),show Str.ofString "" =T [] by kernel_rfl,Cc,Cc];rfl
theorem WE (l:List Nat):Txt.join (Str.ofString "") (l.map fun c=>T [c])=T l:=by show Builtin.Str.glued (Str.ofString "") _=_;rw [StrLaws.glued_eq_join,Jq]
noncomputable def ie (RI:List Int) (b:Nat):Nat:=match fq RI (b:Nat) with|true=>letter b|false=>45
theorem Jr (RI:List Int) (b:Nat):fc RI b=T [ie RI b]:=by unfold fc ie;cases fq RI (b:Nat) <;>rfl
theorem strs_map (f:Nat→Str):∀ l:List Nat,strsOf (l.map fun b=>.str (f b))=some (l.map f)
 |[]=>rfl
 |b::l=>by
  exact LI (strs_map f l)
theorem xX (hl:lim (a.cps.size+b.cps.size)=true):binop h .Add (.str a) (.str b)=some (.str (a++b),h):=by exact aG (a:=a++b) (by show (match true&&lim (a.cps.size+b.cps.size) with|true=>some (a++b)|false=>none)=_;rw [hl];rfl) rfl
theorem Js (f:Nat→Nat):∀ l:List Nat,lG (l.map fun b=>T [f b])=l.length
 |[]=>rfl
 |b::l=>by
  show 1+lG (l.map fun b=>T [f b])=_;rw [Js f l,List.length_cons];(exact Nat.add_comm ..)
theorem Cd (e:h[l]?=some (.list vs)) (hl:vs.length≤16384):(run C (n+1)).ca (.fix (.builtin "len")) [.loc l] h=some (.int (vs.length:Nat),h):=by show ob (nX h (.loc l)) (fun vs=>match Nat.ble vs.length 16384 with|true=>some (AV.int (vs.length:Nat),h)|false=>none)=_;exact aG (LH e) (by rw [Nat.ble_eq_true_of_le hl])
theorem WG {base:AH} {RI:List Int} {R n:Nat} {lo:List (Str×AV)} (e8:base[8]?=some (.cell (some (.loc R)))) (eR:base[R]?=some (.list (RI.map .int))) (hR:RI.length≤10):∃ H,(run (CQ 6) (n+62)).ex (bw.body.drop 4) bU ⟨lo,base⟩=some (.ret (.loc H.length),⟨lo,H++[.tup [.str (T (45::bC.map (ie RI))),.int (RI.length:Nat)]]⟩)∧6≤H.length:=by
 have hn:bw.names=bw.names:=rfl
 conv at hn=>rhs;whnf
 refine aJ (WD (n:=n+3) (lo:=lo) e8 eR) fun t' w=>?_;have hl:6≤base.length:=by have:=(List.getElem?_eq_some_iff.mp e8).1;(exact Nat.lt_of_le_of_lt (Nat.le_add_left ..) this)
 refine ⟨base++ .list (bC.map fun b=>.str (fc RI b))::t',?_,by simp;(exact Nat.lt_of_lt_of_le hl (Nat.le_add_right ..))⟩;have xW:=mD (t:=.list (bC.map fun b=>.str (fc RI b))::t') e8;have Cb:=mD (t:=.list (bC.map fun b=>.str (fc RI b))::t') eR;have el:gR (base++ .list (bC.map fun b=>.str (fc RI b))::t') (.loc base.length)=some (bC.map fun b=>.str (fc RI b)):=sA (jB _ _ _);have hj:Txt.join (Str.ofString "") (bC.map (fc RI))=T (bC.map (ie RI)):=by rw [show bC.map (fc RI)=(bC.map (ie RI)).map fun c=>T [c] by rw [List.map_map];exact List.map_congr_left fun b _=>Jr RI b,WE]
 have hlim:(lim (lG (bC.map (fc RI))+(bC.map (fc RI)).length*(Str.ofString "").cps.size)&&lim (T (bC.map (ie RI))).cps.size)=true:=by rw [show bC.map (fc RI)=bC.map (fun b=>T [ie RI b]) from List.map_congr_left fun b _=>Jr RI b,Js];rfl
 have mj:j6 (CQ 6) (base++ .list (bC.map fun b=>.str (fc RI b))::t') .join (.str (Str.ofString "")) [.loc base.length]=some (.str (T (bC.map (ie RI))),base++ .list (bC.map fun b=>.str (fc RI b))::t'):=(DY el (strs_map _ _) (by rw [hj];exact hlim)).trans (by rw [hj]);have ha:∀ h,binop h .Add (.str (T [45])) (.str (T (bC.map (ie RI))))=some (.str (T (45::bC.map (ie RI))),h):=fun h=>by rw [xX (by rfl),Cc];rfl
 have ha2:∀ h,binop h .Add (.str (Str.ofString "-")) (.str (T (bC.map (ie RI))))=some (.str (T (45::bC.map (ie RI))),h):=fun h=>by rw [Jm];exact ha h
 have hlen:=fun (n:Nat)=>(Cd (C:=CQ 6) (n:=n) Cb (by rw [List.length_map];(exact Nat.le_trans hR (by decide)))).trans (by rw [List.length_map]);have ld:lim (T [45]).cps.size=true:=rfl;have l0:lim (Str.ofString "").cps.size=true:=rfl;have l2:lim 2=true:=rfl;rw [show bw.body.drop 4=[aY bw.body 4] from rfl];refine v8 (n:=n+61) ?_;generalize hb:aY bw.body 4=bd
 conv at hb=>lhs;whnf
 generalize hx:gM=xt at w
 conv at hx=>lhs;whnf
 subst hb;subst hx;exact jQ (Jo rfl (bq (bV (jN rfl) (nu rfl (jN l0) rfl (EZ _ _) rfl (bq w bJ) mj) (ha2 _)) (bq (cX (bR rfl rfl) rfl rfl (bq (aq (aX rfl rfl xW)) bJ) rfl (fH _ "len") (hlen _)) bJ)))
noncomputable def gO (k:Nat):Str:=Str.ofString (toString ((k:Nat):Int))
noncomputable def failK (k:Nat):Str:=Str.ofString "<file " ++gO k++Str.ofString " filemode() failed>"
theorem WH:((List.range 4).all fun k=>small ((k:Nat):Int)&&lim (gO k).cps.size&&lim ((Str.ofString "<file ").cps.size+(gO k).cps.size)&&lim ((Str.ofString "<file " ++gO k).cps.size+(Str.ofString " filemode() failed>").cps.size))=true:=rfl
theorem Jt (C:Cx) (R:Rec) (ae:au) (as:List PySem.Expr) (s:St):mW C R ae (.type "str") as s=none:=rfl
theorem WI:(run C (n+2)).ev (.UnaryOp .USub (.Constant (.int i) k q) p) ae s=some (.int (-i),s):=rfl
theorem WJ {x0 x1 x2 x3:List AV} {os:List (Option Int)} {L:List Int} {t:AH} {k n:Nat} {lo:List (Str×AV)} (hk:k<4) (hL:L.length≤15) (hp:Pl (os.map aP) L) (h1:lk lo (S "k")=some (.int (k:Nat))) (hnone:jW os L=true):∃ H,(run (CQ 6) (n+68)).ex (bw.body.drop 2) bU ⟨lo,HD x0 x1 x2 x3 (os.map aP) (L.map .int) none t⟩=some (.ret (.loc H.length),⟨lo,H++[.tup [.str (failK k),.int (-1)]]⟩)∧6≤H.length:=by
 have hn:bw.names=bw.names:=rfl
 conv at hn=>rhs;whnf
 have hc:=List.all_eq_true.mp WH k (List.mem_range.mpr hk);rw [Bool.and_eq_true,Bool.and_eq_true,Bool.and_eq_true] at hc;refine aN hc fun q1 c4=>?_;refine aN q1 fun q2 c3=>?_;refine aN q2 fun c1 c2=>?_;refine aJ (Je (x0:=x0) (x1:=x1) (x2:=x2) (x3:=x3) (r:=none) (t:=t) (lo:=lo) (n:=n+6) hL hp) fun t' w=>?_;have hl:=rA x0 x1 x2 x3 (os.map aP) (L.map .int) none (t++ .list ((L.map .int).map (cB (os.map aP)))::t');refine ⟨HD x0 x1 x2 x3 (os.map aP) (L.map .int) none (t++ .list ((L.map .int).map (cB (os.map aP)))::t'),?_,by (exact Nat.le_add_left ..)⟩;have e3:(HD x0 x1 x2 x3 (os.map aP) (L.map .int) none (t++ .list ((L.map .int).map (cB (os.map aP)))::t'))[(HD x0 x1 x2 x3 (os.map aP) (L.map .int) none t).length]?=some (.list ((L.map .int).map (cB (os.map aP)))):=by rw [← gK];exact jB _ _ _
 have e4:=ug (.str (S "none")) e3;rw [B7 hp,hnone] at e4;have hstr:∀(n:Nat) (h:AH),(run (CQ 6) (n+1)).ca (.fix (.type "str")) [.int (k:Nat)] h=some (.str (gO k),h):=fun n h=>by show (match small ((k:Nat):Int)&&lim (gO k).cps.size with|true=>some (AV.str (gO k),h)|false=>none)=_;rw [c1,c2];rfl
 have ha1:∀ h,binop h .Add (.str (Str.ofString "<file ")) (.str (gO k))=some (.str (Str.ofString "<file " ++gO k),h):=fun h=>xX c3;have ha2:∀ h,binop h .Add (.str (Str.ofString "<file " ++gO k)) (.str (Str.ofString " filemode() failed>"))=some (.str (failK k),h):=fun h=>xX c4;have l1:lim (Str.ofString "<file ").cps.size=true:=rfl;have l2:lim (Str.ofString " filemode() failed>").cps.size=true:=rfl;have l3:lim 2=true:=rfl;have l4:lim (Str.ofString "none").cps.size=true:=rfl;rw [show bw.body.drop 2=[aY bw.body 2,aY bw.body 3,aY bw.body 4] from rfl];refine v8 (n:=n+67) ?_;generalize hb:aY bw.body 2=bd
 conv at hb=>lhs;whnf
 generalize hx:g9=xt at w
 conv at hx=>lhs;whnf
 subst hb;subst hx;simp only [S] at h1 e4;exact jR (bF (bD rfl (jN l4) w ((uf _ _ _).trans e4))) (iW (jQ (Jo rfl (bq (bV (bV (jN l1) (cX (bR rfl rfl) (Jt _ _ _ _ _) rfl (bq (aq (az rfl h1)) bJ) rfl (EY _ "str") (hstr _ _)) (ha1 _)) (jN l2) (ha2 _)) (bq WI bJ)))))
theorem WK (x0 x1 x2 x3 own L:List AV) (r r':Option AV) (t:AH):(HD x0 x1 x2 x3 own L r t).set 8 (.cell r')=HD x0 x1 x2 x3 own L r' t:=rfl
theorem WL {x0 x1 x2 x3:List AV} {os:List (Option Int)} {L:List Int} {t:AH} {n:Nat} {lo:List (Str×AV)} (hL:L.length≤15) (hp:Pl (os.map aP) L) (hI:um (os.map aP) L) (hnone:jW os L=false):∃ H lo',(run (CQ 6) (n+78)).ex (bw.body.drop 2) bU ⟨lo,HD x0 x1 x2 x3 (os.map aP) (L.map .int) none t⟩=some (.ret (.loc H.length),⟨lo',H++[.tup [.str (T (45::bC.map (ie ((bC.filter (eZ (os.map aP) L)).map fun b=>((b:Nat):Int))))),.int ((bC.filter (eZ (os.map aP) L)).length:Nat)]]⟩)∧6≤H.length:=by
 have hn:bw.names=bw.names:=rfl
 conv at hn=>rhs;whnf
 refine aJ (Je (x0:=x0) (x1:=x1) (x2:=x2) (x3:=x3) (r:=none) (t:=t) (lo:=lo) (n:=n+16) hL hp) fun t1 w1=>?_;refine aJ (Ww (x0:=x0) (x1:=x1) (x2:=x2) (x3:=x3) (r:=none) (t:=t++ .list ((L.map .int).map (cB (os.map aP)))::t1) (lo:=lo) (n:=n+1) hL hp hI) fun t2 w2=>?_;generalize hT1:t++ .list ((L.map .int).map (cB (os.map aP)))::t1=T1 at w1 w2;have e3:(HD x0 x1 x2 x3 (os.map aP) (L.map .int) none T1)[(HD x0 x1 x2 x3 (os.map aP) (L.map .int) none t).length]?=some (.list ((L.map .int).map (cB (os.map aP)))):=by rw [← hT1,← gK];exact jB _ _ _
 have e4:=ug (.str (S "none")) e3;rw [B7 hp,hnone] at e4;have l4:lim (Str.ofString "none").cps.size=true:=rfl;generalize WM:bC.filter (eZ (os.map aP) L)=RN at w2;have WN:RN.length≤9:=by rw [← WM];exact List.length_filter_le _ _
 have em:RN.map (fun b=>AV.int ((b:Nat):Int))=(RN.map fun b=>((b:Nat):Int)).map .int:=by rw [List.map_map];rfl
 have eR:(HD x0 x1 x2 x3 (os.map aP) (L.map .int) (some (.loc (HD x0 x1 x2 x3 (os.map aP) (L.map .int) none T1).length)) (T1++ .list (RN.map fun b=>AV.int ((b:Nat):Int))::t2))[(HD x0 x1 x2 x3 (os.map aP) (L.map .int) none T1).length]?=some (.list ((RN.map fun b=>((b:Nat):Int)).map .int)):=by rw [← em,← gK];exact jB (HD x0 x1 x2 x3 (os.map aP) (L.map .int) (some (.loc (HD x0 x1 x2 x3 (os.map aP) (L.map .int) none T1).length)) T1) _ _
 have e8:=Jb x0 x1 x2 x3 (os.map aP) (L.map .int) none (T1++ .list (RN.map fun b=>AV.int ((b:Nat):Int))::t2);have WO:bL (HD x0 x1 x2 x3 (os.map aP) (L.map .int) none (T1++ .list (RN.map fun b=>AV.int ((b:Nat):Int))::t2)) (CQ 6).ro 8 (.cell (some (.loc (HD x0 x1 x2 x3 (os.map aP) (L.map .int) none T1).length)))=some (HD x0 x1 x2 x3 (os.map aP) (L.map .int) (some (.loc (HD x0 x1 x2 x3 (os.map aP) (L.map .int) none T1).length)) (T1++ .list (RN.map fun b=>AV.int ((b:Nat):Int))::t2)):=by unfold bL;rw [show Nat.ble (CQ 6).ro 8=true from rfl,e8,WK]
 refine aC (WG (n:=n+14) (lo:=lo) (Jb x0 x1 x2 x3 (os.map aP) (L.map .int) (some (.loc (HD x0 x1 x2 x3 (os.map aP) (L.map .int) none T1).length)) (T1++ .list (RN.map fun b=>AV.int ((b:Nat):Int))::t2)) eR (by rw [List.length_map];(exact Nat.le_succ_of_le WN))) fun H w3 h6=>?_;rw [List.length_map] at w3;refine ⟨H,lo,?_,h6⟩;rw [show bw.body.drop 2=aY bw.body 2::aY bw.body 3::bw.body.drop 4 from rfl];refine (eW (n:=n+77) (s1:=⟨lo,HD x0 x1 x2 x3 (os.map aP) (L.map .int) none T1⟩) ?_).trans ?_
 ·generalize hb:aY bw.body 2=bd
  conv at hb=>lhs;whnf
  generalize hx:g9=xt at w1
  conv at hx=>lhs;whnf
  subst hb;subst hx;simp only [S] at e4;exact d8 (bF (bD rfl (jN l4) w1 ((uf _ _ _).trans e4))) bY
 refine (eW (n:=n+76) (s1:=⟨lo,HD x0 x1 x2 x3 (os.map aP) (L.map .int) (some (.loc (HD x0 x1 x2 x3 (os.map aP) (L.map .int) none T1).length)) (T1++ .list (RN.map fun b=>AV.int ((b:Nat):Int))::t2)⟩) ?_).trans ?_
 ·generalize hb:aY bw.body 3=bd
  conv at hb=>lhs;whnf
  generalize hx:gw=xt at w2
  conv at hx=>lhs;whnf
  subst hb;subst hx;exact fV w2 (rG rfl rfl e8 WO)
 rw [show n+76=n+14+62 by (exact rfl)];exact w3
theorem Ju {x0 x1 x2 x3 own:List AV} {k:Int} {lo:List (Str×AV)} {H:AH} {a:Str} {c:Int} (h6:6≤H.length) (h:(run (CQ 6) FU).ex bw.body bU ⟨[(S "needs",.loc 0),(S "k",.int k)],eX [x0,x1,x2,x3] own++[.cell (some (.loc 5)),.cell none,.cell none]⟩=some (.ret (.loc H.length),⟨lo,H++[.tup [.str a,.int c]]⟩)):fQ (CQ 6) FU bw [.loc 0,.loc 5,.int k] (eX [x0,x1,x2,x3] own)=some (.obj (.tup [.str a,.int c])):=by
 unfold fQ;rw [Wd,h];have e:(H++[AO.tup [.str a,.int c]])[H.length]?=some (.tup [.str a,.int c]):=jB H [] _;show (match oK (.loc H.length) with
  |true=>some (PR.val (AV.loc H.length))
  |false=>match Nat.ble (eX [x0,x1,x2,x3] own).length H.length with
    |true=>match (H++[AO.tup [.str a,.int c]])[H.length]? with
     |some ao=>match Bd ao with|true=>some (PR.obj ao)|false=>none
     |none=>none
    |false=>none)=_
 rw [e,show (eX [x0,x1,x2,x3] own).length=6 from rfl,Nat.ble_eq_true_of_le h6];rfl
noncomputable def Ce (os:List (Option Int)) (k:Nat) (L:List Int):AO:=match jW os L with
 |true=>.tup [.str (failK k),.int (-1)]
 |false=>.tup [.str (T (45::bC.map (ie ((bC.filter (eZ (os.map aP) L)).map fun b=>((b:Nat):Int))))),.int ((bC.filter (eZ (os.map aP) L)).length:Nat)]
theorem WQ {x0 x1 x2 x3:List AV} {N:Nat→List Int} {os:List (Option Int)} {L:List Int} {k:Nat} (hk:k<4) (hx:∀ j,j<4→rB x0 x1 x2 x3 j=(N j).map .int) (hN:∀ j,(N j).length≤4) (hb:rE N 7 0 [(k:Int)]=some L) (hL:L.length≤15) (hp:∀ j∈L,0≤j∧j.toNat<os.length):fQ (CQ 6) FU bw [.loc 0,.loc 5,.int (k:Nat)] (eX [x0,x1,x2,x3] (os.map aP))=some (.obj (Ce os k L)):=by
 have dz:Pl (os.map aP) L:=fun j hj=>by rw [List.length_map];exact hp j hj
 refine dB (Wl (own:=os.map aP) (n:=10) hx hN hb) fun t lo w h1=>?_;unfold Ce;cases hn:jW os L with
 |true=>
  refine aC (WJ (x0:=x0) (x1:=x1) (x2:=x2) (x3:=x3) (t:=t) (n:=10) hk hL dz h1 hn) fun H w2 h6=>?_;exact Ju h6 (w.trans w2)
 |false=>
  have hI:um (os.map aP) L:=by
   intro j hj;refine aN (hp j hj) fun j0 j1=>?_;have e:cB (os.map aP) (.int j)=aP (os.getD j.toNat (some 0)):=by show (os.map aP).getD j.toNat .none=_;rw [List.getD_eq_getElem?_getD,List.getD_eq_getElem?_getD,List.getElem?_map,List.getElem?_eq_getElem j1];rfl
   have hs:(os.getD j.toNat (some 0)).isNone=false:=by
    clear w hb dz hp e;induction L with
    |nil=>cases hj
    |cons i r ih=>
     have hn:((os.getD i.toNat (some 0)).isNone||jW os r)=false:=hn;rw [Bool.or_eq_false_iff] at hn;cases hj with
     |head=>exact hn.1
     |tail _ hj=>exact ih (by simp at hL;(exact Nat.le_succ_of_le hL)) hn.2 hj
   rw [e];cases h:os.getD j.toNat (some 0) with
   |none=>rw [h] at hs;cases hs
   |some i=>rfl
  refine dB (WL (x0:=x0) (x1:=x1) (x2:=x2) (x3:=x3) (t:=t) (n:=0) (lo:=lo) hL dz hI hn) fun H lo' w2 h6=>?_;exact Ju h6 (w.trans w2)
theorem WR (base:AH) (Inv:List AV→AO→AH→Prop) (ba:List AO) (m:Nat) (hg:(clauses e)[d]?=some g) (ha:iE g.is_async 0=true) (xs:List AV) (hturn:∀ pre x post,xs=pre++x::post→∀ k acc t lo,Inv pre acc t→∃ lo' acc' t',Inv (pre++[x]) acc' t'∧turn C (run C (m+k)) e d g [x] a ae ⟨lo,base++acc::t⟩=some ⟨lo',base++acc'::t'⟩):∀(post pre:List AV) (it:It) (acc:AO) (t:AH) (lo:List (Str×AV)) (k:Nat),xs=pre++post→(∀ pre acc t,Inv pre acc t→∃ u,base++acc::t=ba++u)→Seq ba it post→Inv pre acc t→∃ lo' acc' t',Inv xs acc' t'∧(run C (m+post.length+1+k)).co e d it a ae ⟨lo,base++acc::t⟩=some ⟨lo',base++acc'::t'⟩:=by
 intro post;induction post with
 |nil=>
  intro pre it acc t lo k hx hb hs hp;rw [List.append_nil] at hx;subst hx;refine ⟨lo,acc,t,hp,?_⟩;rw [show m+List.length ([]:List AV)+1+k=(m+k)+1 by simp;(exact Nat.add_right_comm ..),qp];refine aJ (hb _ _ _ hp) fun u hu=>?_;cases hs with
  |nil h=>exact BZ hg ha (hu▸h u)
 |cons x post ih=>
  intro pre it acc t lo k hx hb hs hp;cases hs with
  | @cons _ it' _ _ h1 h2=>
   refine aJ (hb _ _ _ hp) fun u hu=>?_;refine fZ (hturn pre x post hx (post.length+1+k) acc t lo hp) fun l1 a1 t1 p1 w1=>?_;refine fZ (ih (pre++[x]) it' a1 t1 l1 k (by rw [hx,List.append_assoc];rfl) hb h2 p1) fun l2 a2 t2 p2 w2=>?_;refine ⟨l2,a2,t2,p2,?_⟩;rw [show m+(x::post).length+1+k=(m+(post.length+1+k))+1 by rw [List.length_cons];lia,qp,B3 hg ha (hu▸h1 u) w1];rw [← w2,show m+(post.length+1+k)=m+post.length+1+k by (exact (Nat.add_assoc ..).symm)]
theorem Cf (Inv:List AV→AO→AH→Prop) (m:Nat) (xs:List AV) (iI:AO) (hc:clauses e=g::gens) (hq:(ae.quiet&&iE g.is_async 0&&pJ sc)=true) (hi:iter C (run C N) ae g.iter s=some (it,s1)) (hp:pK it=true) (hcl:mV ae sc.names []=some cl) (hN:m+xs.length+1≤N) (hs:Seq s1.hp it xs) (hP:Inv [] iI ((cF sc.names).map fun _=>.cell none)) (hturn:∀ pre x post,xs=pre++x::post→∀ k acc t lo,Inv pre acc t→∃ lo' acc' t',Inv (pre++[x]) acc' t'∧turn C (run C (m+k)) e 0 g [x] s1.hp.length { names:=sc.names.map (jm ae),cells:=(fD (s1.hp.length+1) sc.names cl).1,quiet:=true} ⟨lo,s1.hp++acc::t⟩=some ⟨lo',s1.hp++acc'::t'⟩):∃ acc' t',Inv xs acc' t'∧comp C (run C N) e (clauses e) sc iI ae s=some (.loc s1.hp.length,⟨s1.lo,s1.hp++acc'::t'⟩):=by
 have ha:iE g.is_async 0=true:=by rw [Bool.and_eq_true,Bool.and_eq_true] at hq;exact hq.1.2
 refine fZ (WR s1.hp Inv (ae:={ names:=sc.names.map (jm ae),cells:=(fD (s1.hp.length+1) sc.names cl).1,quiet:=true}) s1.hp m (by rw [hc];rfl) ha xs hturn xs [] it iI _ [] (N- (m+xs.length+1)) rfl (fun _ acc t _=>⟨acc::t,rfl⟩) hs hP) fun lo' acc' t' p w=>?_;rw [show m+xs.length+1+(N- (m+xs.length+1))=N by (exact Nat.add_sub_cancel' hN)] at w;refine ⟨acc',t',p,?_⟩;exact I8 hc hq hi hp hcl (s2:=⟨lo',s1.hp++acc'::t'⟩) (by unfold uW;rw [List.append_assoc];exact w)
noncomputable def HL (xs:List Int) (cs:List (Option AV)) (t:AH):AH:=b5++ .list (xs.map .int)::(cs.map .cell++t)
theorem mJ:b5.length=33:=rfl
section
variable (xs:List Int) (cs:List (Option AV)) (t u:AH)
theorem b6:HL xs cs t++u=HL xs cs (t++u):=by unfold HL;simp
theorem cZ (hc:cs.length=10):(HL xs cs t).length=44+t.length:=by unfold HL;rw [List.length_append,mJ,List.length_cons,List.length_append,List.length_map,hc];lia
theorem gz (hc:cs.length=10) (hi:i<10):(HL xs cs t)[34+i]?=(cs[i]?).map .cell:=by unfold HL;rw [List.getElem?_append_right (by rw [mJ];lia),mJ,show 34+i- 33=i+1 by lia,List.getElem?_cons_succ,List.getElem?_append_left (by rw [List.length_map];(exact hc▸hi)),List.getElem?_map]
theorem uq (hc:cs.length=10):(HL xs cs t)[44+m]?=t[m]?:=by unfold HL;rw [List.getElem?_append_right (by rw [mJ];lia),mJ,show 44+m- 33=(10+m)+1 by lia,List.getElem?_cons_succ,List.getElem?_append_right (by rw [List.length_map];lia),List.length_map,hc,show 10+m- 10=m by lia]
theorem Jv:(HL xs cs t)[33]?=some (.list (xs.map .int)):=by unfold HL;rw [List.getElem?_append_right (by rw [mJ];exact Nat.le_refl _),mJ];rfl
theorem WS (hc:cs.length=10) (hi:i<10):(HL xs cs t).set (34+i) (.cell v)=HL xs (cs.set i v) t:=by unfold HL;rw [List.set_append_right _ _ (by rw [mJ];lia),mJ,show 34+i- 33=i+1 by lia,List.set_cons_succ,List.set_append_left _ _ (by rw [List.length_map];(exact hc▸hi)),List.map_set]
end
structure At (t:AH) (a:Nat) (o:AO):Prop where
 le:44≤a
 at':t[a- 44]?=some o
theorem At.get (h:At t a o) (hc:cs.length=10):(HL xs cs t)[a]?=some o:=by have:=uq xs cs t (m:=a- 44) hc;rw [show 44+(a- 44)=a by have:=h.le;(exact Nat.add_sub_cancel' this)] at this;rw [this,h.at']
theorem At.app (h:At t a o) (u:AH):At (t++u) a o:=⟨h.le,mD h.at'⟩
theorem At.here (t u:AH) (o:AO):At (t++o::u) (44+t.length) o:=⟨by (exact Nat.le_add_right ..),by rw [show 44+t.length- 44=t.length by lia];exact jB _ _ _⟩
theorem xY (hc:cs.length=10) (hi:i<10):bL (HL xs cs t) 34 (34+i) (.cell v)=some (HL xs (cs.set i v) t):=by have h1:=gz xs cs t hc hi;rw [List.getElem?_eq_getElem (show i<cs.length by (exact hc▸hi))] at h1;unfold bL;rw [Nat.ble_eq_true_of_le (by (exact Nat.le_add_right ..)),h1,WS xs cs t hc hi];rfl
noncomputable def Jw:List (Str×Nat):=[(S "lengths",43),(S "start",42),(S "far",41),(S "due",40),(S "rows",39),(S "held",38),(S "own",37),(S "needs",36),(S "k",35),(S "numbers",34)]
noncomputable def aM:au:=⟨aU.names,Jw,true⟩
noncomputable def dM:List (Option AV):=List.replicate 10 none
theorem WT (R:Rec) (xs:List Int):fE CL R aU [.loc 33] (hp0 xs)=out (R.ex aU.body aM ⟨[(S "script",.loc 33)],HL xs dM []⟩):=rfl
theorem WU:CL.ro=34:=rfl
noncomputable def o8 (xs:List Int):List AV:=dD none (some 4) (xs.map .int)++dD (some ((xs.map AV.int).length:Int)) none [.int 4,.int 33,.int 18,.int 21]
noncomputable def fX (xs:List Int):AH:=[.list (dD none (some 4) (xs.map .int)),.list [.int 4,.int 33,.int 18,.int 21],.list (dD (some ((xs.map AV.int).length:Int)) none [.int 4,.int 33,.int 18,.int 21]),.list (o8 xs)]
theorem Jx {h:AH} {l:Nat} {vs:List AV} {lo up:AV} {a b:Option Int} (e:h[l]?=some (.list vs)) (ha:rQ lo=some a) (hb:rQ up=some b):slice h (.loc l) lo up=some (.loc h.length,h++[.list (dD a b vs)]):=by refine aG ha (aG hb ?_);show ob (bO h[l]?) (fun vs=>some (newL h (dD a b vs)))=_;exact aG (congrArg bO e) rfl
theorem add_l (e1:h[a]?=some (.list xs)) (e2:h[b]?=some (.list ys)) (hl:lim (xs.length+ys.length)=true):binop h .Add (.loc a) (.loc b)=some (.loc h.length,h++[.list (xs++ys)]):=by show ob (bO h[a]?) (fun xs=>ob (gR h (.loc b)) fun ys=>uL h .Add xs ys)=_;exact aG (congrArg bO e1) (aG (sA e2) (by show (match true&&lim (xs.length+ys.length) with|true=>some (newL h (xs++ys))|false=>none)=_;rw [hl];rfl))
theorem xZ {C:Cx} {n:Nat} {ae:au} {s:St} {p:Pos} {es:List PySem.Expr} {vs:List AV} {g:List (Str×AV)} {h:AH} (hn:(noStar es&&lim es.length)=true) (e:cJ (run C n) ae es s=some (vs,⟨g,h⟩)):(run C (n+1)).ev (.List es p) ae s=some (.loc h.length,⟨g,h++[.list vs]⟩):=by show n7 (run C n) .list es ae s=_;unfold n7;rw [hn];dsimp only;rw [e]
theorem WV (xs:List Int) (hx:xs.length≤63) (n:Nat):cG CL (run CL (n+20)) (aY aU.body 0) aM ⟨[(S "script",.loc 33)],HL xs dM []⟩=some (.next,⟨[(S "script",.loc 33)],HL xs (dM.set 0 (some (.loc 47))) (fX xs)⟩):=by
 have hn:aU.names=aU.names:=rfl
 conv at hn=>rhs;whnf
 generalize hb:aY aU.body 0=bd
 conv at hb=>lhs;whnf
 subst hb;have hc:dM.length=10:=rfl;generalize Cg:dD none (some 4) (xs.map AV.int)=P1;generalize Ci:dD (some ((xs.map AV.int).length:Int)) none [AV.int 4,AV.int 33,AV.int 18,AV.int 21]=P2;have k8:P1.length≤63:=by rw [← Cg];unfold dD;rw [List.length_take,List.length_drop,List.length_map];lia
 have l6:P2.length≤4:=by rw [← Ci];unfold dD;rw [List.length_take,List.length_drop];simp only [List.length_cons,List.length_nil];omega
 have f1:slice (HL xs dM []) (.loc 33) .none (.int 4)=some (.loc 44,HL xs dM [.list P1]):=by rw [Jx (Jv _ _ _) (a:=none) (b:=some 4) rfl rfl,cZ _ _ _ hc,b6,Cg];rfl
 have f2:(HL xs dM [.list P1]).length=45:=cZ _ _ _ hc;have f3:=fun n=>Cd (C:=CL) (n:=n) (Jv xs dM [.list P1,.list [AV.int 4,AV.int 33,AV.int 18,AV.int 21]]) (by rw [List.length_map];(exact Nat.le_trans hx (by decide)));have f4:slice (HL xs dM [.list P1,.list [AV.int 4,AV.int 33,AV.int 18,AV.int 21]]) (.loc 45) (.int ((xs.map AV.int).length:Nat)) .none=some (.loc 46,HL xs dM [.list P1,.list [AV.int 4,AV.int 33,AV.int 18,AV.int 21],.list P2]):=by rw [Jx (vs:=[AV.int 4,AV.int 33,AV.int 18,AV.int 21]) (uq xs dM _ (m:=1) hc) (a:=some ((xs.map AV.int).length:Int)) (b:=none) rfl rfl,cZ _ _ _ hc,b6,Ci];rfl
 have f5:binop (HL xs dM [.list P1,.list [AV.int 4,AV.int 33,AV.int 18,AV.int 21],.list P2]) .Add (.loc 44) (.loc 46)=some (.loc 47,HL xs dM [.list P1,.list [AV.int 4,AV.int 33,AV.int 18,AV.int 21],.list P2,.list (P1++P2)]):=by rw [add_l (xs:=P1) (ys:=P2) (uq xs dM _ (m:=0) hc) (uq xs dM _ (m:=2) hc) (Nat.ble_eq_true_of_le (by lia)),cZ _ _ _ hc,b6];rfl
 have f6:=xY (xs:=xs) (t:=[.list P1,.list [AV.int 4,AV.int 33,AV.int 18,AV.int 21],.list P2,.list (P1++P2)]) (v:=some (.loc 47)) (i:=0) hc (by decide);have f7:(HL xs dM [.list P1,.list [AV.int 4,AV.int 33,AV.int 18,AV.int 21],.list P2,.list (P1++P2)])[34]?=some (.cell none):=gz _ _ _ (i:=0) hc (by decide);have l4:lim (0+1+1+1+1)=true:=rfl;have es:fX xs=[.list P1,.list [AV.int 4,AV.int 33,AV.int 18,AV.int 21],.list P2,.list (P1++P2)]:=by unfold fX o8;rw [Cg,Ci]
 rw [es];exact fV (bV (gZ (aq (az rfl rfl)) gY (gX bx) f1) (gZ ((xZ rfl (bq bx (bq bx (bq bx (bq bx bJ))))).trans (by rw [f2];rfl)) (gX (cX (bR rfl rfl) rfl rfl (bq (aq (az rfl rfl)) bJ) rfl (fH _ "len") (f3 _))) gY f4) f5) (rG rfl rfl f7 f6)
theorem Jy:∀(n i:Nat),(dj (i:Nat) 1 n).map AV.int=(List.range' i n).map fun j=>AV.int (j:Nat)
 |0,i=>rfl
 |n+1,i=>by
  rw [dj,List.map_cons,List.range'_succ,List.map_cons];have:=Jy n (i+1);rw [← this];rfl
theorem gP (n:Nat):(dj 0 1 n).map AV.int=(List.range n).map fun j=>AV.int (j:Nat):=by rw [List.range_eq_range'];exact Jy n 0
theorem mK (h:(List.range n).map (fun j=>AV.int (j:Nat))=pre++x::post):x=.int (pre.length:Nat)∧pre.length<n:=by
 have h1:((List.range n).map fun j=>AV.int (j:Nat))[pre.length]?=some x:=by rw [h,List.getElem?_append_right (Nat.le_refl _),Nat.sub_self];rfl
 have hl:=(List.getElem?_eq_some_iff.mp h1).1;rw [List.length_map,List.length_range] at hl;rw [List.getElem?_map,List.getElem?_range hl] at h1;exact ⟨(Option.some.inj h1).symm,hl⟩
noncomputable def cM (v:Int) (j:Nat):Bool:= !iE (Builtin.bitAnd (rsh v (j:Nat)) 1) 0
noncomputable def Nk (nv:Nat→Int) (k:Nat):List Nat:=(List.range k).filter (cM (nv k))
noncomputable def gQ:PySem.Expr:=kD (aY aU.body 1)
noncomputable def WW:PySem.Expr→PySem.Expr
 | .ListComp e _ _ _=>e
 |_=>default
noncomputable def jd:PySem.Expr:=WW gQ
noncomputable def iL (B:Nat):au:=cA aM gQ [(S "k",B+1),(S "numbers",34)]
noncomputable def ur (B:Nat):au:=cA (iL B) jd [(S "numbers",34),(S "k",B+1)]
noncomputable def vals4 (nv:Nat→Int):List AV:=[.int (nv 0),.int (nv 1),.int (nv 2),.int (nv 3)]
theorem WX (hk:k<4):(vals4 nv)[k]?=some (.int (nv k)):=by
 match k,hk with
 |0,_=>rfl
 |1,_=>rfl
 |2,_=>rfl
 |3,_=>rfl
theorem mL (e:h[l]?=some (.list vs)) (hv:vs[k]?=some v):getItem h (.loc l) (.int (k:Nat))=some v:=by rw [jr,e];exact hv
theorem Cj (hc:cs.length=10):(HL xs cs (t++a::c::u))[44+t.length+1]?=some c:=by have:=uq xs cs (t++a::c::u) (m:=t.length+1) hc;rw [show 44+t.length+1=44+(t.length+1) by (exact Nat.add_assoc ..),this,List.getElem?_append_right (by (exact Nat.le_add_right ..)),show t.length+1- t.length=1 by lia];rfl
theorem WY {xs:List Int} {cs:List (Option AV)} {t u u2:AH} {aR:AO} {nv:Nat→Int} {a j k n:Nat} {acc:List AV} {lo:List (Str×AV)} (hc:cs.length=10) (h0:cs[0]?=some (some (.loc a))) (hA:At t a (.list (vals4 nv))) (hk:k<4) (ha:acc.length<1000):∃ lo',turn CL (run CL (n+20)) jd 0 (gE jd) [.int (j:Nat)] (HL xs cs (t++aR::.cell (some (.int (k:Nat)))::u)).length (ur (44+t.length)) ⟨lo,HL xs cs (t++aR::.cell (some (.int (k:Nat)))::u)++ .list acc::u2⟩=some ⟨lo',HL xs cs (t++aR::.cell (some (.int (k:Nat)))::u)++ .list (match cM (nv k) j with|true=>acc++[.int (j:Nat)]|false=>acc)::u2⟩:=by
 have hn:(ur (44+t.length)).names=[(S ".0",.local),(S "j",.local),(S "k",.cell),(S "numbers",.cell)]:=rfl;have hcl:(ur (44+t.length)).cells=[(S "numbers",34),(S "k",44+t.length+1)]:=rfl;have hq:(ur (44+t.length)).quiet=true:=rfl;generalize ur (44+t.length)=ae at hn hcl hq;have x7:(HL xs cs (t++aR::.cell (some (.int (k:Nat)))::u++ .list acc::u2))[34]?=some (.cell (some (.loc a))):=by have:=gz xs cs (t++aR::.cell (some (.int (k:Nat)))::u++ .list acc::u2) (i:=0) hc (by decide);rw [h0] at this;exact this
 have eA:(HL xs cs (t++aR::.cell (some (.int (k:Nat)))::u++ .list acc::u2))[a]?=some (.list (vals4 nv)):=((hA.app _).app _).get hc;have eg:=mL eA (WX hk);have ek:(HL xs cs (t++aR::.cell (some (.int (k:Nat)))::u++ .list acc::u2))[44+t.length+1]?=some (.cell (some (.int (k:Nat)))):=by rw [List.append_assoc];exact Cj hc
 generalize 44+t.length+1=B1 at hcl ek;have hlen:=cZ xs cs (t++aR::.cell (some (.int (k:Nat)))::u) hc;have hb:(!iE (Builtin.bitAnd (rsh (nv k) (j:Nat)) 1) 0)=cM (nv k) j:=rfl;generalize hx:jd=xe
 conv at hx=>lhs;whnf
 subst hx;simp only [rC,rD];refine ⟨put lo (S "j") (.int (j:Nat)),?_⟩;cases Jz:cM (nv k) j with
 |true=>
  rw [Jz] at hb;refine jV (s1:=⟨put lo (S "j") (.int (j:Nat)),HL xs cs (t++aR::.cell (some (.int (k:Nat)))::u)++ .list acc::u2⟩) (s2:=⟨put lo (S "j") (.int (j:Nat)),HL xs cs (t++aR::.cell (some (.int (k:Nat)))::u)++ .list acc::u2⟩) ?_ ?_ rfl ?_ (by (exact Nat.lt_of_lt_of_le ha (by decide))) (by show 34≤_;(exact Nat.le_add_left ..))
  ·exact gu (cg (by rw [hn];rfl))
  ·rw [b6];exact B5 (E3 (bV (bV (bS rfl (aq (aX (by rw [hn];rfl) (by rw [hcl];rfl) x7)) (aq (aX (by rw [hn];rfl) (by rw [hcl];rfl) ek)) eg) (aq (az (by rw [hn];rfl) b8)) (B9 _ _ j)) bx (qu _ _ _)) ((E0 _ _).trans (congrArg some hb))) rfl
  ·exact aq (az (by rw [hn];rfl) b8)
 |false=>
  rw [Jz] at hb;refine tY (s1:=⟨put lo (S "j") (.int (j:Nat)),HL xs cs (t++aR::.cell (some (.int (k:Nat)))::u)++ .list acc::u2⟩) ?_ ?_
  ·exact gu (cg (by rw [hn];rfl))
  ·rw [b6];exact B6 (E3 (bV (bV (bS rfl (aq (aX (by rw [hn];rfl) (by rw [hcl];rfl) x7)) (aq (aX (by rw [hn];rfl) (by rw [hcl];rfl) ek)) eg) (aq (az (by rw [hn];rfl) b8)) (B9 _ _ j)) bx (qu _ _ _)) ((E0 _ _).trans (congrArg some hb)))
noncomputable def uw (p:Nat→Bool) (acc:List AV) (x:AV):List AV:=match x with
 | .int i=>(match p i.toNat with|true=>acc++[.int i]|false=>acc)
 |_=>acc
theorem Ck (p:Nat→Bool):∀(l:List Nat) (acc:List AV),(l.map fun j=>AV.int (j:Nat)).foldl (uw p) acc=acc++(l.filter p).map fun j=>AV.int (j:Nat)
 |[],acc=>by simp
 |j::l,acc=>by
  rw [List.map_cons,List.foldl_cons,Ck p l];show (match p j with|true=>acc++[AV.int (j:Nat)]|false=>acc)++_=_;cases h:p j with
  |true=>rw [List.filter_cons_of_pos h];simp
  |false=>rw [List.filter_cons_of_neg (by simp [h])]
theorem WZ (p:Nat→Bool) (hn:n≤100) (h:(List.range n).map (fun j=>AV.int (j:Nat))=pre++x::post):(pre.foldl (uw p) []).length<1000:=by
 have e:pre=(List.range pre.length).map fun j=>AV.int (j:Nat):=by
  have h2:=(mK h).2;have h3:=congrArg (List.take pre.length) h;rw [List.take_left',← List.map_take,List.take_range,Nat.min_eq_left (Nat.le_of_lt h2)] at h3
  ·exact h3.symm
  ·rfl
 have e2:=congrArg (fun l=>(l.foldl (uw p) []).length) e;refine Nat.lt_of_le_of_lt (Nat.le_of_eq e2) ?_;show (((List.range pre.length).map fun j=>AV.int (j:Nat)).foldl (uw p) []).length<1000;rw [Ck];have h1:((List.range pre.length).filter p).length≤(List.range pre.length).length:=List.length_filter_le _ _;have h2:=(mK h).2;rw [List.length_range] at h1;rw [List.nil_append,List.length_map];lia
theorem W0 {xs:List Int} {cs:List (Option AV)} {t u:AH} {aR:AO} {nv:Nat→Int} {a k n:Nat} {lo:List (Str×AV)} (hc:cs.length=10) (h0:cs[0]?=some (some (.loc a))) (hA:At t a (.list (vals4 nv))) (hk:k<4):∃ u',(run CL (n+40)).ev jd (iL (44+t.length)) ⟨lo,HL xs cs (t++aR::.cell (some (.int (k:Nat)))::u)⟩=some (.loc (44+(t.length+2+u.length)),⟨lo,HL xs cs (t++aR::.cell (some (.int (k:Nat)))::(u++ .list ((Nk nv k).map fun j=>.int (j:Nat))::u'))⟩):=by
 have hn:(iL (44+t.length)).names=[(S ".0",.local),(S "k",.cell),(S "range",.globalImplicit),(S "numbers",.cell)]:=rfl;have hcl:(iL (44+t.length)).cells=[(S "k",44+t.length+1),(S "numbers",34)]:=rfl;have ek:(HL xs cs (t++aR::.cell (some (.int (k:Nat)))::u))[44+t.length+1]?=some (.cell (some (.int (k:Nat)))):=Cj hc;have hi:iter CL (run CL (n+39)) (iL (44+t.length)) (gE jd).iter ⟨lo,HL xs cs (t++aR::.cell (some (.int (k:Nat)))::u)⟩=some (.range 0 (k:Nat) 1,⟨lo,HL xs cs (t++aR::.cell (some (.int (k:Nat)))::u)⟩):=by
  have e:cJ (run CL (n+39)) (iL (44+t.length)) (match bQ CL (iL (44+t.length)) (gE jd).iter with|some as=>as|none=>[]) ⟨lo,HL xs cs (t++aR::.cell (some (.int (k:Nat)))::u)⟩=some ([.int (k:Nat)],⟨lo,HL xs cs (t++aR::.cell (some (.int (k:Nat)))::u)⟩):=by
   generalize hb:(match bQ CL (iL (44+t.length)) (gE jd).iter with|some as=>as|none=>[])=bd
   conv at hb=>lhs;whnf
   subst hb;generalize 44+t.length+1=B1 at hcl ek;exact bq (aq (aX (by rw [hn];rfl) (by rw [hcl];rfl) ek)) bJ
  rw [jU (as:=match bQ CL (iL (44+t.length)) (gE jd).iter with|some as=>as|none=>[]) rfl e (mz k (by lia)),mC]
 refine Exists.elim (lu (C:=CL) (e:=jd) (g:=gE jd) (gens:=[]) (sc:=gv jd) (ae:=iL (44+t.length)) (cl:=[(S "numbers",34),(S "k",44+t.length+1)]) AO.list (fun u=>True) (uw (cM (nv k))) (n+20) ((dj 0 1 k).map .int) [] rfl rfl hi rfl rfl (by rw [gP,List.length_map,List.length_range];lia) (mG k 0) trivial ?_) fun u' ht=>?_
 ·intro pre x post hpp k' u2 lo' _;rw [gP] at hpp;have hlen:=WZ (cM (nv k)) (by lia) hpp;obtain ⟨rfl,hlt⟩:=mK hpp;obtain ⟨lo2,w⟩:=WY (xs:=xs) (aR:=aR) (u:=u) (u2:=u2) (lo:=lo') (j:=pre.length) (n:=n+k') hc h0 hA hk hlen;refine ⟨lo2,u2,trivial,?_⟩;rw [List.foldl_append,show n+20+k'=n+k'+20 by (exact Nat.add_right_comm ..)];exact w
 ·obtain ⟨-,w⟩:=ht;refine ⟨u',?_⟩;have hl:(HL xs cs (t++aR::AO.cell (some (.int (k:Nat)))::u)).length=44+(t.length+2+u.length):=by rw [cZ xs cs _ hc,List.length_append,List.length_cons,List.length_cons];lia
  rw [gP,Ck,List.nil_append,b6] at w;rw [← hl];rw [show t++aR::AO.cell (some (.int (k:Nat)))::(u++ .list ((Nk nv k).map fun j=>.int (j:Nat))::u')=(t++aR::AO.cell (some (.int (k:Nat)))::u)++ .list ((Nk nv k).map fun j=>.int (j:Nat))::u' by simp];exact w
noncomputable def W2 (t u:AH) (f:Nat→List AV) (as:List Nat):Prop:=∀ i a,as[i]?=some a→∃ q,a=44+(t.length+2+q)∧u[q]?=some (.list (f i))
theorem W3 {xs:List Int} {cs:List (Option AV)} {t:AH} {nv:Nat→Int} {a n:Nat} {lo:List (Str×AV)} (hc:cs.length=10) (h0:cs[0]?=some (some (.loc a))) (hA:At t a (.list (vals4 nv))):∃(as:List Nat) (u:AH),(run CL (n+60)).ev gQ aM ⟨lo,HL xs cs t⟩=some (.loc (44+t.length),⟨lo,HL xs cs (t++ .list (as.map .loc)::u)⟩)∧as.length=4∧∀ i b,as[i]?=some b→At (t++ .list (as.map .loc)::u) b (.list ((Nk nv i).map fun j=>.int (j:Nat))):=by
 have hn:aU.names=aU.names:=rfl
 conv at hn=>rhs;whnf
 have hi:iter CL (run CL (n+59)) aM (gE gQ).iter ⟨lo,HL xs cs t⟩=some (.range 0 ((4:Nat):Int) 1,⟨lo,HL xs cs t⟩):=by
  have e:cJ (run CL (n+59)) aM (match bQ CL aM (gE gQ).iter with|some as=>as|none=>[]) ⟨lo,HL xs cs t⟩=some ([.int ((4:Nat):Int)],⟨lo,HL xs cs t⟩):=by
   generalize hb:(match bQ CL aM (gE gQ).iter with|some as=>as|none=>[])=bd
   conv at hb=>lhs;whnf
   subst hb;rfl
  rw [jU (as:=match bQ CL aM (gE gQ).iter with|some as=>as|none=>[]) rfl e (mz 4 (by (exact Nat.le_add_left ..))),mC]
 refine Exists.elim (Cf (C:=CL) (e:=gQ) (g:=gE gQ) (gens:=[]) (sc:=gv gQ) (ae:=aM) (cl:=[(S "numbers",34)]) (fun pre acc t2=>∃(as:List Nat) (v:Option AV) (u:AH),acc=.list (as.map .loc)∧as.length=pre.length∧t2=.cell v::u∧W2 t u (fun i=>(Nk nv i).map fun j=>.int (j:Nat)) as) (n+50) ((dj 0 1 4).map .int) (.list []) rfl rfl hi rfl rfl (by rw [gP,List.length_map,List.length_range];lia) (mG 4 0) ⟨[],none,[],rfl,rfl,rfl,fun i a h=>by simp at h⟩ ?_) fun acc ht=>?_
 ·intro pre x post hpp k' acc t2 lo' hinv;obtain ⟨as,v,u,rfl,hlen,rfl,hls⟩:=hinv;rw [gP] at hpp;obtain ⟨rfl,hlt⟩:=mK hpp;obtain ⟨u',w⟩:=W0 (xs:=xs) (aR:=.list (as.map .loc)) (u:=u) (lo:=lo') (k:=pre.length) (n:=n+10+k') hc h0 hA hlt;refine ⟨lo',.list ((as++[44+(t.length+2+u.length)]).map .loc),.cell (some (.int (pre.length:Nat)))::(u++ .list ((Nk nv pre.length).map fun j=>.int (j:Nat))::u'),⟨_,_,_,rfl,by rw [List.length_append,List.length_append,hlen];rfl,rfl,?_⟩,?_⟩
  ·intro i b hb;by_cases uz:i<as.length
   ·rw [List.getElem?_append_left uz] at hb;obtain ⟨q,q1,q2⟩:=hls i b hb;exact ⟨q,q1,mD q2⟩
   ·rw [List.getElem?_append_right (Nat.le_of_not_lt uz)] at hb;have:i- as.length=0:=by have:=(List.getElem?_eq_some_iff.mp hb).1;simp at this;omega
    rw [this] at hb;cases hb;have:i=pre.length:=by lia
    subst this;exact ⟨u.length,rfl,jB _ _ _⟩
  ·have JA:(iL (44+t.length)).names=[(S ".0",.local),(S "k",.cell),(S "range",.globalImplicit),(S "numbers",.cell)]:=rfl;have Cm:(iL (44+t.length)).cells=[(S "k",44+t.length+1),(S "numbers",34)]:=rfl;have hB:(HL xs cs t).length=44+t.length:=cZ xs cs t hc;show turn CL (run CL (n+50+k')) gQ 0 (gE gQ) [.int (pre.length:Nat)] (HL xs cs t).length { names:=(gv gQ).names.map (jm aM),cells:=(fD ((HL xs cs t).length+1) (gv gQ).names [(S "numbers",34)]).1,quiet:=true} ⟨lo',HL xs cs t++ .list (as.map .loc)::.cell v::u⟩=some ⟨lo',HL xs cs t++ .list ((as++[44+(t.length+2+u.length)]).map .loc)::.cell (some (.int (pre.length:Nat)))::(u++ .list ((Nk nv pre.length).map fun j=>.int (j:Nat))::u')⟩;have W4:({ names:=(gv gQ).names.map (jm aM),cells:=(fD ((HL xs cs t).length+1) (gv gQ).names [(S "numbers",34)]).1,quiet:=true}:au)=iL (44+t.length):=by rw [hB];rfl
   rw [W4];have e1:(HL xs cs (t++AO.list (as.map .loc)::.cell v::u))[44+t.length+1]?=some (.cell v):=Cj hc;have e2:bL (HL xs cs (t++AO.list (as.map .loc)::.cell v::u)) 34 (44+t.length+1) (.cell (some (.int (pre.length:Nat))))=some (HL xs cs (t++AO.list (as.map .loc)::.cell (some (.int (pre.length:Nat)))::u)):=by
    unfold bL;rw [Nat.ble_eq_true_of_le (by lia),e1];have:(HL xs cs t++(AO.list (as.map .loc)::.cell v::u)).set ((HL xs cs t).length+1) (.cell (some (.int (pre.length:Nat))))=HL xs cs t++AO.list (as.map .loc)::.cell (some (.int (pre.length:Nat)))::u:=by rw [List.set_append_right _ _ (by (exact Nat.le_add_right ..)),show (HL xs cs t).length+1- (HL xs cs t).length=1 by lia];rfl
    rw [b6,b6,hB] at this;rw [this]
   rw [List.map_append];generalize hx:gQ=xe;have Ig:=hx
   conv at hx=>lhs;whnf
   have w':(run CL (n+50+k')).ev jd (iL (44+t.length)) ⟨lo',HL xs cs (t++ .list (as.map .loc)::.cell (some (.int (pre.length:Nat)))::u)⟩=some (.loc (44+(t.length+2+u.length)),⟨lo',HL xs cs (t++ .list (as.map .loc)::.cell (some (.int (pre.length:Nat)))::(u++ .list ((Nk nv pre.length).map fun j=>.int (j:Nat))::u'))⟩):=by rw [show n+50+k'=n+10+k'+40 by lia];exact w
   generalize hxi:jd=xi at w'
   conv at hxi=>lhs;whnf
   generalize iL (44+t.length)=ae at JA Cm w';subst hx;subst hxi;refine jV (s1:=⟨lo',HL xs cs (t++ .list (as.map .loc)::.cell (some (.int (pre.length:Nat)))::u)⟩) (s2:=⟨lo',HL xs cs (t++ .list (as.map .loc)::.cell (some (.int (pre.length:Nat)))::u)⟩) ?_ rfl rfl ?_ (by rw [List.length_map];lia) (by show 34≤_;(exact Nat.le_add_left ..))
   ·rw [b6];simp only [rC,rD];generalize 44+t.length+1=B1 at Cm e1 e2;exact gu (rG (by rw [JA];rfl) (by rw [Cm];rfl) e1 e2)
   ·rw [b6];exact w'
 ·obtain ⟨t2,⟨as,v,u,rfl,hlen,rfl,hls⟩,w⟩:=ht;rw [gP,List.length_map,List.length_range] at hlen;refine ⟨as,.cell v::u,?_,hlen,?_⟩
  ·rw [b6,cZ xs cs t hc] at w;exact w
  ·intro i b hb;obtain ⟨q,q1,q2⟩:=hls i b hb;refine ⟨by lia,?_⟩;rw [q1,show 44+(t.length+2+q) - 44=t.length+(2+q) by lia,List.getElem?_append_right (by (exact Nat.le_add_right ..)),show t.length+(2+q) - t.length=q+2 by lia];exact q2
noncomputable def cI (v:Int):Option Int:=match iE (Int.fmod v 7) 6 with
 |true=>none
 |false=>some (32768+Int.fmod v 512)
noncomputable def JB:AV→AV
 | .int v=>.jn (cI v)
 |v=>v
noncomputable def jC:PySem.Expr:=kD (aY aU.body 2)
theorem JC:iE 7 0=false:=rfl
section
variable {C:Cx} {n k:Nat} {ae:au} {s s1:St} {x y c l r:PySem.Expr} {p q:Pos} {i j:Int}
theorem JD (hb:lJ x=true) (hB:u9 C ae c y s=none) (h:(run C n).tr c ae s=some (b,s1)) (k:lM C ae s1 4 y=some i):(run C (n+1)).ev (.IfExp c x y p) ae s=some (.jn (Dm b i),s1):=by show mX C (run C n) c x y ae s=_;unfold mX;exact dG (by unfold r8;rw [hb];exact dH hB rfl) (bG h (aG k rfl))
theorem x8 (h:load C ae z s=some (.int i)):lM C ae s (k+1) (.Name z p)=some i:=dH rfl (dG (a:=(z,p)) rfl (aG h rfl))
theorem x9 (h1:lM C ae s k l=some i) (h2:lM C ae s k r=some j) (h3:binI o i j=some a):lM C ae s (k+1) (.BinOp l o r p)=some a:=dH rfl (dH rfl (aG (a:=(l,o,r)) rfl (aG h1 (aG h2 h3))))
end
theorem W5 {xs:List Int} {cs:List (Option AV)} {t u:AH} {v:Int} {n:Nat} {acc:List AV} {lo:List (Str×AV)} (hc:cs.length=10) (ha:acc.length<1000):∃ lo',turn CL (run CL (n+20)) jC 0 (gE jC) [.int v] (HL xs cs t).length (cA aM jC []) ⟨lo,HL xs cs t++ .list acc::u⟩=some ⟨lo',HL xs cs t++ .list (acc++[.jn (cI v)])::u⟩:=by
 have hn:(cA aM jC []).names=[(S ".0",.local),(S "v",.local),(S "S_IFREG",.globalImplicit)]:=rfl;have hcl:(cA aM jC []).cells=[]:=rfl;have hlen:=cZ xs cs t hc;generalize cA aM jC []=ae at hn hcl;generalize hx:jC=xe
 conv at hx=>lhs;whnf
 subst hx;refine ⟨put lo (S "v") (.int v),?_⟩;refine jV (s1:=⟨put lo (S "v") (.int v),HL xs cs t++ .list acc::u⟩) (s2:=⟨put lo (S "v") (.int v),HL xs cs t++ .list acc::u⟩) ?_ rfl rfl ?_ (by (exact Nat.lt_of_lt_of_le ha (by decide))) (by show 34≤_;(exact Nat.le_add_left ..))
 ·exact gu (cg (by rw [hn];rfl))
 ·unfold cI;cases hb:iE (Int.fmod v 7) 6 with
  |true=>exact JD (i:=32768+Int.fmod v 512) rfl rfl (bF (bD rfl (bV (aq (az (by rw [hn];rfl) b8)) bx (Ca JC)) bx ((iV _ _ _).trans (congrArg some hb)))) (x9 (x8 (bR (by rw [hn];rfl) rfl)) (x9 (x8 (az (by rw [hn];rfl) b8)) rfl rfl) rfl)
  |false=>exact JD (i:=32768+Int.fmod v 512) rfl rfl (bF (bD rfl (bV (aq (az (by rw [hn];rfl) b8)) bx (Ca JC)) bx ((iV _ _ _).trans (congrArg some hb)))) (x9 (x8 (bR (by rw [hn];rfl) rfl)) (x9 (x8 (az (by rw [hn];rfl) b8)) rfl rfl) rfl)
theorem W6 {xs:List Int} {cs:List (Option AV)} {t:AH} {nv:Nat→Int} {a n:Nat} {lo:List (Str×AV)} (hc:cs.length=10) (h0:cs[0]?=some (some (.loc a))) (hA:At t a (.list (vals4 nv))):∃ u,(run CL (n+60)).ev jC aM ⟨lo,HL xs cs t⟩=some (.loc (44+t.length),⟨lo,HL xs cs (t++ .list [.jn (cI (nv 0)),.jn (cI (nv 1)),.jn (cI (nv 2)),.jn (cI (nv 3))]::u)⟩):=by
 have hn:aU.names=aU.names:=rfl
 conv at hn=>rhs;whnf
 have x7:(HL xs cs t)[34]?=some (.cell (some (.loc a))):=by have:=gz xs cs t (i:=0) hc (by decide);rw [h0] at this;exact this
 have eA:(HL xs cs t)[a]?=some (.list (vals4 nv)):=hA.get hc;have hi:iter CL (run CL (n+59)) aM (gE jC).iter ⟨lo,HL xs cs t⟩=some (.lst a 0,⟨lo,HL xs cs t⟩):=by
  generalize hx:(gE jC).iter=xe
  conv at hx=>lhs;whnf
  subst hx;exact mZ rfl rfl rfl rfl (aq (aX rfl rfl x7)) eA
 refine Exists.elim (lu (C:=CL) (e:=jC) (g:=gE jC) (gens:=[]) (sc:=gv jC) (ae:=aM) (cl:=[]) AO.list (fun u=>True) (fun acc x=>acc++[JB x]) (n+20) (vals4 nv) [] rfl rfl hi rfl rfl (by show n+20+4+1≤_;lia) (nJ eA _ 0 rfl) trivial ?_) fun u ht=>?_
 ·intro pre x post hpp k' u2 lo' _;have hm:=nL hpp;obtain ⟨v,rfl⟩:∃ v,x=.int v:=by simp only [vals4,List.mem_cons,List.not_mem_nil,or_false] at hm;rcases hm with rfl|rfl|rfl|rfl <;>exact ⟨_,rfl⟩
  have hlen:=rF (f:=JB) hpp (by show 4≤100;decide);obtain ⟨lo2,w⟩:=W5 (xs:=xs) (cs:=cs) (t:=t) (u:=u2) (v:=v) (lo:=lo') (n:=n+k') hc hlen;refine ⟨lo2,u2,trivial,?_⟩;rw [List.foldl_append,show n+20+k'=n+k'+20 by (exact Nat.add_right_comm ..)];exact w
 ·obtain ⟨-,w⟩:=ht;refine ⟨u,?_⟩;rw [b6,cZ xs cs t hc] at w;exact w
theorem asg {R:Rec} {x:Str} {i:Nat} {e:PySem.Expr} {p p':Pos} {lo lo':List (Str×AV)} {xs:List Int} {cs:List (Option AV)} {t t':AH} {v:AV} (hk:kind aM x=some .cell) (hi:lk Jw x=some (34+i)) (JE:i<10) (hc:cs.length=10) (he:R.ev e aM ⟨lo,HL xs cs t⟩=some (v,⟨lo',HL xs cs t'⟩)):cG CL R (.Assign [.Name x p] e p') aM ⟨lo,HL xs cs t⟩=some (.next,⟨lo',HL xs (cs.set i (some v)) t'⟩):=by
 have h1:=gz xs cs t' hc JE;rw [List.getElem?_eq_getElem (show i<cs.length by omega)] at h1;have h1:(HL xs cs t')[34+i]?=some (.cell cs[i]):=h1;have h2:=xY (xs:=xs) (t:=t') (v:=some v) hc JE;have h3:store CL aM x v ⟨lo',HL xs cs t'⟩=some ⟨lo',HL xs (cs.set i (some v)) t'⟩:=by exact aG hk (show CZ CL aM x v ⟨lo',HL xs cs t'⟩=_ from aG hi (aG (congrArg nW h1) (aG h2 rfl)))
 show (match R.ev e aM ⟨lo,HL xs cs t⟩ with|some (x',s)=>lO (pI CL R aM [.Name x p] x' s)|none=>none)=_;rw [he];show lO (ob (store CL aM x v ⟨lo',HL xs cs t'⟩) some)=_;rw [h3];rfl
theorem ya (hn:90≤n) (e:lg a vs h=some r):(run CL (n+1)).ca (.fix (.ref a)) vs h=some r:=by refine vU (dG (a:=r) ?_ rfl);unfold vp;rw [My,Nat.ble_eq_true_of_le hn];exact e
structure jD (t:AH) (a:Nat) (ns:Nat→List AV):Prop where
 ex:∃ as:List Nat,as.length=4∧At t a (.list (as.map .loc))∧∀ i b,as[i]?=some b→At t b (.list (ns i))
theorem jD.app (h:jD t a ns) (u:AH):jD (t++u) a ns:=by refine aZ h.ex fun as h1 h2 h3=>?_;exact ⟨as,h1,h2.app u,fun i b hb=>(h3 i b hb).app u⟩
theorem four (h:l.length=4):∃ a b c d,l=[a,b,c,d]:=by
 rcases l with _|⟨a,_|⟨b,_|⟨c,_|⟨d,_|⟨e,r⟩⟩⟩⟩⟩
 ·exact nomatch h
 ·exact nomatch h
 ·exact nomatch h
 ·exact nomatch h
 ·exact ⟨a,b,c,d,rfl⟩
 ·exact nomatch h
theorem JF (h:jD t a ns) (hc:cs.length=10) (hs:∀ i,i<4→fP (ns i)=true):qU (HL xs cs t) a=some [ns 0,ns 1,ns 2,ns 3]:=by refine aZ h.ex fun as h1 h2 h3=>?_;refine ym (four h1) fun a0 a1 a2 a3 q1=>?_;subst q1;have e:=h2.get (xs:=xs) hc;exact aG (congrArg bO e) (aG rfl (aG (xh ((h3 0 a0 rfl).get (xs:=xs) hc) (hs 0 (by decide))) (aG (xh ((h3 1 a1 rfl).get (xs:=xs) hc) (hs 1 (by decide))) (aG (xh ((h3 2 a2 rfl).get (xs:=xs) hc) (hs 2 (by decide))) (aG (xh ((h3 3 a3 rfl).get (xs:=xs) hc) (hs 3 (by decide))) rfl)))))
theorem W7 (os:List (Option Int)):tH (os.map .jn)=some os:=by
 induction os with
 |nil=>rfl
 |cons o r ih=>exact aG (a:=o) rfl (aG ih rfl)
theorem JG {t:AH} {a:Nat} {os:List (Option Int)} {xs:List Int} {cs:List (Option AV)} (h:At t a (.list (os.map .jn))) (hc:cs.length=10):ownOf (HL xs cs t) a=some os:=by exact aG (congrArg bO (h.get hc)) (W7 os)
theorem W8:jo CL (.fix (.ref 217))=true:=rfl
theorem JH (l:List Nat):fP (l.map fun j=>.int (j:Nat))=true:=by
 induction l with
 |nil=>rfl
 |cons j l ih=>show (true&&fP (l.map fun j=>.int (j:Nat)))=true;rw [ih];rfl
theorem yc (C:Cx) (R:Rec) (ae:au) (a:Addr) (as:List PySem.Expr) (s:St):mW C R ae (.ref a) as s=none:=rfl
theorem W9 {xs:List Int} {cs:List (Option AV)} {t:AH} {ns:Nat→List AV} {os:List (Option Int)} {es:List (Int×AV)} {a b n:Nat} {lo:List (Str×AV)} (hc:cs.length=10) (h2:cs[2]?=some (some (.loc a))) (h3:cs[3]?=some (some (.loc b))) (hN:jD t a ns) (hs:∀ i,i<4→fP (ns i)=true) (hO:At t b (.list (os.map .jn))) (hh:fQ (CQ 6) FU j7 [.loc 0,.loc 5] (eX [ns 0,ns 1,ns 2,ns 3] (os.map .jn))=some (.obj (.dict es 0))):(run CL (n+100)).ev (kD (aY aU.body 3)) aM ⟨lo,HL xs cs t⟩=some (.loc (44+t.length),⟨lo,HL xs cs (t++[.dict es 0])⟩):=by
 have hn:aU.names=aU.names:=rfl
 conv at hn=>rhs;whnf
 have kC:(HL xs cs t)[36]?=some (.cell (some (.loc a))):=by have:=gz xs cs t (i:=2) hc (by decide);rw [h2] at this;exact this
 have Cn:(HL xs cs t)[37]?=some (.cell (some (.loc b))):=by have:=gz xs cs t (i:=3) hc (by decide);rw [h3] at this;exact this
 have ec:lg 217 [.loc a,.loc b] (HL xs cs t)=some (.loc (44+t.length),HL xs cs (t++[.dict es 0])):=by refine (show k9 (HL xs cs t) (HF (HL xs cs t) a b)=_ from aG (aG (JF hN hc hs) (aG (JG hO hc) hh)) rfl).trans ?_;show some (AV.loc (HL xs cs t).length,HL xs cs t++[AO.dict es 0])=_;rw [cZ _ _ _ hc,b6]
 have hca:=ya (n:=n+98) (by omega) ec;generalize hb:kD (aY aU.body 3)=bd
 conv at hb=>lhs;whnf
 subst hb;exact cX (bR rfl rfl) (yc _ _ _ _ _ _) rfl (bq (aq (aX rfl rfl kC)) (bq (aq (aX rfl rfl Cn)) bJ)) rfl W8 hca
theorem Xa (e:h[l]?=some (.dict es k)) (h1:es.length≤60) (h2:es.isEmpty=false) (h3:C.ro≤l):(run C (n+1)).ca (.fix (.builtin "sorted")) [.loc l] h=some (.loc h.length,h++[.list ((j5 (es.map (·.1))).map .int)]):=by show aV (iz h[l]?) (fun es _=>rS C h l es)=_;refine bG (congrArg iz e) ?_;show rS C h l es=_;unfold rS;rw [Nat.ble_eq_true_of_le h1,h2,Nat.ble_eq_true_of_le h3];rfl
theorem Co (e1:h[a]?=some (.list xs)) (e2:h[b]?=some (.list ys)) (e3:lC xs ys=some r):cmp h .NotEq (.loc a) (.loc b)=some (!r):=by exact aG (dG (a:=a) rfl (aG (sA e1) (aG (sA e2) e3)):eqv h (.loc a) (.loc b)=some r) rfl
theorem Xb (xs:List Int):∃ nv:Nat→Int,o8 xs=vals4 nv:=by
 have e:o8 xs=(xs.take 4++[4,33,18,21].drop (min xs.length 4)).map .int:=by
  unfold o8 dD W.kms_lo W.kms_hi;simp only [];rw [if_neg (by decide),if_neg (by omega)];simp only [List.length_map,List.drop_zero,Nat.sub_zero,Int.toNat_natCast,List.length_cons,List.length_nil];rw [List.map_append,← List.map_take,show min ((4:Int).toNat) xs.length=min 4 xs.length from rfl];congr 1
  ·congr 1;rcases Nat.le_total xs.length 4 with h|h
   ·rw [Nat.min_eq_right h,List.take_of_length_le (Nat.le_refl _),List.take_of_length_le h]
   ·rw [Nat.min_eq_left h]
  ·rw [show (0+1+1+1+1)=4 from rfl,List.take_of_length_le (by rw [List.length_drop];exact Nat.le_refl _)];rw [show [AV.int 4,.int 33,.int 18,.int 21]=[4,33,18,21].map AV.int from rfl,← List.map_drop]
 have hl:(xs.take 4++[4,33,18,21].drop (min xs.length 4)).length=4:=by rw [List.length_append,List.length_take,List.length_drop];simp only [List.length_cons,List.length_nil];omega
 refine ym (four hl) fun a b c d h=>?_;refine ⟨fun i=>[a,b,c,d].getD i 0,?_⟩;rw [e,h];rfl
noncomputable def dN:List (Str×AV):=[(S "script",.loc 33)]
theorem Xd (hx:xs.length≤63) (uA:o8 xs=vals4 nv) (hh:fQ (CQ 6) FU j7 [.loc 0,.loc 5] (eX ([0,1,2,3].map fun i=>(Nk nv i).map fun j=>.int (j:Nat)) [.jn (cI (nv 0)),.jn (cI (nv 1)),.jn (cI (nv 2)),.jn (cI (nv 3))])=some (.obj (.dict es 0))) (hl:es.length≤60) (hne:es.isEmpty=false) (uB:j5 (es.map (·.1))=[0,1,2,3]):∃ t a b h,(run CL (n+150)).ex aU.body aM ⟨dN,HL xs dM []⟩=(run CL (n+145)).ex (aU.body.drop 5) aM ⟨dN,HL xs [some (.loc 47),none,some (.loc a),some (.loc b),some (.loc h),none,none,none,none,none] t⟩∧jD t a (fun i=>(Nk nv i).map fun j=>.int (j:Nat))∧At t b (.list [.jn (cI (nv 0)),.jn (cI (nv 1)),.jn (cI (nv 2)),.jn (cI (nv 3))])∧At t h (.dict es 0):=by
 have hn:aU.names=aU.names:=rfl
 conv at hn=>rhs;whnf
 have hc0:dM.length=10:=rfl;have hA:At (fX xs) 47 (.list (vals4 nv)):=⟨by decide,by rw [← uA];rfl⟩;refine bK (W3 (xs:=xs) (cs:=dM.set 0 (some (.loc 47))) (t:=fX xs) (nv:=nv) (n:=n+88) (lo:=dN) rfl rfl hA) fun as u1 w1 k1 k2=>?_;refine aJ (W6 (xs:=xs) (cs:=(dM.set 0 (some (.loc 47))).set 2 (some (.loc (44+(fX xs).length)))) (t:=fX xs++ .list (as.map .loc)::u1) (nv:=nv) (n:=n+87) (lo:=dN) rfl rfl (hA.app _)) fun u2 w2=>?_;generalize hT1:fX xs++ .list (as.map .loc)::u1=T1 at w1 w2 k2;have uC:jD T1 (44+(fX xs).length) (fun i=>(Nk nv i).map fun j=>.int (j:Nat)):=⟨as,k1,by rw [← hT1];exact At.here _ _ _,k2⟩;generalize hO:AO.list [.jn (cI (nv 0)),.jn (cI (nv 1)),.jn (cI (nv 2)),.jn (cI (nv 3))]=O at w2;have nM:=uC.app (O::u2);have Cp:At (T1++O::u2) (44+T1.length) (.list ([cI (nv 0),cI (nv 1),cI (nv 2),cI (nv 3)].map .jn)):=by have:=At.here T1 u2 O;rw [← hO] at this ⊢;exact this
 generalize hT2:T1++O::u2=T2 at w2 nM Cp;have w3:=W9 (xs:=xs) (cs:=((dM.set 0 (some (.loc 47))).set 2 (some (.loc (44+(fX xs).length)))).set 3 (some (.loc (44+T1.length)))) (t:=T2) (es:=es) (a:=44+(fX xs).length) (b:=44+T1.length) (n:=n+46) (lo:=dN) rfl rfl rfl nM (fun i _=>JH _) Cp hh;have hD:At (T2++[.dict es 0]) (44+T2.length) (.dict es 0):=At.here T2 [] _;have JI:=nM.app [AO.dict es 0];have JJ:=Cp.app [AO.dict es 0];generalize hT3:T2++[AO.dict es 0]=T3 at w3 hD JI JJ;have JK:=cZ xs [some (.loc 47),none,some (.loc (44+(fX xs).length)),some (.loc (44+T1.length)),some (.loc (44+T2.length)),none,none,none,none,none] T3 rfl;refine ⟨T3++[.list ([0,1,2,3].map .int),.list ([0,1,2,3].map .int)],44+(fX xs).length,44+T1.length,44+T2.length,?_,JI.app _,by rw [← hO];exact JJ.app _,hD.app _⟩;have hbody:aU.body=aY aU.body 0::aY aU.body 1::aY aU.body 2::aY aU.body 3::aY aU.body 4::aU.body.drop 5:=rfl;refine (congrArg (fun b=>(run CL (n+150)).ex b aM ⟨dN,HL xs dM []⟩) hbody).trans ?_;refine (eW (n:=n+149) (WV xs hx (n+129))).trans ?_;refine (eW (n:=n+148) (s1:=⟨dN,HL xs ((dM.set 0 (some (.loc 47))).set 2 (some (.loc (44+(fX xs).length)))) T1⟩) ?_).trans ?_
 ·exact asg (i:=2) (x:=S "needs") rfl rfl (by decide) rfl w1
 refine (eW (n:=n+147) (s1:=⟨dN,HL xs (((dM.set 0 (some (.loc 47))).set 2 (some (.loc (44+(fX xs).length)))).set 3 (some (.loc (44+T1.length)))) T2⟩) ?_).trans ?_
 ·exact asg (i:=3) (x:=S "own") rfl rfl (by decide) rfl w2
 refine (eW (n:=n+146) (s1:=⟨dN,HL xs ((((dM.set 0 (some (.loc 47))).set 2 (some (.loc (44+(fX xs).length)))).set 3 (some (.loc (44+T1.length)))).set 4 (some (.loc (44+T2.length)))) T3⟩) ?_).trans ?_
 ·exact asg (i:=4) (x:=S "held") rfl rfl (by decide) rfl w3
 refine (eW (n:=n+145) (s1:=⟨dN,HL xs [some (.loc 47),none,some (.loc (44+(fX xs).length)),some (.loc (44+T1.length)),some (.loc (44+T2.length)),none,none,none,none,none] (T3++[.list ([0,1,2,3].map .int),.list ([0,1,2,3].map .int)])⟩) ?_).trans ?_
 rotate_left
 ·rfl
 show cG CL (run CL (n+145)) (aY aU.body 4) aM ⟨dN,HL xs [some (.loc 47),none,some (.loc (44+(fX xs).length)),some (.loc (44+T1.length)),some (.loc (44+T2.length)),none,none,none,none,none] T3⟩=_;generalize hcs:[some (AV.loc 47),none,some (.loc (44+(fX xs).length)),some (.loc (44+T1.length)),some (.loc (44+T2.length)),none,none,none,none,none]=cs at JK;have hc:cs.length=10:=by rw [← hcs];rfl
 have Cq:(HL xs cs T3)[38]?=some (.cell (some (.loc (44+T2.length)))):=by have:=gz xs cs T3 (i:=4) hc (by decide);rw [← hcs] at this ⊢;exact this
 have hs:=fun n=>Xa (C:=CL) (n:=n) (hD.get (xs:=xs) hc) hl hne (by show 34≤_;have:=hD.le;omega);have f1:HL xs cs T3++[.list ([0,1,2,3].map AV.int)]=HL xs cs (T3++[.list ([0,1,2,3].map .int)]):=b6 _ _ _ _;have f2:HL xs cs (T3++[.list ([0,1,2,3].map AV.int)])++[.list ([0,1,2,3].map AV.int)]=HL xs cs (T3++[.list ([0,1,2,3].map .int),.list ([0,1,2,3].map .int)]):=by rw [b6,List.append_assoc];rfl
 have f3:(HL xs cs (T3++[.list ([0,1,2,3].map AV.int)])).length=44+(T3.length+1):=by rw [cZ _ _ _ hc,List.length_append];rfl
 have f4:cmp (HL xs cs (T3++[.list ([0,1,2,3].map AV.int),.list ([0,1,2,3].map .int)])) .NotEq (.loc (44+T3.length)) (.loc (44+(T3.length+1)))=some false:=by refine Co (xs:=[0,1,2,3].map AV.int) (ys:=[0,1,2,3].map AV.int) (r:=true) ((At.here T3 _ _).get hc) ?_ rfl;have:=At.here (T3++[.list ([0,1,2,3].map AV.int)]) [] (.list ([0,1,2,3].map .int));rw [List.length_append,List.append_assoc] at this;exact this.get hc
 have l4:lim (0+1+1+1+1)=true:=rfl;rw [uB,JK] at hs;generalize hb:aY aU.body 4=bd
 conv at hb=>lhs;whnf
 subst hb;simp only [List.map_cons,List.map_nil] at f1 f2 f3 f4 hs ⊢;exact d8 (bF (bD rfl (cX (bR rfl rfl) rfl rfl (bq (aq (aX rfl rfl Cq)) bJ) rfl (fH _ "sorted") ((hs _).trans (by rw [f1]))) ((xZ rfl (bq bx (bq bx (bq bx (bq bx bJ))))).trans (by rw [f3,f2])) f4)) bY
noncomputable def oI (o:Option Nat):Option Int:=o.map fun m=>((32768+m:Nat):Int)
noncomputable def cD (J:Nat→Option Nat) (k:Nat):Str:=match J k with
 |none=>failK k
 |some m=>T (ez m)
noncomputable def o9 (k:Nat):Str:=Str.ofString "file " ++gO k
theorem JL:((List.range 4).all fun k=>small ((k:Nat):Int)&&lim (gO k).cps.size&&lim ((Str.ofString "file ").cps.size+(gO k).cps.size)&&lim (iR (o9 k)).cps.size&&sE (iR (o9 k)) (failK k))=true:=rfl
theorem JM (xs:List Int) (cs:List (Option AV)) (t:AH):jy b5 (HL xs cs t)=true:=rfl
theorem Xe:jo CL (.fix (.ref 29))=true:=rfl
theorem Xf (w:Str) (h:AH) (e1:lim (iR w).cps.size=true) (e2:jy b5 h=true):lg 29 [.jn none,.str w,.fix (.ref 210)] h=some (.str (iR w),h):=by
 have e:lg 29 [.jn none,.str w,.fix (.ref 210)] h=match jy b5 h with|true=>gd (lim (iR w).cps.size) (some (AV.str (iR w),h))|false=>none:=rfl
 rw [e,e2,e1];rfl
theorem Xg (hk:k<4) (hJ:∀ m,J k=some m→m<512) (xs:List Int) (cs:List (Option AV)) (t:AH):lg 29 [.jn (oI (J k)),.str (o9 k),.fix (.ref 210)] (HL xs cs t)=some (.str (cD J k),HL xs cs t):=by
 have hc:=List.all_eq_true.mp JL k (List.mem_range.mpr hk);rw [Bool.and_eq_true,Bool.and_eq_true,Bool.and_eq_true,Bool.and_eq_true] at hc;refine aN hc fun q1 c5=>?_;refine aN q1 fun q2 c4=>?_;refine aN q2 fun q3 c3=>?_;refine aN q3 fun c1 c2=>?_;unfold cD;cases h:J k with
 |none=>
  exact (Xf (o9 k) _ c4 (JM xs cs t)).trans (by rw [dm.mp c5])
 |some m=>
  have e:lg 29 [.jn (oI (some m)),.str (o9 k),.fix (.ref 210)] (HL xs cs t)=match jy b5 (HL xs cs t) with|true=>k9 (HL xs cs t) (tL ((32768+m:Nat):Int) (o9 k))|false=>none:=rfl
  rw [e,JM,safe_eq (hJ m h)];rfl
noncomputable def ig:PySem.Expr:=kD (aY aU.body 5)
noncomputable def JN (J:Nat→Option Nat):AV→AV
 | .int i=>.str (cD J i.toNat)
 |v=>v
theorem Xh {xs:List Int} {cs:List (Option AV)} {t u:AH} {es:List (Int×AV)} {J:Nat→Option Nat} {a k n:Nat} {acc:List AV} {lo:List (Str×AV)} (hc:cs.length=10) (h4:cs[4]?=some (some (.loc a))) (hA:At t a (.dict es 0)) (hk:k<4) (hd:c7 es (k:Nat)=some (.jn (oI (J k)))) (hJ:∀ m,J k=some m→m<512) (ha:acc.length<1000):∃ lo',turn CL (run CL (n+100)) ig 0 (gE ig) [.int (k:Nat)] (HL xs cs t).length (cA aM ig [(S "held",38)]) ⟨lo,HL xs cs t++ .list acc::u⟩=some ⟨lo',HL xs cs t++ .list (acc++[.str (cD J k)])::u⟩:=by
 have hn:(cA aM ig [(S "held",38)]).names=[(S ".0",.local),(S "k",.local),(S "_safe_string",.globalImplicit),(S "str",.globalImplicit),(S "filemode",.globalImplicit),(S "held",.cell)]:=rfl;have hcl:(cA aM ig [(S "held",38)]).cells=[(S "held",38)]:=rfl;have hq:(cA aM ig [(S "held",38)]).quiet=true:=rfl;have hc4:=List.all_eq_true.mp JL k (List.mem_range.mpr hk);rw [Bool.and_eq_true,Bool.and_eq_true,Bool.and_eq_true,Bool.and_eq_true] at hc4;refine aN hc4 fun q1 c5=>?_;refine aN q1 fun q2 c4=>?_;refine aN q2 fun q3 c3=>?_;refine aN q3 fun c1 c2=>?_;have hlen:=cZ xs cs t hc;have Cq:(HL xs cs (t++ .list acc::u))[38]?=some (.cell (some (.loc a))):=by have:=gz xs cs (t++ .list acc::u) (i:=4) hc (by decide);rw [h4] at this;exact this
 have eA:(HL xs cs (t++ .list acc::u))[a]?=some (.dict es 0):=(hA.app _).get hc;have eg:getItem (HL xs cs (t++ .list acc::u)) (.loc a) (.int (k:Nat))=some (.jn (oI (J k))):=by rw [jr,eA];exact hd
 have hstr:∀(n:Nat) (h:AH),(run CL (n+1)).ca (.fix (.type "str")) [.int (k:Nat)] h=some (.str (gO k),h):=fun n h=>by show (match small ((k:Nat):Int)&&lim (gO k).cps.size with|true=>some (AV.str (gO k),h)|false=>none)=_;rw [c1,c2];rfl
 have ha1:∀ h,binop h .Add (.str (Str.ofString "file ")) (.str (gO k))=some (.str (o9 k),h):=fun h=>xX c3;have l1:lim (Str.ofString "file ").cps.size=true:=rfl;have hca:=ya (n:=n+98) (by omega) (Xg hk hJ xs cs (t++ .list acc::u));generalize cA aM ig [(S "held",38)]=ae at hn hcl hq;generalize hx:ig=xe
 conv at hx=>lhs;whnf
 subst hx;refine ⟨put lo (S "k") (.int (k:Nat)),?_⟩;refine jV (s1:=⟨put lo (S "k") (.int (k:Nat)),HL xs cs t++ .list acc::u⟩) (s2:=⟨put lo (S "k") (.int (k:Nat)),HL xs cs t++ .list acc::u⟩) ?_ rfl rfl ?_ (by omega) (by show 34≤_;omega)
 ·exact gu (cg (by rw [hn];rfl))
 ·rw [b6];exact cX (bR (by rw [hn];rfl) rfl) (yc _ _ _ _ _ _) rfl (bq (bS rfl (aq (aX (by rw [hn];rfl) (by rw [hcl];rfl) Cq)) (aq (az (by rw [hn];rfl) b8)) eg) (bq (bV (jN l1) (cX (bR (by rw [hn];rfl) rfl) (Jt _ _ _ _ _) rfl (bq (aq (az (by rw [hn];rfl) b8)) bJ) hq (EY _ "str") (hstr _ _)) (ha1 _)) (bq (aq (bR (by rw [hn];rfl) rfl)) bJ))) hq Xe hca
theorem Xi {xs:List Int} {cs:List (Option AV)} {t:AH} {es:List (Int×AV)} {J:Nat→Option Nat} {a n:Nat} {lo:List (Str×AV)} (hc:cs.length=10) (h4:cs[4]?=some (some (.loc a))) (hA:At t a (.dict es 0)) (hd:∀ k,k<4→c7 es (k:Nat)=some (.jn (oI (J k)))) (hJ:∀ k m,J k=some m→m<512):∃ u,(run CL (n+120)).ev ig aM ⟨lo,HL xs cs t⟩=some (.loc (44+t.length),⟨lo,HL xs cs (t++ .list ((List.range 4).map fun k=>.str (cD J k))::u)⟩):=by
 have hn:aU.names=aU.names:=rfl
 conv at hn=>rhs;whnf
 have hi:iter CL (run CL (n+119)) aM (gE ig).iter ⟨lo,HL xs cs t⟩=some (.range 0 ((4:Nat):Int) 1,⟨lo,HL xs cs t⟩):=by
  have e:cJ (run CL (n+119)) aM (match bQ CL aM (gE ig).iter with|some as=>as|none=>[]) ⟨lo,HL xs cs t⟩=some ([.int ((4:Nat):Int)],⟨lo,HL xs cs t⟩):=by
   generalize hb:(match bQ CL aM (gE ig).iter with|some as=>as|none=>[])=bd
   conv at hb=>lhs;whnf
   subst hb;rfl
  rw [jU (as:=match bQ CL aM (gE ig).iter with|some as=>as|none=>[]) rfl e (mz 4 (by (exact Nat.le_add_left ..))),mC]
 refine Exists.elim (lu (C:=CL) (e:=ig) (g:=gE ig) (gens:=[]) (sc:=gv ig) (ae:=aM) (cl:=[(S "held",38)]) AO.list (fun u=>True) (fun acc x=>acc++[JN J x]) (n+100) ((dj 0 1 4).map .int) [] rfl rfl hi rfl rfl (by rw [gP,List.length_map,List.length_range];lia) (mG 4 0) trivial ?_) fun u ht=>?_
 ·intro pre x post hpp k' u2 lo' _;rw [gP] at hpp;have hlen:=rF (f:=JN J) hpp (by rw [List.length_map,List.length_range];decide);refine aN (mK hpp) fun q1 hlt=>?_;subst q1;refine aJ (Xh (xs:=xs) (u:=u2) (lo:=lo') (k:=pre.length) (n:=n+k') hc h4 hA hlt (hd _ hlt) (hJ _) hlen) fun lo2 w=>?_;refine ⟨lo2,u2,trivial,?_⟩;rw [List.foldl_append,show n+100+k'=n+k'+100 by omega];exact w
 ·refine aN ht fun q1 w=>?_;clear q1;refine ⟨u,?_⟩;rw [gP,fold_map,List.nil_append,b6,cZ xs cs t hc,List.map_map] at w;exact w
theorem Xj:jo CL (.fix (.ref 222))=true:=rfl
noncomputable def ir:PySem.Expr:=kD (aY aU.body 6)
theorem Xk {xs:List Int} {cs:List (Option AV)} {t:AH} {ns:Nat→List AV} {os:List (Option Int)} {a b k:Nat} {o:AO} (hc:cs.length=10) (hN:jD t a ns) (hs:∀ i,i<4→fP (ns i)=true) (hO:At t b (.list (os.map .jn))) (hd:fQ (CQ 6) FU bw [.loc 0,.loc 5,.int (k:Nat)] (eX [ns 0,ns 1,ns 2,ns 3] (os.map aP))=some (.obj o)):lg 222 [.loc a,.loc b,.int (k:Nat)] (HL xs cs t)=some (.loc (44+t.length),HL xs cs (t++[o])):=by refine (show k9 (HL xs cs t) (HG (HL xs cs t) a b (k:Nat))=_ from aG (aG (JF hN hc hs) (aG (JG hO hc) hd)) rfl).trans ?_;show some (AV.loc (HL xs cs t).length,HL xs cs t++[o])=_;rw [cZ _ _ _ hc,b6]
noncomputable def Xl (t u:AH) (f:Nat→AO) (as:List Nat):Prop:=∀ i a,as[i]?=some a→∃ q,a=44+(t.length+1+q)∧u[q]?=some (f i)
theorem Xm {xs:List Int} {cs:List (Option AV)} {t:AH} {ns:Nat→List AV} {os:List (Option Int)} {a b n:Nat} {uD:Nat→AO} {lo:List (Str×AV)} (hc:cs.length=10) (h2:cs[2]?=some (some (.loc a))) (h3:cs[3]?=some (some (.loc b))) (hN:jD t a ns) (hs:∀ i,i<4→fP (ns i)=true) (hO:At t b (.list (os.map .jn))) (hd:∀ k,k<4→fQ (CQ 6) FU bw [.loc 0,.loc 5,.int (k:Nat)] (eX [ns 0,ns 1,ns 2,ns 3] (os.map aP))=some (.obj (uD k))):∃(as:List Nat) (u:AH),(run CL (n+120)).ev ir aM ⟨lo,HL xs cs t⟩=some (.loc (44+t.length),⟨lo,HL xs cs (t++ .list (as.map .loc)::u)⟩)∧as.length=4∧∀ i b,as[i]?=some b→At (t++ .list (as.map .loc)::u) b (uD i):=by
 have hn:aU.names=aU.names:=rfl
 conv at hn=>rhs;whnf
 have hi:iter CL (run CL (n+119)) aM (gE ir).iter ⟨lo,HL xs cs t⟩=some (.range 0 ((4:Nat):Int) 1,⟨lo,HL xs cs t⟩):=by
  have e:cJ (run CL (n+119)) aM (match bQ CL aM (gE ir).iter with|some as=>as|none=>[]) ⟨lo,HL xs cs t⟩=some ([.int ((4:Nat):Int)],⟨lo,HL xs cs t⟩):=by
   generalize hb:(match bQ CL aM (gE ir).iter with|some as=>as|none=>[])=bd
   conv at hb=>lhs;whnf
   subst hb;rfl
  rw [jU (as:=match bQ CL aM (gE ir).iter with|some as=>as|none=>[]) rfl e (mz 4 (by (exact Nat.le_add_left ..))),mC]
 refine Exists.elim (Cf (C:=CL) (e:=ir) (g:=gE ir) (gens:=[]) (sc:=gv ir) (ae:=aM) (cl:=[(S "own",37),(S "needs",36)]) (fun pre acc u=>∃(as:List Nat),acc=.list (as.map .loc)∧as.length=pre.length∧Xl t u uD as) (n+100) ((dj 0 1 4).map .int) (.list []) rfl rfl hi rfl rfl (by rw [gP,List.length_map,List.length_range];lia) (mG 4 0) ⟨[],rfl,rfl,fun i a h=>by simp at h⟩ ?_) fun acc ht=>?_
 ·intro pre x post hpp k' acc u lo' hinv;obtain ⟨as,rfl,hlen,hls⟩:=hinv;rw [gP] at hpp;obtain ⟨rfl,hlt⟩:=mK hpp;refine ⟨put lo' (S "k") (.int (pre.length:Nat)),.list ((as++[44+(t.length+1+u.length)]).map .loc),u++[uD pre.length],⟨_,rfl,by rw [List.length_append,List.length_append,hlen];rfl,?_⟩,?_⟩
  ·intro i b hb;by_cases uz:i<as.length
   ·rw [List.getElem?_append_left uz] at hb;obtain ⟨q,q1,q2⟩:=hls i b hb;exact ⟨q,q1,mD q2⟩
   ·rw [List.getElem?_append_right (Nat.le_of_not_lt uz)] at hb;have:i- as.length=0:=by have:=(List.getElem?_eq_some_iff.mp hb).1;simp at this;omega
    rw [this] at hb;cases hb;have:i=pre.length:=by lia
    subst this;exact ⟨u.length,rfl,jB _ _ _⟩
  ·have hn:(cA aM ir [(S "own",37),(S "needs",36)]).names=[(S ".0",.local),(S "k",.local),(S "_law_due",.globalImplicit),(S "needs",.cell),(S "own",.cell)]:=rfl;have hcl:(cA aM ir [(S "own",37),(S "needs",36)]).cells=[(S "own",37),(S "needs",36)]:=rfl;have hq:(cA aM ir [(S "own",37),(S "needs",36)]).quiet=true:=rfl;show turn CL (run CL (n+100+k')) ir 0 (gE ir) [.int (pre.length:Nat)] (HL xs cs t).length (cA aM ir [(S "own",37),(S "needs",36)]) ⟨lo',HL xs cs t++ .list (as.map .loc)::u⟩=some ⟨put lo' (S "k") (.int (pre.length:Nat)),HL xs cs t++ .list ((as++[44+(t.length+1+u.length)]).map .loc)::(u++[uD pre.length])⟩;have hL:(HL xs cs t).length=44+t.length:=cZ xs cs t hc;have kC:(HL xs cs (t++AO.list (as.map .loc)::u))[36]?=some (.cell (some (.loc a))):=by have:=gz xs cs (t++AO.list (as.map .loc)::u) (i:=2) hc (by decide);rw [h2] at this;exact this
   have Cn:(HL xs cs (t++AO.list (as.map .loc)::u))[37]?=some (.cell (some (.loc b))):=by have:=gz xs cs (t++AO.list (as.map .loc)::u) (i:=3) hc (by decide);rw [h3] at this;exact this
   have ec:=Xk (xs:=xs) (cs:=cs) (k:=pre.length) hc (hN.app (AO.list (as.map .loc)::u)) hs (hO.app (AO.list (as.map .loc)::u)) (hd _ hlt);rw [List.length_append,List.length_cons,show 44+(t.length+(u.length+1))=44+(t.length+1+u.length) by lia,List.append_assoc] at ec;have hca:=ya (n:=n+98+k') (by lia) ec;rw [show n+98+k'+1=n+k'+99 by lia] at hca;rw [show n+100+k'=n+k'+100 by (exact Nat.add_right_comm ..),List.map_append];generalize cA aM ir [(S "own",37),(S "needs",36)]=ae at hn hcl hq;generalize hx:ir=xe
   conv at hx=>lhs;whnf
   subst hx;refine jV (s1:=⟨put lo' (S "k") (.int (pre.length:Nat)),HL xs cs t++ .list (as.map .loc)::u⟩) (s2:=⟨put lo' (S "k") (.int (pre.length:Nat)),HL xs cs t++ .list (as.map .loc)::u⟩) ?_ rfl rfl ?_ (by rw [List.length_map];lia) (by show 34≤_;(exact Nat.le_add_left ..))
   ·exact gu (cg (by rw [hn];rfl))
   ·rw [b6,b6];exact cX (bR (by rw [hn];rfl) rfl) (yc _ _ _ _ _ _) rfl (bq (aq (aX (by rw [hn];rfl) (by rw [hcl];rfl) kC)) (bq (aq (aX (by rw [hn];rfl) (by rw [hcl];rfl) Cn)) (bq (aq (az (by rw [hn];rfl) b8)) bJ))) hq Xj hca
 ·obtain ⟨u,⟨as,rfl,hlen,hls⟩,w⟩:=ht;rw [gP,List.length_map,List.length_range] at hlen;refine ⟨as,u,?_,hlen,?_⟩
  ·rw [b6,cZ xs cs t hc] at w;exact w
  ·intro i b hb;obtain ⟨q,q1,q2⟩:=hls i b hb;refine ⟨by lia,?_⟩;rw [q1,show 44+(t.length+1+q) - 44=t.length+(1+q) by lia,List.getElem?_append_right (by (exact Nat.le_add_right ..)),show t.length+(1+q) - t.length=q+1 by lia];exact q2
noncomputable def je:PySem.Expr:=match aY aU.body 7 with
 | .If (.Compare _ _ [e] _) _ _ _=>e
 |_=>default
noncomputable def jE (J:Nat→Option Nat) (cnt:Nat→Int) (k:Nat):AO:=.tup [.str (cD J k),.int (cnt k)]
structure mO (t:AH) (d:Nat) (as:List Nat) (f:Nat→AO):Prop where
 len:as.length=4
 lst:At t d (.list (as.map .loc))
 ob:∀ i b,as[i]?=some b→At t b (f i)
theorem mO.app (h:mO t d as f) (u:AH):mO (t++u) d as f:=⟨h.len,h.lst.app u,fun i b hb=>(h.ob i b hb).app u⟩
noncomputable def kF (h:AH):AV→AV
 | .loc a=>(match h[a]? with|some (.tup (r::_))=>r|_=>.none)
 |_=>.none
theorem JO (h:store C ae x v s=some s1) (k:storeAll C ae es vs s1=z):storeAll C ae (.Name x p::es) (v::vs) s=z:=bG (a:=x) (c:=p) rfl (aG h k)
theorem Xn {xs:List Int} {cs:List (Option AV)} {t u:AH} {J:Nat→Option Nat} {cnt:Nat→Int} {b i n:Nat} {acc:List AV} {lo:List (Str×AV)} (hc:cs.length=10) (hb:At t b (jE J cnt i)) (ha:acc.length<1000):∃ lo',turn CL (run CL (n+20)) je 0 (gE je) [.loc b] (HL xs cs t).length (cA aM je []) ⟨lo,HL xs cs t++ .list acc::u⟩=some ⟨lo',HL xs cs t++ .list (acc++[.str (cD J i)])::u⟩:=by
 have hn:(cA aM je []).names=[(S ".0",.local),(S "row",.local),(S "count",.local)]:=rfl;have hcl:(cA aM je []).cells=[]:=rfl;have hL:=cZ xs cs t hc;have eb:(HL xs cs t++AO.list acc::u)[b]?=some (jE J cnt i):=by rw [b6];exact (hb.app _).get hc
 unfold jE at eb;generalize cA aM je []=ae at hn hcl;generalize hx:je=xe
 conv at hx=>lhs;whnf
 subst hx;refine ⟨put (put lo (S "row") (.str (cD J i))) (S "count") (.int (cnt i)),?_⟩;refine jV (s1:=⟨put (put lo (S "row") (.str (cD J i))) (S "count") (.int (cnt i)),HL xs cs t++ .list acc::u⟩) (s2:=⟨put (put lo (S "row") (.str (cD J i))) (S "count") (.int (cnt i)),HL xs cs t++ .list acc::u⟩) ?_ rfl rfl ?_ (by (exact Nat.lt_of_lt_of_le ha (by decide))) (by show 34≤_;(exact Nat.le_add_left ..))
 ·exact zd eb (JO (cg (by rw [hn];rfl)) (JO (cg (by rw [hn];rfl)) rfl))
 ·exact aq (az (by rw [hn];rfl) (bT rfl b8))
theorem Xo {xs:List Int} {cs:List (Option AV)} {t:AH} {J:Nat→Option Nat} {cnt:Nat→Int} {d n:Nat} {as:List Nat} {lo:List (Str×AV)} (hc:cs.length=10) (h6:cs[6]?=some (some (.loc d))) (hD:mO t d as (jE J cnt)):∃ u,(run CL (n+60)).ev je aM ⟨lo,HL xs cs t⟩=some (.loc (44+t.length),⟨lo,HL xs cs (t++ .list ((List.range 4).map fun k=>.str (cD J k))::u)⟩):=by
 have hn:aU.names=aU.names:=rfl
 conv at hn=>rhs;whnf
 have jX:(HL xs cs t)[40]?=some (.cell (some (.loc d))):=by have:=gz xs cs t (i:=6) hc (by decide);rw [h6] at this;exact this
 have eD:(HL xs cs t)[d]?=some (.list (as.map .loc)):=hD.lst.get hc;have hi:iter CL (run CL (n+59)) aM (gE je).iter ⟨lo,HL xs cs t⟩=some (.lst d 0,⟨lo,HL xs cs t⟩):=by
  generalize hx:(gE je).iter=xe
  conv at hx=>lhs;whnf
  subst hx;exact mZ rfl rfl rfl rfl (aq (aX rfl rfl jX)) eD
 refine Exists.elim (lu (C:=CL) (e:=je) (g:=gE je) (gens:=[]) (sc:=gv je) (ae:=aM) (cl:=[]) AO.list (fun u=>True) (fun acc x=>acc++[kF (HL xs cs t) x]) (n+20) (as.map .loc) [] rfl rfl hi rfl rfl (by rw [List.length_map,hD.len];lia) (nJ eD _ 0 rfl) trivial ?_) fun u ht=>?_
 ·intro pre x post hpp k' u2 lo' _;have hlen:=rF (f:=kF (HL xs cs t)) hpp (by rw [List.length_map,hD.len];decide);have hm:=nL hpp;refine aC (List.mem_map.mp hm) fun b hb q1=>?_;subst q1;refine aJ (List.getElem?_of_mem hb) fun i hi=>?_;refine aJ (Xn (xs:=xs) (u:=u2) (lo:=lo') (n:=n+k') hc (hD.ob i b hi) hlen) fun lo2 w=>?_;refine ⟨lo2,u2,trivial,?_⟩;rw [List.foldl_append,show n+20+k'=n+k'+20 by (exact Nat.add_right_comm ..)];have hp:kF (HL xs cs t) (.loc b)=.str (cD J i):=by show (match (HL xs cs t)[b]? with|some (.tup (r::_))=>r|_=>AV.none)=_;rw [(hD.ob i b hi).get hc];rfl
  show _=some (St.mk lo2 (HL xs cs t++AO.list (pre.foldl (fun acc x=>acc++[kF (HL xs cs t) x]) []++[kF (HL xs cs t) (.loc b)])::u2));rw [hp];exact w
 ·refine aN ht fun q1 w=>?_;clear q1;refine ⟨u,?_⟩;rw [fold_map,List.nil_append,b6,cZ xs cs t hc] at w;have hm:(as.map AV.loc).map (kF (HL xs cs t))=(List.range 4).map fun k=>.str (cD J k):=by
   refine ym (four hD.len) fun a0 a1 a2 a3 q1=>?_;subst q1;have hp:∀ i b,[a0,a1,a2,a3][i]?=some b→kF (HL xs cs t) (.loc b)=.str (cD J i):=by intro i b hi;show (match (HL xs cs t)[b]? with|some (.tup (r::_))=>r|_=>AV.none)=_;rw [(hD.ob i b hi).get hc];rfl
   show [kF (HL xs cs t) (.loc a0),kF (HL xs cs t) (.loc a1),kF (HL xs cs t) (.loc a2),kF (HL xs cs t) (.loc a3)]=_;rw [hp 0 a0 rfl,hp 1 a1 rfl,hp 2 a2 rfl,hp 3 a3 rfl];rfl
  rw [hm] at w;exact w
theorem JP (f:Nat→Str):∀ l:List Nat,lC (l.map fun k=>.str (f k)) (l.map fun k=>.str (f k))=some true
 |[]=>rfl
 |k::l=>by
  refine (DW (p:=sE (f k) (f k)) rfl (JP f l)).trans ?_;rw [iB];rfl
theorem Xp {xs:List Int} {t:AH} {ns:Nat→List AV} {os:List (Option Int)} {es:List (Int×AV)} {J:Nat→Option Nat} {cnt:Nat→Int} {n0 a b h n:Nat} (hN:jD t a ns) (hs:∀ i,i<4→fP (ns i)=true) (hO:At t b (.list (os.map .jn))) (hH:At t h (.dict es 0)) (hd:∀ k,k<4→c7 es (k:Nat)=some (.jn (oI (J k)))) (hJ:∀ k m,J k=some m→m<512) (Cr:∀ k,k<4→fQ (CQ 6) FU bw [.loc 0,.loc 5,.int (k:Nat)] (eX [ns 0,ns 1,ns 2,ns 3] (os.map aP))=some (.obj (jE J cnt k))):∃ t' r d as,(run CL (n+145)).ex (aU.body.drop 5) aM ⟨dN,HL xs [some (.loc n0),none,some (.loc a),some (.loc b),some (.loc h),none,none,none,none,none] t⟩=(run CL (n+142)).ex (aU.body.drop 8) aM ⟨dN,HL xs [some (.loc n0),none,some (.loc a),some (.loc b),some (.loc h),some (.loc r),some (.loc d),none,none,none] t'⟩∧jD t' a ns∧At t' r (.list ((List.range 4).map fun k=>.str (cD J k)))∧mO t' d as (jE J cnt):=by
 have hn:aU.names=aU.names:=rfl
 conv at hn=>rhs;whnf
 refine aJ (Xi (xs:=xs) (cs:=[some (.loc n0),none,some (.loc a),some (.loc b),some (.loc h),none,none,none,none,none]) (J:=J) (n:=n+24) (lo:=dN) rfl rfl hH hd hJ) fun u1 w1=>?_;have JQ:=At.here t u1 (.list ((List.range 4).map fun k=>.str (cD J k)));have uC:=hN.app (.list ((List.range 4).map fun k=>.str (cD J k))::u1);have JR:=hO.app (.list ((List.range 4).map fun k=>.str (cD J k))::u1);generalize hT1:t++ .list ((List.range 4).map fun k=>.str (cD J k))::u1=T1 at w1 JQ uC JR;refine bK (Xm (xs:=xs) (cs:=[some (.loc n0),none,some (.loc a),some (.loc b),some (.loc h),some (.loc (44+t.length)),none,none,none,none]) (n:=n+23) (lo:=dN) rfl rfl rfl uC hs JR Cr) fun as u2 w2 k1 k2=>?_;have uE:mO (T1++ .list (as.map .loc)::u2) (44+T1.length) as (jE J cnt):=⟨k1,At.here _ _ _,k2⟩;have uF:=JQ.app (.list (as.map .loc)::u2);have nM:=uC.app (.list (as.map .loc)::u2);generalize hT2:T1++ .list (as.map .loc)::u2=T2 at w2 uE uF nM;refine aJ (Xo (xs:=xs) (cs:=[some (.loc n0),none,some (.loc a),some (.loc b),some (.loc h),some (.loc (44+t.length)),some (.loc (44+T1.length)),none,none,none]) (n:=n+81) (lo:=dN) rfl rfl uE) fun u3 w3=>?_;refine ⟨T2++ .list ((List.range 4).map fun k=>.str (cD J k))::u3,44+t.length,44+T1.length,as,?_,nM.app _,uF.app _,uE.app _⟩;have hbody:aU.body.drop 5=aY aU.body 5::aY aU.body 6::aY aU.body 7::aU.body.drop 8:=rfl;refine (congrArg (fun b'=>(run CL (n+145)).ex b' aM ⟨dN,HL xs [some (.loc n0),none,some (.loc a),some (.loc b),some (.loc h),none,none,none,none,none] t⟩) hbody).trans ?_;refine (eW (n:=n+144) (s1:=⟨dN,HL xs [some (.loc n0),none,some (.loc a),some (.loc b),some (.loc h),some (.loc (44+t.length)),none,none,none,none] T1⟩) ?_).trans ?_
 ·exact asg (i:=5) (x:=S "rows") rfl rfl (by decide) rfl w1
 refine (eW (n:=n+143) (s1:=⟨dN,HL xs [some (.loc n0),none,some (.loc a),some (.loc b),some (.loc h),some (.loc (44+t.length)),some (.loc (44+T1.length)),none,none,none] T2⟩) ?_).trans ?_
 ·exact asg (i:=6) (x:=S "due") rfl rfl (by decide) rfl w2
 refine (eW (n:=n+142) (s1:=⟨dN,HL xs [some (.loc n0),none,some (.loc a),some (.loc b),some (.loc h),some (.loc (44+t.length)),some (.loc (44+T1.length)),none,none,none] (T2++ .list ((List.range 4).map fun k=>.str (cD J k))::u3)⟩) ?_).trans ?_
 rotate_left
 ·rfl
 generalize hcs:[some (AV.loc n0),none,some (.loc a),some (.loc b),some (.loc h),some (.loc (44+t.length)),some (.loc (44+T1.length)),none,none,none]=cs at w3;have hc:cs.length=10:=by rw [← hcs];rfl
 have yd:(HL xs cs T2)[39]?=some (.cell (some (.loc (44+t.length)))):=by have:=gz xs cs T2 (i:=5) hc (by decide);rw [← hcs] at this ⊢;exact this
 have f4:cmp (HL xs cs (T2++ .list ((List.range 4).map fun k=>.str (cD J k))::u3)) .NotEq (.loc (44+t.length)) (.loc (44+T2.length))=some false:=Co ((uF.app _).get hc) ((At.here T2 _ _).get hc) (JP _ _);generalize hb:aY aU.body 7=bd
 conv at hb=>lhs;whnf
 generalize hx:je=xt at w3
 conv at hx=>lhs;whnf
 subst hb;subst hx;exact d8 (bF (bD rfl (aq (aX rfl rfl yd)) w3 f4)) bY
theorem JS (h1:fC C ae g.target vs s=some s1) (h2:iP R ae g.ifs s1=some (true,s2)) (h3:(clauses e)[d+1]?=some g') (ha:iE g'.is_async 0=true) (h4:iter C R ae g'.iter s2=some (Br,s3)) (hp:pK Br=true) (h5:R.co e (d+1) Br a ae s3=some s4):turn C R e d g vs a ae s=some s4:=by exact aG h1 (bG h2 (show uZ C R e d a ae s2=_ from dG h3 (by unfold yK;rw [ha];exact bG h4 (by rw [hp];exact h5))))
theorem Xq {C:Cx} {R:Rec} {ke ve:PySem.Expr} {gens:List Comprehension} {sc:Scope} {p:Pos} {ae:au} {d:Nat} {g:Comprehension} {vs:List AV} {s s1 s2 s3:St} {base t:AH} {es:List (Int×AV)} {lo:List (Str×AV)} {v:AV} {i:Int} (h1:fC C ae g.target vs s=some s1) (h2:iP R ae g.ifs s1=some (true,s2)) (h3:gens[d+1]?=none) (hk:R.ev ke ae s2=some (.int i,s3)) (he:R.ev ve ae s3=some (v,⟨lo,base++ .dict es 0::t⟩)) (hl:es.length<100000) (dQ:C.ro≤base.length):turn C R (.DictComp ke ve gens sc p) d g vs base.length ae s=some ⟨lo,base++ .dict (dput es i v) 0::t⟩:=by exact aG h1 (bG h2 (show uZ C R (.DictComp ke ve gens sc p) d base.length ae s2=_ from dH h3 (show uY C R ke ve base.length ae s2=_ from by unfold uY;exact bG hk (aG rfl (bG he (aG (a:=es) (by show mT (base++AO.dict es 0::t)[base.length]?=_;rw [jB];rfl) (by rw [show lim (es.length+1)=true from Nat.ble_eq_true_of_le (by assumption)];exact aG (B4 dQ) rfl)))))))
theorem Cs (i:Int) (v:AV):∀ es:List (Int×AV),(dput es i v).length≤es.length+1
 |[]=>Nat.le_refl _
 |p::r=>by
  unfold dput;split
  ·simp
  ·have:=Cs i v r;simp only [List.length_cons];(exact Nat.succ_le_succ this)
noncomputable def cC (cnt:Nat→Int) (k:Nat):Bool:= !bf (cnt k) 0
noncomputable def jf (cnt:Nat→Int) (lv:Nat→Nat→Int) (k:Nat) (es:List (Int×AV)) (x:AV):List (Int×AV):=match x with
 | .int j=>(match cC cnt k with|true=>dput es (4*j+(k:Nat)) (.int (lv j.toNat k))|false=>es)
 |_=>es
noncomputable def jg (cnt:Nat→Int) (lv:Nat→Nat→Int) (es:List (Int×AV)) (x:AV):List (Int×AV):=match x with
 | .int k=>((List.range k.toNat).map fun j=>AV.int (j:Nat)).foldl (jf cnt lv k.toNat) es
 |_=>es
theorem Ct (cnt:Nat→Int) (lv:Nat→Nat→Int) (k:Nat):∀(l:List AV) (es:List (Int×AV)),(l.foldl (jf cnt lv k) es).length≤es.length+l.length
 |[],es=>by simp
 |x::l,es=>by
  rw [List.foldl_cons];have h1:=Ct cnt lv k l (jf cnt lv k es x);have h2:(jf cnt lv k es x).length≤es.length+1:=by
   unfold jf;split
   ·split
    ·exact Cs _ _ _
    ·(exact Nat.le_add_right ..)
   ·(exact Nat.le_add_right ..)
  simp only [List.length_cons];lia
theorem JT (cnt:Nat→Int) (lv:Nat→Nat→Int):∀(l:List Nat) (es:List (Int×AV)),(∀ k∈l,k<4)→((l.map fun k=>AV.int (k:Nat)).foldl (jg cnt lv) es).length≤es.length+4*l.length
 |[],es,_=>by simp
 |k::l,es,h=>by
  rw [List.map_cons,List.foldl_cons];have h1:=JT cnt lv l (jg cnt lv es (.int (k:Nat))) fun k hk=>h k (.tail _ hk);have h2:(jg cnt lv es (.int (k:Nat))).length≤es.length+k:=by show (((List.range k).map fun j=>AV.int (j:Nat)).foldl (jf cnt lv k) es).length≤_;have:=Ct cnt lv k ((List.range k).map fun j=>AV.int (j:Nat)) es;rw [List.length_map,List.length_range] at this;exact this
  have:=h k (.head _);simp only [List.length_cons];lia
theorem pre_eq (h:(List.range n).map (fun j=>AV.int (j:Nat))=pre++x::post):pre=(List.range pre.length).map fun j=>AV.int (j:Nat):=by
 have h2:=(mK h).2;have h3:=congrArg (List.take pre.length) h;rw [List.take_left',← List.map_take,List.take_range,Nat.min_eq_left (Nat.le_of_lt h2)] at h3
 ·exact h3.symm
 ·rfl
noncomputable def fJ:PySem.Expr:=kD (aY aU.body 8)
noncomputable def jY (e:PySem.Expr):Comprehension:=(clauses e).getD 1 default
theorem Xr:jo CL (.fix (.ref 43))=true:=rfl
theorem Xs (h:AH) (e:i7 a b 20=some (.val (.int v))):lg 43 [.str a,.str b,.int 20] h=some (.int v,h):=by exact (show k9 h (i7 a b 20)=_ from aG e rfl)
noncomputable def ji:au:=cA aM fJ [(S "rows",39),(S "due",40)]
theorem JU:ji.names=[(S ".0",.local),(S "k",.local),(S "j",.local),(S "range",.globalImplicit),(S "_levenshtein_distance",.globalImplicit),(S "due",.cell),(S "rows",.cell)]:=rfl
theorem Xu:ji.cells=[(S "rows",39),(S "due",40)]:=rfl
theorem Xv:ji.quiet=true:=rfl
structure yf (xs:List Int) (cs:List (Option AV)) (t:AH) (J:Nat→Option Nat) (cnt:Nat→Int) (r d:Nat) (as:List Nat):Prop where
 hc:cs.length=10
 h5:cs[5]?=some (some (.loc r))
 h6:cs[6]?=some (some (.loc d))
 hR:At t r (.list ((List.range 4).map fun k=>.str (cD J k)))
 hD:mO t d as (jE J cnt)
theorem Xw {xs:List Int} {cs:List (Option AV)} {t u:AH} {J:Nat→Option Nat} {cnt:Nat→Int} {lv:Nat→Nat→Int} {r d j k n:Nat} {as:List Nat} {es:List (Int×AV)} {lo:List (Str×AV)} (F:yf xs cs t J cnt r d as) (hjk:j<k) (hk:k<4) (hl:cC cnt k=true→i7 (cD J j) (cD J k) 20=some (.val (.int (lv j k)))) (ha:es.length<1000) (hlo:lk lo (S "k")=some (.int (k:Nat))):∃ lo',lk lo' (S "k")=some (.int (k:Nat))∧turn CL (run CL (n+100)) fJ 1 (jY fJ) [.int (j:Nat)] (HL xs cs t).length ji ⟨lo,HL xs cs t++ .dict es 0::u⟩=some ⟨lo',HL xs cs t++ .dict (jf cnt lv k es (.int (j:Nat))) 0::u⟩:=by
 have hn:=JU;have hcl:=Xu;have hq:=Xv;have hL:=cZ xs cs t F.hc;have yd:(HL xs cs (t++ .dict es 0::u))[39]?=some (.cell (some (.loc r))):=by have:=gz xs cs (t++ .dict es 0::u) (i:=5) F.hc (by decide);rw [F.h5] at this;exact this
 have jX:(HL xs cs (t++ .dict es 0::u))[40]?=some (.cell (some (.loc d))):=by have:=gz xs cs (t++ .dict es 0::u) (i:=6) F.hc (by decide);rw [F.h6] at this;exact this
 have eR:=(F.hR.app (.dict es 0::u)).get (xs:=xs) F.hc;have eD:=(F.hD.lst.app (.dict es 0::u)).get (xs:=xs) F.hc;obtain ⟨b,hb⟩:∃ b,as[k]?=some b:=⟨_,List.getElem?_eq_getElem (by rw [F.hD.len];exact hk)⟩;have eB:=((F.hD.ob k b hb).app (.dict es 0::u)).get (xs:=xs) F.hc;have g1:=mL eD (k:=k) (v:=.loc b) (by rw [List.getElem?_map,hb];rfl);have g2:getItem (HL xs cs (t++ .dict es 0::u)) (.loc b) (.int 1)=some (.int (cnt k)):=by rw [jr,eB];rfl
 have g3:getItem (HL xs cs (t++ .dict es 0::u)) (.loc r) (.int (j:Nat))=some (.str (cD J j)):=mL eR (by rw [List.getElem?_map,List.getElem?_range (by (exact Nat.lt_trans hjk hk))];rfl);have g4:getItem (HL xs cs (t++ .dict es 0::u)) (.loc r) (.int (k:Nat))=some (.str (cD J k)):=mL eR (by rw [List.getElem?_map,List.getElem?_range hk];rfl);have bm:∀ h,binop h .Mult (.int 4) (.int (j:Nat))=some (.int (4*(j:Int)),h):=fun h=>oU h rfl (rz j (by lia));have Cu:=hlo;generalize ji=ae at hn hcl hq;generalize hx:fJ=xe
 conv at hx=>lhs;whnf
 subst hx;simp only [S] at hlo;refine ⟨put lo (S "j") (.int (j:Nat)),by rw [aL];exact Cu,?_⟩;cases hok:cC cnt k with
 |false=>
  have hge:(!bf (cnt k) 0)=false:=hok;rw [show jf cnt lv k es (.int (j:Nat))=es by unfold jf;rw [hok]];refine tY (s1:=⟨put lo (S "j") (.int (j:Nat)),HL xs cs t++ .dict es 0::u⟩) ?_ ?_
  ·exact gu (cg (by rw [hn];rfl))
  ·rw [b6];exact B6 (bF (bD rfl (bS rfl (bS rfl (aq (aX (by rw [hn];rfl) (by rw [hcl];rfl) jX)) (aq (az (by rw [hn];rfl) (bT rfl hlo))) g1) bx g2) bx ((ni _ _ _).trans (congrArg some hge))))
 |true=>
  have hge:(!bf (cnt k) 0)=true:=hok;have hca:=ya (n:=n+98) (by (exact Nat.le_add_left ..)) (Xs (HL xs cs (t++ .dict es 0::u)) (hl hok));rw [show jf cnt lv k es (.int (j:Nat))=dput es (4*(j:Int)+(k:Nat)) (.int (lv j k)) by unfold jf;rw [hok];rfl];refine Xq (s1:=⟨put lo (S "j") (.int (j:Nat)),HL xs cs t++ .dict es 0::u⟩) (s2:=⟨put lo (S "j") (.int (j:Nat)),HL xs cs t++ .dict es 0::u⟩) (s3:=⟨put lo (S "j") (.int (j:Nat)),HL xs cs t++ .dict es 0::u⟩) ?_ ?_ rfl ?_ ?_ (by (exact Nat.lt_of_lt_of_le ha (by decide))) (by show 34≤_;(exact Nat.le_add_left ..))
  ·exact gu (cg (by rw [hn];rfl))
  ·rw [b6];exact B5 (bF (bD rfl (bS rfl (bS rfl (aq (aX (by rw [hn];rfl) (by rw [hcl];rfl) jX)) (aq (az (by rw [hn];rfl) (bT rfl hlo))) g1) bx g2) bx ((ni _ _ _).trans (congrArg some hge)))) rfl
  ·exact bV (bV bx (aq (az (by rw [hn];rfl) b8)) (bm _)) (aq (az (by rw [hn];rfl) (bT rfl hlo))) (lZ _ _ _)
  ·rw [b6];exact cX (bR (by rw [hn];rfl) rfl) (yc _ _ _ _ _ _) rfl (bq (bS rfl (aq (aX (by rw [hn];rfl) (by rw [hcl];rfl) yd)) (aq (az (by rw [hn];rfl) b8)) g3) (bq (bS rfl (aq (aX (by rw [hn];rfl) (by rw [hcl];rfl) yd)) (aq (az (by rw [hn];rfl) (bT rfl hlo))) g4) (bq bx bJ))) hq Xr hca
theorem JV (base:AH) (Inv:List AV→AO→AH→List (Str×AV)→Prop) (ba:List AO) (m:Nat) (hg:(clauses e)[d]?=some g) (ha:iE g.is_async 0=true) (xs:List AV) (hturn:∀ pre x post,xs=pre++x::post→∀ k acc t lo,Inv pre acc t lo→∃ lo' acc' t',Inv (pre++[x]) acc' t' lo'∧turn C (run C (m+k)) e d g [x] a ae ⟨lo,base++acc::t⟩=some ⟨lo',base++acc'::t'⟩):∀(post pre:List AV) (it:It) (acc:AO) (t:AH) (lo:List (Str×AV)) (k:Nat),xs=pre++post→(∀ pre acc t lo,Inv pre acc t lo→∃ u,base++acc::t=ba++u)→Seq ba it post→Inv pre acc t lo→∃ lo' acc' t',Inv xs acc' t' lo'∧(run C (m+post.length+1+k)).co e d it a ae ⟨lo,base++acc::t⟩=some ⟨lo',base++acc'::t'⟩:=by
 intro post;induction post with
 |nil=>
  intro pre it acc t lo k hx hb hs hp;rw [List.append_nil] at hx;subst hx;refine ⟨lo,acc,t,hp,?_⟩;rw [show m+List.length ([]:List AV)+1+k=(m+k)+1 by simp;(exact Nat.add_right_comm ..),qp];refine aJ (hb _ _ _ _ hp) fun u hu=>?_;cases hs with
  |nil h=>exact BZ hg ha (hu▸h u)
 |cons x post ih=>
  intro pre it acc t lo k hx hb hs hp;cases hs with
  | @cons _ it' _ _ h1 h2=>
   refine aJ (hb _ _ _ _ hp) fun u hu=>?_;refine fZ (hturn pre x post hx (post.length+1+k) acc t lo hp) fun l1 a1 t1 p1 w1=>?_;refine fZ (ih (pre++[x]) it' a1 t1 l1 k (by rw [hx,List.append_assoc];rfl) hb h2 p1) fun l2 a2 t2 p2 w2=>?_;refine ⟨l2,a2,t2,p2,?_⟩;rw [show m+(x::post).length+1+k=(m+(post.length+1+k))+1 by rw [List.length_cons];lia,qp,B3 hg ha (hu▸h1 u) w1];rw [← w2,show m+(post.length+1+k)=m+post.length+1+k by (exact (Nat.add_assoc ..).symm)]
theorem Xx {xs:List Int} {cs:List (Option AV)} {t u:AH} {J:Nat→Option Nat} {cnt:Nat→Int} {lv:Nat→Nat→Int} {r d k n:Nat} {as:List Nat} {es:List (Int×AV)} {lo:List (Str×AV)} (F:yf xs cs t J cnt r d as) (hk:k<4) (hl:∀ j,j<k→cC cnt k=true→i7 (cD J j) (cD J k) 20=some (.val (.int (lv j k)))) (ha:es.length<900) (hlo:lk lo (S "k")=some (.int (k:Nat))):∃ lo',(run CL (n+110)).co fJ 1 (.range 0 (k:Nat) 1) (HL xs cs t).length ji ⟨lo,HL xs cs t++ .dict es 0::u⟩=some ⟨lo',HL xs cs t++ .dict (jg cnt lv es (.int (k:Nat))) 0::u⟩:=by
 refine fZ (JV (C:=CL) (e:=fJ) (d:=1) (g:=jY fJ) (ae:=ji) (a:=(HL xs cs t).length) (HL xs cs t) (fun pre acc t2 lo2=>acc=.dict (pre.foldl (jf cnt lv k) es) 0∧t2=u∧lk lo2 (S "k")=some (.int (k:Nat))) (HL xs cs t) (n+100) rfl rfl ((dj 0 1 k).map .int) (fun pre x post hpp k' acc t2 lo2 hinv=>by
   obtain ⟨rfl,rfl,h3⟩:=hinv;rw [gP] at hpp;have JW:=pre_eq hpp;obtain ⟨rfl,hlt⟩:=mK hpp;have hlen:(pre.foldl (jf cnt lv k) es).length<1000:=by have:=Ct cnt lv k pre es;lia
   obtain ⟨Cv,h4,w⟩:=Xw (u:=t2) (lv:=lv) (n:=n+k') F hlt hk (hl _ hlt) hlen h3;refine ⟨Cv,.dict ((pre++[AV.int (pre.length:Nat)]).foldl (jf cnt lv k) es) 0,t2,⟨rfl,rfl,h4⟩,?_⟩;rw [List.foldl_append,show n+100+k'=n+k'+100 by (exact Nat.add_right_comm ..)];exact w)
  ((dj 0 1 k).map .int) [] (.range 0 (k:Nat) 1) (.dict es 0) u lo (9- k) rfl (fun pre acc t2 lo2 _=>⟨acc::t2,rfl⟩) (mG k 0) ⟨rfl,rfl,hlo⟩) fun lo' acc' t' q1 w=>?_;refine cP q1 fun p1 p2 p3=>?_
 subst p1;subst p2;refine ⟨lo',?_⟩;rw [gP,List.length_map,List.length_range,show n+100+k+1+(9- k)=n+110 by lia] at w;exact w
theorem Xy {xs:List Int} {cs:List (Option AV)} {t:AH} {J:Nat→Option Nat} {cnt:Nat→Int} {lv:Nat→Nat→Int} {r d n:Nat} {as:List Nat} {lo:List (Str×AV)} (F:yf xs cs t J cnt r d as) (hl:∀ k,k<4→∀ j,j<k→cC cnt k=true→i7 (cD J j) (cD J k) 20=some (.val (.int (lv j k)))):∃ u,(run CL (n+125)).ev fJ aM ⟨lo,HL xs cs t⟩=some (.loc (44+t.length),⟨lo,HL xs cs (t++ .dict (((List.range 4).map fun k=>AV.int (k:Nat)).foldl (jg cnt lv) []) 0::u)⟩):=by
 have hn:aU.names=aU.names:=rfl
 conv at hn=>rhs;whnf
 have hi:iter CL (run CL (n+124)) aM (gE fJ).iter ⟨lo,HL xs cs t⟩=some (.range 0 ((4:Nat):Int) 1,⟨lo,HL xs cs t⟩):=by
  have e:cJ (run CL (n+124)) aM (match bQ CL aM (gE fJ).iter with|some as=>as|none=>[]) ⟨lo,HL xs cs t⟩=some ([.int ((4:Nat):Int)],⟨lo,HL xs cs t⟩):=by
   generalize hb:(match bQ CL aM (gE fJ).iter with|some as=>as|none=>[])=bd
   conv at hb=>lhs;whnf
   subst hb;rfl
  rw [jU (as:=match bQ CL aM (gE fJ).iter with|some as=>as|none=>[]) rfl e (mz 4 (by (exact Nat.le_add_left ..))),mC]
 refine Exists.elim (lu (C:=CL) (e:=fJ) (g:=gE fJ) (gens:=[jY fJ]) (sc:=gv fJ) (ae:=aM) (cl:=[(S "rows",39),(S "due",40)]) (fun es=>AO.dict es 0) (fun u=>True) (jg cnt lv) (n+112) ((dj 0 1 4).map .int) [] rfl rfl hi rfl rfl (by rw [gP,List.length_map,List.length_range];lia) (mG 4 0) trivial ?_) fun u ht=>?_
 ·intro pre x post hpp k' u2 lo' _;rw [gP] at hpp;have JW:=pre_eq hpp;refine aN (mK hpp) fun q1 hlt=>?_;subst q1;have hlen:(pre.foldl (jg cnt lv) []).length<900:=by have:=JT cnt lv (List.range pre.length) [] (fun k hk=>by have:=List.mem_range.mp hk;(exact Nat.lt_trans this hlt));rw [← JW,List.length_range,List.length_nil] at this;lia
  refine aJ (Xx (u:=u2) (lv:=lv) (k:=pre.length) (n:=n+k'+2) (lo:=put lo' (S "k") (.int (pre.length:Nat))) F hlt (hl _ hlt) hlen (by rw [aL,iB])) fun lo2 w=>?_;refine ⟨lo2,u2,trivial,?_⟩;rw [List.foldl_append];have hit:iter CL (run CL (n+112+k')) ji (jY fJ).iter ⟨put lo' (S "k") (.int (pre.length:Nat)),HL xs cs t++AO.dict (pre.foldl (jg cnt lv) []) 0::u2⟩=some (.range 0 (pre.length:Nat) 1,⟨put lo' (S "k") (.int (pre.length:Nat)),HL xs cs t++AO.dict (pre.foldl (jg cnt lv) []) 0::u2⟩):=by
   have e:cJ (run CL (n+112+k')) ji (match bQ CL ji (jY fJ).iter with|some as=>as|none=>[]) ⟨put lo' (S "k") (.int (pre.length:Nat)),HL xs cs t++AO.dict (pre.foldl (jg cnt lv) []) 0::u2⟩=some ([.int (pre.length:Nat)],⟨put lo' (S "k") (.int (pre.length:Nat)),HL xs cs t++AO.dict (pre.foldl (jg cnt lv) []) 0::u2⟩):=by
    have hn:=JU;generalize hb:(match bQ CL ji (jY fJ).iter with|some as=>as|none=>[])=bd
    conv at hb=>lhs;whnf
    generalize ji=ae at hn;subst hb;rw [show n+112+k'=n+k'+112 by (exact Nat.add_right_comm ..)];exact bq (aq (az (by rw [hn];rfl) b8)) bJ
   rw [jU (as:=match bQ CL ji (jY fJ).iter with|some as=>as|none=>[]) rfl e (mz _ (by lia)),mC]
  have Xz:fC CL ji (gE fJ).target [.int (pre.length:Nat)] ⟨lo',HL xs cs t++AO.dict (pre.foldl (jg cnt lv) []) 0::u2⟩=some ⟨put lo' (S "k") (.int (pre.length:Nat)),HL xs cs t++AO.dict (pre.foldl (jg cnt lv) []) 0::u2⟩:=rfl;refine JS Xz rfl rfl rfl hit rfl ?_;rw [show n+k'+2+110=n+112+k' by lia] at w;exact w
 ·refine aN ht fun q1 w=>?_;clear q1;refine ⟨u,?_⟩;rw [gP,b6,cZ xs cs t F.hc] at w;exact w
noncomputable def iu:Stmt:=aY aU.body 9
noncomputable def fy:Stmt:=aY (bX iu) 1
noncomputable def vN:Stmt→PySem.Expr
 | .Assign _ e _=>e
 |_=>default
noncomputable def ff:PySem.Expr:=vN (aY (bX fy) 0)
noncomputable def jF:au:=cA aM ff [(S "start",42),(S "lengths",43),(S "k",35),(S "far",41),(S "due",40)]
theorem JX:jF.names=[(S ".0",.local),(S "j",.local),(S "way",.local),(S "due",.cell),(S "far",.cell),(S "k",.cell),(S "lengths",.cell),(S "start",.cell)]:=rfl
theorem JY:jF.cells=[(S "start",42),(S "lengths",43),(S "k",35),(S "far",41),(S "due",40)]:=rfl
structure LastOk (xs:List Int) (t:AH) (nv:Nat→Int) (J:Nat→Option Nat) (cnt:Nat→Int) (lv:Nat→Nat→Int) (R:Nat→Nat→Prop) (a d f:Nat) (as:List Nat) (dU:List (Int×AV)):Prop where
 hN:jD t a (fun i=>(Nk nv i).map fun j=>.int (j:Nat))
 hD:mO t d as (jE J cnt)
 hF:At t f (.dict dU 0)
 yg:∀ k,k<4→∀ j,j<k→cC cnt k=true→c7 dU (4*(j:Nat)+(k:Nat))=some (.int (lv j k))
 sub:∀ k,k<4→cC cnt k=true→∀ j∈Nk nv k,R j k
 trans:∀ i j k,R i j→R j k→R i k
 eq:∀ k,k<4→∀ j,j<k→cC cnt k=true→R j k→lv j k=2*(cnt k- cnt j)
theorem LastOk.app {xs:List Int} {t:AH} {nv:Nat→Int} {J:Nat→Option Nat} {cnt:Nat→Int} {lv:Nat→Nat→Int} {R:Nat→Nat→Prop} {a d f:Nat} {as:List Nat} {dU:List (Int×AV)} (h:LastOk xs t nv J cnt lv R a d f as dU) (u:AH):LastOk xs (t++u) nv J cnt lv R a d f as dU:=⟨h.hN.app u,h.hD.app u,h.hF.app u,h.yg,h.sub,h.trans,h.eq⟩
noncomputable def Wk (cnt:Nat→Int) (st k:Nat):Int:=2*(cnt k- cnt st)
noncomputable def bN (c:Nat) (v:Int):AO:=.list (List.replicate c (.int v))
noncomputable def lz (t:AH) (cnt:Nat→Int) (R:Nat→Nat→Prop) (es:List (Int×AV)) (st k:Nat):Prop:=∀ j,st≤j→j<k→∃ a c,c7 es (j:Nat)=some (.loc a)∧At t a (bN c (Wk cnt st j))∧c≤8 ^ j∧(0<c→j=st∨R st j)
structure CellsOk (cs:List (Option AV)) (a d f l k st:Nat):Prop where
 hc:cs.length=10
 h1:cs[1]?=some (some (.int (k:Nat)))
 h2:cs[2]?=some (some (.loc a))
 h6:cs[6]?=some (some (.loc d))
 h7:cs[7]?=some (some (.loc f))
 h8:cs[8]?=some (some (.int (st:Nat)))
 h9:cs[9]?=some (some (.loc l))
theorem fB (hc:cs.length=10) (hi:i<10) (h:cs[i]?=some (some v)):(HL xs cs t)[34+i]?=some (.cell (some v)):=by have:=gz xs cs t hc hi;rw [h] at this;exact this
theorem XA (h:j∈Nk nv k):j<k:=List.mem_range.mp (List.mem_filter.mp h).1
theorem XC {xs:List Int} {cs:List (Option AV)} {t u:AH} {nv:Nat→Int} {J:Nat→Option Nat} {cnt:Nat→Int} {lv:Nat→Nat→Int} {R:Nat→Nat→Prop} {a d f l k st j n c:Nat} {as:List Nat} {dU:List (Int×AV)} {lo:List (Str×AV)} {v:Int} (X:LastOk xs t nv J cnt lv R a d f as dU) (Y:CellsOk cs a d f l k st) (hk:k<4) (hj:j<k) (hok:cC cnt k=true) (hc:c<1000) (hlo:lk lo (S "j")=some (.int (j:Nat))):∃ lo',lk lo' (S "j")=some (.int (j:Nat))∧turn CL (run CL (n+30)) ff 1 (jY ff) [.int v] (HL xs cs t).length jF ⟨lo,HL xs cs t++bN c (v+lv j k)::u⟩=some ⟨lo',HL xs cs t++bN (c+1) (v+lv j k)::u⟩:=by
 have hn:=JX;have hcl:=JY;have hL:=cZ xs cs t Y.hc;have fS:(HL xs cs (t++bN c (v+lv j k)::u))[35]?=_:=fB (i:=1) Y.hc (by decide) Y.h1;have uG:(HL xs cs (t++bN c (v+lv j k)::u))[41]?=_:=fB (i:=7) Y.hc (by decide) Y.h7;have eF:=(X.hF.app (bN c (v+lv j k)::u)).get (xs:=xs) Y.hc;have g1:getItem (HL xs cs (t++bN c (v+lv j k)::u)) (.loc f) (.int (4*(j:Int)+(k:Nat)))=some (.int (lv j k)):=by rw [jr,eF];exact X.yg k hk j hj hok
 have bm:∀ h,binop h .Mult (.int 4) (.int (j:Nat))=some (.int (4*(j:Int)),h):=fun h=>oU h rfl (rz j (by lia));have Cu:=hlo;generalize jF=ae at hn hcl;generalize hx:ff=xe
 conv at hx=>lhs;whnf
 subst hx;refine ⟨put lo (S "way") (.int v),by rw [aL];exact Cu,?_⟩;have hr:bN (c+1) (v+lv j k)=.list (List.replicate c (.int (v+lv j k))++[.int (v+lv j k)]):=by unfold bN;rw [List.replicate_succ']
 rw [hr];refine jV (s1:=⟨put lo (S "way") (.int v),HL xs cs t++bN c (v+lv j k)::u⟩) (s2:=⟨put lo (S "way") (.int v),HL xs cs t++bN c (v+lv j k)::u⟩) ?_ rfl rfl ?_ (by rw [List.length_replicate];(exact Nat.lt_of_lt_of_le hc (by decide))) (by show 34≤_;(exact Nat.le_add_left ..))
 ·exact gu (cg (by rw [hn];rfl))
 ·rw [b6];refine Eq.trans (b:=some (.int (v+lv j k),⟨put lo (S "way") (.int v),HL xs cs (t++bN c (v+lv j k)::u)⟩)) (bV (aq (az (by rw [hn];rfl) b8)) (bS rfl (aq (aX (by rw [hn];rfl) (by rw [hcl];rfl) uG)) (bV (bV bx (aq (az (by rw [hn];rfl) (bT rfl hlo))) (bm _)) (aq (aX (by rw [hn];rfl) (by rw [hcl];rfl) fS)) (lZ _ _ _)) g1) (lZ _ _ _)) ?_;rw [← b6];rfl
theorem XD {xs:List Int} {cs:List (Option AV)} {t u:AH} {nv:Nat→Int} {J:Nat→Option Nat} {cnt:Nat→Int} {lv:Nat→Nat→Int} {R:Nat→Nat→Prop} {a d f l k st j n c c' b:Nat} {as:List Nat} {dU:List (Int×AV)} {lo:List (Str×AV)} {v:Int} (X:LastOk xs t nv J cnt lv R a d f as dU) (Y:CellsOk cs a d f l k st) (hk:k<4) (hj:j<k) (hok:cC cnt k=true) (hc:c+c'<900) (hlo:lk lo (S "j")=some (.int (j:Nat))) (hA:At t b (bN c' v)):∃ lo',(run CL (n+31+c')).co ff 1 (.lst b 0) (HL xs cs t).length jF ⟨lo,HL xs cs t++bN c (v+lv j k)::u⟩=some ⟨lo',HL xs cs t++bN (c+c') (v+lv j k)::u⟩:=by
 have eB:=hA.get (xs:=xs) Y.hc;refine fZ (JV (C:=CL) (e:=ff) (d:=1) (g:=jY ff) (ae:=jF) (a:=(HL xs cs t).length) (HL xs cs t) (fun pre acc t2 lo2=>acc=bN (c+pre.length) (v+lv j k)∧t2=u∧lk lo2 (S "j")=some (.int (j:Nat))) (HL xs cs t) (n+30) rfl rfl (List.replicate c' (.int v)) (fun pre x post hpp k' acc t2 lo2 hinv=>by
   obtain ⟨rfl,rfl,h3⟩:=hinv;have hx:x=.int v:=List.eq_of_mem_replicate (nL hpp);subst hx;have hlen:=congrArg List.length hpp;simp only [List.length_replicate,List.length_append,List.length_cons] at hlen;obtain ⟨Cv,h4,w⟩:=XC (u:=t2) (n:=n+k') (v:=v) (c:=c+pre.length) X Y hk hj hok (by lia) h3;refine ⟨Cv,bN (c+pre.length+1) (v+lv j k),t2,⟨?_,rfl,h4⟩,?_⟩
   ·rw [List.length_append];rfl
   ·rw [show n+30+k'=n+k'+30 by (exact Nat.add_right_comm ..)];exact w)
  (List.replicate c' (.int v)) [] (.lst b 0) (bN c (v+lv j k)) u lo 0 rfl (fun pre acc t2 lo2 _=>⟨acc::t2,rfl⟩) (nJ eB _ 0 rfl) ⟨rfl,rfl,hlo⟩) fun lo' acc' t' q1 w=>?_;refine cP q1 fun p1 p2 p3=>?_
 subst p1;subst p2;refine ⟨lo',?_⟩;rw [List.length_replicate] at w;rw [show n+31+c'=n+30+c'+1+0 by lia];exact w
theorem XE {xs:List Int} {cs:List (Option AV)} {t u:AH} {nv:Nat→Int} {J:Nat→Option Nat} {cnt:Nat→Int} {lv:Nat→Nat→Int} {R:Nat→Nat→Prop} {a d f l k st j n c p:Nat} {as:List Nat} {dU es:List (Int×AV)} {lo:List (Str×AV)} (X:LastOk xs t nv J cnt lv R a d f as dU) (Y:CellsOk cs a d f l k st) (hW:lz t cnt R es st k) (hE:At t l (.dict es 0)) (hk:k<4) (hj:j∈Nk nv k) (hp:p<4) (hc:c≤p*8 ^ (k- 1)) (kG:0<c→cC cnt k=true∧R st k):∃ lo' c',c'≤(p+1)*8 ^ (k- 1)∧(0<c'→cC cnt k=true∧R st k)∧turn CL (run CL (n+100)) ff 0 (gE ff) [.int (j:Nat)] (HL xs cs t).length jF ⟨lo,HL xs cs t++bN c (Wk cnt st k)::u⟩=some ⟨lo',HL xs cs t++bN c' (Wk cnt st k)::u⟩:=by
 have hjk:=XA hj;have hn:=JX;have hcl:=JY;have hL:=cZ xs cs t Y.hc;have fS:(HL xs cs (t++bN c (Wk cnt st k)::u))[35]?=_:=fB (i:=1) Y.hc (by decide) Y.h1;have jX:(HL xs cs (t++bN c (Wk cnt st k)::u))[40]?=_:=fB (i:=6) Y.hc (by decide) Y.h6;have jj:(HL xs cs (t++bN c (Wk cnt st k)::u))[42]?=_:=fB (i:=8) Y.hc (by decide) Y.h8;have mu:(HL xs cs (t++bN c (Wk cnt st k)::u))[43]?=_:=fB (i:=9) Y.hc (by decide) Y.h9;have eD:=(X.hD.lst.app (bN c (Wk cnt st k)::u)).get (xs:=xs) Y.hc;obtain ⟨b,hb⟩:∃ b,as[k]?=some b:=⟨_,List.getElem?_eq_getElem (by rw [X.hD.len];exact hk)⟩;have eB:=((X.hD.ob k b hb).app (bN c (Wk cnt st k)::u)).get (xs:=xs) Y.hc;have g1:=mL eD (k:=k) (v:=.loc b) (by rw [List.getElem?_map,hb];rfl);have g2:getItem (HL xs cs (t++bN c (Wk cnt st k)::u)) (.loc b) (.int 1)=some (.int (cnt k)):=by rw [jr,eB];rfl
 have tg:fC CL jF (gE ff).target [.int (j:Nat)] ⟨lo,HL xs cs t++bN c (Wk cnt st k)::u⟩=some ⟨put lo (S "j") (.int (j:Nat)),HL xs cs (t++bN c (Wk cnt st k)::u)⟩:=by
  rw [b6];generalize jF=ae at hn;generalize hx:(gE ff).target=xe
  conv at hx=>lhs;whnf
  subst hx;exact gu (cg (by rw [hn];rfl))
 have ifs:iP (run CL (n+100)) jF (gE ff).ifs ⟨put lo (S "j") (.int (j:Nat)),HL xs cs (t++bN c (Wk cnt st k)::u)⟩=some (cC cnt k&& !bf (j:Nat) (st:Nat),⟨put lo (S "j") (.int (j:Nat)),HL xs cs (t++bN c (Wk cnt st k)::u)⟩):=by
  have hge:(!bf (cnt k) 0)=cC cnt k:=rfl;generalize jF=ae at hn hcl;generalize hx:(gE ff).ifs=xe
  conv at hx=>lhs;whnf
  subst hx;refine Jh (jO ?_);cases hok:cC cnt k with
  |false=>
   rw [hok] at hge;exact jt (bF (bD rfl (bS rfl (bS rfl (aq (aX (by rw [hn];rfl) (by rw [hcl];rfl) jX)) (aq (aX (by rw [hn];rfl) (by rw [hcl];rfl) fS)) g1) bx g2) bx ((ni _ _ _).trans (congrArg some hge))))
  |true=>
   rw [hok] at hge;refine jP (bF (bD rfl (bS rfl (bS rfl (aq (aX (by rw [hn];rfl) (by rw [hcl];rfl) jX)) (aq (aX (by rw [hn];rfl) (by rw [hcl];rfl) fS)) g1) bx g2) bx ((ni _ _ _).trans (congrArg some hge)))) ?_;cases hj2:bf (j:Nat) (st:Nat) with
   |false=>exact jP (bF (bD rfl (aq (az (by rw [hn];rfl) b8)) (aq (aX (by rw [hn];rfl) (by rw [hcl];rfl) jj)) ((ni _ _ _).trans (congrArg (fun b=>some (!b)) hj2)))) zG
   |true=>exact jt (bF (bD rfl (aq (az (by rw [hn];rfl) b8)) (aq (aX (by rw [hn];rfl) (by rw [hcl];rfl) jj)) ((ni _ _ _).trans (congrArg (fun b=>some (!b)) hj2))))
 cases qW:(cC cnt k&& !bf (j:Nat) (st:Nat)) with
 |false=>
  rw [qW] at ifs;refine ⟨put lo (S "j") (.int (j:Nat)),c,?_,kG,?_⟩
  ·exact Nat.le_trans hc (Nat.mul_le_mul_right _ (Nat.le_succ _))
  ·rw [tY tg ifs,← b6]
 |true=>
  rw [qW] at ifs;rw [Bool.and_eq_true,Bool.not_eq_true',dZ] at qW;have hok:=qW.1;have hst:st≤j:=by have:=of_decide_eq_false qW.2;lia
  refine fK (hW j hst hjk) fun aj c' k1 k2 k3 k4=>?_;have g3:getItem (HL xs cs (t++bN c (Wk cnt st k)::u)) (.loc l) (.int (j:Nat))=some (.loc aj):=by rw [jr,(hE.app _).get Y.hc];exact k1
  have e8:8 ^ j≤8 ^ (k- 1):=Nat.pow_le_pow_right (by decide) (by lia);have e9:8 ^ (k- 1)≤64:=Nat.le_trans (Nat.pow_le_pow_right (by decide) (show k- 1≤2 by lia)) (by decide);have e10:p*8 ^ (k- 1)≤3*64:=Nat.mul_le_mul (by (exact Nat.le_of_succ_le_succ hp)) e9;have tD:=X.eq k hk j hjk hok (X.sub k hk hok j hj);have hv:Wk cnt st j+lv j k=Wk cnt st k:=by unfold Wk;lia
  have hit:iter CL (run CL (n+100)) jF (jY ff).iter ⟨put lo (S "j") (.int (j:Nat)),HL xs cs (t++bN c (Wk cnt st k)::u)⟩=some (.lst aj 0,⟨put lo (S "j") (.int (j:Nat)),HL xs cs (t++bN c (Wk cnt st k)::u)⟩):=by
   have eL:=(k2.app (bN c (Wk cnt st k)::u)).get (xs:=xs) Y.hc;generalize jF=ae at hn hcl;generalize hx:(jY ff).iter=xe
   conv at hx=>lhs;whnf
   subst hx;exact mZ rfl rfl rfl rfl (bS rfl (aq (aX (by rw [hn];rfl) (by rw [hcl];rfl) mu)) (aq (az (by rw [hn];rfl) b8)) g3) eL
  refine aJ (XD (u:=u) (n:=n+69- c') (c:=c) (v:=Wk cnt st j) (lo:=put lo (S "j") (.int (j:Nat))) X Y hk hjk hok (by lia) (by rw [aL,iB]) k2) fun lo2 w=>?_;rw [hv,b6,b6,show n+69- c'+31+c'=n+100 by lia] at w;refine ⟨lo2,c+c',?_,fun h0=>?_,?_⟩
  ·rw [Nat.add_mul,Nat.one_mul];omega
  ·refine ⟨hok,?_⟩;by_cases h1:0<c
   ·exact (kG h1).2
   ·rcases k4 (by omega) with e|e
    ·rw [← e];exact X.sub k hk hok j hj
    ·exact X.trans _ _ _ e (X.sub k hk hok j hj)
  ·rw [b6 (u:=bN (c+c') (Wk cnt st k)::u)];exact JS tg ifs rfl rfl hit rfl w
theorem Cw (nv:Nat→Int) (k:Nat):(Nk nv k).length≤k:=by have:(Nk nv k).length≤(List.range k).length:=List.length_filter_le _ _;rw [List.length_range] at this;exact this
theorem XF {xs:List Int} {cs:List (Option AV)} {t:AH} {nv:Nat→Int} {J:Nat→Option Nat} {cnt:Nat→Int} {lv:Nat→Nat→Int} {R:Nat→Nat→Prop} {a d f l k st n:Nat} {as:List Nat} {dU es:List (Int×AV)} {lo:List (Str×AV)} (X:LastOk xs t nv J cnt lv R a d f as dU) (Y:CellsOk cs a d f l k st) (hW:lz t cnt R es st k) (hE:At t l (.dict es 0)) (hk:k<4) (hk0:0<k):∃ c u,(run CL (n+110)).ev ff aM ⟨lo,HL xs cs t⟩=some (.loc (44+t.length),⟨lo,HL xs cs (t++bN c (Wk cnt st k)::u)⟩)∧c≤8 ^ k∧(0<c→cC cnt k=true∧R st k):=by
 have hn:aU.names=aU.names:=rfl
 conv at hn=>rhs;whnf
 refine aZ X.hN.ex fun Cz q1 q2 q3=>?_;obtain ⟨b,hb⟩:∃ b,Cz[k]?=some b:=⟨_,List.getElem?_eq_getElem (by rw [q1];exact hk)⟩;have eB:=(q3 k b hb).get (xs:=xs) Y.hc;have hi:iter CL (run CL (n+109)) aM (gE ff).iter ⟨lo,HL xs cs t⟩=some (.lst b 0,⟨lo,HL xs cs t⟩):=by
  have fS:(HL xs cs t)[35]?=_:=fB (i:=1) Y.hc (by decide) Y.h1;have kC:(HL xs cs t)[36]?=_:=fB (i:=2) Y.hc (by decide) Y.h2;have eA:=q2.get (xs:=xs) Y.hc;have g1:=mL eA (k:=k) (v:=.loc b) (by rw [List.getElem?_map,hb];rfl);generalize hx:(gE ff).iter=xe
  conv at hx=>lhs;whnf
  subst hx;exact mZ rfl rfl rfl rfl (bS rfl (aq (aX rfl rfl kC)) (aq (aX rfl rfl fS)) g1) eB
 have h8:8 ^ k=8*8 ^ (k- 1):=by obtain ⟨k',rfl⟩:∃ k',k=k'+1:=⟨k- 1,by lia⟩;rw [Nat.add_sub_cancel,Nat.pow_succ,Nat.mul_comm]
 refine Exists.elim (Cf (C:=CL) (e:=ff) (g:=gE ff) (gens:=[jY ff]) (sc:=gv ff) (ae:=aM) (cl:=[(S "start",42),(S "lengths",43),(S "k",35),(S "far",41),(S "due",40)]) (fun pre acc u=>∃ c,acc=bN c (Wk cnt st k)∧c≤pre.length*8 ^ (k- 1)∧(0<c→cC cnt k=true∧R st k)) (n+100) ((Nk nv k).map fun j=>.int (j:Nat)) (.list []) rfl rfl hi rfl rfl (by rw [List.length_map];have:=Cw nv k;lia) (nJ eB _ 0 rfl) ⟨0,rfl,Nat.zero_le _,fun h=>absurd h (Nat.lt_irrefl _)⟩ ?_) fun acc ht=>?_
 ·intro pre x post hpp k' acc u lo' hinv;refine aZ hinv fun c q1 hc kG=>?_;subst q1;refine aC (List.mem_map.mp (nL hpp)) fun j hj q1=>?_;subst q1;have hp:pre.length<4:=by have h1:=congrArg List.length hpp;have h2:=Cw nv k;simp only [List.length_map,List.length_append,List.length_cons] at h1;lia
  refine bK (XE (u:=u) (n:=n+k') (lo:=lo') X Y hW hE hk hj hp hc kG) fun lo2 c2 k1 k2 w=>?_;refine ⟨lo2,bN c2 (Wk cnt st k),u,⟨c2,rfl,by rw [List.length_append];exact k1,k2⟩,?_⟩;rw [show n+100+k'=n+k'+100 by (exact Nat.add_right_comm ..)];exact w
 ·refine aC ht fun u q1 w=>?_;refine aZ q1 fun c q2 hc kG=>?_;subst q2;refine ⟨c,u,?_,?_,kG⟩
  ·rw [b6,cZ xs cs t Y.hc] at w;exact w
  ·rw [List.length_map] at hc;have h2:=Cw nv k;have:(Nk nv k).length*8 ^ (k- 1)≤8*8 ^ (k- 1):=Nat.mul_le_mul_right _ (by lia);lia
theorem At.swap (h:At (t0++o::u) a x) (hne:x≠o):At (t0++o'::u) a x:=by
 refine ⟨h.le,?_⟩;have h1:=h.at';generalize a- 44=i at h1;by_cases h2:i<t0.length
 ·rw [List.getElem?_append_left h2] at h1 ⊢;exact h1
 ·rw [List.getElem?_append_right (by (exact Nat.le_of_not_lt h2))] at h1 ⊢;cases h3:i- t0.length with
  |zero=>rw [h3] at h1;cases h1;exact absurd rfl hne
  |succ m=>rw [h3] at h1;exact h1
theorem lz.swap {t0 u:AH} {cnt:Nat→Int} {R:Nat→Nat→Prop} {es es' zz:List (Int×AV)} {st k:Nat} (h:lz (t0++ .dict es 0::u) cnt R zz st k):lz (t0++ .dict es' 0::u) cnt R zz st k:=fun j h1 h2=>by refine fK (h j h1 h2) fun a c k1 k2 k3 k4=>?_;exact ⟨a,c,k1,k2.swap (by unfold bN;intro h;cases h),k3,k4⟩
theorem XG (hc:cs.length=10):bL (HL xs cs (t0++o::u)) 34 (44+t0.length) o'=some (HL xs cs (t0++o'::u)):=by have:=B4 (base:=HL xs cs t0) (t:=u) (o:=o) (o':=o') (ro:=34) (by rw [cZ _ _ _ hc];lia);rw [b6,b6,cZ _ _ _ hc] at this;exact this
theorem CA (k j:Int) (v:AV):∀ es:List (Int×AV),c7 (dput es k v) j=if j=k then some v else c7 es j
 |[]=>by
  show (match iE j k with|true=>some v|false=>none)=_;cases h:iE j k with
  |true=>rw [if_pos (dI.mp h)]
  |false=>rw [if_neg (fun e=>by rw [dI.mpr e] at h;cases h)];rfl
 |p::r=>by
  unfold dput;cases h:iE k p.1 with
  |true=>
   have hk:=dI.mp h;show (match iE j p.1 with|true=>some v|false=>c7 r j)=if j=k then some v else (match iE j p.1 with|true=>some p.2|false=>c7 r j)
   by_cases e:j=k
   ·rw [if_pos e,show iE j p.1=true from dI.mpr (e.trans hk)]
   ·rw [if_neg e];cases h2:iE j p.1 with
    |true=>exact absurd ((dI.mp h2).trans hk.symm) e
    |false=>rfl
  |false=>
   show (match iE j p.1 with|true=>some p.2|false=>c7 (dput r k v) j)=if j=k then some v else (match iE j p.1 with|true=>some p.2|false=>c7 r j)
   rw [CA k j v r];cases h2:iE j p.1 with
   |true=>
    by_cases e:j=k
    ·subst e;rw [h] at h2;cases h2
    ·simp only [if_neg e]
   |false=>rfl
theorem XH (e:h[a]?=some (.list [x])) (hc:c≤1000):binop h .Mult (.loc a) (.int (c:Nat))=some (.loc h.length,h++[.list (repl [x] c)]):=by
 have h2:bf 1000 (c:Int)=false:=by rw [dZ];exact decide_eq_false (by lia)
 show ob (bO h[a]?) (fun xs=>alt (dP (.int (c:Nat))) (fun n=>yy h .Mult xs n) (ob (gR h (.int (c:Nat))) fun ys=>uL h .Mult xs ys))=_;refine aG (congrArg bO e) (dG rfl ?_);show (match true&& !(bf (c:Nat) 0||bf 1000 (c:Nat)||false) with|true=>some (newL h (repl [x] c))|false=>none)=_;rw [E1,h2];rfl
theorem JZ (x:AV):∀ c,repl [x] c=List.replicate c x
 |0=>rfl
 |c+1=>by rw [List.replicate_succ];show x::repl [x] c=_;rw [JZ x c]
theorem J0 (v:Int):∀ c,lC (List.replicate c (.int v)) (List.replicate c (.int v))=some true
 |0=>rfl
 |c+1=>by
  rw [List.replicate_succ];exact DW (show aeq (.int v) (.int v)=some true from congrArg some (dI.mpr rfl)) (J0 v c)
theorem XI {xs:List Int} {cs:List (Option AV)} {t:AH} {nv:Nat→Int} {J:Nat→Option Nat} {cnt:Nat→Int} {lv:Nat→Nat→Int} {R:Nat→Nat→Prop} {a d f l k st n c A:Nat} {as:List Nat} {dU es:List (Int×AV)} {lo:List (Str×AV)} (X:LastOk xs t nv J cnt lv R a d f as dU) (Y:CellsOk cs a d f l k st) (hE:At t l (.dict es 0)) (hg:c7 es (k:Nat)=some (.loc A)) (hA:At t A (bN c (Wk cnt st k))) (hc:c≤512) (kG:0<c→cC cnt k=true∧R st k) (hst:st<k) (hk:k<4):∃ v,cG CL (run CL (n+60)) (aY (bX fy) 1) aM ⟨lo,HL xs cs t⟩=some (.next,⟨lo,HL xs cs (t++v)⟩):=by
 have hn:aU.names=aU.names:=rfl
 conv at hn=>rhs;whnf
 have fS:∀ v,(HL xs cs (t++v))[35]?=_:=fun v=>fB (i:=1) Y.hc (by decide) Y.h1;have uG:∀ v,(HL xs cs (t++v))[41]?=_:=fun v=>fB (i:=7) Y.hc (by decide) Y.h7;have jj:∀ v,(HL xs cs (t++v))[42]?=_:=fun v=>fB (i:=8) Y.hc (by decide) Y.h8;have mu:∀ v,(HL xs cs (t++v))[43]?=_:=fun v=>fB (i:=9) Y.hc (by decide) Y.h9;have gl:∀ v,getItem (HL xs cs (t++v)) (.loc l) (.int (k:Nat))=some (.loc A):=fun v=>by rw [jr,(hE.app v).get Y.hc];exact hg
 have eA:∀ v,(HL xs cs (t++v))[A]?=some (.list (List.replicate c (.int (Wk cnt st k)))):=fun v=>(hA.app v).get Y.hc;have yh:=fS [];have J1:=uG [];have CB:=jj [];have CC:=mu [];have gl':=gl [];have CD:=eA [];rw [List.append_nil] at yh J1 CB CC gl' CD;cases hc0:c with
 |zero=>
  subst hc0;refine ⟨[],?_⟩;rw [List.append_nil];have ty:=DX CD;rw [show (!(List.replicate 0 (AV.int (Wk cnt st k))).isEmpty)=false from rfl] at ty;generalize hb:aY (bX fy) 1=bd
  conv at hb=>lhs;whnf
  subst hb;exact d8 (jO (jt (kT (bS rfl (aq (aX rfl rfl CC)) (aq (aX rfl rfl yh)) gl') ty))) bY
 |succ c'=>
  refine aN (kG (by lia)) fun hok hR=>?_;have tD:lv st k=Wk cnt st k:=X.eq k hk st hst hok hR;have gf:∀ v,getItem (HL xs cs (t++v)) (.loc f) (.int (4*(st:Int)+(k:Nat)))=some (.int (Wk cnt st k)):=fun v=>by rw [jr,(X.hF.app v).get Y.hc,← tD];exact X.yg k hk st hst hok
  have J2:=gf [];rw [List.append_nil] at J2;have bm:∀ h,binop h .Mult (.int 4) (.int (st:Nat))=some (.int (4*(st:Int)),h):=fun h=>oU h rfl (rz st (by lia));have ty:=DX CD;rw [show (!(List.replicate c (AV.int (Wk cnt st k))).isEmpty)=true by rw [hc0];rfl] at ty;refine ⟨[.list [.int (Wk cnt st k)],.list (List.replicate c (.int (Wk cnt st k)))],?_⟩;have f1:HL xs cs t++[AO.list [.int (Wk cnt st k)]]=HL xs cs (t++[.list [.int (Wk cnt st k)]]):=b6 _ _ _ _;have f2:(HL xs cs t).length=44+t.length:=cZ _ _ _ Y.hc;have hlen:=fun n=>Cd (C:=CL) (n:=n) (eA [.list [.int (Wk cnt st k)]]) (by rw [List.length_replicate];(exact Nat.le_trans hc (by decide)));rw [List.length_replicate] at hlen;have f3:binop (HL xs cs (t++[.list [.int (Wk cnt st k)]])) .Mult (.loc (44+t.length)) (.int (c:Nat))=some (.loc (44+(t.length+1)),HL xs cs (t++[.list [.int (Wk cnt st k)],.list (List.replicate c (.int (Wk cnt st k)))])):=by rw [XH (x:=.int (Wk cnt st k)) ((At.here t [] _).get Y.hc) (by (exact Nat.le_trans hc (by decide))),cZ _ _ _ Y.hc,b6,JZ,List.length_append,List.append_assoc];rfl
  have f4:cmp (HL xs cs (t++[.list [.int (Wk cnt st k)],.list (List.replicate c (.int (Wk cnt st k)))])) .NotEq (.loc (44+(t.length+1))) (.loc A)=some false:=by refine Co ?_ (eA _) (J0 _ _);have:=At.here (t++[.list [.int (Wk cnt st k)]]) [] (.list (List.replicate c (.int (Wk cnt st k))));rw [List.length_append,List.append_assoc] at this;exact this.get Y.hc
  have l1:lim (0+1)=true:=rfl;generalize hb:aY (bX fy) 1=bd
  conv at hb=>lhs;whnf
  subst hb;exact d8 (jO (jP (kT (bS rfl (aq (aX rfl rfl CC)) (aq (aX rfl rfl yh)) gl') ty) (jt (bF (bD rfl (bV ((xZ rfl (bq (bS rfl (aq (aX rfl rfl J1)) (bV (bV bx (aq (aX rfl rfl CB)) (bm _)) (aq (aX rfl rfl yh)) (lZ _ _ _)) J2) bJ)).trans (by rw [f1,f2])) (cX (bR rfl rfl) rfl rfl (bq (bS rfl (aq (aX rfl rfl (mu [.list [.int (Wk cnt st k)]]))) (aq (aX rfl rfl (fS [.list [.int (Wk cnt st k)]]))) (gl [.list [.int (Wk cnt st k)]])) bJ) rfl (fH _ "len") (hlen _)) f3) (bS rfl (aq (aX rfl rfl (mu [.list [.int (Wk cnt st k)],.list (List.replicate c (.int (Wk cnt st k)))]))) (aq (aX rfl rfl (fS [.list [.int (Wk cnt st k)],.list (List.replicate c (.int (Wk cnt st k)))]))) (gl [.list [.int (Wk cnt st k)],.list (List.replicate c (.int (Wk cnt st k)))])) f4))))) bY
theorem CE (st:Nat):∀ l:List Nat,fq (l.map fun j=>((j:Nat):Int)) (st:Nat)=true→st∈l
 |[],h=>by cases h
 |j::l,h=>by
  have h:(iE (st:Int) (j:Nat)||fq (l.map fun j=>((j:Nat):Int)) (st:Nat))=true:=h;rw [Bool.or_eq_true] at h;rcases h with h|h
  ·have:=dI.mp h;have:st=j:=by lia
   rw [this];exact .head _
  ·exact .tail _ (CE st l h)
theorem XJ (h1: -1000≤i) (h2:i≤1000):small i=true:=by unfold small;rw [dZ,dZ,decide_eq_true (by lia),decide_eq_true (by lia)];rfl
theorem XM {xs:List Int} {cs:List (Option AV)} {t:AH} {nv:Nat→Int} {J:Nat→Option Nat} {cnt:Nat→Int} {lv:Nat→Nat→Int} {R:Nat→Nat→Prop} {a d f l k st n:Nat} {as:List Nat} {dU:List (Int×AV)} {lo:List (Str×AV)} (X:LastOk xs t nv J cnt lv R a d f as dU) (Y:CellsOk cs a d f l k st) (hst:st<k) (hk:k<4) (iw:∀ k, -100≤cnt k∧cnt k≤100):cG CL (run CL (n+60)) (aY (bX fy) 2) aM ⟨lo,HL xs cs t⟩=some (.next,⟨lo,HL xs cs t⟩):=by
 have hn:aU.names=aU.names:=rfl
 conv at hn=>rhs;whnf
 have fS:(HL xs cs t)[35]?=_:=fB (i:=1) Y.hc (by decide) Y.h1;have kC:(HL xs cs t)[36]?=_:=fB (i:=2) Y.hc (by decide) Y.h2;have jX:(HL xs cs t)[40]?=_:=fB (i:=6) Y.hc (by decide) Y.h6;have uG:(HL xs cs t)[41]?=_:=fB (i:=7) Y.hc (by decide) Y.h7;have jj:(HL xs cs t)[42]?=_:=fB (i:=8) Y.hc (by decide) Y.h8;refine aZ X.hN.ex fun Cz q1 q2 q3=>?_;obtain ⟨b,hb⟩:∃ b,Cz[k]?=some b:=⟨_,List.getElem?_eq_getElem (by rw [q1];exact hk)⟩;have eB:=(q3 k b hb).get (xs:=xs) Y.hc;have eA:=q2.get (xs:=xs) Y.hc;have g1:=mL eA (k:=k) (v:=.loc b) (by rw [List.getElem?_map,hb];rfl);have em:(Nk nv k).map (fun j=>AV.int (j:Nat))=((Nk nv k).map fun j=>((j:Nat):Int)).map .int:=by rw [List.map_map];rfl
 have ei:=ug (.int (st:Nat)) eB;rw [em,ue] at ei;have eD:=X.hD.lst.get (xs:=xs) Y.hc;obtain ⟨bk,wA⟩:∃ b,as[k]?=some b:=⟨_,List.getElem?_eq_getElem (by rw [X.hD.len];exact hk)⟩;obtain ⟨bs,J3⟩:∃ b,as[st]?=some b:=⟨_,List.getElem?_eq_getElem (by rw [X.hD.len];(exact Nat.lt_trans hst hk))⟩;have d1:=mL eD (k:=k) (v:=.loc bk) (by rw [List.getElem?_map,wA];rfl);have d2:=mL eD (k:=st) (v:=.loc bs) (by rw [List.getElem?_map,J3];rfl);have c1:getItem (HL xs cs t) (.loc bk) (.int 1)=some (.int (cnt k)):=by rw [jr,(X.hD.ob k bk wA).get Y.hc];rfl
 have c2:getItem (HL xs cs t) (.loc bs) (.int 1)=some (.int (cnt st)):=by rw [jr,(X.hD.ob st bs J3).get Y.hc];rfl
 have hge:(!bf (cnt k) 0)=cC cnt k:=rfl;have bm:∀ h,binop h .Mult (.int 4) (.int (st:Nat))=some (.int (4*(st:Int)),h):=fun h=>oU h rfl (rz st (by lia));have XN:∀ h,binop h .Mult (.int 2) (.int (cnt k- cnt st))=some (.int (2*(cnt k- cnt st)),h):=fun h=>oU h rfl (XJ (by have:=iw k;have:=iw st;lia) (by have:=iw k;have:=iw st;lia));generalize J4:aY (bX fy) 2=bd
 conv at J4=>lhs;whnf
 subst J4;cases hin:fq ((Nk nv k).map fun j=>((j:Nat):Int)) (st:Nat) with
 |false=>
  rw [hin] at ei;exact d8 (jO (jt (bF (bD rfl (aq (aX rfl rfl jj)) (bS rfl (aq (aX rfl rfl kC)) (aq (aX rfl rfl fS)) g1) ei)))) bY
 |true=>
  rw [hin] at ei;have hmem:=CE st _ hin;cases hok:cC cnt k with
  |false=>
   rw [hok] at hge;exact d8 (jO (jP (bF (bD rfl (aq (aX rfl rfl jj)) (bS rfl (aq (aX rfl rfl kC)) (aq (aX rfl rfl fS)) g1) ei)) (jt (bF (bD rfl (bS rfl (bS rfl (aq (aX rfl rfl jX)) (aq (aX rfl rfl fS)) d1) bx c1) bx ((ni _ _ _).trans (congrArg some hge))))))) bY
  |true=>
   rw [hok] at hge;have gf:getItem (HL xs cs t) (.loc f) (.int (4*(st:Int)+(k:Nat)))=some (.int (2*(cnt k- cnt st))):=by rw [jr,X.hF.get Y.hc,← X.eq k hk st hst hok (X.sub k hk hok st hmem)];exact X.yg k hk st hst hok
   have hne:(!iE (2*(cnt k- cnt st)) (2*(cnt k- cnt st)))=false:=by rw [dI.mpr rfl];rfl
   exact d8 (jO (jP (bF (bD rfl (aq (aX rfl rfl jj)) (bS rfl (aq (aX rfl rfl kC)) (aq (aX rfl rfl fS)) g1) ei)) (jP (bF (bD rfl (bS rfl (bS rfl (aq (aX rfl rfl jX)) (aq (aX rfl rfl fS)) d1) bx c1) bx ((ni _ _ _).trans (congrArg some hge)))) (jt (bF (bD rfl (bS rfl (aq (aX rfl rfl uG)) (bV (bV bx (aq (aX rfl rfl jj)) (bm _)) (aq (aX rfl rfl fS)) (lZ _ _ _)) gf) (bV bx (bV (bS rfl (bS rfl (aq (aX rfl rfl jX)) (aq (aX rfl rfl fS)) d1) bx c1) (bS rfl (bS rfl (aq (aX rfl rfl jX)) (aq (aX rfl rfl jj)) d2) bx c2) (nh _ _ _)) (XN _)) ((MD _ _ _).trans (congrArg some hne)))))))) bY
theorem XO (e:h[l]?=some (.dict es 0)) (hl:es.length<1000):setItem C h (.loc l) (.int i) v=bL h C.ro l (.dict (dput es i v) 0):=by exact aG rfl (aG rfl (dH (congrArg bO e) (aG (congrArg mT e) (by unfold C2;rw [show lim (es.length+1)=true from Nat.ble_eq_true_of_le (by (exact Nat.lt_of_lt_of_le hl (by decide)))]))))
theorem XQ {xs:List Int} {cs:List (Option AV)} {t0 u:AH} {nv:Nat→Int} {J:Nat→Option Nat} {cnt:Nat→Int} {lv:Nat→Nat→Int} {R:Nat→Nat→Prop} {a d f k st n:Nat} {as:List Nat} {dU es:List (Int×AV)} {lo:List (Str×AV)} (X:LastOk xs t0 nv J cnt lv R a d f as dU) (Y:CellsOk cs a d f (44+t0.length) k st) (hW:lz (t0++ .dict es 0::u) cnt R es st k) (hst:st<k) (hk:k<4) (iw:∀ k, -100≤cnt k∧cnt k≤100) (hes:es.length≤10):∃ u' es',(run CL (n+113)).ex (bX fy) aM ⟨lo,HL xs cs (t0++ .dict es 0::u)⟩=some (.next,⟨lo,HL xs cs (t0++ .dict es' 0::u')⟩)∧lz (t0++ .dict es' 0::u') cnt R es' st (k+1)∧es'.length≤es.length+1:=by
 have hn:aU.names=aU.names:=rfl
 conv at hn=>rhs;whnf
 have hE:At (t0++ .dict es 0::u) (44+t0.length) (.dict es 0):=At.here _ _ _;refine bK (XF (n:=n+2) (lo:=lo) (X.app (.dict es 0::u)) Y hW hE hk (by (exact Nat.lt_of_lt_of_le (Nat.succ_pos _) hst))) fun c u1 w hc kG=>?_;have hA:At (t0++AO.dict es 0::u++bN c (Wk cnt st k)::u1) (44+(t0++AO.dict es 0::u).length) (bN c (Wk cnt st k)):=At.here _ _ _;generalize hAd:44+(t0++AO.dict es 0::u).length=A at w hA;have CF:lz (t0++AO.dict es 0::u++bN c (Wk cnt st k)::u1) cnt R es st k:=fun j h1 h2=>by refine fK (hW j h1 h2) fun a c k1 k2 k3 k4=>?_;exact ⟨a,c,k1,k2.app _,k3,k4⟩
 rw [List.append_assoc,List.cons_append] at w hA CF;generalize hu2:u++bN c (Wk cnt st k)::u1=u2 at w hA CF;have J5:At (t0++ .dict (dput es (k:Nat) (.loc A)) 0::u2) A (bN c (Wk cnt st k)):=hA.swap (by unfold bN;intro h;cases h);have XR:At (t0++ .dict (dput es (k:Nat) (.loc A)) 0::u2) (44+t0.length) (.dict (dput es (k:Nat) (.loc A)) 0):=At.here _ _ _;have hg:c7 (dput es (k:Nat) (.loc A)) (k:Nat)=some (.loc A):=by rw [CA,if_pos rfl]
 have hc':c≤512:=Nat.le_trans hc (Nat.le_trans (Nat.pow_le_pow_right (by decide) (show k≤3 by (exact Nat.le_of_succ_le_succ hk))) (by decide));refine aJ (XI (n:=n+51) (lo:=lo) (X.app (.dict (dput es (k:Nat) (.loc A)) 0::u2)) Y XR hg J5 hc' kG hst hk) fun v w1=>?_;have w2:=XM (n:=n+50) (lo:=lo) (X.app (.dict (dput es (k:Nat) (.loc A)) 0::u2++v)) Y hst hk iw;refine ⟨u2++v,dput es (k:Nat) (.loc A),?_,?_,Cs _ _ _⟩
 ·have hbody:bX fy=[aY (bX fy) 0,aY (bX fy) 1,aY (bX fy) 2]:=rfl;refine (congrArg (fun b'=>(run CL (n+113)).ex b' aM ⟨lo,HL xs cs (t0++ .dict es 0::u)⟩) hbody).trans ?_;refine (eW (n:=n+112) (s1:=⟨lo,HL xs cs (t0++ .dict (dput es (k:Nat) (.loc A)) 0::u2)⟩) ?_).trans ?_
  ·have fS:(HL xs cs (t0++AO.dict es 0::u2))[35]?=_:=fB (i:=1) Y.hc (by decide) Y.h1;have mu:(HL xs cs (t0++AO.dict es 0::u2))[43]?=_:=fB (i:=9) Y.hc (by decide) Y.h9;have XS:(HL xs cs (t0++AO.dict es 0::u2))[44+t0.length]?=some (.dict es 0):=(At.here t0 u2 _).get Y.hc;have hs:=XO (C:=CL) (i:=(k:Nat)) (v:=.loc A) XS (by (exact Nat.lt_of_le_of_lt hes (by decide)));rw [WU,XG Y.hc] at hs;generalize hb:aY (bX fy) 0=bd
   conv at hb=>lhs;whnf
   generalize hx:ff=xw at w
   conv at hx=>lhs;whnf
   subst hb;subst hx;rw [show n+2+110=n+112 by (exact Nat.add_right_comm ..)] at w;exact E4 w (aq (aX rfl rfl mu)) (aq (aX rfl rfl fS)) hs
  refine (eW (n:=n+111) (s1:=⟨lo,HL xs cs (t0++ .dict (dput es (k:Nat) (.loc A)) 0::(u2++v))⟩) ?_).trans ?_
  ·rw [show n+111=n+51+60 by (exact rfl),w1,List.append_assoc];rfl
  refine (eW (n:=n+110) (s1:=⟨lo,HL xs cs (t0++ .dict (dput es (k:Nat) (.loc A)) 0::(u2++v))⟩) ?_).trans ?_
  ·rw [show n+110=n+50+60 by (exact rfl)];exact w2
  ·rfl
 ·intro j h1 h2;by_cases e:j=k
  ·subst e;refine ⟨A,c,hg,?_,hc,fun h=>.inr (kG h).2⟩;have:=J5.app v;rw [List.append_assoc] at this;exact this
  ·refine fK (CF j h1 (by lia)) fun b c k1 k2 k3 k4=>?_;refine ⟨b,c,?_,?_,k3,k4⟩
   ·rw [CA,if_neg (by lia)];exact k1
   ·have:=(k2.swap (o':=.dict (dput es (k:Nat) (.loc A)) 0) (by unfold bN;intro h;cases h)).app v;rw [List.append_assoc] at this;exact this
theorem jZ {cs:List (Option AV)} {i j:Nat} {v:Option AV} (h:i≠j):(cs.set i v)[j]?=cs[j]?:=by rw [List.getElem?_set_ne h]
theorem CG {cs:List (Option AV)} {i:Nat} {v:Option AV} (h:i<cs.length):(cs.set i v)[i]?=some v:=by rw [List.getElem?_set_self h]
structure pe (cs:List (Option AV)) (a d f l st:Nat):Prop where
 hc:cs.length=10
 h2:cs[2]?=some (some (.loc a))
 h6:cs[6]?=some (some (.loc d))
 h7:cs[7]?=some (some (.loc f))
 h8:cs[8]?=some (some (.int (st:Nat)))
 h9:cs[9]?=some (some (.loc l))
theorem CellsOk.s {cs:List (Option AV)} {a d f l k st:Nat} (Y:CellsOk cs a d f l k st):pe cs a d f l st:=⟨Y.hc,Y.h2,Y.h6,Y.h7,Y.h8,Y.h9⟩
theorem pe.XT {cs:List (Option AV)} {a d f l st:Nat} (Y:pe cs a d f l st) (k':Nat):CellsOk (cs.set 1 (some (.int (k':Nat)))) a d f l k' st:=⟨by rw [List.length_set];exact Y.hc,CG (by rw [Y.hc];decide),(jZ (by decide)).trans Y.h2,(jZ (by decide)).trans Y.h6,(jZ (by decide)).trans Y.h7,(jZ (by decide)).trans Y.h8,(jZ (by decide)).trans Y.h9⟩
structure pg (cs:List (Option AV)) (a d f:Nat):Prop where
 hc:cs.length=10
 h2:cs[2]?=some (some (.loc a))
 h6:cs[6]?=some (some (.loc d))
 h7:cs[7]?=some (some (.loc f))
theorem pe.b {cs:List (Option AV)} {a d f l st:Nat} (Y:pe cs a d f l st):pg cs a d f:=⟨Y.hc,Y.h2,Y.h6,Y.h7⟩
theorem XU {xs:List Int} {cs:List (Option AV)} {t:AH} {lo:List (Str×AV)} {k:Nat} (hc:cs.length=10):fC CL aM (fG fy) [.int (k:Nat)] ⟨lo,HL xs cs t⟩=some ⟨lo,HL xs (cs.set 1 (some (.int (k:Nat)))) t⟩:=by
 have hn:aU.names=aU.names:=rfl
 conv at hn=>rhs;whnf
 have h1:=gz xs cs t (i:=1) hc (by decide);rw [List.getElem?_eq_getElem (show 1<cs.length by lia)] at h1;have h1:(HL xs cs t)[35]?=some (.cell cs[1]):=h1;have h2:bL (HL xs cs t) 34 35 (.cell (some (.int (k:Nat))))=_:=xY (xs:=xs) (t:=t) (v:=some (.int (k:Nat))) (i:=1) hc (by decide);generalize hx:fG fy=xe
 conv at hx=>lhs;whnf
 subst hx;exact gu (rG rfl rfl h1 h2)
theorem XW {xs:List Int} {t0:AH} {nv:Nat→Int} {J:Nat→Option Nat} {cnt:Nat→Int} {lv:Nat→Nat→Int} {R:Nat→Nat→Prop} {a d f st:Nat} {as:List Nat} {dU:List (Int×AV)} {lo:List (Str×AV)} (X:LastOk xs t0 nv J cnt lv R a d f as dU) (iw:∀ k, -100≤cnt k∧cnt k≤100):∀(m k n:Nat) (cs:List (Option AV)) (u:AH) (es:List (Int×AV)),k+m=4→st<k→pe cs a d f (44+t0.length) st→lz (t0++ .dict es 0::u) cnt R es st k→es.length≤10- m→∃ cs' u' es',(run CL (n+m+114)).fo (fG fy) (.range (k:Nat) (m:Nat) 1) (bX fy) [] aM ⟨lo,HL xs cs (t0++ .dict es 0::u)⟩=some (.next,⟨lo,HL xs cs' (t0++ .dict es' 0::u')⟩)∧pg cs' a d f:=by
 intro m;induction m with
 |zero=>
  intro k n cs u es hk hst Y hW hes;exact ⟨cs,u,es,rfl,Y.b⟩
 |succ m ih=>
  intro k n cs u es hk hst Y hW hes;have Y':=Y.XT k;refine bK (XQ (n:=n+m+1) (lo:=lo) X Y' hW hst (by lia) iw (by lia)) fun u1 es1 w1 XX hl1=>?_;refine fZ (ih (k+1) n (cs.set 1 (some (.int (k:Nat)))) u1 es1 (by lia) (by (exact Nat.lt_succ_of_lt hst)) Y'.s XX (by lia)) fun cs' u' es' w2 Z=>?_;refine ⟨cs',u',es',?_,Z⟩;rw [← w2,show n+(m+1)+114=(n+m+114)+1 by (exact Nat.add_assoc ..),sI];exact aG (xM _ _ _) (dG rfl (aG (XU Y.hc) (bG ((congrArg (fun m=>(run CL m).ex (bX fy) aM _) (show n+m+114=n+m+1+113 by (exact Nat.add_assoc ..))).trans w1) rfl)))
theorem XY (i n:Int) (h:Builtin.Range.small i n 1=true):jJ [.int i,.int n]=some (i,n,1):=by show rR i n=_;unfold rR;rw [h]
theorem XZ {xs:List Int} {cs:List (Option AV)} {t:AH} {lo:List (Str×AV)} {st n:Nat} (hc:cs.length=10) (h8:cs[8]?=some (some (.int (st:Nat)))) (hst:st<4):iter CL (run CL (n+20)) aM (eO fy) ⟨lo,HL xs cs t⟩=some (.range ((st+1:Nat):Int) ((3- st:Nat):Int) 1,⟨lo,HL xs cs t⟩):=by
 have hn:aU.names=aU.names:=rfl
 conv at hn=>rhs;whnf
 have jj:(HL xs cs t)[42]?=_:=fB (i:=8) hc (by decide) h8;have e:cJ (run CL (n+20)) aM (match bQ CL aM (eO fy) with|some as=>as|none=>[]) ⟨lo,HL xs cs t⟩=some ([.int ((st:Int)+1),.int 4],⟨lo,HL xs cs t⟩):=by
  generalize hb:(match bQ CL aM (eO fy) with|some as=>as|none=>[])=bd
  conv at hb=>lhs;whnf
  subst hb;exact bq (bV (aq (aX rfl rfl jj)) bx (lZ _ _ _)) (bq bx bJ)
 have hr:jJ [.int ((st:Int)+1),.int 4]=some ((st:Int)+1,4,1):=XY _ _ (small_one (by omega) (by omega) (by omega) (by omega));rw [jU (as:=match bQ CL aM (eO fy) with|some as=>as|none=>[]) rfl e hr,rangeSize_nat];rw [show ((4:Int) - ((st:Int)+1)).toNat=3- st by omega];rfl
theorem X0 (h1:(run C n).ev k ae s=some (.int i,s1)) (h2:(run C n).ev v ae s1=some (w,⟨g,h⟩)):(run C (n+1)).ev (.Dict [some k] [v] p) ae s=some (.loc h.length,⟨g,h++[.dict [(i,w)] 0]⟩):=by show yO (run C n) k v ae s=_;unfold yO;rw [h1];dsimp only;rw [h2]
theorem X3 {xs:List Int} {cs:List (Option AV)} {t:AH} {nv:Nat→Int} {J:Nat→Option Nat} {cnt:Nat→Int} {lv:Nat→Nat→Int} {R:Nat→Nat→Prop} {a d f st n:Nat} {as:List Nat} {dU:List (Int×AV)} {lo:List (Str×AV)} (X:LastOk xs t nv J cnt lv R a d f as dU) (iw:∀ k, -100≤cnt k∧cnt k≤100) (Z:pg cs a d f) (h8:cs[8]?=some (some (.int (st:Nat)))) (hst:st<4):∃ cs' v,(run CL (n+125)).ex (bX iu) aM ⟨lo,HL xs cs t⟩=some (.next,⟨lo,HL xs cs' (t++v)⟩)∧pg cs' a d f:=by
 have hn:aU.names=aU.names:=rfl
 conv at hn=>rhs;whnf
 have jj:(HL xs cs t)[42]?=_:=fB (i:=8) Z.hc (by decide) h8;have f1:HL xs cs t++[AO.list [.int 0]]=HL xs cs (t++[.list [.int 0]]):=b6 _ _ _ _;have f2:(HL xs cs t).length=44+t.length:=cZ _ _ _ Z.hc;have CB:(HL xs cs (t++[AO.list [.int 0]]))[42]?=_:=fB (i:=8) Z.hc (by decide) h8;have f3:HL xs cs (t++[AO.list [.int 0]])++[AO.dict [((st:Nat),.loc (44+t.length))] 0]=HL xs cs (t++[.list [.int 0]]++[.dict [((st:Nat),.loc (44+t.length))] 0]):=b6 _ _ _ _;have f4:(HL xs cs (t++[AO.list [.int 0]])).length=44+(t++[AO.list [.int 0]]).length:=cZ _ _ _ Z.hc;have l1:lim (0+1)=true:=rfl;have w1:(run CL (n+124)).ev (kD (aY (bX iu) 0)) aM ⟨lo,HL xs cs t⟩=some (.loc (44+(t++[AO.list [.int 0]]).length),⟨lo,HL xs cs (t++[.list [.int 0]]++[.dict [((st:Nat),.loc (44+t.length))] 0])⟩):=by
  generalize hb:kD (aY (bX iu) 0)=bd
  conv at hb=>lhs;whnf
  subst hb;exact (X0 (aq (aX rfl rfl jj)) ((xZ rfl (bq bx bJ)).trans (by rw [f1,f2]))).trans (by rw [f3,f4])
 have w2:=asg (x:=S "lengths") (i:=9) (p:=default) (p':=default) rfl rfl (by decide) Z.hc w1;generalize hcs:cs.set 9 (some (AV.loc (44+(t++[AO.list [.int 0]]).length)))=rH at w2;have hc2:rH.length=10:=by rw [← hcs,List.length_set];exact Z.hc
 have J6:rH[8]?=some (some (.int (st:Nat))):=by rw [← hcs,jZ (by decide)];exact h8
 have X4:rH[9]?=some (some (.loc (44+(t++[AO.list [.int 0]]).length))):=by rw [← hcs,CG (by rw [Z.hc];decide)]
 have Y:pe rH a d f (44+(t++[AO.list [.int 0]]).length) st:=⟨hc2,by rw [← hcs,jZ (by decide)];exact Z.h2,by rw [← hcs,jZ (by decide)];exact Z.h6,by rw [← hcs,jZ (by decide)];exact Z.h7,J6,X4⟩;have hW:lz (t++[AO.list [.int 0]]++ .dict [((st:Nat),.loc (44+t.length))] 0::[]) cnt R [((st:Nat),.loc (44+t.length))] st (st+1):=fun j h1 h2=>by
  have:j=st:=by omega
  subst this;refine ⟨44+t.length,1,?_,?_,Nat.pow_pos (by decide),fun _=>.inl rfl⟩
  ·show (match iE (j:Int) (j:Int) with|true=>some (AV.loc (44+t.length))|false=>none)=_;rw [dI.mpr rfl]
  ·have e:bN 1 (Wk cnt j j)=.list [.int 0]:=by unfold bN Wk;rw [Int.sub_self];rfl
   rw [e];exact (At.here t [] _).app _
 refine fZ (XW (lo:=lo) (X.app [.list [.int 0]]) iw (3- st) (st+1) (n+9- (3- st)) rH [] _ (by omega) (by omega) Y hW (by simp;omega)) fun cs' u' es' w3 Z'=>?_;rw [show n+9- (3- st)+(3- st)+114=n+123 by omega] at w3;have hit:=XZ (xs:=xs) (t:=t++[AO.list [.int 0]]++[.dict [((st:Nat),.loc (44+t.length))] 0]) (lo:=lo) (n:=n+103) hc2 J6 hst;refine ⟨cs',[.list [.int 0]]++ .dict es' 0::u',?_,Z'⟩;have hbody:bX iu=[aY (bX iu) 0,fy]:=rfl;refine (congrArg (fun b'=>(run CL (n+125)).ex b' aM ⟨lo,HL xs cs t⟩) hbody).trans ?_;refine (eW (n:=n+124) (s1:=⟨lo,HL xs rH (t++[.list [.int 0]]++[.dict [((st:Nat),.loc (44+t.length))] 0])⟩) ?_).trans ?_
 ·exact w2
 refine (eW (n:=n+123) (s1:=⟨lo,HL xs cs' (t++([.list [.int 0]]++ .dict es' 0::u'))⟩) ?_).trans ?_
 ·rw [← List.append_assoc];exact oA rfl hit rfl w3 rfl
 ·rfl
theorem X5 {xs:List Int} {cs:List (Option AV)} {t:AH} {lo:List (Str×AV)} {k:Nat} (hc:cs.length=10):fC CL aM (fG iu) [.int (k:Nat)] ⟨lo,HL xs cs t⟩=some ⟨lo,HL xs (cs.set 8 (some (.int (k:Nat)))) t⟩:=by
 have hn:aU.names=aU.names:=rfl
 conv at hn=>rhs;whnf
 have h1:=gz xs cs t (i:=8) hc (by decide);rw [List.getElem?_eq_getElem (show 8<cs.length by omega)] at h1;have h1:(HL xs cs t)[42]?=some (.cell cs[8]):=h1;have h2:bL (HL xs cs t) 34 42 (.cell (some (.int (k:Nat))))=_:=xY (xs:=xs) (t:=t) (v:=some (.int (k:Nat))) (i:=8) hc (by decide);generalize hx:fG iu=xe
 conv at hx=>lhs;whnf
 subst hx;exact gu (rG rfl rfl h1 h2)
theorem X6 {xs:List Int} {nv:Nat→Int} {J:Nat→Option Nat} {cnt:Nat→Int} {lv:Nat→Nat→Int} {R:Nat→Nat→Prop} {a d f:Nat} {as:List Nat} {dU:List (Int×AV)} {lo:List (Str×AV)} (iw:∀ k, -100≤cnt k∧cnt k≤100):∀(m st n:Nat) (cs:List (Option AV)) (t:AH),st+m=4→LastOk xs t nv J cnt lv R a d f as dU→pg cs a d f→∃ r,(run CL (n+m+126)).fo (fG iu) (.range (st:Nat) (m:Nat) 1) (bX iu) [] aM ⟨lo,HL xs cs t⟩=some (.next,r):=by
 intro m;induction m with
 |zero=>intro st n cs t hk X Z;exact ⟨_,rfl⟩
 |succ m ih=>
  intro st n cs t hk X Z;have Z1:pg (cs.set 8 (some (.int (st:Nat)))) a d f:=⟨by rw [List.length_set];exact Z.hc,by rw [jZ (by decide)];exact Z.h2,by rw [jZ (by decide)];exact Z.h6,by rw [jZ (by decide)];exact Z.h7⟩;refine dB (X3 (st:=st) (n:=n+m+1) (lo:=lo) X iw Z1 (CG (by rw [Z.hc];decide)) (by omega)) fun cs' v w1 Z2=>?_;refine aJ (ih (st+1) n cs' (t++v) (by omega) (X.app v) Z2) fun r w2=>?_;refine ⟨r,?_⟩;rw [← w2,show n+(m+1)+126=(n+m+126)+1 by omega,sI];exact aG (xM _ _ _) (dG rfl (aG (X5 Z.hc) (bG ((congrArg (fun m=>(run CL m).ex (bX iu) aM _) (show n+m+126=n+m+1+125 by omega)).trans w1) rfl)))
theorem X7 {xs:List Int} {cs:List (Option AV)} {t:AH} {lo:List (Str×AV)} {n:Nat}:iter CL (run CL (n+20)) aM (eO iu) ⟨lo,HL xs cs t⟩=some (.range ((0:Nat):Int) ((4:Nat):Int) 1,⟨lo,HL xs cs t⟩):=by
 have hn:aU.names=aU.names:=rfl
 conv at hn=>rhs;whnf
 have e:cJ (run CL (n+20)) aM (match bQ CL aM (eO iu) with|some as=>as|none=>[]) ⟨lo,HL xs cs t⟩=some ([.int ((4:Nat):Int)],⟨lo,HL xs cs t⟩):=by
  generalize hb:(match bQ CL aM (eO iu) with|some as=>as|none=>[])=bd
  conv at hb=>lhs;whnf
  subst hb;exact bq bx bJ
 rw [jU (as:=match bQ CL aM (eO iu) with|some as=>as|none=>[]) rfl e (mz 4 (by omega)),mC];rfl
noncomputable def ap (x:Bool) (es:List (Int×AV)) (i v:Int):List (Int×AV):=match x with
 |true=>dput es i (.int v)
 |false=>es
noncomputable def pn (cnt:Nat→Int) (lv:Nat→Nat→Int):List (Int×AV):=((List.range 4).map fun k=>AV.int (k:Nat)).foldl (jg cnt lv) []
theorem X8 (cnt:Nat→Int) (lv:Nat→Nat→Int):pn cnt lv=ap (cC cnt 3) (ap (cC cnt 3) (ap (cC cnt 3) (ap (cC cnt 2) (ap (cC cnt 2) (ap (cC cnt 1) [] 1 (lv 0 1)) 2 (lv 0 2)) 6 (lv 1 2)) 3 (lv 0 3)) 7 (lv 1 3)) 11 (lv 2 3):=rfl
theorem Yb {cnt:Nat→Int} {lv:Nat→Nat→Int} {k j:Nat} (hk:k<4) (hj:j<k) (hok:cC cnt k=true):c7 (pn cnt lv) (4*(j:Nat)+(k:Nat))=some (.int (lv j k)):=by
 rw [X8];generalize hb1:cC cnt 1=b1;generalize hb2:cC cnt 2=b2;generalize Yc:cC cnt 3=b3;revert hok;revert j;refine aW hk ?_ fun hk=>?_
 ·intro hj hok;rw [Yc] at hok;subst hok;refine aW hj (by cases b1 <;>cases b2 <;>rfl) fun hj=>?_;refine aW hj (by cases b1 <;>cases b2 <;>rfl) fun hj=>?_;refine aW hj (by cases b1 <;>cases b2 <;>rfl) fun hj=>?_;exact absurd hj (Nat.not_lt_zero _)
 refine aW hk ?_ fun hk=>?_
 ·intro hj hok;rw [hb2] at hok;subst hok;refine aW hj (by cases b1 <;>cases b3 <;>rfl) fun hj=>?_;refine aW hj (by cases b1 <;>cases b3 <;>rfl) fun hj=>?_;exact absurd hj (Nat.not_lt_zero _)
 refine aW hk ?_ fun hk=>?_
 ·intro hj hok;rw [hb1] at hok;subst hok;refine aW hj (by cases b2 <;>cases b3 <;>rfl) fun hj=>?_;exact absurd hj (Nat.not_lt_zero _)
 refine aW hk ?_ fun hk=>?_
 ·exact fun hj=>absurd hj (Nat.not_lt_zero _)
 exact absurd hk (Nat.not_lt_zero _)
theorem Yd {xs:List Int} {t:AH} {nv:Nat→Int} {J:Nat→Option Nat} {cnt:Nat→Int} {lv:Nat→Nat→Int} {R:Nat→Nat→Prop} {a d r n:Nat} {as:List Nat} {v0 v3 v4:Option AV} (hN:jD t a (fun i=>(Nk nv i).map fun j=>.int (j:Nat))) (hR:At t r (.list ((List.range 4).map fun k=>.str (cD J k)))) (hD:mO t d as (jE J cnt)) (iw:∀ k, -100≤cnt k∧cnt k≤100) (hl:∀ k,k<4→∀ j,j<k→cC cnt k=true→i7 (cD J j) (cD J k) 20=some (.val (.int (lv j k)))) (hsub:∀ k,k<4→cC cnt k=true→∀ j∈Nk nv k,R j k) (htr:∀ i j k,R i j→R j k→R i k) (heq:∀ k,k<4→∀ j,j<k→cC cnt k=true→R j k→lv j k=2*(cnt k- cnt j)):∃ s,(run CL (n+142)).ex (aU.body.drop 8) aM ⟨dN,HL xs [v0,none,some (.loc a),v3,v4,some (.loc r),some (.loc d),none,none,none] t⟩=some (.ret (.bool true),s):=by
 have F:yf xs [v0,none,some (.loc a),v3,v4,some (.loc r),some (.loc d),none,none,none] t J cnt r d as:=⟨rfl,rfl,rfl,hR,hD⟩;refine aJ (Xy (n:=n+16) (lo:=dN) (lv:=lv) F hl) fun u w1=>?_;have hF:=At.here t u (.dict (pn cnt lv) 0);have X:LastOk xs (t++ .dict (pn cnt lv) 0::u) nv J cnt lv R a d (44+t.length) as (pn cnt lv):=⟨hN.app _,hD.app _,hF,fun k hk j hj hok=>Yb hk hj hok,hsub,htr,heq⟩;have Z:pg [v0,none,some (.loc a),v3,v4,some (.loc r),some (.loc d),some (.loc (44+t.length)),none,none] a d (44+t.length):=⟨rfl,rfl,rfl,rfl⟩;refine aJ (X6 (lo:=dN) iw 4 0 (n+10) _ _ rfl X Z) fun s w2=>?_;have hit:=X7 (xs:=xs) (cs:=[v0,none,some (.loc a),v3,v4,some (.loc r),some (.loc d),some (.loc (44+t.length)),none,none]) (t:=t++ .dict (pn cnt lv) 0::u) (lo:=dN) (n:=n+120);refine ⟨s,?_⟩;have hbody:aU.body.drop 8=[aY aU.body 8,iu,aY aU.body 10]:=rfl;refine (congrArg (fun b'=>(run CL (n+142)).ex b' aM ⟨dN,HL xs [v0,none,some (.loc a),v3,v4,some (.loc r),some (.loc d),none,none,none] t⟩) hbody).trans ?_;refine (eW (n:=n+141) (s1:=⟨dN,HL xs [v0,none,some (.loc a),v3,v4,some (.loc r),some (.loc d),some (.loc (44+t.length)),none,none] (t++ .dict (pn cnt lv) 0::u)⟩) ?_).trans ?_
 ·exact asg (i:=7) (x:=S "far") rfl rfl (by decide) rfl w1
 refine (eW (n:=n+140) (s1:=s) ?_).trans ?_
 ·rw [show n+120+20=n+140 by (exact Nat.add_right_comm ..)] at hit;rw [show n+10+4+126=n+140 by (exact Nat.add_right_comm ..)] at w2;exact oA rfl hit rfl w2 rfl
 ·refine v8 (n:=n+139) ?_;generalize hb:aY aU.body 10=bd
  conv at hb=>lhs;whnf
  subst hb;exact jQ E2
theorem Ye {xs:List Int} {nv:Nat→Int} {es:List (Int×AV)} {J:Nat→Option Nat} {cnt:Nat→Int} {lv:Nat→Nat→Int} {R:Nat→Nat→Prop} (hx:xs.length≤63) (uA:o8 xs=vals4 nv) (hh:fQ (CQ 6) FU j7 [.loc 0,.loc 5] (eX ([0,1,2,3].map fun i=>(Nk nv i).map fun j=>.int (j:Nat)) [.jn (cI (nv 0)),.jn (cI (nv 1)),.jn (cI (nv 2)),.jn (cI (nv 3))])=some (.obj (.dict es 0))) (hel:es.length≤60) (hne:es.isEmpty=false) (uB:j5 (es.map (·.1))=[0,1,2,3]) (hd:∀ k,k<4→c7 es (k:Nat)=some (.jn (oI (J k)))) (hJ:∀ k m,J k=some m→m<512) (Cr:∀ k,k<4→fQ (CQ 6) FU bw [.loc 0,.loc 5,.int (k:Nat)] (eX ([0,1,2,3].map fun i=>(Nk nv i).map fun j=>.int (j:Nat)) ([cI (nv 0),cI (nv 1),cI (nv 2),cI (nv 3)].map aP))=some (.obj (jE J cnt k))) (iw:∀ k, -100≤cnt k∧cnt k≤100) (hl:∀ k,k<4→∀ j,j<k→cC cnt k=true→i7 (cD J j) (cD J k) 20=some (.val (.int (lv j k)))) (hsub:∀ k,k<4→cC cnt k=true→∀ j∈Nk nv k,R j k) (htr:∀ i j k,R i j→R j k→R i k) (heq:∀ k,k<4→∀ j,j<k→cC cnt k=true→R j k→lv j k=2*(cnt k- cnt j)):∃ h',fE CL (run CL 200) aU [.loc 33] (hp0 xs)=some (.bool true,h'):=by refine lA (Xd (n:=50) hx uA hh hel hne uB) fun t a b h w1 hN hO hH=>?_;refine lA (Xp (xs:=xs) (n0:=47) (n:=50) (os:=[cI (nv 0),cI (nv 1),cI (nv 2),cI (nv 3)]) hN (fun i _=>JH _) hO hH hd hJ Cr) fun t' r d as w2 nM uF uE=>?_;refine aJ (Yd (xs:=xs) (v0:=some (.loc 47)) (v3:=some (.loc b)) (v4:=some (.loc h)) (n:=50) nM uF uE iw hl hsub htr heq) fun s w3=>?_;refine ⟨s.hp,?_⟩;rw [WT];have e:(run CL 200).ex aU.body aM ⟨[(S "script",.loc 33)],HL xs dM []⟩=some (.ret (.bool true),s):=w1.trans (w2.trans w3);rw [e];rfl
inductive Tr where
 |l (k:Nat)|j (a b:Tr)
noncomputable def Tr.ev (o:Nat→Option Int):Tr→Option Int
 | .l k=>o k
 | .j a b=>rY (a.ev o) (b.ev o)
noncomputable def Tr.lv:Tr→List Nat
 | .l k=>[k]
 | .j a b=>a.lv++b.lv
noncomputable def dW (p:Nat):Nat→List Nat
 |1=>match p.testBit 0 with|true=>[0]|false=>[]
 |2=>(match p.testBit 1 with|true=>[0]|false=>[])++(match p.testBit 2 with|true=>[1]|false=>[])
 |3=>(match p.testBit 3 with|true=>[0]|false=>[])++((match p.testBit 4 with|true=>[1]|false=>[])++(match p.testBit 5 with|true=>[2]|false=>[]))
 |_=>[]
noncomputable def Yg:List (List (Nat×Tr)):=[
 [(3,.l 3),(2,.l 2),(1,.l 1),(0,.l 0)],
 [(3,.l 3),(2,.l 2),(0,.l 0),(1,.j (.l 0) (.l 1))],
 [(3,.l 3),(0,.l 0),(1,.l 1),(2,.j (.l 0) (.l 2))],
 [(3,.l 3),(0,.l 0),(2,.j (.l 0) (.l 2)),(1,.j (.l 0) (.l 1))],
 [(3,.l 3),(1,.l 1),(0,.l 0),(2,.j (.l 1) (.l 2))],
 [(3,.l 3),(0,.l 0),(1,.j (.l 0) (.l 1)),(2,.j (.j (.l 0) (.l 1)) (.l 2))],
 [(3,.l 3),(0,.l 0),(1,.l 1),(2,.j (.l 1) (.j (.l 0) (.l 2)))],
 [(3,.l 3),(0,.l 0),(1,.j (.l 0) (.l 1)),(2,.j (.j (.l 0) (.l 1)) (.j (.l 0) (.l 2)))],
 [(0,.l 0),(2,.l 2),(1,.l 1),(3,.j (.l 0) (.l 3))],
 [(0,.l 0),(2,.l 2),(3,.j (.l 0) (.l 3)),(1,.j (.l 0) (.l 1))],
 [(0,.l 0),(1,.l 1),(3,.j (.l 0) (.l 3)),(2,.j (.l 0) (.l 2))],
 [(0,.l 0),(3,.j (.l 0) (.l 3)),(2,.j (.l 0) (.l 2)),(1,.j (.l 0) (.l 1))],
 [(0,.l 0),(1,.l 1),(3,.j (.l 0) (.l 3)),(2,.j (.l 1) (.l 2))],
 [(0,.l 0),(3,.j (.l 0) (.l 3)),(1,.j (.l 0) (.l 1)),(2,.j (.j (.l 0) (.l 1)) (.l 2))],
 [(0,.l 0),(1,.l 1),(3,.j (.l 0) (.l 3)),(2,.j (.l 1) (.j (.l 0) (.l 2)))],
 [(0,.l 0),(3,.j (.l 0) (.l 3)),(1,.j (.l 0) (.l 1)),(2,.j (.j (.l 0) (.l 1)) (.j (.l 0) (.l 2)))],
 [(1,.l 1),(2,.l 2),(0,.l 0),(3,.j (.l 1) (.l 3))],
 [(2,.l 2),(0,.l 0),(1,.j (.l 0) (.l 1)),(3,.j (.j (.l 0) (.l 1)) (.l 3))],
 [(1,.l 1),(0,.l 0),(3,.j (.l 1) (.l 3)),(2,.j (.l 0) (.l 2))],
 [(0,.l 0),(2,.j (.l 0) (.l 2)),(1,.j (.l 0) (.l 1)),(3,.j (.j (.l 0) (.l 1)) (.l 3))],
 [(1,.l 1),(0,.l 0),(3,.j (.l 1) (.l 3)),(2,.j (.l 1) (.l 2))],
 [(0,.l 0),(1,.j (.l 0) (.l 1)),(3,.j (.j (.l 0) (.l 1)) (.l 3)),(2,.j (.j (.l 0) (.l 1)) (.l 2))],
 [(1,.l 1),(0,.l 0),(3,.j (.l 1) (.l 3)),(2,.j (.l 1) (.j (.l 0) (.l 2)))],
 [(0,.l 0),(1,.j (.l 0) (.l 1)),(3,.j (.j (.l 0) (.l 1)) (.l 3)),(2,.j (.j (.l 0) (.l 1)) (.j (.l 0) (.l 2)))],
 [(0,.l 0),(1,.l 1),(2,.l 2),(3,.j (.l 1) (.j (.l 0) (.l 3)))],
 [(0,.l 0),(2,.l 2),(1,.j (.l 0) (.l 1)),(3,.j (.j (.l 0) (.l 1)) (.j (.l 0) (.l 3)))],
 [(0,.l 0),(1,.l 1),(2,.j (.l 0) (.l 2)),(3,.j (.l 1) (.j (.l 0) (.l 3)))],
 [(0,.l 0),(2,.j (.l 0) (.l 2)),(1,.j (.l 0) (.l 1)),(3,.j (.j (.l 0) (.l 1)) (.j (.l 0) (.l 3)))],
 [(0,.l 0),(1,.l 1),(3,.j (.l 1) (.j (.l 0) (.l 3))),(2,.j (.l 1) (.l 2))],
 [(0,.l 0),(1,.j (.l 0) (.l 1)),(3,.j (.j (.l 0) (.l 1)) (.j (.l 0) (.l 3))),(2,.j (.j (.l 0) (.l 1)) (.l 2))],
 [(0,.l 0),(1,.l 1),(3,.j (.l 1) (.j (.l 0) (.l 3))),(2,.j (.l 1) (.j (.l 0) (.l 2)))],
 [(0,.l 0),(1,.j (.l 0) (.l 1)),(3,.j (.j (.l 0) (.l 1)) (.j (.l 0) (.l 3))),(2,.j (.j (.l 0) (.l 1)) (.j (.l 0) (.l 2)))],
 [(2,.l 2),(1,.l 1),(0,.l 0),(3,.j (.l 2) (.l 3))],
 [(2,.l 2),(0,.l 0),(3,.j (.l 2) (.l 3)),(1,.j (.l 0) (.l 1))],
 [(0,.l 0),(1,.l 1),(2,.j (.l 0) (.l 2)),(3,.j (.j (.l 0) (.l 2)) (.l 3))],
 [(0,.l 0),(2,.j (.l 0) (.l 2)),(1,.j (.l 0) (.l 1)),(3,.j (.j (.l 0) (.l 2)) (.l 3))],
 [(1,.l 1),(0,.l 0),(2,.j (.l 1) (.l 2)),(3,.j (.j (.l 1) (.l 2)) (.l 3))],
 [(0,.l 0),(1,.j (.l 0) (.l 1)),(2,.j (.j (.l 0) (.l 1)) (.l 2)),(3,.j (.j (.j (.l 0) (.l 1)) (.l 2)) (.l 3))],
 [(0,.l 0),(1,.l 1),(2,.j (.l 1) (.j (.l 0) (.l 2))),(3,.j (.j (.l 1) (.j (.l 0) (.l 2))) (.l 3))],
 [(0,.l 0),(1,.j (.l 0) (.l 1)),(2,.j (.j (.l 0) (.l 1)) (.j (.l 0) (.l 2))),(3,.j (.j (.j (.l 0) (.l 1)) (.j (.l 0) (.l 2))) (.l 3))],
 [(0,.l 0),(2,.l 2),(1,.l 1),(3,.j (.l 2) (.j (.l 0) (.l 3)))],
 [(0,.l 0),(2,.l 2),(1,.j (.l 0) (.l 1)),(3,.j (.l 2) (.j (.l 0) (.l 3)))],
 [(0,.l 0),(1,.l 1),(2,.j (.l 0) (.l 2)),(3,.j (.j (.l 0) (.l 2)) (.j (.l 0) (.l 3)))],
 [(0,.l 0),(2,.j (.l 0) (.l 2)),(1,.j (.l 0) (.l 1)),(3,.j (.j (.l 0) (.l 2)) (.j (.l 0) (.l 3)))],
 [(0,.l 0),(1,.l 1),(2,.j (.l 1) (.l 2)),(3,.j (.j (.l 1) (.l 2)) (.j (.l 0) (.l 3)))],
 [(0,.l 0),(1,.j (.l 0) (.l 1)),(2,.j (.j (.l 0) (.l 1)) (.l 2)),(3,.j (.j (.j (.l 0) (.l 1)) (.l 2)) (.j (.l 0) (.l 3)))],
 [(0,.l 0),(1,.l 1),(2,.j (.l 1) (.j (.l 0) (.l 2))),(3,.j (.j (.l 1) (.j (.l 0) (.l 2))) (.j (.l 0) (.l 3)))],
 [(0,.l 0),(1,.j (.l 0) (.l 1)),(2,.j (.j (.l 0) (.l 1)) (.j (.l 0) (.l 2))),(3,.j (.j (.j (.l 0) (.l 1)) (.j (.l 0) (.l 2))) (.j (.l 0) (.l 3)))],
 [(1,.l 1),(2,.l 2),(0,.l 0),(3,.j (.l 2) (.j (.l 1) (.l 3)))],
 [(2,.l 2),(0,.l 0),(1,.j (.l 0) (.l 1)),(3,.j (.l 2) (.j (.j (.l 0) (.l 1)) (.l 3)))],
 [(1,.l 1),(0,.l 0),(2,.j (.l 0) (.l 2)),(3,.j (.j (.l 0) (.l 2)) (.j (.l 1) (.l 3)))],
 [(0,.l 0),(2,.j (.l 0) (.l 2)),(1,.j (.l 0) (.l 1)),(3,.j (.j (.l 0) (.l 2)) (.j (.j (.l 0) (.l 1)) (.l 3)))],
 [(1,.l 1),(0,.l 0),(2,.j (.l 1) (.l 2)),(3,.j (.j (.l 1) (.l 2)) (.j (.l 1) (.l 3)))],
 [(0,.l 0),(1,.j (.l 0) (.l 1)),(2,.j (.j (.l 0) (.l 1)) (.l 2)),(3,.j (.j (.j (.l 0) (.l 1)) (.l 2)) (.j (.j (.l 0) (.l 1)) (.l 3)))],
 [(1,.l 1),(0,.l 0),(2,.j (.l 1) (.j (.l 0) (.l 2))),(3,.j (.j (.l 1) (.j (.l 0) (.l 2))) (.j (.l 1) (.l 3)))],
 [(0,.l 0),(1,.j (.l 0) (.l 1)),(2,.j (.j (.l 0) (.l 1)) (.j (.l 0) (.l 2))),(3,.j (.j (.j (.l 0) (.l 1)) (.j (.l 0) (.l 2))) (.j (.j (.l 0) (.l 1)) (.l 3)))],
 [(0,.l 0),(1,.l 1),(2,.l 2),(3,.j (.l 2) (.j (.l 1) (.j (.l 0) (.l 3))))],
 [(0,.l 0),(2,.l 2),(1,.j (.l 0) (.l 1)),(3,.j (.l 2) (.j (.j (.l 0) (.l 1)) (.j (.l 0) (.l 3))))],
 [(0,.l 0),(1,.l 1),(2,.j (.l 0) (.l 2)),(3,.j (.j (.l 0) (.l 2)) (.j (.l 1) (.j (.l 0) (.l 3))))],
 [(0,.l 0),(2,.j (.l 0) (.l 2)),(1,.j (.l 0) (.l 1)),(3,.j (.j (.l 0) (.l 2)) (.j (.j (.l 0) (.l 1)) (.j (.l 0) (.l 3))))],
 [(0,.l 0),(1,.l 1),(2,.j (.l 1) (.l 2)),(3,.j (.j (.l 1) (.l 2)) (.j (.l 1) (.j (.l 0) (.l 3))))],
 [(0,.l 0),(1,.j (.l 0) (.l 1)),(2,.j (.j (.l 0) (.l 1)) (.l 2)),(3,.j (.j (.j (.l 0) (.l 1)) (.l 2)) (.j (.j (.l 0) (.l 1)) (.j (.l 0) (.l 3))))],
 [(0,.l 0),(1,.l 1),(2,.j (.l 1) (.j (.l 0) (.l 2))),(3,.j (.j (.l 1) (.j (.l 0) (.l 2))) (.j (.l 1) (.j (.l 0) (.l 3))))],
 [(0,.l 0),(1,.j (.l 0) (.l 1)),(2,.j (.j (.l 0) (.l 1)) (.j (.l 0) (.l 2))),(3,.j (.j (.j (.l 0) (.l 1)) (.j (.l 0) (.l 2))) (.j (.j (.l 0) (.l 1)) (.j (.l 0) (.l 3))))]]
noncomputable def kH (p:Nat):List (Nat×Tr):=Yg.getD p []
noncomputable def rI (p:Nat) (o:Nat→Option Int):List (Int×AV):=(kH p).map fun q=>((q.1:Nat),.jn (q.2.ev o))
noncomputable def aE (p:Nat):Prop:=∀ o:Nat→Option Int,fQ (CQ 6) FU j7 [.loc 0,.loc 5] (eX ([0,1,2,3].map fun i=>(dW p i).map fun j=>.int (j:Nat)) [.jn (o 0),.jn (o 1),.jn (o 2),.jn (o 3)])=some (.obj (.dict (rI p o) 0))
theorem bor (a b:Nat):Builtin.bitOr ((a:Nat):Int) ((b:Nat):Int)=((a|||b:Nat):Int):=by unfold Builtin.bitOr Builtin.bitAnd Builtin.bitNot;rw [show decide (0≤ -((a:Nat):Int) - 1)=false from decide_eq_false (by lia),show decide (0≤ -((b:Nat):Int) - 1)=false from decide_eq_false (by lia)];simp only [];rw [show (-(-((a:Nat):Int) - 1) - 1).toNat=a by lia,show (-(-((b:Nat):Int) - 1) - 1).toNat=b by lia];lia
theorem Yh (ha:a<512) (hb:b<512):(32768+a)|||(32768+b)=32768+(a|||b)∧(a|||b) <512:=by
 have h1:a<2 ^ 15:=by (exact Nat.lt_of_lt_of_le ha (by decide))
 have h2:b<2 ^ 15:=by (exact Nat.lt_of_lt_of_le hb (by decide))
 have h3:a|||b<2 ^ 9:=Nat.or_lt_two_pow (by omega) (by omega);have h4:a|||b<2 ^ 15:=by (exact Nat.lt_of_lt_of_le h3 (by decide))
 have e1:=Nat.two_pow_add_eq_or_of_lt h1 1;have e2:=Nat.two_pow_add_eq_or_of_lt h2 1;have e3:=Nat.two_pow_add_eq_or_of_lt h4 1;simp only [Nat.mul_one,show (2:Nat)^ 15=32768 from rfl] at e1 e2 e3;refine ⟨?_,by omega⟩;rw [e1,e2,e3];apply Nat.eq_of_testBit_eq;intro i;simp only [Nat.testBit_or];cases Nat.testBit 32768 i <;>simp
noncomputable def Tr.dO (m:Nat→Option Nat):Tr→Option Nat
 | .l k=>m k
 | .j a b=>match a.dO m,b.dO m with
  |some x,some y=>some (x|||y)
  |_,_=>none
theorem uH (hm:∀ k x,m k=some x→x<512):∀ t:Tr,t.ev (fun k=>oI (m k))=oI (t.dO m)∧∀ x,t.dO m=some x→x<512
 | .l k=>⟨rfl,hm k⟩
 | .j a b=>by
  refine aN (uH hm a) fun a1 a2=>?_;refine aN (uH hm b) fun b1 b2=>?_;show rY (a.ev _) (b.ev _)=oI (match a.dO m,b.dO m with|some x,some y=>some (x|||y)|_,_=>none)∧∀ x,(match a.dO m,b.dO m with|some x,some y=>some (x|||y)|_,_=>none)=some x→x<512;rw [a1,b1];cases ha:a.dO m with
  |none=>exact ⟨rfl,fun x h=>by cases h⟩
  |some x=>
   cases hb:b.dO m with
   |none=>exact ⟨rfl,fun x h=>by cases h⟩
   |some y=>
    refine aN (Yh (a2 x ha) (b2 y hb)) fun o1 o2=>?_;refine ⟨?_,fun z h=>by cases h;exact o2⟩;show some (Builtin.bitOr ((32768+x:Nat):Int) ((32768+y:Nat):Int))=some ((32768+(x|||y):Nat):Int);rw [bor,o1]
theorem rJ:∀ t:Tr,t.dO m=none↔∃ k∈t.lv,m k=none
 | .l k=>⟨fun h=>⟨k,.head _,h⟩,fun ⟨k',h1,h2⟩=>by
   have:k'=k:=by simpa [Tr.lv] using h1
   subst this;exact h2⟩
 | .j a b=>by
  have ia:=rJ (m:=m) a;have ib:=rJ (m:=m) b;show (match a.dO m,b.dO m with|some x,some y=>some (x|||y)|_,_=>none)=none↔∃ k∈a.lv++b.lv,m k=none;constructor
  ·intro h;cases ha:a.dO m with
   |none=>refine aC (ia.mp ha) fun k h1 h2=>?_;exact ⟨k,List.mem_append_left _ h1,h2⟩
   |some x=>
    cases hb:b.dO m with
    |none=>refine aC (ib.mp hb) fun k h1 h2=>?_;exact ⟨k,List.mem_append_right _ h1,h2⟩
    |some y=>rw [ha,hb] at h;cases h
  ·rintro ⟨k,h1,h2⟩
   rcases List.mem_append.mp h1 with h1|h1
   ·rw [ia.mpr ⟨k,h1,h2⟩]
   ·rw [ib.mpr ⟨k,h1,h2⟩];cases a.dO m <;>rfl
theorem CH (t:Tr):∀(x:Nat),t.dO m=some x→∀ b,x.testBit b=true↔∃ k∈t.lv,∃ y,m k=some y∧y.testBit b=true:=by
 induction t with
 |l k=>exact fun x h b=>⟨fun q=>⟨k,.head _,x,h,q⟩,fun ⟨k',h1,y,h2,h3⟩=>by
   have:k'=k:=by simpa [Tr.lv] using h1
   subst this;have h:m k'=some x:=h;rw [h] at h2;cases h2;exact h3⟩
 |j a b Yi Yj=>
  intro x h i;have h:(match a.dO m,b.dO m with|some x,some y=>some (x|||y)|_,_=>none)=some x:=h;cases ha:a.dO m with
  |none=>rw [ha] at h;cases h
  |some y=>
   cases hb:b.dO m with
   |none=>rw [ha,hb] at h;cases h
   |some z=>
    rw [ha,hb] at h;cases h;have ia:=Yi y ha i;have ib:=Yj z hb i;rw [Nat.testBit_or,Bool.or_eq_true,ia,ib];show _↔∃ k∈a.lv++b.lv,_;constructor
    ·rintro (⟨k,h1,h2⟩|⟨k,h1,h2⟩)
     ·exact ⟨k,List.mem_append_left _ h1,h2⟩
     ·exact ⟨k,List.mem_append_right _ h1,h2⟩
    ·rintro ⟨k,h1,h2⟩
     rcases List.mem_append.mp h1 with h1|h1
     ·exact .inl ⟨k,h1,h2⟩
     ·exact .inr ⟨k,h1,h2⟩
noncomputable def nN:List (Nat×Tr)→Nat→Option Tr
 |[],_=>none
 |q::r,k=>match Nat.beq k q.1 with|true=>some q.2|false=>nN r k
theorem J7 (o:Nat→Option Int) (k:Nat):∀ l:List (Nat×Tr),c7 (l.map fun q=>(((q.1:Nat):Int),AV.jn (q.2.ev o))) (k:Nat)=(nN l k).map fun t=>.jn (t.ev o)
 |[]=>rfl
 |q::r=>by
  show (match iE (k:Int) (q.1:Nat) with|true=>some (AV.jn (q.2.ev o))|false=>c7 (r.map fun (q:Nat×Tr)=>(((q.1:Nat):Int),AV.jn (q.2.ev o))) (k:Nat))=(match Nat.beq k q.1 with|true=>some q.2|false=>nN r k:Option Tr).map fun (t:Tr)=>.jn (t.ev o);rw [J7 o k r];show (match Nat.beq k q.1 with|true=>_|false=>_)=_;cases Nat.beq k q.1 <;>rfl
noncomputable def J8 (p k:Nat):Option (List Int):=rE (fun j=>(dW p j).map fun i=>((i:Nat):Int)) 7 0 [(k:Int)]
noncomputable def CI (l:List Nat) (i:Nat):Bool:=l.any fun j=>Nat.beq i j
noncomputable def natOf:Int→Option Nat
 | .ofNat i=>some i
 |_=>.none
noncomputable def Yk (p k:Nat):Bool:=cz (nN (kH p) k) fun t=>cz (J8 p k) fun L=>Nat.ble L.length 15&&(L.all fun j=>cz (natOf j) fun i=>Nat.blt i 4&&CI t.lv i)&&(t.lv.all fun i=>L.any fun j=>iE j (i:Nat))&&((dW p k).all fun j=>cz (nN (kH p) j) fun tj=>tj.lv.all (CI t.lv))
noncomputable def Yl (l:List Int):Bool:=cz (Be l) fun q=>iE q.1 0&&(iE q.2.1 1&&(iE q.2.2.1 2&&iE q.2.2.2 3))
noncomputable def Ym (p:Nat):Bool:=Nat.beq (kH p).length 4&&Yl (j5 ((kH p).map fun q=>((q.1:Nat):Int)))&&(List.range 4).all (Yk p)
theorem J9:((List.range 64).all Ym)=true:=rfl
noncomputable def j3 (x b:Nat):Nat:=match x.testBit b with|true=>letter b|false=>45
theorem CJ (x:Nat):ez x=45::bC.map (j3 x):=by kernel_rfl
theorem Yn:(bC.all fun b=>Nat.beq (letter b) 120||Nat.beq (letter b) 119||Nat.beq (letter b) 114)=true:=by kernel_rfl
theorem Ka (hb:b∈bC):al (letter b)∧letter b≠45:=by
 have h:=List.all_eq_true.mp Yn b hb;rw [Bool.or_eq_true,Bool.or_eq_true] at h;rcases h with (h|h)|h <;>rw [Nat.eq_of_beq_eq_true h]
 ·exact ⟨.inr (.inr (.inr rfl)),by decide⟩
 ·exact ⟨.inr (.inr (.inl rfl)),by decide⟩
 ·exact ⟨.inr (.inl rfl),by decide⟩
theorem yi (h:c∈ez x):al c:=by
 rw [CJ] at h;rcases List.mem_cons.mp h with rfl|h
 ·exact .inl rfl
 ·refine aC (List.mem_map.mp h) fun b hb q1=>?_;subst q1;unfold j3;split
  ·exact (Ka hb).1
  ·exact .inl rfl
theorem uI (x:Nat):(ez x).length=10:=by kernel_rfl
noncomputable def nO (x:Nat):Int:=((bC.filter x.testBit).length:Nat)
theorem Kc:∀ l:List Nat,(∀ b∈l,b∈bC)→cm (l.map (j3 x))=(l.length:Int) - ((l.filter x.testBit).length:Nat)
 |[],_=>rfl
 |b::l,h=>by
  have ih:=Kc (x:=x) l fun b hb=>h b (.tail _ hb);rw [List.map_cons];show mi (j3 x b)+cm (l.map (j3 x))=_;rw [ih];unfold j3;cases hb:x.testBit b with
  |true=>
   rw [List.filter_cons_of_pos hb];have:mi (letter b)=0:=by unfold mi;rw [if_neg (Ka (h b (.head _))).2]
   simp only [this,List.length_cons];lia
  |false=>
   rw [List.filter_cons_of_neg (by simp [hb])];have:mi 45=1:=rfl;simp only [this,List.length_cons];lia
theorem Kd (x:Nat):cm (ez x)=10- nO x:=by rw [CJ];show mi 45+cm (bC.map (j3 x))=_;rw [Kc bC fun b hb=>hb];have:mi 45=1:=rfl;unfold nO;rw [this,show (bC.length:Int)=9 from rfl];lia
theorem Yo (h:∀ b,x.testBit b=true→y.testBit b=true):BU (ez x) (ez y):=by
 intro i p q hp hq;rw [CJ] at hp hq;cases i with
 |zero=>cases hp;cases hq;exact .inl rfl
 |succ i=>
  rw [List.getElem?_cons_succ,List.getElem?_map] at hp hq;cases hb:bC[i]? with
  |none=>rw [hb] at hp;cases hp
  |some b=>
   rw [hb] at hp hq;cases hp;cases hq;unfold j3;cases hx:x.testBit b with
   |true=>rw [h b hx];exact .inl rfl
   |false=>exact .inr rfl
theorem Yp (h:∀ b,x.testBit b=true→y.testBit b=true):nI (ez x) (ez y)=2*(nO y- nO x):=by rw [VG ((uI x).trans (uI y).symm) (fun c hc=>yi hc) (fun c hc=>yi hc) (Yo h),Kd,Kd];lia
theorem Yq (x y:Nat):i7 (T (ez x)) (T (ez y)) 20=some (.val (.int (nI (ez x) (ez y)))):=Vw (uI x) (uI y) (fun c hc=>IW (yi hc)) (fun c hc=>IW (yi hc))
noncomputable def rK (k:Nat):List Nat:=(failK k).cps.toList
theorem Yr (s:Str):T s.cps.toList=s:=by obtain ⟨a⟩:=s;unfold T;congr 1
theorem Ys (k:Nat):failK k=T (rK k):=(Yr (failK k)).symm
theorem Yt:((List.range 4).all fun k=>Nat.beq (rK k).length 26&&Nat.beq ((rK k).headD 0) 60&&Nat.beq ((rK k).reverse.headD 0) 62)=true:=rfl
theorem Yu (hj:j<4) (y:Nat):i7 (failK j) (T (ez y)) 20=some (.val (.int 21)):=by
 have h:=List.all_eq_true.mp Yt j (List.mem_range.mpr hj);rw [Bool.and_eq_true,Bool.and_eq_true] at h;refine aN h fun q1 h3=>?_;refine aN q1 fun h1 h2=>?_;have h1:=Nat.eq_of_beq_eq_true h1;have h2:=Nat.eq_of_beq_eq_true h2;have h3:=Nat.eq_of_beq_eq_true h3;rw [Ys];refine Vx h1 (uI y) ?_ ?_
 ·cases e:rK j with
  |nil=>rw [e] at h1;cases h1
  |cons c r=>
   rw [e] at h2;have h2:c=60:=h2;subst h2;rfl
 ·cases e:(rK j).reverse with
  |nil=>have:=congrArg List.length e;rw [List.length_reverse,h1] at this;cases this
  |cons c r=>
   rw [e] at h3;have h3:c=62:=h3;subst h3;have er:∃ r',(ez y).reverse=j3 y 0::r':=⟨_,rfl⟩;refine aJ er fun r' er=>?_;rw [er];unfold j3;cases y.testBit 0 <;>rfl
theorem Yv:((List.range 512).all fun x=>bC.all fun b=>match eY (.int ((32768+x:Nat):Int)) b,x.testBit b with|true,true=>true|false,false=>true|_,_=>false)=true:=rfl
theorem Yw (hx:x<512) (hb:b∈bC):eY (.int ((32768+x:Nat):Int)) b=x.testBit b:=by have h:=List.all_eq_true.mp (List.all_eq_true.mp Yv x (List.mem_range.mpr hx)) b hb;generalize eY (.int ((32768+x:Nat):Int)) b=p at h ⊢;generalize x.testBit b=q at h ⊢;cases p <;>cases q <;>first|rfl|cases h
theorem CK (os:List (Option Int)):∀ L:List Int,jW os L=true↔∃ j∈L,os.getD j.toNat (some 0)=none
 |[]=>⟨fun h=>(by cases h),fun ⟨_,h,_⟩=>(by cases h)⟩
 |j::r=>by
  show ((os.getD j.toNat (some 0)).isNone||jW os r)=true↔_;rw [Bool.or_eq_true,CK os r,Option.isNone_iff_eq_none];constructor
  ·rintro (h|⟨i,h1,h2⟩)
   ·exact ⟨j,.head _,h⟩
   ·exact ⟨i,.tail _ h1,h2⟩
  ·rintro ⟨i,h1,h2⟩
   cases h1 with
   |head=>exact .inl h2
   |tail _ h1=>exact .inr ⟨i,h1,h2⟩
theorem Ke (own:List AV) (b:Nat):∀ L:List Int,eZ own L b=true↔∃ j∈L,eY (cB own (.int j)) b=true
 |[]=>⟨fun h=>(by cases h),fun ⟨_,h,_⟩=>(by cases h)⟩
 |j::r=>by
  show (eY (cB own (.int j)) b||eZ own r b)=true↔_;rw [Bool.or_eq_true,Ke own b r];constructor
  ·rintro (h|⟨i,h1,h2⟩)
   ·exact ⟨j,.head _,h⟩
   ·exact ⟨i,.tail _ h1,h2⟩
  ·rintro ⟨i,h1,h2⟩
   cases h1 with
   |head=>exact .inl h2
   |tail _ h1=>exact .inr ⟨i,h1,h2⟩
theorem Yx (b:Nat) (l:List Nat):fq (l.map fun j=>((j:Nat):Int)) (b:Nat)=true↔b∈l:=by
 constructor
 ·exact CE b l
 ·intro h;induction l with
  |nil=>cases h
  |cons j l ih=>
   show (iE (b:Int) (j:Nat)||fq (l.map fun j=>((j:Nat):Int)) (b:Nat))=true;rw [Bool.or_eq_true];cases h with
   |head=>exact .inl (dI.mpr rfl)
   |tail _ h=>exact .inr (ih h)
theorem Yy:aE 0:=fun o=>by kernel_rfl
theorem Yz:aE 1:=fun o=>by kernel_rfl
theorem YA:aE 2:=fun o=>by kernel_rfl
theorem YB:aE 3:=fun o=>by kernel_rfl
theorem YC:aE 4:=fun o=>by kernel_rfl
theorem YD:aE 5:=fun o=>by kernel_rfl
theorem YE:aE 6:=fun o=>by kernel_rfl
theorem YF:aE 7:=fun o=>by kernel_rfl
theorem YG:aE 8:=fun o=>by kernel_rfl
theorem YH:aE 9:=fun o=>by kernel_rfl
theorem YI:aE 10:=fun o=>by kernel_rfl
theorem YJ:aE 11:=fun o=>by kernel_rfl
theorem YK:aE 12:=fun o=>by kernel_rfl
theorem YL:aE 13:=fun o=>by kernel_rfl
theorem YM:aE 14:=fun o=>by kernel_rfl
theorem YN:aE 15:=fun o=>by kernel_rfl
theorem YO:aE 16:=fun o=>by kernel_rfl
theorem YQ:aE 17:=fun o=>by kernel_rfl
theorem YR:aE 18:=fun o=>by kernel_rfl
theorem YS:aE 19:=fun o=>by kernel_rfl
theorem YT:aE 20:=fun o=>by kernel_rfl
theorem YU:aE 21:=fun o=>by kernel_rfl
theorem YV:aE 22:=fun o=>by kernel_rfl
theorem YW:aE 23:=fun o=>by kernel_rfl
theorem YX:aE 24:=fun o=>by kernel_rfl
theorem YY:aE 25:=fun o=>by kernel_rfl
theorem YZ:aE 26:=fun o=>by kernel_rfl
theorem Y0:aE 27:=fun o=>by kernel_rfl
theorem Y3:aE 28:=fun o=>by kernel_rfl
theorem Y4:aE 29:=fun o=>by kernel_rfl
theorem Y5:aE 30:=fun o=>by kernel_rfl
theorem Y6:aE 31:=fun o=>by kernel_rfl
theorem Y7:aE 32:=fun o=>by kernel_rfl
theorem Y8:aE 33:=fun o=>by kernel_rfl
theorem Y9:aE 34:=fun o=>by kernel_rfl
theorem Za:aE 35:=fun o=>by kernel_rfl
theorem Zb:aE 36:=fun o=>by kernel_rfl
theorem Zc:aE 37:=fun o=>by kernel_rfl
theorem Zd:aE 38:=fun o=>by kernel_rfl
theorem Ze:aE 39:=fun o=>by kernel_rfl
theorem Zf:aE 40:=fun o=>by kernel_rfl
theorem Zg:aE 41:=fun o=>by kernel_rfl
theorem Zh:aE 42:=fun o=>by kernel_rfl
theorem Zi:aE 43:=fun o=>by kernel_rfl
theorem Zj:aE 44:=fun o=>by kernel_rfl
theorem Zk:aE 45:=fun o=>by kernel_rfl
theorem Zl:aE 46:=fun o=>by kernel_rfl
theorem Zm:aE 47:=fun o=>by kernel_rfl
theorem Zn:aE 48:=fun o=>by kernel_rfl
theorem Zo:aE 49:=fun o=>by kernel_rfl
theorem Zp:aE 50:=fun o=>by kernel_rfl
theorem Zq:aE 51:=fun o=>by kernel_rfl
theorem Zr:aE 52:=fun o=>by kernel_rfl
theorem Zs:aE 53:=fun o=>by kernel_rfl
theorem Zt:aE 54:=fun o=>by kernel_rfl
theorem Zu:aE 55:=fun o=>by kernel_rfl
theorem Zv:aE 56:=fun o=>by kernel_rfl
theorem Zw:aE 57:=fun o=>by kernel_rfl
theorem Zx:aE 58:=fun o=>by kernel_rfl
theorem Zy:aE 59:=fun o=>by kernel_rfl
theorem Zz:aE 60:=fun o=>by kernel_rfl
theorem ZA:aE 61:=fun o=>by kernel_rfl
theorem ZC:aE 62:=fun o=>by kernel_rfl
theorem ZD:aE 63:=fun o=>by kernel_rfl
noncomputable def fY (v:Int):Option Nat:=match iE (Int.fmod v 7) 6 with
 |true=>none
 |false=>some (Int.fmod v 512).toNat
theorem ZE (h:fY v=some x):x<512:=by
 unfold fY at h;split at h
 ·cases h
 ·cases h;have h1:=Int.fmod_nonneg_of_pos v (show (0:Int) <512 by decide);have h2:=Int.fmod_lt_of_pos v (show (0:Int) <512 by decide);omega
theorem nP (v:Int):cI v=oI (fY v):=by
 unfold cI fY;cases iE (Int.fmod v 7) 6 with
 |true=>rfl
 |false=>
  have h1:=Int.fmod_nonneg_of_pos v (show (0:Int) <512 by decide);show some (32768+Int.fmod v 512)=some (((32768+(Int.fmod v 512).toNat:Nat)):Int);congr 1;lia
noncomputable def Kf (a b c d e f:Bool):Nat:=(if a then 1 else 0)+(if b then 2 else 0)+(if c then 4 else 0)+(if d then 8 else 0)+(if e then 16 else 0)+(if f then 32 else 0)
theorem ZF (a b c d e f:Bool):Kf a b c d e f<64:=by cases a <;>cases b <;>cases c <;>cases d <;>cases e <;>cases f <;>decide
noncomputable def iM (b:Bool) (j:Nat):List Nat:=match b with|true=>[j]|false=>[]
theorem rL (b:Bool) (j:Nat) (g:Nat→Bool) (l:List Nat) (h:g j=b):(j::l).filter g=iM b j++l.filter g:=by
 cases b with
 |true=>rw [List.filter_cons_of_pos h];rfl
 |false=>rw [List.filter_cons_of_neg (by simp [h])];rfl
theorem pat (nv:Nat→Int):∃ p,p<64∧∀ k,k<4→Nk nv k=dW p k:=by
 refine ⟨Kf (cM (nv 1) 0) (cM (nv 2) 0) (cM (nv 2) 1) (cM (nv 3) 0) (cM (nv 3) 1) (cM (nv 3) 2),ZF _ _ _ _ _ _,fun k hk=>?_⟩;have e1:Nk nv 1=iM (cM (nv 1) 0) 0++[]:=rL _ 0 _ [] rfl;have e2:Nk nv 2=iM (cM (nv 2) 0) 0++(iM (cM (nv 2) 1) 1++[]):=(rL _ 0 _ [1] rfl).trans (by rw [rL _ 1 _ [] rfl];rfl);have e3:Nk nv 3=iM (cM (nv 3) 0) 0++(iM (cM (nv 3) 1) 1++(iM (cM (nv 3) 2) 2++[])):=(rL _ 0 _ [1,2] rfl).trans (by rw [rL _ 1 _ [2] rfl,rL _ 2 _ [] rfl];rfl);match k,hk with
 |0,_=>rfl
 |1,_=>
  rw [e1];generalize cM (nv 1) 0=a;generalize cM (nv 2) 0=b;generalize cM (nv 2) 1=c;generalize cM (nv 3) 0=d;generalize cM (nv 3) 1=e;generalize cM (nv 3) 2=f;revert a b c d e f;decide
 |2,_=>
  rw [e2];generalize cM (nv 1) 0=a;generalize cM (nv 2) 0=b;generalize cM (nv 2) 1=c;generalize cM (nv 3) 0=d;generalize cM (nv 3) 1=e;generalize cM (nv 3) 2=f;revert a b c d e f;decide
 |3,_=>
  rw [e3];generalize cM (nv 1) 0=a;generalize cM (nv 2) 0=b;generalize cM (nv 2) 1=c;generalize cM (nv 3) 0=d;generalize cM (nv 3) 1=e;generalize cM (nv 3) 2=f;revert a b c d e f;decide
theorem ZG:∀ p,p<64→aE p:=fun p h=>aW (Q:=aE) h ZD fun h=>aW (Q:=aE) h ZC fun h=>aW (Q:=aE) h ZA fun h=>aW (Q:=aE) h Zz fun h=>aW (Q:=aE) h Zy fun h=>aW (Q:=aE) h Zx fun h=>aW (Q:=aE) h Zw fun h=>aW (Q:=aE) h Zv fun h=>aW (Q:=aE) h Zu fun h=>aW (Q:=aE) h Zt fun h=>aW (Q:=aE) h Zs fun h=>aW (Q:=aE) h Zr fun h=>aW (Q:=aE) h Zq fun h=>aW (Q:=aE) h Zp fun h=>aW (Q:=aE) h Zo fun h=>aW (Q:=aE) h Zn fun h=>aW (Q:=aE) h Zm fun h=>aW (Q:=aE) h Zl fun h=>aW (Q:=aE) h Zk fun h=>aW (Q:=aE) h Zj fun h=>aW (Q:=aE) h Zi fun h=>aW (Q:=aE) h Zh fun h=>aW (Q:=aE) h Zg fun h=>aW (Q:=aE) h Zf fun h=>aW (Q:=aE) h Ze fun h=>aW (Q:=aE) h Zd fun h=>aW (Q:=aE) h Zc fun h=>aW (Q:=aE) h Zb fun h=>aW (Q:=aE) h Za fun h=>aW (Q:=aE) h Y9 fun h=>aW (Q:=aE) h Y8 fun h=>aW (Q:=aE) h Y7 fun h=>aW (Q:=aE) h Y6 fun h=>aW (Q:=aE) h Y5 fun h=>aW (Q:=aE) h Y4 fun h=>aW (Q:=aE) h Y3 fun h=>aW (Q:=aE) h Y0 fun h=>aW (Q:=aE) h YZ fun h=>aW (Q:=aE) h YY fun h=>aW (Q:=aE) h YX fun h=>aW (Q:=aE) h YW fun h=>aW (Q:=aE) h YV fun h=>aW (Q:=aE) h YU fun h=>aW (Q:=aE) h YT fun h=>aW (Q:=aE) h YS fun h=>aW (Q:=aE) h YR fun h=>aW (Q:=aE) h YQ fun h=>aW (Q:=aE) h YO fun h=>aW (Q:=aE) h YN fun h=>aW (Q:=aE) h YM fun h=>aW (Q:=aE) h YL fun h=>aW (Q:=aE) h YK fun h=>aW (Q:=aE) h YJ fun h=>aW (Q:=aE) h YI fun h=>aW (Q:=aE) h YH fun h=>aW (Q:=aE) h YG fun h=>aW (Q:=aE) h YF fun h=>aW (Q:=aE) h YE fun h=>aW (Q:=aE) h YD fun h=>aW (Q:=aE) h YC fun h=>aW (Q:=aE) h YB fun h=>aW (Q:=aE) h YA fun h=>aW (Q:=aE) h Yz fun h=>aW (Q:=aE) h Yy fun h=>absurd h (Nat.not_lt_zero p)
theorem ZI (p:Nat):dW p 1=iM (p.testBit 0) 0:=rfl
theorem ZJ (p:Nat):dW p 2=iM (p.testBit 1) 0++iM (p.testBit 2) 1:=rfl
theorem ZK (p:Nat):dW p 3=iM (p.testBit 3) 0++(iM (p.testBit 4) 1++iM (p.testBit 5) 2):=rfl
theorem rM (b:Bool) (j:Nat):(iM b j).length≤1:=by cases b <;>simp [iM]
theorem ZL (p:Nat):∀ j,(dW p j).length≤4
 |0=>Nat.zero_le _
 |1=>by
  rw [ZI];have:=rM (p.testBit 0) 0
  (exact Nat.le_trans this (by decide))
 |2=>by
  rw [ZJ,List.length_append];have:=rM (p.testBit 1) 0;have:=rM (p.testBit 2) 1;lia
 |3=>by
  rw [ZK,List.length_append,List.length_append];have:=rM (p.testBit 3) 0;have:=rM (p.testBit 4) 1;have:=rM (p.testBit 5) 2;lia
 |_+4=>Nat.zero_le _
theorem yj (l:List Nat):l.map (fun j=>AV.int (j:Nat))=(l.map fun i=>((i:Nat):Int)).map .int:=by rw [List.map_map];rfl
theorem CM (hp:p<64) (hk:k<4):∃ t L,nN (kH p) k=some t∧J8 p k=some L∧L.length≤15∧(∀ j∈L,∃ i:Nat,j=(i:Int)∧i<4∧i∈t.lv)∧(∀ i∈t.lv,((i:Nat):Int)∈L)∧∀ j∈dW p k,∃ tj,nN (kH p) j=some tj∧∀ i∈tj.lv,i∈t.lv:=by
 have h:=List.all_eq_true.mp J9 p (List.mem_range.mpr hp);have h:=List.all_eq_true.mp ((Bool.and_eq_true ..).mp h).2 k (List.mem_range.mpr hk);have Kg:∀{l:List Nat} {i:Nat},CI l i=true→i∈l:=fun {l i} h=>by refine aC (List.any_eq_true.mp h) fun j h1 h2=>?_;rw [Nat.eq_of_beq_eq_true h2];exact h1
 refine cR h fun t e1 h=>cR h fun L e2 h=>aN ((Bool.and_eq_true ..).mp h) fun q1 c4=>aN ((Bool.and_eq_true ..).mp q1) fun q2 c3=>aN ((Bool.and_eq_true ..).mp q2) fun c1 c2=>?_;refine ⟨t,L,e1,e2,Nat.le_of_ble_eq_true c1,fun j hj=>?_,fun i hi=>?_,fun j hj=>?_⟩
 ·refine cR (List.all_eq_true.mp c2 j hj) fun i hn h=>⟨i,?_,Nat.le_of_ble_eq_true ((Bool.and_eq_true ..).mp h).1,Kg ((Bool.and_eq_true ..).mp h).2⟩;cases j with
  |ofNat m=>exact congrArg Int.ofNat (Option.some.inj hn)
  |negSucc m=>exact e0 hn
 ·refine aC (List.any_eq_true.mp (List.all_eq_true.mp c3 i hi)) fun j h1 h2=>?_;rw [← dI.mp h2];exact h1
 ·exact cR (List.all_eq_true.mp c4 j hj) fun tj e h=>⟨tj,e,fun i hi=>Kg (List.all_eq_true.mp h i hi)⟩
theorem ZM (hp:p<64):(kH p).length=4∧j5 ((kH p).map fun q=>((q.1:Nat):Int))=[0,1,2,3]:=by have h:=List.all_eq_true.mp J9 p (List.mem_range.mpr hp);refine aN ((Bool.and_eq_true ..).mp h) fun q1 _=>aN ((Bool.and_eq_true ..).mp q1) fun h1 h2=>⟨Nat.eq_of_beq_eq_true h1,?_⟩;refine cR h2 fun q hq h=>aN ((Bool.and_eq_true ..).mp h) fun z1 h=>aN ((Bool.and_eq_true ..).mp h) fun z2 h=>aN ((Bool.and_eq_true ..).mp h) fun z3 z4=>?_;rw [HJ hq,dI.mp z1,dI.mp z2,dI.mp z3,dI.mp z4]
noncomputable def Jp (p:Nat) (m:Nat→Option Nat) (k:Nat):Option Nat:=match nN (kH p) k with
 |some t=>t.dO m
 |none=>none
noncomputable def pq (J:Nat→Option Nat) (k:Nat):Int:=match J k with
 |none=> -1
 |some x=>nO x
noncomputable def CN (J:Nat→Option Nat) (j k:Nat):Int:=match J j,J k with
 |some x,some y=>nI (ez x) (ez y)
 |_,_=>21
noncomputable def RJ (J:Nat→Option Nat) (j k:Nat):Prop:=∃ x y,J j=some x∧J k=some y∧∀ b,x.testBit b=true→y.testBit b=true
theorem ZN (x:Nat):0≤nO x∧nO x≤9:=by unfold nO;have:(bC.filter x.testBit).length≤bC.length:=List.length_filter_le _ _;have e:bC.length=9:=rfl;lia
theorem Kh (h:cC (pq J) k=true):∃ y,J k=some y:=by
 unfold cC pq at h;cases e:J k with
 |none=>rw [e] at h;cases h
 |some y=>exact ⟨y,rfl⟩
theorem ZO (hp:p<64) (hk:k<4) (hm:∀ k x,m k=some x→x<512):fQ (CQ 6) FU bw [.loc 0,.loc 5,.int (k:Nat)] (eX ([0,1,2,3].map fun i=>(dW p i).map fun j=>.int (j:Nat)) ([oI (m 0),oI (m 1),oI (m 2),oI (m 3)].map aP))=some (.obj (jE (Jp p m) (pq (Jp p m)) k)):=by
 refine nT (CM hp hk) fun t L e1 e2 hL s1 s2 _=>?_;have hlen:[oI (m 0),oI (m 1),oI (m 2),oI (m 3)].length=4:=rfl;have hd:=WQ (x0:=(dW p 0).map fun j=>.int (j:Nat)) (x1:=(dW p 1).map fun j=>.int (j:Nat)) (x2:=(dW p 2).map fun j=>.int (j:Nat)) (x3:=(dW p 3).map fun j=>.int (j:Nat)) (N:=fun j=>(dW p j).map fun i=>((i:Nat):Int)) (os:=[oI (m 0),oI (m 1),oI (m 2),oI (m 3)]) hk (fun j hj=>by
   match j,hj with
   |0,_=>exact yj (dW p 0)
   |1,_=>exact yj (dW p 1)
   |2,_=>exact yj (dW p 2)
   |3,_=>exact yj (dW p 3))
  (fun j=>by rw [List.length_map];exact ZL p j) e2 hL
  (fun j hj=>by refine aZ (s1 j hj) fun i q1 hi _=>?_;subst q1;exact ⟨by (exact Int.natCast_nonneg _),by rw [hlen];simp;omega⟩)
 have ZP:eX ([0,1,2,3].map fun i=>(dW p i).map fun j=>AV.int (j:Nat)) ([oI (m 0),oI (m 1),oI (m 2),oI (m 3)].map aP)=eX [(dW p 0).map fun j=>.int (j:Nat),(dW p 1).map fun j=>.int (j:Nat),(dW p 2).map fun j=>.int (j:Nat),(dW p 3).map fun j=>.int (j:Nat)] ([oI (m 0),oI (m 1),oI (m 2),oI (m 3)].map aP):=rfl;rw [ZP,hd];congr 2;have Kl:∀ i,i<4→[oI (m 0),oI (m 1),oI (m 2),oI (m 3)].getD i (some 0)=oI (m i):=fun i hi=>by
  match i,hi with
  |0,_=>rfl
  |1,_=>rfl
  |2,_=>rfl
  |3,_=>rfl
 have hJ:Jp p m k=t.dO m:=by unfold Jp;rw [e1]
 unfold Ce jE cD pq;rw [hJ];cases hx:t.dO m with
 |none=>
  have hn:jW [oI (m 0),oI (m 1),oI (m 2),oI (m 3)] L=true:=by
   refine aC ((rJ t).mp hx) fun i h1 h2=>?_;rw [CK];refine aZ (s1 _ (s2 i h1)) fun i' h3 h4 _=>?_;have:i'=i:=by lia
   subst this;exact ⟨_,s2 i' h1,by rw [Int.toNat_natCast,Kl i' h4,h2];rfl⟩
  rw [hn]
 |some x=>
  have hx5:x<512:=(uH hm t).2 x hx;have some_at:∀ i∈t.lv,∃ y,m i=some y:=fun i hi=>by
   cases e:m i with
   |some y=>exact ⟨y,rfl⟩
   |none=>
    have:=(rJ (m:=m) t).mpr ⟨i,hi,e⟩;rw [hx] at this;cases this
  have hn:jW [oI (m 0),oI (m 1),oI (m 2),oI (m 3)] L=false:=by
   cases e:jW [oI (m 0),oI (m 1),oI (m 2),oI (m 3)] L with
   |false=>rfl
   |true=>
    refine aC ((CK _ _).mp e) fun j h1 h2=>?_;refine aZ (s1 j h1) fun i q1 h4 h5=>?_;subst q1;rw [Int.toNat_natCast,Kl i h4] at h2;refine aJ (some_at i h5) fun y hy=>?_;rw [hy] at h2;cases h2
  rw [hn];have hany:∀ b∈bC,eZ ([oI (m 0),oI (m 1),oI (m 2),oI (m 3)].map aP) L b=x.testBit b:=by
   intro b hb;have hv:∀ i,i<4→∀ y,m i=some y→eY (cB ([oI (m 0),oI (m 1),oI (m 2),oI (m 3)].map aP) (.int (i:Nat))) b=y.testBit b:=by
    intro i hi y hy;have eg:cB ([oI (m 0),oI (m 1),oI (m 2),oI (m 3)].map aP) (.int (i:Nat))=aP (oI (m i)):=by
     match i,hi with
     |0,_=>rfl
     |1,_=>rfl
     |2,_=>rfl
     |3,_=>rfl
    rw [eg,hy];exact Yw (hm i y hy) hb
   have h1:=Ke ([oI (m 0),oI (m 1),oI (m 2),oI (m 3)].map aP) b L;have h2:=CH t x hx b;have h3:eZ ([oI (m 0),oI (m 1),oI (m 2),oI (m 3)].map aP) L b=true↔x.testBit b=true:=by
    rw [h1,h2];constructor
    ·rintro ⟨j,k1,k2⟩
     refine aZ (s1 j k1) fun i q1 k4 k5=>?_;subst q1;refine aJ (some_at i k5) fun y hy=>?_;rw [hv i k4 y hy] at k2;exact ⟨i,k5,y,hy,k2⟩
    ·rintro ⟨i,k1,y,hy,k3⟩
     refine aZ (s1 _ (s2 i k1)) fun i' k6 k4 _=>?_;have:i'=i:=by lia
     subst this;exact ⟨_,s2 i' k1,by rw [hv i' k4 y hy];exact k3⟩
   cases ha:eZ ([oI (m 0),oI (m 1),oI (m 2),oI (m 3)].map aP) L b with
   |true=>exact (h3.mp ha).symm
   |false=>
    cases hb2:x.testBit b with
    |false=>rfl
    |true=>rw [h3.mpr hb2] at ha;cases ha
  have hf:bC.filter (eZ ([oI (m 0),oI (m 1),oI (m 2),oI (m 3)].map aP) L)=bC.filter x.testBit:=List.filter_congr hany;rw [hf];have hch:bC.map (ie ((bC.filter x.testBit).map fun b=>((b:Nat):Int)))=bC.map (j3 x):=by
   apply List.map_congr_left;intro b hb;unfold ie j3;have h1:=Yx b (bC.filter x.testBit);rw [List.mem_filter] at h1;cases hi:fq ((bC.filter x.testBit).map fun b=>((b:Nat):Int)) (b:Nat) with
   |true=>rw [(h1.mp hi).2]
   |false=>
    cases mH:x.testBit b with
    |false=>rfl
    |true=>rw [h1.mpr ⟨hb,mH⟩] at hi;cases hi
  rw [hch];rfl
theorem ZQ:Ip 200:=by
 intro xs hx;refine aJ (Xb xs) fun nv uA=>?_;refine aC (pat nv) fun p hp hN=>?_;have hm:∀ k x,(fun k=>fY (nv k)) k=some x→x<512:=fun k x h=>ZE h;have hlist:([0,1,2,3].map fun i=>(Nk nv i).map fun j=>AV.int (j:Nat))=([0,1,2,3].map fun i=>(dW p i).map fun j=>AV.int (j:Nat)):=by simp only [List.map_cons,List.map_nil,hN 0 (by decide),hN 1 (by decide),hN 2 (by decide),hN 3 (by decide)]
 refine aN (ZM hp) fun hlen uB=>?_;refine Ye (es:=rI p fun k=>oI (fY (nv k))) (J:=Jp p fun k=>fY (nv k)) (cnt:=pq (Jp p fun k=>fY (nv k))) (lv:=CN (Jp p fun k=>fY (nv k))) (R:=RJ (Jp p fun k=>fY (nv k))) hx uA ?_ ?_ ?_ ?_ ?_ ?_ ?_ ?_ ?_ ?_ ?_ ?_
 ·rw [hlist,nP,nP,nP,nP];exact ZG p hp fun k=>oI (fY (nv k))
 ·unfold rI;rw [List.length_map,hlen];decide
 ·unfold rI;cases e:kH p with
  |nil=>rw [e] at hlen;cases hlen
  |cons=>rfl
 ·unfold rI;rw [List.map_map];exact uB
 ·intro k hk;refine dB (CM hp hk) fun t L e1 _=>?_;unfold rI;rw [J7,e1];show some (AV.jn (t.ev fun k=>oI (fY (nv k))))=_;rw [(uH (m:=fun k=>fY (nv k)) hm t).1];unfold Jp;rw [e1]
 ·intro k x h;unfold Jp at h;split at h
  ·rename_i t e;exact (uH (m:=fun k=>fY (nv k)) hm t).2 x h
  ·cases h
 ·intro k hk;rw [hlist,nP,nP,nP,nP];exact ZO (m:=fun k=>fY (nv k)) hp hk hm
 ·intro k;unfold pq;split
  ·decide
  ·rename_i x _;have:=ZN x;lia
 ·intro k hk j hj hok;refine aJ (Kh hok) fun y hy=>?_;unfold cD CN;rw [hy];cases mH:Jp p (fun k=>fY (nv k)) j with
  |none=>exact Yu (by (exact Nat.lt_trans hj hk)) y
  |some x=>exact Yq x y
 ·intro k hk hok j hj;rw [hN k hk] at hj;refine aJ (Kh hok) fun y hy=>?_;refine nT (CM hp hk) fun t L e1 _ _ _ _ s3=>?_;refine aC (s3 j hj) fun tj e2 hsub=>?_;have Km:t.dO (fun k=>fY (nv k))=some y:=by unfold Jp at hy;rw [e1] at hy;exact hy
  cases mH:tj.dO (fun k=>fY (nv k)) with
  |none=>
   refine aC ((rJ tj).mp mH) fun i h1 h2=>?_;have:=(rJ (m:=fun k=>fY (nv k)) t).mpr ⟨i,hsub i h1,h2⟩;rw [Km] at this;cases this
  |some x=>
   refine ⟨x,y,by unfold Jp;rw [e2];exact mH,hy,fun b hb=>?_⟩;refine Ko ((CH tj x mH b).mp hb) fun i h1 z h2 h3=>?_;exact (CH t y Km b).mpr ⟨i,hsub i h1,z,h2,h3⟩
 ·rintro i j k ⟨x,y,h1,h2,h3⟩ ⟨y',z,h4,h5,h6⟩
  rw [h2] at h4;cases h4;exact ⟨x,z,h1,h5,fun b hb=>h6 b (h3 b hb)⟩
 ·rintro k hk j hj hok ⟨x,y,h1,h2,h3⟩
  unfold CN pq;rw [h1,h2];exact Yp h3
end EV
theorem PySem.Challenge.cw_un0050_01_holds : PySem.Challenge.rw_un0050_01.Holds :=
 EV.go (by decide) EV.ZQ fun W w q=>EV.Uu q
