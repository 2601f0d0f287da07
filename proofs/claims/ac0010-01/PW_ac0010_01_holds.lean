import PyProof.Rows.All
import Wide.All
import OpenK.AllK
import Wide.FinOn
import PySem.Challenge.RW_ac0010_01
set_option Elab.async false
set_option genSizeOf false
set_option genSizeOfSpec false
set_option maxRecDepth 100000
set_option linter.all false
open PySem PySem.W PySem.Calls PyProof.Rows PySem.Spec
namespace Mini
noncomputable def qa1.{u}:=@Option.some.inj.{u}
noncomputable def qa2.{u}:=@List.mem_cons_of_mem.{u}
noncomputable def qa3:=@Nat.le_of_eq
noncomputable def qa4.{u}:=@List.mem_cons_self.{u}
noncomputable def qa5:=@wpAny_bind
noncomputable def qa6:=@wpAny_mono
noncomputable def qa7:=@Nat.ne_of_lt
noncomputable def qa8:=@wpAny_pure
noncomputable def qa9:=@Nat.le_refl
noncomputable def qb1:=@Nat.le_trans
noncomputable def qb2:=@Heap.get?_push_of_some
noncomputable def qb3:=@Nat.le_of_not_lt
noncomputable def qb4:=@Nat.ne_of_gt
noncomputable def qb5:=@Nat.le_add_left
section
universe u
theorem Za{p1 q:Prop}{P:Prop}(h:p1∧q)(k:p1→q→P):P:=h.elim k
theorem Zx{A1:Sort u}{q:A1→Prop}{P:Prop}(h:∃x1,q x1)(k:∀x1,q x1→P):P:=h.elim k
theorem Zaa{p1 p2 q:Prop}{P:Prop}(h:p1∧p2∧q)(k:p1→p2→q→P):P:=Za h.2 (k h.1)
theorem Zxa{A1:Sort u}{p1 q:A1→Prop}{P:Prop}(h:∃x1,p1 x1∧q x1)(k:∀x1,p1 x1→q x1→P):P:=h.elim fun x h=>Za h (k x)
theorem Zxx{A1 A2:Sort u}{q:A1→A2→Prop}{P:Prop}(h:∃x1,∃x2,q x1 x2)(k:∀x1,∀x2,q x1 x2→P):P:=h.elim fun x h=>Zx h (k x)
theorem eS{p1 p2 p3 q:Prop}{P:Prop}(h:p1∧p2∧p3∧q)(k:p1→p2→p3→q→P):P:=Zaa h.2 (k h.1)
theorem fB{A1:Sort u}{p1:Prop}{p2 q:A1→Prop}{P:Prop}(h:p1∧∃x1,p2 x1∧q x1)(k:p1→∀x1,p2 x1→q x1→P):P:=Zxa h.2 (k h.1)
theorem dR{A1:Sort u}{p1 p2 q:A1→Prop}{P:Prop}(h:∃x1,p1 x1∧p2 x1∧q x1)(k:∀x1,p1 x1→p2 x1→q x1→P):P:=h.elim fun x h=>Zaa h (k x)
theorem bt{A1 A2:Sort u}{p1 q:A1→A2→Prop}{P:Prop}(h:∃x1,∃x2,p1 x1 x2∧q x1 x2)(k:∀x1,∀x2,p1 x1 x2→q x1 x2→P):P:=h.elim fun x h=>Zxa h (k x)
theorem Zxxx{A1 A2 A3:Sort u}{q:A1→A2→A3→Prop}{P:Prop}(h:∃x1,∃x2,∃x3,q x1 x2 x3)(k:∀x1,∀x2,∀x3,q x1 x2 x3→P):P:=h.elim fun x h=>Zxx h (k x)
theorem fc{p1 p2 p3 p4 q:Prop}{P:Prop}(h:p1∧p2∧p3∧p4∧q)(k:p1→p2→p3→p4→q→P):P:=eS h.2 (k h.1)
theorem jcK{A1:Sort u}{p1 p2:Prop}{p3 q:A1→Prop}{P:Prop}(h:p1∧p2∧∃x1,p3 x1∧q x1)(k:p1→p2→∀x1,p3 x1→q x1→P):P:=fB h.2 (k h.1)
theorem jez{A1:Sort u}{p1:Prop}{p2 p3 q:A1→Prop}{P:Prop}(h:p1∧∃x1,p2 x1∧p3 x1∧q x1)(k:p1→∀x1,p2 x1→p3 x1→q x1→P):P:=dR h.2 (k h.1)
theorem fq{A1:Sort u}{p1 p2 p3 q:A1→Prop}{P:Prop}(h:∃x1,p1 x1∧p2 x1∧p3 x1∧q x1)(k:∀x1,p1 x1→p2 x1→p3 x1→q x1→P):P:=h.elim fun x h=>eS h (k x)
theorem Zxaxa{A1 A2:Sort u}{p1:A1→Prop}{p2 q:A1→A2→Prop}{P:Prop}(h:∃x1,p1 x1∧∃x2,p2 x1 x2∧q x1 x2)(k:∀x1,p1 x1→∀x2,p2 x1 x2→q x1 x2→P):P:=h.elim fun x h=>fB h (k x)
theorem cG{A1 A2:Sort u}{p1 p2 q:A1→A2→Prop}{P:Prop}(h:∃x1,∃x2,p1 x1 x2∧p2 x1 x2∧q x1 x2)(k:∀x1,∀x2,p1 x1 x2→p2 x1 x2→q x1 x2→P):P:=h.elim fun x h=>dR h (k x)
theorem bZ{A1 A2 A3:Sort u}{p1 q:A1→A2→A3→Prop}{P:Prop}(h:∃x1,∃x2,∃x3,p1 x1 x2 x3∧q x1 x2 x3)(k:∀x1,∀x2,∀x3,p1 x1 x2 x3→q x1 x2 x3→P):P:=h.elim fun x h=>bt h (k x)
theorem Zxxxx{A1 A2 A3 A4:Sort u}{q:A1→A2→A3→A4→Prop}{P:Prop}(h:∃x1,∃x2,∃x3,∃x4,q x1 x2 x3 x4)(k:∀x1,∀x2,∀x3,∀x4,q x1 x2 x3 x4→P):P:=h.elim fun x h=>Zxxx h (k x)
theorem dD{p1 p2 p3 p4 p5 q:Prop}{P:Prop}(h:p1∧p2∧p3∧p4∧p5∧q)(k:p1→p2→p3→p4→p5→q→P):P:=fc h.2 (k h.1)
theorem jgF{A1:Sort u}{p1 p2 p3:Prop}{p4 q:A1→Prop}{P:Prop}(h:p1∧p2∧p3∧∃x1,p4 x1∧q x1)(k:p1→p2→p3→∀x1,p4 x1→q x1→P):P:=jcK h.2 (k h.1)
theorem jd'{A1:Sort u}{p1 p2:Prop}{p3 p4 q:A1→Prop}{P:Prop}(h:p1∧p2∧∃x1,p3 x1∧p4 x1∧q x1)(k:p1→p2→∀x1,p3 x1→p4 x1→q x1→P):P:=jez h.2 (k h.1)
theorem jiG{A1 A2:Sort u}{p1:Prop}{p2 p3 q:A1→A2→Prop}{P:Prop}(h:p1∧∃x1,∃x2,p2 x1 x2∧p3 x1 x2∧q x1 x2)(k:p1→∀x1,∀x2,p2 x1 x2→p3 x1 x2→q x1 x2→P):P:=cG h.2 (k h.1)
theorem jfr{A1:Sort u}{p1 p2 p3 p4 q:A1→Prop}{P:Prop}(h:∃x1,p1 x1∧p2 x1∧p3 x1∧p4 x1∧q x1)(k:∀x1,p1 x1→p2 x1→p3 x1→p4 x1→q x1→P):P:=h.elim fun x h=>fc h (k x)
theorem Zxxaaa{A1 A2:Sort u}{p1 p2 p3 q:A1→A2→Prop}{P:Prop}(h:∃x1,∃x2,p1 x1 x2∧p2 x1 x2∧p3 x1 x2∧q x1 x2)(k:∀x1,∀x2,p1 x1 x2→p2 x1 x2→p3 x1 x2→q x1 x2→P):P:=h.elim fun x h=>fq h (k x)
theorem jfq{A1 A2 A3:Sort u}{p1:A1→A2→Prop}{p2 q:A1→A2→A3→Prop}{P:Prop}(h:∃x1,∃x2,p1 x1 x2∧∃x3,p2 x1 x2 x3∧q x1 x2 x3)(k:∀x1,∀x2,p1 x1 x2→∀x3,p2 x1 x2 x3→q x1 x2 x3→P):P:=h.elim fun x h=>Zxaxa h (k x)
theorem eH{A1 A2 A3:Sort u}{p1 p2 q:A1→A2→A3→Prop}{P:Prop}(h:∃x1,∃x2,∃x3,p1 x1 x2 x3∧p2 x1 x2 x3∧q x1 x2 x3)(k:∀x1,∀x2,∀x3,p1 x1 x2 x3→p2 x1 x2 x3→q x1 x2 x3→P):P:=h.elim fun x h=>cG h (k x)
theorem dh{A1 A2 A3 A4:Sort u}{p1 q:A1→A2→A3→A4→Prop}{P:Prop}(h:∃x1,∃x2,∃x3,∃x4,p1 x1 x2 x3 x4∧q x1 x2 x3 x4)(k:∀x1,∀x2,∀x3,∀x4,p1 x1 x2 x3 x4→q x1 x2 x3 x4→P):P:=h.elim fun x h=>bZ h (k x)
theorem Zxxxxx{A1 A2 A3 A4 A5:Sort u}{q:A1→A2→A3→A4→A5→Prop}{P:Prop}(h:∃x1,∃x2,∃x3,∃x4,∃x5,q x1 x2 x3 x4 x5)(k:∀x1,∀x2,∀x3,∀x4,∀x5,q x1 x2 x3 x4 x5→P):P:=h.elim fun x h=>Zxxxx h (k x)
theorem jhN{p1 p2 p3 p4 p5 p6 q:Prop}{P:Prop}(h:p1∧p2∧p3∧p4∧p5∧p6∧q)(k:p1→p2→p3→p4→p5→p6→q→P):P:=dD h.2 (k h.1)
theorem jky{A1:Sort u}{p1 p2 p3 p4 p5 q:A1→Prop}{P:Prop}(h:∃x1,p1 x1∧p2 x1∧p3 x1∧p4 x1∧p5 x1∧q x1)(k:∀x1,p1 x1→p2 x1→p3 x1→p4 x1→p5 x1→q x1→P):P:=h.elim fun x h=>dD h (k x)
theorem jkx{A1 A2:Sort u}{p1 p2 p3 p4 q:A1→A2→Prop}{P:Prop}(h:∃x1,∃x2,p1 x1 x2∧p2 x1 x2∧p3 x1 x2∧p4 x1 x2∧q x1 x2)(k:∀x1,∀x2,p1 x1 x2→p2 x1 x2→p3 x1 x2→p4 x1 x2→q x1 x2→P):P:=h.elim fun x h=>jfr h (k x)
theorem cS{A1 A2 A3:Sort u}{p1 p2 p3 q:A1→A2→A3→Prop}{P:Prop}(h:∃x1,∃x2,∃x3,p1 x1 x2 x3∧p2 x1 x2 x3∧p3 x1 x2 x3∧q x1 x2 x3)(k:∀x1,∀x2,∀x3,p1 x1 x2 x3→p2 x1 x2 x3→p3 x1 x2 x3→q x1 x2 x3→P):P:=h.elim fun x h=>Zxxaaa h (k x)
theorem jbO{A1 A2 A3 A4:Sort u}{p1 p2 q:A1→A2→A3→A4→Prop}{P:Prop}(h:∃x1,∃x2,∃x3,∃x4,p1 x1 x2 x3 x4∧p2 x1 x2 x3 x4∧q x1 x2 x3 x4)(k:∀x1,∀x2,∀x3,∀x4,p1 x1 x2 x3 x4→p2 x1 x2 x3 x4→q x1 x2 x3 x4→P):P:=h.elim fun x h=>eH h (k x)
theorem jkw{A1 A2 A3 A4 A5:Sort u}{p1 q:A1→A2→A3→A4→A5→Prop}{P:Prop}(h:∃x1,∃x2,∃x3,∃x4,∃x5,p1 x1 x2 x3 x4 x5∧q x1 x2 x3 x4 x5)(k:∀x1,∀x2,∀x3,∀x4,∀x5,p1 x1 x2 x3 x4 x5→q x1 x2 x3 x4 x5→P):P:=h.elim fun x h=>dh h (k x)
theorem jkv{A1 A2 A3 A4 A5 A6:Sort u}{q:A1→A2→A3→A4→A5→A6→Prop}{P:Prop}(h:∃x1,∃x2,∃x3,∃x4,∃x5,∃x6,q x1 x2 x3 x4 x5 x6)(k:∀x1,∀x2,∀x3,∀x4,∀x5,∀x6,q x1 x2 x3 x4 x5 x6→P):P:=h.elim fun x h=>Zxxxxx h (k x)
theorem jg2{p1 p2 p3 p4 p5 p6 p7 q:Prop}{P:Prop}(h:p1∧p2∧p3∧p4∧p5∧p6∧p7∧q)(k:p1→p2→p3→p4→p5→p6→p7→q→P):P:=jhN h.2 (k h.1)
theorem jc7{A1:Sort u}{p1 p2 p3 p4 p5 p6 q:A1→Prop}{P:Prop}(h:∃x1,p1 x1∧p2 x1∧p3 x1∧p4 x1∧p5 x1∧p6 x1∧q x1)(k:∀x1,p1 x1→p2 x1→p3 x1→p4 x1→p5 x1→p6 x1→q x1→P):P:=h.elim fun x h=>jhN h (k x)
theorem jbI{A1 A2:Sort u}{p1 p2 p3 p4 p5 q:A1→A2→Prop}{P:Prop}(h:∃x1,∃x2,p1 x1 x2∧p2 x1 x2∧p3 x1 x2∧p4 x1 x2∧p5 x1 x2∧q x1 x2)(k:∀x1,∀x2,p1 x1 x2→p2 x1 x2→p3 x1 x2→p4 x1 x2→p5 x1 x2→q x1 x2→P):P:=h.elim fun x h=>jky h (k x)
theorem jbH{A1 A2 A3:Sort u}{p1 p2 p3 p4 q:A1→A2→A3→Prop}{P:Prop}(h:∃x1,∃x2,∃x3,p1 x1 x2 x3∧p2 x1 x2 x3∧p3 x1 x2 x3∧p4 x1 x2 x3∧q x1 x2 x3)(k:∀x1,∀x2,∀x3,p1 x1 x2 x3→p2 x1 x2 x3→p3 x1 x2 x3→p4 x1 x2 x3→q x1 x2 x3→P):P:=h.elim fun x h=>jkx h (k x)
theorem jbG{A1 A2 A3 A4 A5 A6:Sort u}{p1 q:A1→A2→A3→A4→A5→A6→Prop}{P:Prop}(h:∃x1,∃x2,∃x3,∃x4,∃x5,∃x6,p1 x1 x2 x3 x4 x5 x6∧q x1 x2 x3 x4 x5 x6)(k:∀x1,∀x2,∀x3,∀x4,∀x5,∀x6,p1 x1 x2 x3 x4 x5 x6→q x1 x2 x3 x4 x5 x6→P):P:=h.elim fun x h=>jkw h (k x)
theorem jjS{A1 A2 A3 A4 A5 A6 A7:Sort u}{q:A1→A2→A3→A4→A5→A6→A7→Prop}{P:Prop}(h:∃x1,∃x2,∃x3,∃x4,∃x5,∃x6,∃x7,q x1 x2 x3 x4 x5 x6 x7)(k:∀x1,∀x2,∀x3,∀x4,∀x5,∀x6,∀x7,q x1 x2 x3 x4 x5 x6 x7→P):P:=h.elim fun x h=>jkv h (k x)
theorem ji5{p1 p2 p3 p4 p5 p6 p7 p8 q:Prop}{P:Prop}(h:p1∧p2∧p3∧p4∧p5∧p6∧p7∧p8∧q)(k:p1→p2→p3→p4→p5→p6→p7→p8→q→P):P:=jg2 h.2 (k h.1)
theorem jdk{A1:Sort u}{p1 p2 p3 p4 p5 p6 p7 q:A1→Prop}{P:Prop}(h:∃x1,p1 x1∧p2 x1∧p3 x1∧p4 x1∧p5 x1∧p6 x1∧p7 x1∧q x1)(k:∀x1,p1 x1→p2 x1→p3 x1→p4 x1→p5 x1→p6 x1→p7 x1→q x1→P):P:=h.elim fun x h=>jg2 h (k x)
theorem jaY{A1 A2 A3:Sort u}{p1 p2 p3 p4 p5 q:A1→A2→A3→Prop}{P:Prop}(h:∃x1,∃x2,∃x3,p1 x1 x2 x3∧p2 x1 x2 x3∧p3 x1 x2 x3∧p4 x1 x2 x3∧p5 x1 x2 x3∧q x1 x2 x3)(k:∀x1,∀x2,∀x3,p1 x1 x2 x3→p2 x1 x2 x3→p3 x1 x2 x3→p4 x1 x2 x3→p5 x1 x2 x3→q x1 x2 x3→P):P:=h.elim fun x h=>jbI h (k x)
theorem aX{A1 A2 A3 A4 A5 A6 A7:Sort u}{p1 q:A1→A2→A3→A4→A5→A6→A7→Prop}{P:Prop}(h:∃x1,∃x2,∃x3,∃x4,∃x5,∃x6,∃x7,p1 x1 x2 x3 x4 x5 x6 x7∧q x1 x2 x3 x4 x5 x6 x7)(k:∀x1,∀x2,∀x3,∀x4,∀x5,∀x6,∀x7,p1 x1 x2 x3 x4 x5 x6 x7→q x1 x2 x3 x4 x5 x6 x7→P):P:=h.elim fun x h=>jbG h (k x)
theorem jdj{A1 A2 A3 A4 A5 A6 A7 A8:Sort u}{q:A1→A2→A3→A4→A5→A6→A7→A8→Prop}{P:Prop}(h:∃x1,∃x2,∃x3,∃x4,∃x5,∃x6,∃x7,∃x8,q x1 x2 x3 x4 x5 x6 x7 x8)(k:∀x1,∀x2,∀x3,∀x4,∀x5,∀x6,∀x7,∀x8,q x1 x2 x3 x4 x5 x6 x7 x8→P):P:=h.elim fun x h=>jjS h (k x)
theorem ja3{A1:Sort u}{p1 p2 p3 p4 p5 p6 p7 p8 q:A1→Prop}{P:Prop}(h:∃x1,p1 x1∧p2 x1∧p3 x1∧p4 x1∧p5 x1∧p6 x1∧p7 x1∧p8 x1∧q x1)(k:∀x1,p1 x1→p2 x1→p3 x1→p4 x1→p5 x1→p6 x1→p7 x1→p8 x1→q x1→P):P:=h.elim fun x h=>ji5 h (k x)
theorem jin{A1 A2:Sort u}{p1 p2 p3 p4 p5 p6 p7 q:A1→A2→Prop}{P:Prop}(h:∃x1,∃x2,p1 x1 x2∧p2 x1 x2∧p3 x1 x2∧p4 x1 x2∧p5 x1 x2∧p6 x1 x2∧p7 x1 x2∧q x1 x2)(k:∀x1,∀x2,p1 x1 x2→p2 x1 x2→p3 x1 x2→p4 x1 x2→p5 x1 x2→p6 x1 x2→p7 x1 x2→q x1 x2→P):P:=h.elim fun x h=>jdk h (k x)
theorem jhu{A1 A2 A3:Sort u}{p1 p2 p3 p4 p5 p6 p7 q:A1→A2→A3→Prop}{P:Prop}(h:∃x1,∃x2,∃x3,p1 x1 x2 x3∧p2 x1 x2 x3∧p3 x1 x2 x3∧p4 x1 x2 x3∧p5 x1 x2 x3∧p6 x1 x2 x3∧p7 x1 x2 x3∧q x1 x2 x3)(k:∀x1,∀x2,∀x3,p1 x1 x2 x3→p2 x1 x2 x3→p3 x1 x2 x3→p4 x1 x2 x3→p5 x1 x2 x3→p6 x1 x2 x3→p7 x1 x2 x3→q x1 x2 x3→P):P:=h.elim fun x h=>jin h (k x)
theorem jet{A1 A2 A3 A4:Sort u}{p1 p2 p3 p4 p5 p6 p7 q:A1→A2→A3→A4→Prop}{P:Prop}(h:∃x1,∃x2,∃x3,∃x4,p1 x1 x2 x3 x4∧p2 x1 x2 x3 x4∧p3 x1 x2 x3 x4∧p4 x1 x2 x3 x4∧p5 x1 x2 x3 x4∧p6 x1 x2 x3 x4∧p7 x1 x2 x3 x4∧q x1 x2 x3 x4)(k:∀x1,∀x2,∀x3,∀x4,p1 x1 x2 x3 x4→p2 x1 x2 x3 x4→p3 x1 x2 x3 x4→p4 x1 x2 x3 x4→p5 x1 x2 x3 x4→p6 x1 x2 x3 x4→p7 x1 x2 x3 x4→q x1 x2 x3 x4→P):P:=h.elim fun x h=>jhu h (k x)
theorem Nk1{a b:Nat}(c d x y:Nat)(h:a+c≤b+d)(e:Nat.ble (x+d) (c+y)=true):a+x≤b+y:=by
 have:=Nat.le_of_ble_eq_true e;omega
theorem Nk2{a b z:Nat}(c d c2 d2 x y:Nat)(h:a+c≤z+d)(h2:z+c2≤b+d2)(e:Nat.ble (x+d+d2) (c+c2+y)=true):a+x≤b+y:=by
 have:=Nat.le_of_ble_eq_true e;omega
theorem Nk0{a:Nat}(c d:Nat)(h:a+c≤a+d)(e:Nat.ble c d=false):False:=by
 have:¬ c≤d:=fun q=>by rw[Nat.ble_eq_true_of_le q] at e;cases e
 omega
theorem Nk3{a z:Nat}(c d c2 d2:Nat)(h:a+c≤z+d)(h2:z+c2≤a+d2)(e:Nat.ble (c+c2) (d+d2)=false):False:=by
 refine Nk0 (a:=a+z) (c+c2) (d+d2) (by omega) e
theorem NA{a l n:Nat}(h:a+(l+1)<n):a+1+l<n:=by omega
theorem NAl{a l n:Nat}(h:a+(l+1)≤n):a+1+l≤n:=by omega
theorem NB{a l n m:Nat}(h:a+l<n)(e:Nat.ble n m=true):a<m:=by have:=Nat.le_of_ble_eq_true e;omega
theorem NC{a l n k x:Nat}(h:a+k*(l+1)<n)(e:Nat.ble x k=true):a+x+k*l<n:=by have:=Nat.le_of_ble_eq_true e;rw[Nat.mul_add] at h;omega
theorem NCm{a l n k m:Nat}(g:m≤l)(h:a+k*l<n):a+k*m<n:=by have:=Nat.mul_le_mul_left k g;omega
theorem ND{a b x y z:Nat}(h:a≤x)(g:b<y)(e:Nat.ble (x+y) z=true):b+a<z:=by have:=Nat.le_of_ble_eq_true e;omega
theorem NDl{a b x y z:Nat}(h:a≤x)(g:b≤y)(e:Nat.ble (x+y) z=true):a+b≤z:=by have:=Nat.le_of_ble_eq_true e;omega
theorem NJe{a n:Nat}(h:a≤n):(↑a:Int)≤↑n:=Int.ofNat_le.mpr h
theorem NJ{a n m:Nat}(h:a≤n)(e:Nat.ble n m=true):(↑a:Int)≤Int.ofNat m:=Int.ofNat_le.mpr (qb1 h (Nat.le_of_ble_eq_true e))
theorem NJl{a n m:Nat}(h:a≤n)(e:Nat.ble (n+1) m=true):(↑a:Int)<Int.ofNat m:=Int.ofNat_lt.mpr (Nat.lt_of_le_of_lt h (Nat.le_of_ble_eq_true e))
theorem Xns{α:Type u}{x:α}{P:Prop}(h:none=some x):P:=by cases h
theorem Xsn{α:Type u}{x:α}{P:Prop}(h:some x=none):P:=by cases h
theorem Xnm{α:Type u}{x:α}{P:Prop}(h:x∈[]):P:=by cases h
theorem Nlt{a b:Nat}(h:Nat.ble (a+1) b=true):a<b:=Nat.le_of_ble_eq_true h
theorem Nle{a b:Nat}(h:Nat.ble a b=true):a≤b:=Nat.le_of_ble_eq_true h
theorem NS{a i k:Nat}(h:a - i=k+1):a - (i+1)=k:=by rw[Nat.sub_add_eq,h,Nat.add_sub_cancel]
theorem NT{a b i x n:Nat}(h:a+(b - i)≤n)(h2:i<b)(h3:x≤a+1):x+(b - (i+1))≤n:=by
 have e:b - (i+1)+1=b - i:=by rw[Nat.sub_add_eq];exact Nat.sub_add_cancel (Nat.sub_pos_of_lt h2)
 rw[←e] at h
 exact qb1 (Nat.add_le_add_right h3 _) (NAl h)
theorem NU{a d i:Nat}(h:i<a):a - 1+(d+1)=a+d:=by rw[Nat.add_comm d 1,←Nat.add_assoc,Nat.sub_add_cancel (Nat.lt_of_le_of_lt (Nat.zero_le _) h)]
theorem sm1{n:Int}(h:0≤n):-2 ^ 62≤n:=by omega
theorem sm2{n:Int}(h:n≤100000):n<2 ^ 62:=by omega
theorem sm3{a n:Nat}{i:Int}(h:i.toNat<a)(g:a≤n)(e:Nat.ble n 9223372036854775807=true):i<2 ^ 63:=by have:=Nat.le_of_ble_eq_true e;omega
theorem NV{a b x y z n:Nat}(h:a+(b+1)<n)(g:x≤a+1):x+b<n:=by omega
theorem NW{a b n m:Nat}(h:a+b<n)(e:Nat.ble n m=true):b<m:=by have:=Nat.le_of_ble_eq_true e;omega
theorem NX{i n:Nat}(h:i<n+1)(g:¬i=n):i<n:=by omega
theorem Xtf{P:Prop}(h:true=false):P:=by cases h
theorem Xft{P:Prop}(h:false=true):P:=by cases h
theorem gd{a b i j:Nat}(h:Nat.beq a b=false:=by rfl):((a,i):Nat×Nat)≠(b,j):=fun e=>Nat.ne_of_beq_eq_false h (Prod.mk.inj e).1
theorem jd{a b i j:Nat}(h:Nat.beq i j=false:=by rfl):((a,i):Nat×Nat)≠(b,j):=fun e=>Nat.ne_of_beq_eq_false h (Prod.mk.inj e).2
end
section
noncomputable def nmTab:List (List (Option String)):=[
 [none,none,none,none,none,none,none,none,none,none,none,none,none,none,none,none],
 [none,none,none,none,some "",some "reached",some "first",some "second",some "asked",some "ended",some "given",none,none,none,some "well",some "up-to-date"],
 [some "failure",some "late",some "ignore",some "successful",some "run",none,none,none,some "hold on",some "end",some "task",some "wait",some "=",some "*",some "made_",none],
 [none,none,some "task_dep",some "file_dep",some "calc_dep",some "uptodate",none,none,none,none,none,none,some "__init__",some "self",some "name",some "actions"],
 [some "targets",some "setup",some "subtask_of",some "has_subtask",some "getargs",some "options",some "setup_tasks",some "value_savers",some "result",some "values",some "executed",some "list",some "_init_deps",some "_init_uptodate",some "_init_targets",some "InvalidTask"],
 [some "extend",some "Task '",some "_init_getargs",some "dep_changed",some "wild_dep",some "_expand_file_dep",some "_expand_task_dep",some "_expand_calc_dep",some "items",some "target",some "isinstance",some "str",some "append",some "item",some "result_dep",some "configure_task"],
 [some "bool",some "dep",some "update_deps",some "deps",some "dep_values",some "_extend_uptodate",some "init_options",some "args",some "task_list",some "tasks",some "_def_order",some "selected_tasks",some "pattern",some "_check_dep_names",some "set_implicit_deps",some "msg"],
 [some "Task",some "InvalidDodoFile",some "_get_wild_tasks",some "setup_task",some "'.",some "staticmethod",some "add_implicit_task_dep",some "TaskControl",some "deps_list",some "_process_filter",some "add_filtered_task",some "task_selection",some "filter_list",some "seq",some "f_name",some "the_task"],
 [some "pop",some "task_name",some "_filter_tasks",some "selected_task",some "filter_",some "InvalidCommand",some "process",some "task_dispatcher",some "TaskDispatcher",some "parent",some "ancestors",some "wait_select",some "wait_run",some "wait_run_calc",some "waiting_me",some "run_status"],
 [some "bad_deps",some "ignored_deps",some "phase",some "set",some "parent_status",some "parent_node",some "nodes",some "waiting",some "ready",some "tasks_to_run",some "node",some "reversed",some "_gen_node",some "get",some "cycle",some "ExecNode"],
 [some "join",some " -> ",some "_add_ready",some "new_node",some "_node_add_wait_run",some "calc",some "wait_for",some "dep_node",some "update",some "_process_calc_dep_results",some "_add_task",some "this_task",some "calc_dep_list",some "task_dep_list",some "_get_next_node",some "_update_waiting"],
 [some "processed",some "waiting_node",some "is_ready",some "remove",some "len_task_deps",some "old_calc_dep",some "new_task_dep",some "new_calc_dep",some "len",some "send",some "next_step",some "HoldOn",some "_law_kinds",some "_law_row",some "number",some "k"],
 [some "needs",some "setups",some "j",some "range",some "_law_is_run",some "row",some "_law_reach",some "rows",some "states",some "wanted",some "_law_free",some "found",some "_law_waits",some "_law_given",some "dispatcher",some "_law_ends"],
 [some "kind",some "_law_told_right",some "failed",some "ignored",some "_law_names",some "sorted",some "one",some "_law_dispatcher",some "begin",some "chosen",some "turn",some "control",some "law",some "script",some "moves",some "hands"],
 [some "held",some "idle",some "move",some "free",some "word",some "index",some "enumerate",some "_law_calculates",some "calcs",some "told",some "rest",some "_law_all",some "files",some "todo",some "_law_values",some "_law_named"]]
noncomputable def d9:Nat→List Nat
 |0=>[62,69,70,63,68,71,53,64,66,67,72,73,74,83,51,50,84,52]
 |1=>[105,64,106,107]
 |2=>[42,50,52,138,139,140,141,142,143,144,145,146]
 |3=>[105,64,107,150,151,152,153,154]
 |_=>[]
noncomputable def jch:Nat→List Nat
 |0=>[60,76,78,77,85,86,87,98,102]
 |1=>[60,109,121,130,134,135]
 |2=>[60,148]
 |3=>[60,156,162,164,170,174,175,169,185]
 |_=>[]
noncomputable def nm(n:Nat):Option Str:=((nmTab[n / 16]?).bind fun r=>(r[n % 16]?).join).map Str.ofString
noncomputable def nm2(n:Nat):Option Str:=match ((["a","b","c","d","e","f","g","h"]:List String)[n]?) with
 |some x=>some (Str.ofString x)
 |none=>nm n
noncomputable def S0(n:Nat):Str:=match nm2 n with
 |some x=>x
 |none=>⟨(List.replicate (n+1000) 0).toArray⟩
theorem nm_hi{n:Nat}(h:256≤n):nm n=none:=by
 unfold nm
 have h1:nmTab.length≤16:=by decide
 have:nmTab[n / 16]?=none:=List.getElem?_eq_none (by omega)
 rw[this];rfl
theorem nm_lo:∀n,n<8→nm n=none:=by decide +kernel
theorem jiB{n:Nat}(h:8≤n):nm2 n=nm n:=by
 unfold nm2
 rw[List.getElem?_eq_none (by show 8≤n;omega)]
theorem jgB{n:Nat}{x:Str}(e:nm2 n=some x):n<256:=by
 cases Nat.lt_or_ge n 256 with
 |inl h=>exact h
 |inr h=>rw[jiB (by omega),nm_hi h] at e;exact Xns e
noncomputable def key(x:Str):Nat:=x.cps.toList.foldl (fun a c=>a*1114113+c+1) 0
noncomputable def kk(n:Nat):Nat:=match nm2 n with
 |some x=>2*key x
 |none=>2*n+1
theorem jjB:((List.range 256).map kk).Nodup:=by decide +kernel
theorem kk_inj{i j:Nat}(hi:i<256)(hj:j<256)(e:kk i=kk j):i=j:=by
 have h:=jjB
 rw[List.Nodup,List.pairwise_map,List.pairwise_iff_getElem] at h
 simp only[List.getElem_range,List.length_range] at h
 rcases Nat.lt_trichotomy i j with q|q|q
 ·exact absurd e (h i j hi hj q)
 ·exact q
 ·exact absurd e.symm (h j i hj hi q)
theorem jiS:((List.range 256).all fun n=>match nm2 n with
 |some x=>decide (x.cps.size<1000)
 |none=>true)=true:=by decide +kernel
theorem jgR{n:Nat}{x:Str}(e:nm2 n=some x):x.cps.size<1000:=by
 have h:=List.all_eq_true.mp jiS n (List.mem_range.mpr (jgB e))
 simp only[e,decide_eq_true_eq] at h
 exact h
theorem S0_inj(i j:Nat)(e:S0 i=S0 j):i=j:=by
 unfold S0 at e
 cases hi:nm2 i with
 |some x=>
  have l1:=jgR hi
  cases hj:nm2 j with
  |some y=>
   rw[hi,hj] at e
   refine kk_inj (jgB hi) (jgB hj) ?_
   unfold kk
   rw[hi,hj,show x=y from e]
  |none=>
   rw[hi,hj] at e
   rw[show x=_ from e] at l1
   simp at l1
   omega
 |none=>
  cases hj:nm2 j with
  |some y=>
   have l1:=jgR hj
   rw[hi,hj] at e
   rw[show y=_ from e.symm] at l1
   simp at l1
   omega
  |none=>
   rw[hi,hj] at e
   have:=congrArg (fun x:Str=>x.cps.size) e
   simpa using this
theorem S0_hS(n:Nat)(x:Str)(e:nm n=some x):S0 n=x:=by
 have h8:8≤n:=qb3 fun q=>by rw[nm_lo n q] at e;exact Xns e
 unfold S0
 rw[jiB h8,e]
noncomputable def fA:Nat→Addr
 |0=>223|1=>368|2=>396|_=>474
noncomputable def fnL':List (Nat×Addr):=[(1060,137),(1076,144),(1078,151),(1077,158),(1085,165),(1086,172),(1087,179),(1101,186),(1098,193),(1102,201),(1082,206),(2060,303),(2109,310),(2110,317),(2118,327),(2114,337),(2121,344),(2130,351),(2134,358),(2135,365),(3060,386),(3148,393),(4060,414),(4156,421),(4162,428),(4164,436),(4170,443),(4174,450),(4175,457),(4169,464),(4185,471)]
noncomputable def fnT(n:Nat):Addr:=(fnL'.lookup n).getD 0
noncomputable abbrev Tag:=Nat×Nat
inductive MV where
 |none
 |bool (b:Bool)
 |int (i:Int)
 |str (n:Nat)
 |tag (t:Tag)
 |lst (xs:List MV)
 |tup (xs:List MV)
 |rng (n:Int)
 |view (b:Bool)(t:Tag)
 |raw (v:Value)
inductive MObj where
 |inst (C:Nat)(es:List (Nat×MV))
 |list (xs:List MV)
 |dict (es:List (Nat×MV))(eo:Option Obj:=none)
 |set (xs:List Nat)
 |obj (o:Obj)(at_:Addr)
structure Wd where
 ρ:Tag→Option Addr
 own:Addr→Option Tag
 F:Addr→Option Obj
structure Wd.le(W W':Wd):Prop where
 ρ:∀t a,W.ρ t=some a→W'.ρ t=some a
 own:∀a t,W.own a=some t→W'.own a=some t
 F:∀a o,W.F a=some o→W'.F a=some o
theorem Wd.le.refl(W:Wd):W.le W:=⟨fun _ _ e=>e,fun _ _ e=>e,fun _ _ e=>e⟩
theorem Wd.le.trans{W W' W'':Wd}(x:W.le W')(y:W'.le W''):W.le W'':=
 ⟨fun _ _ e=>y.ρ _ _ (x.ρ _ _ e),fun _ _ e=>y.own _ _ (x.own _ _ e),fun _ _ e=>y.F _ _ (x.F _ _ e)⟩
noncomputable abbrev bS(vs:List Value)(n:Nat):Obj:={ cls:=.type "list",data:=.seq vs.toArray n }
noncomputable abbrev eP(vs:List Value)(n:Nat):Obj:={ cls:=.type "tuple",data:=.seq vs.toArray n }
inductive All2{α β:Type}(R:α→β→Prop):List α→List β→Prop
 |nil:All2 R [] []
 |cons {v:α}{x:β}{vs:List α}{xs:List β}(h:R v x)(hs:All2 R vs xs):All2 R (v::vs) (x::xs)
inductive VR(S:Nat→Str)(W:Wd):Value→MV→Prop
 |none:VR S W .none .none
 |bool (b:Bool):VR S W (.bool b) (.bool b)
 |int (i:Int)(tk:Tok):VR S W (.int i tk) (.int i)
 |str (n:Nat)(tk:Tok):VR S W (.str (S n) tk) (.str n)
 |tag {t:Tag}{a:Addr}(h:W.ρ t=some a):VR S W (.ref a) (.tag t)
 |lst {a:Addr}{vs:List Value}{xs:List MV}{n:Nat}(h:W.F a=some (bS vs n))(hv:All2 (VR S W) vs xs)(hl:xs.length≤100000):VR S W (.ref a) (.lst xs)
 |tup {a:Addr}{vs:List Value}{xs:List MV}{n:Nat}(h:W.F a=some (eP vs n))(hv:All2 (VR S W) vs xs)(hl:xs.length≤100000):VR S W (.ref a) (.tup xs)
 |rng {a:Addr}{n:Int}{t u v:Tok}(h:W.F a=some { cls:=.type "range",data:=.fields #[.int 0 t,.int n u,.int 1 v] }):VR S W (.ref a) (.rng n)
 |view {a d:Addr}{b:Bool}{t:Tag}(h:W.F a=some { cls:=.type (if b then "dict_items" else "dict_values"),data:=.fields #[.ref d] })(hd:W.ρ t=some d):VR S W (.ref a) (.view b t)
 |raw (v:Value):VR S W v (.raw v)
noncomputable abbrev VRs(S:Nat→Str)(W:Wd):List Value→List MV→Prop:=All2 (VR S W)
theorem VR.mono{S:Nat→Str}{W W':Wd}(le:W.le W'){v:Value}{x:MV}(h:VR S W v x):VR S W' v x:=
 VR.rec (motive_1:=fun v x _=>VR S W' v x) (motive_2:=fun vs xs _=>All2 (VR S W') vs xs) .none .bool .int .str (fun h=>.tag (le.ρ _ _ h)) (fun h _ hl hv=>.lst (le.F _ _ h) hv hl) (fun h _ hl hv=>.tup (le.F _ _ h) hv hl) (fun h=>.rng (le.F _ _ h)) (fun h hd=>.view (le.F _ _ h) (le.ρ _ _ hd)) .raw .nil (fun _ _ h hs=>.cons h hs) h
section
variable {α β:Type}{R:α→β→Prop}{vs vs':List α}{xs xs':List β}
theorem All2.imp{R':α→β→Prop}(k:∀{a b},R a b→R' a b)(h:All2 R vs xs):All2 R' vs xs:=by
 induction h with
 |nil=>exact .nil
 |cons h _ ih=>exact .cons (k h) ih
theorem All2.length(h:All2 R vs xs):vs.length=xs.length:=by
 induction h with
 |nil=>rfl
 |cons _ _ ih=>exact congrArg Nat.succ ih
theorem All2.append(h:All2 R vs xs)(h':All2 R vs' xs'):All2 R (vs++vs') (xs++xs'):=by
 induction h with
 |nil=>exact h'
 |cons h _ ih=>exact .cons h ih
theorem All2.get(h:All2 R vs xs):∀{i:Nat}{x:β},xs[i]?=some x→∃v,vs[i]?=some v∧R v x:=by
 induction h with
 |nil=>intro i x e;exact Xns e
 |cons h _ ih=>
  intro i x e
  cases i with
  |zero=>obtain rfl:=qa1 e;exact⟨_,rfl,h⟩
  |succ i=>exact ih e
theorem All2.flip(h:All2 R vs xs):All2 (fun b a=>R a b) xs vs:=by
 induction h with
 |nil=>exact .nil
 |cons h _ ih=>exact .cons h ih
theorem All2.getV(h:All2 R vs xs){i:Nat}{v:α}(e:vs[i]?=some v):∃x,xs[i]?=some x∧R v x:=h.flip.get e
theorem All2.set{v:α}{x:β}(r:R v x)(h:All2 R vs xs):∀i,All2 R (vs.set i v) (xs.set i x):=by
 induction h with
 |nil=>exact fun _=>.nil
 |cons h hs ih=>exact fun i=>match i with
  |0=>.cons r hs
  |i+1=>.cons h (ih i)
theorem All2.eraseIdx(h:All2 R vs xs):∀i,All2 R (vs.eraseIdx i) (xs.eraseIdx i):=by
 induction h with
 |nil=>exact fun _=>.nil
 |cons h hs ih=>exact fun i=>match i with
  |0=>hs
  |i+1=>.cons h (ih i)
theorem All2.drop(h:All2 R vs xs):∀i,All2 R (vs.drop i) (xs.drop i):=by
 induction h with
 |nil=>intro i;rw[List.drop_nil,List.drop_nil];exact .nil
 |cons h hs ih=>exact fun i=>match i with
  |0=>.cons h hs
  |i+1=>ih i
theorem All2.take(h:All2 R vs xs):∀i,All2 R (vs.take i) (xs.take i):=by
 induction h with
 |nil=>intro i;rw[List.take_nil,List.take_nil];exact .nil
 |cons h hs ih=>exact fun i=>match i with
  |0=>.nil
  |i+1=>.cons h (ih i)
theorem All2.rev(h:All2 R vs xs):All2 R vs.reverse xs.reverse:=by
 induction h with
 |nil=>exact .nil
 |cons h hs ih=>rw[List.reverse_cons,List.reverse_cons];exact ih.append (.cons h .nil)
end
theorem VRs.mono{S:Nat→Str}{W W':Wd}(le:W.le W'){vs:List Value}{xs:List MV}(h:VRs S W vs xs):VRs S W' vs xs:=h.imp fun h=>h.mono le
inductive KVR(S:Nat→Str)(W:Wd):List (Str×Value)→List (Nat×MV)→Prop
 |nil:KVR S W [] []
 |cons {n:Nat}{v:Value}{x:MV}{kvs:List (Str×Value)}{es:List (Nat×MV)}(h:VR S W v x)(hs:KVR S W kvs es):KVR S W ((S n,v)::kvs) ((n,x)::es)
theorem KVR.mono{S:Nat→Str}{W W':Wd}(le:W.le W'){kvs:List (Str×Value)}{es:List (Nat×MV)}(h:KVR S W kvs es):KVR S W' kvs es:=by
 induction h with
 |nil=>exact .nil
 |cons h _ ih=>exact .cons (h.mono le) ih
theorem KVR.length{S:Nat→Str}{W:Wd}{kvs:List (Str×Value)}{es:List (Nat×MV)}(h:KVR S W kvs es):kvs.length=es.length:=by
 induction h with
 |nil=>rfl
 |cons _ _ ih=>exact congrArg Nat.succ ih
noncomputable def jfU(K:Frag)(C:Addr):Bool:=
 (clsIn K C).any (·.hasDict)&&findIn K (.ref C) "__getattribute__" == some (some (.builtin "object.__getattribute__"))&&findIn K (.ref C) "__setattr__" == some (some (.builtin "object.__setattr__"))&&
 findIn K (.ref C) "__getattr__" == some none&&findIn K (.ref C) "__bool__" == some none&&findIn K (.ref C) "__len__" == some none&&plainOver K C&&makesIn K C
noncomputable def jc4(K:Frag)(C f:Addr)(n:Str):Bool:=findIn K (.ref C) n == some (some (.ref f))&&fnIn K f&&typeIn K (.ref f) == some (.type "function")
structure Cx where
 prog:Program
 w:World
 K:Frag
 B:Heap
 mg:Str→Option Value
 mb:Str→Option Value
 os:OsState
 X:K.In B
 G:B.Ns mainGlobals mg
 Bn:B.Ns builtinsNs mb
 lim:B.NoLimit
 bi:∀x:Str,x≠"__name__"→mb x=bootBuiltins x
 sm:∃o,B.get? sysModules=some o
 hcls:∀C,C<4→jfU K (fA C)=true
 hattr:∀C n,n∈d9 C→findIn K (.ref (fA C)) (S0 n)=some none
 hmeth:∀C n,n∈jch C→jc4 K (fA C) (fnT ((C+1)*1000+n)) (S0 n)=true
noncomputable abbrev Cx.S(_:Cx):Nat→Str:=S0
noncomputable abbrev Cx.cls(_:Cx):Nat→Addr:=fA
noncomputable abbrev Cx.fn(_:Cx):Nat→Addr:=fnT
theorem Cx.inj(c:Cx):∀i j,c.S i=c.S j→i=j:=S0_inj
theorem Cx.hS(c:Cx):∀n x,nm n=some x→c.S n=x:=S0_hS
noncomputable abbrev Cx.M(c:Cx):Model:=model c.prog c.w
noncomputable abbrev Cx.knd(c:Cx):KeyKind c.prog c.w Str:=strKind c.prog c.w
noncomputable def OR(c:Cx)(W:Wd)(t:Tag)(o:MObj)(h:Heap):Prop:=match o with
 |.inst C es=>∃a d kvs,W.ρ t=some a∧W.own a=some t∧W.own d=some t∧h.get? a=some (instObj (c.cls C) d)∧h.DictOf c.knd d kvs∧KVR c.S W kvs es∧C<4∧es.length≤1000
 |.list xs=>∃a vs n,W.ρ t=some a∧W.own a=some t∧h.get? a=some (bS vs n)∧VRs c.S W vs xs∧xs.length≤100000
 |.dict es eo=>∃a kvs,W.ρ t=some a∧W.own a=some t∧h.DictOf c.knd a kvs∧KVR c.S W kvs es∧es.length≤100000∧∀o,eo=some o→h.get? a=some o
 |.set xs=>∃a,W.ρ t=some a∧W.own a=some t∧h.SetOf c.knd a (fun k=>xs.any fun n=>decide (c.S n=k)) xs.length∧xs.length≤1000
 |.obj o a=>W.ρ t=some a∧W.own a=some t∧h.get? a=some o
theorem OR.frame{c:Cx}{W W':Wd}{t:Tag}{o:MObj}{h h':Heap}(x:OR c W t o h)(le:W.le W')(k:∀b ob,W.own b=some t→h.get? b=some ob→h'.get? b=some ob):OR c W' t o h':=by
 cases o with
 |inst C es=>
  refine jaY x fun a d kvs r o1 o2 g hd zq1=>?_;refine Za zq1 fun kv hC=>?_
  refine bZ hd fun od es' ep e1 e2=>?_
  exact⟨a,d,kvs,le.ρ _ _ r,le.own _ _ o1,le.own _ _ o2,k _ _ o1 g,⟨od,es',ep,k _ _ o2 e1,e2⟩,kv.mono le,hC⟩
 |list xs=>
  refine jbH x fun a vs n r o1 g v hl=>?_
  exact⟨a,vs,n,le.ρ _ _ r,le.own _ _ o1,k _ _ o1 g,v.mono le,hl⟩
 |dict es eo=>
  refine jbI x fun a kvs r o1 hd kv hl hex=>?_
  refine bZ hd fun od es' ep e1 e2=>?_
  exact⟨a,kvs,le.ρ _ _ r,le.own _ _ o1,⟨od,es',ep,k _ _ o1 e1,e2⟩,kv.mono le,hl,fun o q=>k _ _ o1 (hex o q)⟩
 |set xs=>
  refine fq x fun a r o1 hd hl=>?_
  refine dh hd fun od es' ep tb e1 e2=>?_
  exact⟨a,le.ρ _ _ r,le.own _ _ o1,⟨od,es',ep,tb,k _ _ o1 e1,e2⟩,hl⟩
 |obj ob' a=>
  exact⟨le.ρ _ _ x.1,le.own _ _ x.2.1,k _ _ x.2.1 x.2.2⟩
noncomputable abbrev aJ:=Addr→Option (Obj×Bool)
noncomputable def UpS(o o':Obj):Prop:=∃sl,o'={ o with slots:=sl }
theorem UpS.refl(o:Obj):UpS o o:=⟨o.slots,rfl⟩
theorem UpS.trans{a b d:Obj}(x:UpS a b)(y:UpS b d):UpS a d:=by refine Zx x fun s1 zq1=>?_;obtain rfl:=zq1;refine Zx y fun s2 zq1=>?_;obtain rfl:=zq1;exact⟨s2,rfl⟩
theorem UpS.symm{a b:Obj}(x:UpS a b):UpS b a:=by refine Zx x fun s1 zq1=>?_;obtain rfl:=zq1;exact⟨a.slots,rfl⟩
theorem UpS.data{o o':Obj}(x:UpS o o'):o'.data=o.data∧o'.cls=o.cls∧o'.dict=o.dict:=by refine Zx x fun s1 zq1=>?_;obtain rfl:=zq1;exact⟨rfl,rfl,rfl⟩
noncomputable def SlotEq(k:Obj×Bool)(o':Obj):Prop:=UpS k.1 o'∧(k.2=false→o'=k.1)
theorem SlotEq.refl(o:Obj)(b:Bool):SlotEq (o,b) o:=⟨.refl o,fun _=>rfl⟩
theorem SlotEq.exact{o o':Obj}(x:SlotEq (o,false) o'):o'=o:=x.2 rfl
noncomputable def jhW(o:Obj):Bool:=match o.data with
 |.seq _ _=>true
 |_=>false
structure Inv(c:Cx)(W:Wd)(Kp:aJ)(H:Tag→Option MObj)(nx:Nat)(s:Shared):Prop where
 base:∀a o,c.B.get? a=some o→Kp a=some (o,false)
 kept:∀a o,Kp a=some o→∃o',s.heap.get? a=some o'∧SlotEq o o'
 frz:∀a o,W.F a=some o→s.heap.get? a=some o
 kpF:∀a o,Kp a=some o→c.B.get? a=none→W.F a=none
 objs:∀t o,H t=some o→OR c W t o s.heap
 dom:∀t a,W.ρ t=some a→(H t).isSome=true∨(t.1=0∧t.2<nx)
 old:∀a t,W.own a=some t→∃o,s.heap.get? a=some o
 kpOwn:∀a o,Kp a=some o→W.own a=none
 fOwn:∀a o,W.F a=some o→W.own a=none
 os:s.os=c.os
 gens:s.gens=#[]
 emp:∀a o,c.B.get? a=some o→jhW o=true→W.F a=some o
 keepB:∀a o,c.B.get? a=some o→s.heap.get? a=some o
 tab:∃ps A,H (9,0)=some (.obj (tabObj ps) A)
section
variable {c:Cx}{W:Wd}{Kp:aJ}{H:Tag→Option MObj}{nx:Nat}{s:Shared}
theorem Inv.keeps(I:Inv c W Kp H nx s):∀b o,c.B.get? b=some o→s.heap.get? b=some o:=I.keepB
theorem Inv.KIn(I:Inv c W Kp H nx s):c.K.In s.heap:=fun a o e=>I.keeps a o (c.X a o e)
theorem Inv.glob(I:Inv c W Kp H nx s):s.heap.Ns mainGlobals c.mg:=c.G.keeps I.keeps
theorem Inv.bns(I:Inv c W Kp H nx s):s.heap.Ns builtinsNs c.mb:=c.Bn.keeps I.keeps
theorem Inv.lim(I:Inv c W Kp H nx s):s.heap.NoLimit:=c.lim.keeps I.keeps
theorem Inv.tok(I:Inv c W Kp H nx s)(t:Nat):Inv c W Kp H nx { s with toks:=t }:=⟨I.base,I.kept,I.frz,I.kpF,I.objs,I.dom,I.old,I.kpOwn,I.fOwn,I.os,I.gens,I.emp,I.keepB,I.tab⟩
theorem Inv.lt_of_kept(I:Inv c W Kp H nx s){a:Addr}{o:Obj×Bool}(e:Kp a=some o):a<s.heap.objs.size:=by refine Zxa (I.kept a o e) fun _ g _=>?_;exact Heap.lt_size g
theorem Inv.grown{h':Heap}{tk:Nat}(I:Inv c W Kp H nx s)(k:∀b o,((W.own b).isSome=true∨(Kp b).isSome=true∨(W.F b).isSome=true)→s.heap.get? b=some o→h'.get? b=some o) :
  Inv c W Kp H nx { s with heap:=h',toks:=tk }:=
 ⟨I.base,fun a o e=>by refine Zxa (I.kept a o e) fun o' g q=>?_;exact⟨o',k a o' (.inr (.inl (by rw[e];rfl))) g,q⟩,fun a o e=>k a o (.inr (.inr (by rw[e];rfl))) (I.frz a o e),I.kpF,
  fun t o e=>(I.objs t o e).frame (Wd.le.refl W) fun b ob ow g=>k b ob (.inl (by rw[ow];rfl)) g,I.dom,fun a t e=>by refine Zx (I.old a t e) fun o g=>?_;exact⟨o,k a o (.inl (by rw[e];rfl)) g⟩,I.kpOwn,I.fOwn,I.os,I.gens,I.emp,fun a o e=>k a o (.inr (.inl (by rw[I.base a o e];rfl))) (I.keepB a o e),I.tab⟩
noncomputable def ay(H:Tag→Option MObj)(t:Tag)(o:MObj):Tag→Option MObj:=fun u=>if u=t then some o else H u
@[simp] theorem dB (H:Tag→Option MObj)(t:Tag)(o:MObj):ay H t o t=some o:=if_pos rfl
theorem af{H:Tag→Option MObj}{t u:Tag}{o:MObj}(h:u≠t):ay H t o u=H u:=if_neg h
theorem jfQ{H:Tag→Option MObj}{t:Tag}{o o':MObj}(x:∃ps A,H (9,0)=some (.obj (tabObj ps) A))(e:H t=some o)(hk:∀ps A,o=.obj (tabObj ps) A→∃ps',o'=.obj (tabObj ps') A):∃ps A,ay H t o' (9,0)=some (.obj (tabObj ps) A):=by
 refine Zxx x fun ps A q=>?_
 by_cases h:(9,0)=t
 ·subst h
  rw[q] at e;obtain rfl:=qa1 e
  refine Zx (hk ps A rfl) fun ps' zq1=>?_;obtain rfl:=zq1
  exact⟨ps',A,dB ..⟩
 ·exact⟨ps,A,(af h).trans q⟩
theorem jhy{H:Tag→Option MObj}{t:Tag}{o:MObj}(x:∃ps A,H (9,0)=some (.obj (tabObj ps) A))(e:H t=none):∃ps A,ay H t o (9,0)=some (.obj (tabObj ps) A):=by
 refine Zxx x fun ps A q=>?_
 exact⟨ps,A,(af fun h=>by rw[h,e] at q;exact Xns q).trans q⟩
theorem Inv.changed{t:Tag}{o o':MObj}{a:Addr}{h':Heap}{tk:Nat}(I:Inv c W Kp H nx s)(e:H t=some o)(ow:W.own a=some t)(hs:Heap.SameBut a s.heap h')(x:OR c W t o' h')(ha:∃ob,h'.get? a=some ob)(hk:∀ps A,o=.obj (tabObj ps) A→∃ps',o'=.obj (tabObj ps') A:=by intro _ _ e;cases e) :
  Inv c W Kp (ay H t o') nx { s with heap:=h',toks:=tk }:=by
 refine⟨I.base,fun b ob q=>(I.kept b ob q).elim fun o' x=>⟨o',(hs.2 b fun z=>?_).trans x.1,x.2⟩,fun b ob q=>(hs.2 b fun z=>?_).trans (I.frz b ob q),I.kpF,fun u ou q=>?_,fun u b q=>?_,fun b u q=>?_,I.kpOwn,I.fOwn,I.os,I.gens,I.emp,fun b ob q=>(hs.2 b fun z=>?_).trans (I.keepB b ob q),jfQ I.tab e hk⟩
 ·subst z;rw[I.kpOwn _ _ q] at ow;exact Xns ow
 ·subst z;rw[I.fOwn _ _ q] at ow;exact Xns ow
 ·by_cases hu:u=t
  ·subst hu;rw[dB] at q;obtain rfl:=qa1 q;exact x
  ·rw[af hu] at q
   refine(I.objs u ou q).frame (Wd.le.refl W) fun b ob owb g=>(hs.2 b fun z=>?_).trans g
   subst z;rw[ow] at owb;obtain rfl:=qa1 owb;exact hu rfl
 ·by_cases hu:u=t
  ·subst hu;left;rw[dB];rfl
  ·rw[af hu];exact I.dom u b q
 ·by_cases hb:b=a
  ·subst hb;exact ha
  ·refine Zx (I.old b u q) fun ob g=>?_;exact⟨ob,(hs.2 b hb).trans g⟩
 ·subst z;rw[I.kpOwn _ _ (I.base _ _ q)] at ow;exact Xns ow
end
section
variable {c:Cx}{W:Wd}{Kp:aJ}{H:Tag→Option MObj}{nx:Nat}{s:Shared}
theorem Inv.changedE{t:Tag}{o o':MObj}{a:Addr}{h':Heap}{tk:Nat}(I:Inv c W Kp H nx s)(e:H t=some o)(ow:W.own a=some t)(hs:∀b ob,b≠a→s.heap.get? b=some ob→h'.get? b=some ob)(x:OR c W t o' h')(ha:∃ob,h'.get? a=some ob)(hk:∀ps A,o=.obj (tabObj ps) A→∃ps',o'=.obj (tabObj ps') A:=by intro _ _ e;cases e) :
  Inv c W Kp (ay H t o') nx { s with heap:=h',toks:=tk }:=by
 refine⟨I.base,fun b ob q=>(I.kept b ob q).elim fun o' x=>⟨o',hs b _ (fun z=>?_) x.1,x.2⟩,fun b ob q=>hs b _ (fun z=>?_) (I.frz b ob q),I.kpF,fun u ou q=>?_,fun u b q=>?_,fun b u q=>?_,I.kpOwn,I.fOwn,I.os,I.gens,I.emp,fun b ob q=>hs b _ (fun z=>?_) (I.keepB b ob q),jfQ I.tab e hk⟩
 ·subst z;rw[I.kpOwn _ _ q] at ow;exact Xns ow
 ·subst z;rw[I.fOwn _ _ q] at ow;exact Xns ow
 ·by_cases hu:u=t
  ·subst hu;rw[dB] at q;obtain rfl:=qa1 q;exact x
  ·rw[af hu] at q
   refine(I.objs u ou q).frame (Wd.le.refl W) fun b ob owb g=>hs b _ (fun z=>?_) g
   subst z;rw[ow] at owb;obtain rfl:=qa1 owb;exact hu rfl
 ·by_cases hu:u=t
  ·subst hu;left;rw[dB];rfl
  ·rw[af hu];exact I.dom u b q
 ·by_cases hb:b=a
  ·subst hb;exact ha
  ·refine Zx (I.old b u q) fun ob g=>?_;exact⟨ob,hs b _ hb g⟩
 ·subst z;rw[I.kpOwn _ _ (I.base _ _ q)] at ow;exact Xns ow
end
noncomputable def Wd.add(W:Wd)(t:Tag)(a:Addr)(as:List Addr):Wd:={ W with ρ:=fun u=>if u=t then some a else W.ρ u,own:=fun b=>if b=a∨b∈as then some t else W.own b }
noncomputable def Wd.freeze(W:Wd)(a:Addr)(o:Obj):Wd:={ W with F:=fun b=>if b=a then some o else W.F b }
noncomputable def ja'(H:Tag→Option MObj)(nx:Nat)(t:Tag):Prop:=H t=none∧(t.1≠0∨nx≤t.2)
noncomputable def cw(nx:Nat)(t:Tag):Nat:=if t.1=0 then max nx (t.2+1) else nx
section
variable {c:Cx}{W:Wd}{Kp:aJ}{H:Tag→Option MObj}{nx:Nat}{s:Shared}
theorem Inv.unused{t:Tag}(I:Inv c W Kp H nx s)(f:ja' H nx t):W.ρ t=none:=by
 cases q:W.ρ t with
 |none=>rfl
 |some a=>
  rcases I.dom t a q with h|⟨h1,h2⟩
  ·rw[f.1] at h;exact Xft h
  ·rcases f.2 with h|h
   ·exact absurd h1 h
   ·exact absurd h2 (Nat.not_lt.mpr h)
theorem Inv.fresh_own(I:Inv c W Kp H nx s){a:Addr}(h:s.heap.objs.size≤a):W.own a=none:=by
 cases q:W.own a with
 |none=>rfl
 |some t=>refine Zx (I.old a t q) fun o g=>?_;exact absurd (Heap.lt_size g) (Nat.not_lt.mpr h)
theorem Inv.fresh_kp(I:Inv c W Kp H nx s){a:Addr}(h:s.heap.objs.size≤a):Kp a=none:=by
 cases q:Kp a with
 |none=>rfl
 |some o=>exact absurd (I.lt_of_kept q) (Nat.not_lt.mpr h)
theorem Inv.fresh_F(I:Inv c W Kp H nx s){a:Addr}(h:s.heap.objs.size≤a):W.F a=none:=by
 cases q:W.F a with
 |none=>rfl
 |some o=>exact absurd (Heap.lt_size (I.frz a o q)) (Nat.not_lt.mpr h)
theorem Wd.le_add{t:Tag}{a:Addr}{as:List Addr}(I:Inv c W Kp H nx s)(f:ja' H nx t)(ha:s.heap.objs.size≤a)(has:∀b∈as,s.heap.objs.size≤b):W.le (W.add t a as):=by
 refine⟨fun u b e=>?_,fun b u e=>?_,fun _ _ e=>e⟩
 ·show(if u=t then some a else W.ρ u)=some b
  rw[if_neg];exact e
  intro z;subst z;rw[I.unused f] at e;exact Xns e
 ·show(if b=a∨b∈as then some t else W.own b)=some u
  rw[if_neg];exact e
  rintro (z|z)
  ·subst z;rw[I.fresh_own ha] at e;exact Xns e
  ·rw[I.fresh_own (has _ z)] at e;exact Xns e
theorem Wd.le_freeze{a:Addr}{o:Obj}(h:W.F a=none):W.le (W.freeze a o):=
 ⟨fun _ _ e=>e,fun _ _ e=>e,fun b ob e=>by
  show(if b=a then some o else W.F b)=some ob
  rw[if_neg];exact e
  intro z;subst z;rw[h] at e;exact Xns e⟩
theorem Inv.alloc{t:Tag}{o:MObj}{a:Addr}{as:List Addr}{h':Heap}{tk:Nat}(I:Inv c W Kp H nx s)(f:ja' H nx t)(ha:s.heap.objs.size≤a)(has:∀b∈as,s.heap.objs.size≤b)
  (ha':∃ob,h'.get? a=some ob)(has':∀b∈as,∃ob,h'.get? b=some ob)(k:∀b ob,s.heap.get? b=some ob→h'.get? b=some ob)(x:OR c (W.add t a as) t o h') :
  Inv c (W.add t a as) Kp (ay H t o) (cw nx t) { s with heap:=h',toks:=tk }:=by
 have le:=Wd.le_add I f ha has
 refine⟨I.base,fun b ob q=>by refine Zxa (I.kept b ob q) fun o' g r=>?_;exact⟨o',k _ _ g,r⟩,fun b ob q=>k _ _ (I.frz b ob q),I.kpF,fun u ou q=>?_,fun u b q=>?_,fun b u q=>?_,fun b ob q=>?_,fun b ob q=>?_,I.os,I.gens,I.emp,fun b ob q=>k _ _ (I.keepB b ob q),jhy I.tab f.1⟩
 ·by_cases hu:u=t
  ·subst hu;rw[dB] at q;obtain rfl:=qa1 q;exact x
  ·rw[af hu] at q
   exact(I.objs u ou q).frame le fun b ob _ g=>k _ _ g
 ·by_cases hu:u=t
  ·subst hu;left;rw[dB];rfl
  ·rw[af hu]
   have q':W.ρ u=some b:=by
    have:(if u=t then some a else W.ρ u)=some b:=q
    rwa [if_neg hu] at this
   refine(I.dom u b q').imp id fun zp7=>⟨zp7.1,?_⟩;have h2:=zp7.2
   unfold cw
   split
   ·exact Nat.lt_of_lt_of_le h2 (Nat.le_max_left ..)
   ·exact h2
 ·have:(if b=a∨b∈as then some t else W.own b)=some u:=q
  split at this
  ·rename_i z
   rcases z with z|z
   ·subst z;exact ha'
   ·exact has' _ z
  ·refine Zx (I.old b u this) fun ob g=>?_;exact⟨ob,k b ob g⟩
 ·show(if b=a∨b∈as then some t else W.own b)=none
  rw[if_neg];exact I.kpOwn b ob q
  rintro (z|z)
  ·subst z;rw[I.fresh_kp ha] at q;exact Xns q
  ·rw[I.fresh_kp (has _ z)] at q;exact Xns q
 ·show(if b=a∨b∈as then some t else W.own b)=none
  rw[if_neg];exact I.fOwn b ob q
  rintro (z|z)
  ·subst z;have q':W.F b=some ob:=q;rw[I.fresh_F ha] at q';exact Xns q'
  ·have q':W.F b=some ob:=q;rw[I.fresh_F (has _ z)] at q';exact Xns q'
theorem Inv.freeze{a:Addr}{o:Obj}{h':Heap}{tk:Nat}(I:Inv c W Kp H nx s)(ha:s.heap.objs.size≤a)(g:h'.get? a=some o)(hd:∃vs n,o.data=.seq vs n)
  (k:∀b ob,s.heap.get? b=some ob→h'.get? b=some ob) :
  Inv c (W.freeze a o) Kp H nx { s with heap:=h',toks:=tk }:=by
 have le:W.le (W.freeze a o):=Wd.le_freeze (I.fresh_F ha)
 refine⟨I.base,fun b ob q=>by refine Zxa (I.kept b ob q) fun o' g r=>?_;exact⟨o',k _ _ g,r⟩,fun b ob q=>?_,fun b ob q hB=>?_,fun u ou q=>(I.objs u ou q).frame le fun b ob _ g=>k _ _ g,I.dom,fun b u q=>by refine Zx (I.old b u q) fun ob g=>?_;exact⟨ob,k b ob g⟩,I.kpOwn,fun b ob q=>?_,I.os,I.gens,fun b n q z=>le.F _ _ (I.emp b n q z),fun b ob q=>k _ _ (I.keepB b ob q),I.tab⟩
 ·have:(if b=a then some o else W.F b)=some ob:=q
  split at this
  ·rename_i z;subst z;obtain rfl:=qa1 this;exact g
  ·exact k _ _ (I.frz b ob this)
 ·show(if b=a then some o else W.F b)=none
  rw[if_neg]
  ·exact I.kpF b ob q ‹_›
  ·intro z;subst z;rw[I.fresh_kp ha] at q;exact Xns q
 ·have:(if b=a then some o else W.F b)=some ob:=q
  split at this
  ·rename_i z;subst z;exact I.fresh_own ha
  ·exact I.fOwn b ob this
noncomputable def Off(W:Wd)(Kp:aJ)(a:Addr):Prop:=W.own a=none∧W.F a=none∧Kp a=none
theorem Wd.le_adopt{t:Tag}{a:Addr}(hr:W.ρ t=none)(ha:W.own a=none):W.le (W.add t a []):=by
 refine⟨fun u b q=>?_,fun b u q=>?_,fun _ _ q=>q⟩
 ·show(if u=t then some a else W.ρ u)=some b
  rw[if_neg];exact q
  intro z;subst z;rw[hr] at q;exact Xns q
 ·show(if b=a∨b∈[] then some t else W.own b)=some u
  rw[if_neg];exact q
  rintro (z|z)
  ·subst z;rw[ha] at q;exact Xns q
  ·exact Xnm z
theorem Inv.adopt{t:Tag}{o:MObj}{a:Addr}(I:Inv c W Kp H nx s)(f:ja' H nx t)(ha:Off W Kp a)(ha':∃ob,s.heap.get? a=some ob)(x:OR c (W.add t a []) t o s.heap) :
  Inv c (W.add t a []) Kp (ay H t o) (cw nx t) s:=by
 have le:=Wd.le_adopt (I.unused f) ha.1
 refine⟨I.base,I.kept,I.frz,I.kpF,fun u ou q=>?_,fun u b q=>?_,fun b u q=>?_,fun b ob q=>?_,fun b ob q=>?_,I.os,I.gens,I.emp,I.keepB,jhy I.tab f.1⟩
 ·by_cases hu:u=t
  ·subst hu;rw[dB] at q;obtain rfl:=qa1 q;exact x
  ·rw[af hu] at q
   exact(I.objs u ou q).frame le fun b ob _ g=>g
 ·by_cases hu:u=t
  ·subst hu;left;rw[dB];rfl
  ·rw[af hu]
   have q':W.ρ u=some b:=by
    have:(if u=t then some a else W.ρ u)=some b:=q
    rwa [if_neg hu] at this
   refine(I.dom u b q').imp id fun zp10=>⟨zp10.1,?_⟩;have h2:=zp10.2
   unfold cw
   split
   ·exact Nat.lt_of_lt_of_le h2 (Nat.le_max_left ..)
   ·exact h2
 ·have:(if b=a∨b∈[] then some t else W.own b)=some u:=q
  split at this
  ·rename_i z
   rcases z with z|z
   ·subst z;exact ha'
   ·exact Xnm z
  ·exact I.old b u this
 ·show(if b=a∨b∈[] then some t else W.own b)=none
  rw[if_neg];exact I.kpOwn b ob q
  rintro (z|z)
  ·subst z;rw[ha.2.2] at q;exact Xns q
  ·exact Xnm z
 ·show(if b=a∨b∈[] then some t else W.own b)=none
  rw[if_neg];exact I.fOwn b ob q
  rintro (z|z)
  ·subst z;have q':W.F b=some ob:=q;rw[ha.2.1] at q';exact Xns q'
  ·exact Xnm z
theorem Inv.adoptF{a:Addr}{o:Obj}(I:Inv c W Kp H nx s)(ha:Off W Kp a)(g:s.heap.get? a=some o):Inv c (W.freeze a o) Kp H nx s:=by
 have le:W.le (W.freeze a o):=Wd.le_freeze ha.2.1
 refine⟨I.base,I.kept,fun b ob q=>?_,fun b ob q hB=>?_,fun u ou q=>(I.objs u ou q).frame le fun b ob _ g=>g,I.dom,I.old,I.kpOwn,fun b ob q=>?_,I.os,I.gens,fun b n q z=>le.F _ _ (I.emp b n q z),I.keepB,I.tab⟩
 ·have:(if b=a then some o else W.F b)=some ob:=q
  split at this
  ·rename_i z;subst z;obtain rfl:=qa1 this;exact g
  ·exact I.frz b ob this
 ·show(if b=a then some o else W.F b)=none
  rw[if_neg]
  ·exact I.kpF b ob q hB
  ·intro z;subst z;rw[ha.2.2] at q;exact Xns q
 ·have:(if b=a then some o else W.F b)=some ob:=q
  split at this
  ·rename_i z;subst z;exact ha.1
  ·exact I.fOwn b ob this
end
end
section
noncomputable def FA(c:Cx)(env:Env)(b:Addr):Prop:=b=env.locals∨∃x,env.kindOf (c.S x)=some .cell∧env.cells.lookup (c.S x)=some b
structure Fm(c:Cx)(W:Wd)(Kp:aJ)(env:Env)(m:List (Nat×MV))(h:Heap):Prop where
 out:∀b,FA c env b→W.own b=none∧W.F b=none∧Kp b=none
 ns:∃mm,h.Ns env.locals mm∧∀x v,m.lookup x=some v→env.kindOf (c.S x)=some .local→∃u,mm (c.S x)=some u∧VR c.S W u v
 cell:∀x v,m.lookup x=some v→env.kindOf (c.S x)=some .cell∨env.kindOf (c.S x)=some .free→∃b u,env.cells.lookup (c.S x)=some b∧h.IsCell b (some u)∧VR c.S W u v
 own:∀x,env.kindOf (c.S x)=some .cell→∃b u,env.cells.lookup (c.S x)=some b∧h.IsCell b u
 apart:∀x y b,env.kindOf (c.S x)=some .cell→env.kindOf (c.S y)=some .cell→env.cells.lookup (c.S x)=some b→env.cells.lookup (c.S y)=some b→x=y
 free:∀x,env.kindOf (c.S x)=some .free→∃b o,env.cells.lookup (c.S x)=some b∧Kp b=some o
structure EOK(env:Env):Prop where
 kind:env.scope.kind=.function
 globals:env.globals=mainGlobals
 builtins:env.builtins=builtinsNs
 gen:env.scope.isGenerator=false
 co:env.scope.isCoroutine=false
theorem Fm.move{c:Cx}{W W':Wd}{Kp:aJ}{env:Env}{m:List (Nat×MV)}{h h':Heap}(f:Fm c W Kp env m h)(le:W.le W')(ho:∀b,FA c env b→W'.own b=none∧W'.F b=none)
  (k:∀b o,(FA c env b∨(Kp b).isSome=true)→h.get? b=some o→h'.get? b=some o):Fm c W' Kp env m h':=by
 refine Zxa f.ns fun mm hns hm=>?_
 refine bZ hns fun o es ep e r=>?_
 refine⟨fun b hb=>⟨(ho b hb).1,(ho b hb).2,(f.out b hb).2.2⟩,⟨mm,⟨o,es,ep,k _ _ (.inl (.inl rfl)) e,r⟩,fun x v a b=>?_⟩,fun x v a b=>?_,fun x a=>?_,f.apart,f.free⟩
 ·refine Zxa (hm x v a b) fun u p q=>?_;exact⟨u,p,q.mono le⟩
 ·refine cG (f.cell x v a b) fun b' u p zq1 r=>?_;refine Zxa zq1 fun o' q1 q2=>?_
  refine⟨b',u,p,⟨o',k _ _ ?_ q1,q2⟩,r.mono le⟩
  rcases b with b|b
  ·exact .inl (.inr ⟨x,b,p⟩)
  ·refine bt (f.free x b) fun b'' o'' p' q'=>?_
   rw[p] at p';obtain rfl:=qa1 p'
   exact .inr (by rw[q'];rfl)
 ·refine bt (f.own x a) fun b' u p zq1=>?_;refine Zxa zq1 fun o' q1 q2=>?_
  exact⟨b',u,p,⟨o',k _ _ (.inl (.inr ⟨x,a,p⟩)) q1,q2⟩⟩
theorem Fm.moveS{c:Cx}{W W':Wd}{Kp:aJ}{env:Env}{m:List (Nat×MV)}{h h':Heap}(f:Fm c W Kp env m h)(le:W.le W')(ho:∀b,FA c env b→W'.own b=none∧W'.F b=none)
  (k:∀b o,(FA c env b∨(Kp b).isSome=true)→h.get? b=some o→∃o',h'.get? b=some o'∧UpS o o'):Fm c W' Kp env m h':=by
 refine Zxa f.ns fun mm hns hm=>?_
 refine eH hns fun o es ep e hd r=>?_
 refine⟨fun b hb=>⟨(ho b hb).1,(ho b hb).2,(f.out b hb).2.2⟩,⟨mm,?_,fun x v a b=>?_⟩,fun x v a b=>?_,fun x a=>?_,f.apart,f.free⟩
 ·refine Zxa (k _ _ (.inl (.inl rfl)) e) fun o' e' q=>?_
  exact⟨o',es,ep,e',q.data.1.trans hd,r⟩
 ·refine Zxa (hm x v a b) fun u p q=>?_;exact⟨u,p,q.mono le⟩
 ·refine cG (f.cell x v a b) fun b' u p zq1 r=>?_;refine Zxa zq1 fun o' q1 q2=>?_
  have hb':FA c env b'∨(Kp b').isSome=true:=by
   rcases b with b|b
   ·exact .inl (.inr ⟨x,b,p⟩)
   ·refine bt (f.free x b) fun b'' o'' p' q'=>?_
    rw[p] at p';obtain rfl:=qa1 p'
    exact .inr (by rw[q'];rfl)
  refine Zxa (k _ _ hb' q1) fun o2 e2 q=>?_
  exact⟨b',u,p,⟨o2,e2,q.data.1.trans q2⟩,r.mono le⟩
 ·refine bt (f.own x a) fun b' u p zq1=>?_;refine Zxa zq1 fun o' q1 q2=>?_
  refine Zxa (k _ _ (.inl (.inr ⟨x,a,p⟩)) q1) fun o2 e2 q=>?_
  exact⟨b',u,p,⟨o2,e2,q.data.1.trans q2⟩⟩
structure AS where
 H:Tag→Option MObj
 nx:Nat
 m:List (Nat×MV)
structure InvF(c:Cx)(W:Wd)(Kp:aJ)(env:Env)(σ:AS)(s:Shared):Prop where
 inv:Inv c W Kp σ.H σ.nx s
 fm:Fm c W Kp env σ.m s.heap
theorem Fm.lt{c:Cx}{W:Wd}{Kp:aJ}{env:Env}{m:List (Nat×MV)}{h:Heap}(f:Fm c W Kp env m h){b:Addr}(hb:FA c env b):b<h.objs.size:=by
 rcases hb with rfl|⟨x,hx,hl⟩
 ·refine Zxa f.ns fun mm hns _=>?_;exact hns.lt
 ·refine bt (f.own x hx) fun b' u p q=>?_
  rw[hl] at p;obtain rfl:=qa1 p;exact q.lt
structure AOK(c:Cx)(lv:Nat)(A:Around)(Kp:aJ)(env:Env):Prop where
 depth:A.depth+8*lv<900
 units:A.units+40*lv<9000
 handled:A.handled=none
 frames:∃fr,A.frames=some fr∧∀e∈fr,e.scope.kind≠.module∧∃L,e.frame=some L∧c.B.get? L=none∧(L=env.locals∨∃o,Kp L=some (o,true)∧∀vs,o.data≠.fields vs)
noncomputable abbrev MEx:=AS→(MV→AS→Prop)→Prop
noncomputable def PE(c:Cx)(W:Wd)(Kp:aJ)(env:Env)(Q:MV→AS→Prop)(v:Value)(s':Shared):Prop:=
 ∃W' mv σ',W.le W'∧InvF c W' Kp env σ' s'∧VR c.S W' v mv∧Q mv σ'
theorem PE.ex{c:Cx}{W:Wd}{Kp:aJ}{env:Env}{Q:MV→AS→Prop}{v:Value}{s:Shared}{p:Prop}(z:PE c W Kp env Q v s)(k:∀W' y σ',W.le W'→InvF c W' Kp env σ' s→VR c.S W' v y→Q y σ'→p):p:=
 by refine cS z fun W' y σ' a b d e=>?_;exact k W' y σ' a b d e
noncomputable def CE(c:Cx)(sc:Scope)(lv:Nat)(e:Expr)(f:MEx):Prop:=
 ∀(env:Env)(A:Around)(W:Wd)(Kp:aJ)(σ:AS)(s:Shared)(Q:MV→AS→Prop)(E:Value→Shared→Prop),
  env.scope=sc→EOK env→AOK c lv A Kp env→InvF c W Kp env σ s→f σ Q→wpAny c.M A (eval e env) (PE c W Kp env Q) E s
theorem PE.here{c:Cx}{W:Wd}{Kp:aJ}{env:Env}{Q:MV→AS→Prop}{v:Value}{mv:MV}{σ:AS}{s:Shared}(I:InvF c W Kp env σ s)(hv:VR c.S W v mv)(q:Q mv σ):PE c W Kp env Q v s:=
 ⟨W,mv,σ,.refl W,I,hv,q⟩
theorem PE.le{c:Cx}{W W':Wd}{Kp:aJ}{env:Env}{Q:MV→AS→Prop}{v:Value}{s:Shared}(le:W.le W')(x:PE c W' Kp env Q v s):PE c W Kp env Q v s:=by
 refine cS x fun W'' mv σ a b d e=>?_;exact⟨W'',mv,σ,le.trans a,b,d,e⟩
theorem InvF.tok{c:Cx}{W:Wd}{Kp:aJ}{env:Env}{σ:AS}{s:Shared}(I:InvF c W Kp env σ s)(t:Nat):InvF c W Kp env σ { s with toks:=t }:=⟨I.inv.tok t,I.fm⟩
theorem CE.use{c:Cx}{sc:Scope}{lv:Nat}{e:Expr}{f:MEx}(h:CE c sc lv e f){env:Env}{A:Around}{W:Wd}{Kp:aJ}{σ:AS}{s:Shared}{Q:MV→AS→Prop}{E:Value→Shared→Prop}{R:Value→Shared→Prop}
  (he:env.scope=sc)(hE:EOK env)(hA:AOK c lv A Kp env)(I:InvF c W Kp env σ s)(hf:f σ Q)
  (k:∀W' mv σ' v s',W.le W'→InvF c W' Kp env σ' s'→VR c.S W' v mv→Q mv σ'→R v s'):wpAny c.M A (eval e env) R E s:=
 qa6 (h env A W Kp σ s Q E he hE hA I hf) (fun v s' z0=>z0.ex fun W' mv σ' a b d q=>k W' mv σ' v s' a b d q) fun _ _ x=>x
section
variable {c:Cx}{sc:Scope}{lv:Nat}
noncomputable def ac(x:Nat):MEx:=fun σ Q=>∃v,σ.m.lookup x=some v∧Q v σ
theorem jiK{n:Str}{pos:Pos}(x:Nat)(hn:c.S x=n)(hk:sc.names.lookup n=some .local∨sc.names.lookup n=some .cell∨sc.names.lookup n=some .free)
  (hd:(n == ("__debug__" : Str))=false)(hc:(n == ("__classdict__" : Str))=false):CE c sc lv (.Name n pos) (ac x):=by
 subst hn
 intro env A W Kp σ s Q E he hE hA I zp2;refine Zxa zp2 fun v hv q=>?_
 subst he
 rcases hk with hk|hk|hk
 ·refine Zxa I.fm.ns fun mm hns hm=>?_
  refine Zxa (hm x v hv hk) fun u hu r=>?_
  exact wpAny_Name (wpAny_loadName_local hE.kind hk hns hu (PE.here I r q)) hd
 ·refine cG (I.fm.cell x v hv (.inl hk)) fun b u hl hi r=>?_
  exact wpAny_Name (wpAny_loadName_cell hE.kind hk hl hi (PE.here I r q)) hd
 ·refine cG (I.fm.cell x v hv (.inr hk)) fun b u hl hi r=>?_
  exact wpAny_Name (wpAny_loadName_free hE.kind hk hl hi (PE.here I r q) hc) hd
noncomputable def fi(v:Value):MEx:=fun σ Q=>Q (.raw v) σ
theorem c9{n:Str}{pos:Pos}{v:Value}(hk:sc.names.lookup n=some .globalImplicit)(hg:nsIn c.K mainGlobals n=some (some v))(hd:(n == ("__debug__" : Str))=false):CE c sc lv (.Name n pos) (fi v):=by
 intro env A W Kp σ s Q E he hE hA I q
 subst he
 refine Name_function_global hE.kind hk (loadGlobal_global (mg:=c.mg) (by rw[hE.globals];exact I.inv.glob) (mg_of c.X c.G hg) ?_) hd
 exact PE.here I (.raw v) q
theorem aR{n:Str}{pos:Pos}{v:Value}(hk:sc.names.lookup n=some .globalImplicit)(hg:nsIn c.K mainGlobals n=some none)(hb:bootBuiltins n=some v)(hn:n≠"__name__")(hd:(n == ("__debug__" : Str))=false):CE c sc lv (.Name n pos) (fi v):=by
 intro env A W Kp σ s Q E he hE hA I q
 subst he
 refine Name_function_global hE.kind hk (loadGlobal_builtin (mg:=c.mg) (mb:=c.mb) (by rw[hE.globals];exact I.inv.glob) (mg_none_of c.X c.G hg) (by rw[hE.builtins];exact I.inv.bns) ((c.bi n hn).trans hb) ?_) hd
 exact PE.here I (.raw v) q
noncomputable def ah(v:MV):MEx:=fun σ Q=>Q v σ
theorem bN{k:Nat}{pos:Pos}:CE c sc lv (.Constant .none k pos) (ah .none):=by
 intro env A W Kp σ s Q E he hE hA I q
 exact qa8 (PE.here I .none q)
theorem eM{b:Bool}{k:Nat}{pos:Pos}:CE c sc lv (.Constant (.bool b) k pos) (ah (.bool b)):=by
 intro env A W Kp σ s Q E he hE hA I q
 exact qa8 (PE.here I (.bool b) q)
theorem aP{i:Int}{k:Nat}{pos:Pos}:CE c sc lv (.Constant (.int i) k pos) (ah (.int i)):=by
 intro env A W Kp σ s Q E he hE hA I q
 exact wpAny_Constant_int (PE.here (I.tok _) (.int i _) q)
theorem CE_str{n:Str}{k:Nat}{pos:Pos}(x:Nat)(hn:c.S x=n):CE c sc lv (.Constant (.str n) k pos) (ah (.str x)):=by
 subst hn
 intro env A W Kp σ s Q E he hE hA I q
 exact wpAny_mkText (PE.here (I.tok _) (.str x _) q)
noncomputable def bK(f:Int→Int→Option Int)(a b:MEx):MEx:=fun σ Q=>a σ fun x σ1=>b σ1 fun y σ2=>∃i j r,x=.int i∧y=.int j∧f i j=some r∧Q (.int r) σ2
noncomputable def VRi(S:Nat→Str)(W:Wd)(v:Value)(x:MV):Prop:=MV.casesOn x (v=.none) (fun b=>v=.bool b) (fun i=>∃tk,v=.int i tk) (fun n=>∃tk,v=.str (S n) tk) (fun t=>∃a,v=.ref a∧W.ρ t=some a)
 (fun xs=>∃a vs n,v=.ref a∧W.F a=some (bS vs n)∧VRs S W vs xs∧xs.length≤100000) (fun xs=>∃a vs n,v=.ref a∧W.F a=some (eP vs n)∧VRs S W vs xs∧xs.length≤100000)
 (fun n=>∃a t u w,v=.ref a∧W.F a=some { cls:=.type "range",data:=.fields #[.int 0 t,.int n u,.int 1 w] })
 (fun b t=>∃a d,v=.ref a∧W.F a=some { cls:=.type (if b then "dict_items" else "dict_values"),data:=.fields #[.ref d] }∧W.ρ t=some d) (fun u=>v=u)
theorem VR.inv{S:Nat→Str}{W:Wd}{v:Value}{x:MV}(h:VR S W v x):VRi S W v x:=by
 cases h with
 |none=>exact rfl
 |bool b=>exact rfl
 |int i tk=>exact⟨tk,rfl⟩
 |str n tk=>exact⟨tk,rfl⟩
 |tag h=>exact⟨_,rfl,h⟩
 |lst h hv hl=>exact⟨_,_,_,rfl,h,hv,hl⟩
 |tup h hv hl=>exact⟨_,_,_,rfl,h,hv,hl⟩
 |rng h=>exact⟨_,_,_,_,rfl,h⟩
 |view h hd=>exact⟨_,_,rfl,h,hd⟩
 |raw v=>exact rfl
theorem VR.of_int{S:Nat→Str}{W:Wd}{v:Value}{i:Int}(h:VR S W v (.int i)):∃tk,v=.int i tk:=h.inv
theorem VR.of_str{S:Nat→Str}{W:Wd}{v:Value}{n:Nat}(h:VR S W v (.str n)):∃tk,v=.str (S n) tk:=h.inv
theorem VR.of_bool{S:Nat→Str}{W:Wd}{v:Value}{b:Bool}(h:VR S W v (.bool b)):v=.bool b:=h.inv
theorem VR.of_none{S:Nat→Str}{W:Wd}{v:Value}(h:VR S W v .none):v=.none:=h.inv
theorem VR.of_raw{S:Nat→Str}{W:Wd}{v u:Value}(h:VR S W v (.raw u)):v=u:=h.inv
theorem VR.of_tag{S:Nat→Str}{W:Wd}{v:Value}{t:Tag}(h:VR S W v (.tag t)):∃a,v=.ref a∧W.ρ t=some a:=h.inv
theorem VR.of_lst{S:Nat→Str}{W:Wd}{v:Value}{xs:List MV}(h:VR S W v (.lst xs)):∃a vs n,v=.ref a∧W.F a=some (bS vs n)∧VRs S W vs xs∧xs.length≤100000:=h.inv
theorem VR.of_tup{S:Nat→Str}{W:Wd}{v:Value}{xs:List MV}(h:VR S W v (.tup xs)):∃a vs n,v=.ref a∧W.F a=some (eP vs n)∧VRs S W vs xs∧xs.length≤100000:=h.inv
theorem CE.two{e1 e2:Expr}{a b:MEx}(h1:CE c sc lv e1 a)(h2:CE c sc lv e2 b){g:MV→MV→AS→(MV→AS→Prop)→Prop}{t:Value→Value→Sem Value}{e:Expr}
  (ht:∀env A R E s,wpAny c.M A (eval e1 env) (fun u s1=>wpAny c.M A (eval e2 env) (fun v s2=>wpAny c.M A (t u v) R E s2) E s1) E s→wpAny c.M A (eval e env) R E s)
  (op:∀env A W Kp σ s Q E u v x y,env.scope=sc→EOK env→AOK c lv A Kp env→InvF c W Kp env σ s→VR c.S W u x→VR c.S W v y→g x y σ Q→wpAny c.M A (t u v) (PE c W Kp env Q) E s) :
  CE c sc lv e (fun σ Q=>a σ fun x σ1=>b σ1 fun y σ2=>g x y σ2 Q):=by
 intro env A W Kp σ s Q E he hE hA I hf
 refine ht env A _ E s (h1.use he hE hA I hf fun W1 x σ1 u s1 le1 I1 r1 q1=>?_)
 refine h2.use he hE hA I1 q1 fun W2 y σ2 v s2 le2 I2 r2 q2=>?_
 exact qa6 (op env A W2 Kp σ2 s2 Q E u v x y he hE hA I2 (r1.mono le2) r2 q2) (fun _ _ z=>(z.le (le1.trans le2))) fun _ _ z=>z
theorem jfv{e1 e2:Expr}{o:Operator}{pos:Pos}{a b:MEx}{f:Int→Int→Option Int}(h1:CE c sc lv e1 a)(h2:CE c sc lv e2 b)
  (op:∀{A:Around}{E:Value→Shared→Prop}{s:Shared}{i j r:Int}{t u:Tok}{Q:Value→Shared→Prop},f i j=some r→A.units<cLine→(∀tk s',s'={ s with toks:=s'.toks }→Q (.int r tk) s')→wpAny c.M A (binaryOp o (.int i t) (.int j u)) Q E s) :
  CE c sc lv (.BinOp e1 o e2 pos) (bK f a b):=
 CE.two h1 h2 (fun _ _ _ _ _ h=>wpAny_BinOp h) fun env A W Kp σ s Q E u v x y he hE hA I hu hv zp3=>by
  refine cS zp3 fun i j r hx hy hr q=>?_;subst hx hy
  refine Zx hu.of_int fun t zq1=>?_;obtain rfl:=zq1
  refine Zx hv.of_int fun t' zq1=>?_;obtain rfl:=zq1
  refine op hr (by have:=hA.units;rw[cLine_is];exact NB this rfl) fun tk s' hs=>?_
  rw[hs]
  exact PE.here (I.tok _) (.int r tk) q
end
end
section
theorem jdw{n:Nat}(h:n≤100000):n≤sizeLine:=by rw[sizeLine_eq];exact Nk1 0 100000 0 16777216 h rfl
noncomputable def jdM:Option MObj→Option (List MV)
 |some (.list xs)=>some xs
 |some (.dict _ _)=>none
 |some (.set _)=>none
 |some (.inst _ _)=>none
 |some (.obj _ _)=>none
 |none=>none
noncomputable def bV(H:Tag→Option MObj)(v:MV):Option (List MV):=MV.casesOn v none (fun _=>none) (fun _=>none) (fun _=>none) (fun t=>jdM (H t)) (fun xs=>some xs) (fun _=>none) (fun _=>none) (fun _ _=>none) (fun _=>none)
theorem bh{H:Tag→Option MObj}{t:Tag}{xs:List MV}(h:H t=some (.list xs)):bV H (.tag t)=some xs:=by show jdM (H t)=_;rw[h];rfl
theorem cI{c:Cx}{W:Wd}{Kp:aJ}{H:Tag→Option MObj}{nx:Nat}{s:Shared}{v:Value}{x:MV}{xs:List MV}(I:Inv c W Kp H nx s)(r:VR c.S W v x)(e:bV H x=some xs) :
  ∃a vs n,v=.ref a∧s.heap.get? a=some (bS vs n)∧VRs c.S W vs xs∧xs.length≤100000:=by
 cases x<;>first|exact Xns e|skip
 ·rename_i t
  cases q:H t with
  |none=>dsimp only[bV] at e;rw[q] at e;exact Xns e
  |some o=>
   dsimp only[bV] at e;rw[q] at e
   cases o<;>first|exact Xns e|skip
   obtain rfl:=qa1 e
   refine Zxa r.of_tag fun a zq1 ha=>?_;obtain rfl:=zq1
   refine jbH (I.objs _ _ q) fun a' vs n r' _ g hv hl=>?_
   rw[ha] at r';obtain rfl:=qa1 r'
   exact⟨a,vs,n,rfl,g,hv,hl⟩
 ·obtain rfl:=qa1 e
  refine bZ r.of_lst fun a vs n zq1 zq2=>?_;obtain rfl:=zq1;refine Zaa zq2 fun h hv hl=>?_
  exact⟨a,vs,n,rfl,I.frz _ _ h,hv,hl⟩
theorem br{h:Heap}{a:Addr}{vs:List Value}{n:Nat}(g:h.get? a=some (bS vs n)):h.IsList a vs.toArray:=⟨_,g,rfl,n,rfl⟩
noncomputable def newL(xs:List MV)(σ:AS)(Q:MV→AS→Prop):Prop:=
 xs.length≤100000∧(Q (.lst xs) σ∨∃t,ja' σ.H σ.nx t∧Q (.tag t) { σ with H:=ay σ.H t (.list xs),nx:=cw σ.nx t })
noncomputable def newT(xs:List MV)(σ:AS)(Q:MV→AS→Prop):Prop:=xs.length≤100000∧Q (.tup xs) σ
section
variable {c:Cx}{W:Wd}{Kp:aJ}{env:Env}{σ:AS}{s:Shared}{Q:MV→AS→Prop}
theorem Fm.alloc{W':Wd}{h':Heap}(f:Fm c W Kp env σ.m s.heap)(le:W.le W')(hW:∀b,b<s.heap.objs.size→W'.own b=W.own b∧W'.F b=W.F b)(k:∀b ob,s.heap.get? b=some ob→h'.get? b=some ob) :
  Fm c W' Kp env σ.m h':=
 f.move le (fun b hb=>by rw[(hW b (f.lt hb)).1,(hW b (f.lt hb)).2];exact⟨(f.out b hb).1,(f.out b hb).2.1⟩) fun b o _ e=>k b o e
theorem Wd.add_old{t:Tag}{a:Addr}{as:List Addr}{n:Nat}(ha:n≤a)(has:∀b∈as,n≤b):∀b,b<n→(W.add t a as).own b=W.own b∧(W.add t a as).F b=W.F b:=fun b hb=>by
 refine⟨?_,rfl⟩
 show(if b=a∨b∈as then some t else W.own b)=W.own b
 rw[if_neg]
 rintro (z|z)
 ·exact Nk3 0 0 1 0 (Nk2 0 0 0 0 0 0 ha (qa3 z.symm) rfl) hb rfl
 ·have:=has _ z;exact Nat.not_le_of_lt hb this
theorem Wd.freeze_old{a:Addr}{o:Obj}{n:Nat}(ha:n≤a):∀b,b<n→(W.freeze a o).own b=W.own b∧(W.freeze a o).F b=W.F b:=fun b hb=>by
 refine⟨rfl,?_⟩
 show(if b=a then some o else W.F b)=W.F b
 rw[if_neg (qa7 (qb1 hb ha))]
theorem PE.newL{a:Addr}{vs:List Value}{xs:List MV}{n tk:Nat}{h':Heap}(I:InvF c W Kp env σ s)(hv:VRs c.S W vs xs)(q:newL xs σ Q)(ha:s.heap.objs.size≤a)(g:h'.get? a=some (bS vs n))
  (k:∀b ob,s.heap.get? b=some ob→h'.get? b=some ob):PE c W Kp env Q (.ref a) { s with heap:=h',toks:=tk }:=by
 have hlen:=q.1
 rcases q.2 with q|⟨t,ft,q⟩
 ·have le:W.le (W.freeze a (bS vs n)):=Wd.le_freeze (I.inv.fresh_F ha)
  refine⟨W.freeze a (bS vs n),.lst xs,σ,le,⟨I.inv.freeze ha g ⟨_,_,rfl⟩ k,I.fm.alloc le (Wd.freeze_old ha) k⟩,.lst (n:=n) ?_ (hv.mono le) hlen,q⟩
  show(if a=a then _ else _)=_
  rw[if_pos rfl]
 ·have le:W.le (W.add t a []):=Wd.le_add I.inv ft ha (fun _ h=>nomatch h)
  have I':=I.inv.alloc (o:=.list xs) (as:=[]) (tk:=tk) ft ha (fun _ h=>nomatch h) ⟨_,g⟩ (fun _ h=>nomatch h) k ⟨a,vs,n,by show(if t=t then _ else _)=_;rw[if_pos rfl],by show(if a=a∨a∈[] then _ else _)=_;rw[if_pos (.inl rfl)],g,hv.mono le,hlen⟩
  refine⟨W.add t a [],.tag t,{ σ with H:=ay σ.H t (.list xs),nx:=cw σ.nx t },le,⟨I',I.fm.alloc le (Wd.add_old ha (fun _ h=>nomatch h)) k⟩,.tag ?_,q⟩
  show(if t=t then _ else _)=_
  rw[if_pos rfl]
theorem PE.newT{a:Addr}{vs:List Value}{xs:List MV}{n tk:Nat}{h':Heap}(I:InvF c W Kp env σ s)(hv:VRs c.S W vs xs)(q:newT xs σ Q)(ha:s.heap.objs.size≤a)(g:h'.get? a=some (eP vs n))
  (k:∀b ob,s.heap.get? b=some ob→h'.get? b=some ob):PE c W Kp env Q (.ref a) { s with heap:=h',toks:=tk }:=by
 have le:W.le (W.freeze a (eP vs n)):=Wd.le_freeze (I.inv.fresh_F ha)
 refine⟨W.freeze a (eP vs n),.tup xs,σ,le,⟨I.inv.freeze ha g ⟨_,_,rfl⟩ k,I.fm.alloc le (Wd.freeze_old ha) k⟩,.tup (n:=n) ?_ (hv.mono le) q.1,q.2⟩
 show(if a=a then _ else _)=_
 rw[if_pos rfl]
theorem PE.pushL{vs:List Value}{xs:List MV}{n tk:Nat}(I:InvF c W Kp env σ s)(hv:VRs c.S W vs xs)(q:Mini.newL xs σ Q) :
  PE c W Kp env Q (.ref s.heap.objs.size) { s with heap:=s.heap.push (bS vs n),toks:=tk }:=
 .newL I hv q (qa9 _) (Heap.get?_push_size _ rfl) fun _ _ e=>qb2 _ e
theorem PE.pushT{vs:List Value}{xs:List MV}{n tk:Nat}(I:InvF c W Kp env σ s)(hv:VRs c.S W vs xs)(q:Mini.newT xs σ Q) :
  PE c W Kp env Q (.ref s.heap.objs.size) { s with heap:=s.heap.push (eP vs n),toks:=tk }:=
 .newT I hv q (qa9 _) (Heap.get?_push_size _ rfl) fun _ _ e=>qb2 _ e
end
noncomputable def cr:List MEx→AS→(List MV→AS→Prop)→Prop
 |[],σ,Q=>Q [] σ
 |f::fs,σ,Q=>f σ fun v σ1=>cr fs σ1 fun vs σ2=>Q (v::vs) σ2
noncomputable def PEs(c:Cx)(W:Wd)(Kp:aJ)(env:Env)(Q:List MV→AS→Prop)(vs:List Value)(s':Shared):Prop:=
 ∃W' xs σ',W.le W'∧InvF c W' Kp env σ' s'∧VRs c.S W' vs xs∧Q xs σ'
theorem PEs.ex{c:Cx}{W:Wd}{Kp:aJ}{env:Env}{Q:List MV→AS→Prop}{vs:List Value}{s:Shared}{p:Prop}(z:PEs c W Kp env Q vs s)(k:∀W' xs σ',W.le W'→InvF c W' Kp env σ' s→VRs c.S W' vs xs→Q xs σ'→p):p:=
 by refine cS z fun W' y σ' a b d e=>?_;exact k W' y σ' a b d e
inductive CEs(c:Cx)(sc:Scope)(lv:Nat):List Expr→List MEx→Prop
 |nil:CEs c sc lv [] []
 |cons {e:Expr}{es:List Expr}{f:MEx}{fs:List MEx}(h:CE c sc lv e f)(t:CEs c sc lv es fs)(hs:∀rest env,starEach (e::rest) env=(false,eval e env)::starEach rest env:=by intro _ _;rfl):CEs c sc lv (e::es) (f::fs)
section
variable {c:Cx}{sc:Scope}{lv:Nat}
theorem CEs.spliced{pos:Pos}{es:List Expr}{fs:List MEx}(h:CEs c sc lv es fs){env:Env}{A:Around}{Kp:aJ}{E:Value→Shared→Prop}(he:env.scope=sc)(hE:EOK env)(hA:AOK c lv A Kp env) :
  ∀{W:Wd}{σ:AS}{s:Shared}{Q:List MV→AS→Prop},InvF c W Kp env σ s→cr fs σ Q→wpAny c.M A (PySem.spliced (backTo pos (starEach es env))) (PEs c W Kp env Q) E s:=by
 induction h with
 |nil=>exact fun I q=>qa8 ⟨_,[],_,.refl _,I,.nil,q⟩
 |cons h t hs ih=>
  intro W σ s Q I q
  rw[hs]
  refine qa5 (h.use he hE hA I q fun W1 x σ1 v s1 le1 I1 r1 q1=>?_)
  refine qa5 (qa8 (qa5 (wpAny_holding (qa6 (ih I1 q1) (fun vs s2 z=>?_) fun _ _ z=>z))))
  refine cS z fun W2 xs σ2 le2 I2 r2 q2=>?_
  exact qa8 ⟨W2,x::xs,σ2,le1.trans le2,I2,.cons (r1.mono le2) r2,q2⟩
noncomputable def bc(fs:List MEx):MEx:=fun σ Q=>cr fs σ fun xs σ1=>newL xs σ1 Q
theorem bB{es:List Expr}{fs:List MEx}{pos:Pos}(h:CEs c sc lv es fs):CE c sc lv (.List es pos) (bc fs):=by
 intro env A W Kp σ s Q E he hE hA I q
 refine List_ (qa6 (h.spliced he hE hA I q) (fun vs s1 z0=>z0.ex fun W1 xs σ1 le1 I1 r1 q1=>?_) fun _ _ z=>z)
 refine wpAny_newList ?_ (jdw (by rw[r1.length];exact q1.1))
 exact(PE.pushL (n:=0) I1 r1 q1).le le1
noncomputable def dg(fs:List MEx):MEx:=fun σ Q=>cr fs σ fun xs σ1=>newT xs σ1 Q
theorem d6{es:List Expr}{fs:List MEx}{k:Nat}{pos:Pos}(h:CEs c sc lv es fs):CE c sc lv (.Tuple es k pos) (dg fs):=by
 intro env A W Kp σ s Q E he hE hA I q
 refine Tuple_ (qa6 (h.spliced he hE hA I q) (fun vs s1 z0=>z0.ex fun W1 xs σ1 le1 I1 r1 q1=>?_) fun _ _ z=>z)
 refine wpAny_newTuple ?_ (jdw (by rw[r1.length];exact q1.1))
 exact(PE.pushT (n:=0) I1 r1 q1).le le1
end
noncomputable def ar(es:List (Nat×MV))(n:Nat)(x:MV):List (Nat×MV):=if es.any (fun p=>p.1 == n) then es.map (fun p=>if p.1 == n then(p.1,x) else p) else es++[(n,x)]
noncomputable def adel(es:List (Nat×MV))(n:Nat):List (Nat×MV):=es.filter fun p=>!(p.1 == n)
theorem Cx.dec(c:Cx)(k n:Nat):decide (c.S k=c.S n)=(k == n):=by
 by_cases q:k=n
 ·rw[q,decide_eq_true rfl,beq_self_eq_true]
 ·rw[decide_eq_false fun e=>q (c.inj _ _ e),beq_eq_false_iff_ne.mpr q]
theorem KVR.at{c:Cx}{W:Wd}{kvs:List (Str×Value)}{es:List (Nat×MV)}(h:KVR c.S W kvs es)(n:Nat):(es.lookup n=none∧valueAt kvs (c.S n)=none)∨∃x v,es.lookup n=some x∧valueAt kvs (c.S n)=some v∧VR c.S W v x:=by
 induction h with
 |nil=>exact .inl ⟨rfl,rfl⟩
 |cons h hs ih=>
  rename_i k v x kvs es
  unfold valueAt at ih ⊢
  rw[List.lookup_cons,List.find?_cons,c.dec k n,show(n == k)=(k == n) from Bool.beq_comm]
  cases k == n with
  |true=>exact .inr ⟨x,v,rfl,rfl,h⟩
  |false=>exact ih
theorem KVR.some{c:Cx}{W:Wd}{kvs:List (Str×Value)}{es:List (Nat×MV)}{n:Nat}{x:MV}(h:KVR c.S W kvs es)(e:es.lookup n=some x):∃v,valueAt kvs (c.S n)=some v∧VR c.S W v x:=by
 rcases h.at n with⟨q,_⟩|⟨x',v,q,q',r⟩
 ·rw[e] at q;exact Xsn q
 ·rw[e] at q;obtain rfl:=qa1 q;exact⟨v,q',r⟩
theorem KVR.none{c:Cx}{W:Wd}{kvs:List (Str×Value)}{es:List (Nat×MV)}{n:Nat}(h:KVR c.S W kvs es)(e:es.lookup n=none):valueAt kvs (c.S n)=none:=by
 rcases h.at n with⟨_,q⟩|⟨x',v,q,_⟩
 ·exact q
 ·rw[e] at q;exact Xns q
theorem KVR.append{S:Nat→Str}{W:Wd}{kvs:List (Str×Value)}{es:List (Nat×MV)}{kvs':List (Str×Value)}{es':List (Nat×MV)}(h:KVR S W kvs es)(h':KVR S W kvs' es'):KVR S W (kvs++kvs') (es++es'):=by
 induction h with
 |nil=>exact h'
 |cons h _ ih=>exact .cons h ih
theorem KVR.any{c:Cx}{W:Wd}(n:Nat){kvs:List (Str×Value)}{es:List (Nat×MV)}(h:KVR c.S W kvs es):(kvs.any fun kv=>decide (kv.1=c.S n))=es.any fun p=>p.1 == n:=by
 induction h with
 |nil=>rfl
 |cons h _ ih=>rw[List.any_cons,List.any_cons,ih,c.dec]
theorem ite_S(c:Cx){α:Type}(k n:Nat)(a b:α):(if c.S k=c.S n then a else b)=if (k == n)=true then a else b:=by
 rw[←c.dec]
 by_cases q:c.S k=c.S n
 ·rw[if_pos q,if_pos (decide_eq_true q)]
 ·rw[if_neg q,if_neg fun e=>q (of_decide_eq_true e)]
theorem KVR.setAll{c:Cx}{W:Wd}(n:Nat){v:Value}{x:MV}(r:VR c.S W v x){kvs:List (Str×Value)}{es:List (Nat×MV)}(h:KVR c.S W kvs es) :
  KVR c.S W (kvs.map fun kv=>if kv.1=c.S n then(kv.1,v) else kv) (es.map fun p=>if p.1 == n then(p.1,x) else p):=by
 induction h with
 |nil=>exact .nil
 |cons h hs ih=>
  rename_i k v' x' kvs es
  rw[List.map_cons,List.map_cons]
  dsimp only
  rw[ite_S]
  cases k == n with
  |true=>exact .cons r ih
  |false=>exact .cons h ih
theorem KVR.put{c:Cx}{W:Wd}{kvs:List (Str×Value)}{es:List (Nat×MV)}(n:Nat){v:Value}{x:MV}(h:KVR c.S W kvs es)(r:VR c.S W v x):KVR c.S W (stored kvs (c.S n) v) (ar es n x):=by
 unfold stored ar
 rw[h.any n]
 split
 ·exact h.setAll n r
 ·exact h.append (.cons r .nil)
theorem KVR.del{c:Cx}{W:Wd}(n:Nat){kvs:List (Str×Value)}{es:List (Nat×MV)}(h:KVR c.S W kvs es):KVR c.S W (without kvs (c.S n)) (adel es n):=by
 induction h with
 |nil=>exact .nil
 |cons h hs ih=>
  rename_i k v x kvs es
  unfold without adel at ih ⊢
  rw[List.filter_cons,List.filter_cons]
  dsimp only
  rw[show decide (c.S k≠c.S n)=!(k == n) by rw[←c.dec,decide_not]]
  cases k == n with
  |true=>exact ih
  |false=>exact .cons h ih
theorem jhe{c:Cx}{o:Obj}{ents:Array DictEntry}{ep:Nat}{kvs:List (Str×Value)}(hd:o.data=.dict ents ep)(hk:KeysOf c.knd ents)(hp:Pairs c.knd ents.toList kvs)(name:Str):lookIn name o=some (valueAt kvs name):=by
 have e:=hp.find name
 have q:(fun d:DictEntry=>c.knd.is name d.key)=fun d=>d.key.isStr name:=funext fun d=>(isStr_of name d.key).symm
 rw[q] at e
 unfold lookIn
 rw[hd]
 dsimp only
 rw[←e]
 cases h:ents.toList.find? (fun d=>d.key.isStr name) with
 |some d=>rfl
 |none=>
  have:ents.toList.any (·.refKey)=false:=by
   rw[List.any_eq_false]
   intro d hm
   refine Zxa (hk d (Array.mem_toList_iff.mp hm)) fun k h1 _=>?_
   have:Value.isStrOf k d.key=true:=h1
   refine Zx (Value.isStrOf_shape this) fun t ht=>?_
   simp[DictEntry.refKey,ht]
  simp only[this,Bool.false_eq_true,if_false,Option.map_none]
structure jjY(K:Frag)(C:Addr):Prop where
 ga:findIn K (.ref C) "__getattribute__"=some (some (.builtin "object.__getattribute__"))
 sa:findIn K (.ref C) "__setattr__"=some (some (.builtin "object.__setattr__"))
 gat:findIn K (.ref C) "__getattr__"=some none
 bo:findIn K (.ref C) "__bool__"=some none
 le:findIn K (.ref C) "__len__"=some none
 pl:plainOver K C=true
 make:makesIn K C=true
 cd:∃cd,clsIn K C=some cd∧cd.hasDict=true
theorem Cx.cls_facts(c:Cx){C:Nat}(h:C<4):jjY c.K (c.cls C):=by
 have e:=c.hcls C h
 unfold jfU at e
 simp only[Bool.and_eq_true,beq_iff_eq] at e
 refine Za e fun zq1 e8=>?_;refine Za zq1 fun zq1 e7=>?_;obtain⟨⟨⟨⟨⟨e1,e2⟩,e3⟩,e4⟩,e5⟩,e6⟩:=zq1
 exact⟨e2,e3,e4,e5,e6,e7,e8,any_some e1⟩
structure InstH(c:Cx)(W:Wd)(h:Heap)(t:Tag)(a d:Addr)(C:Nat)(es:List (Nat×MV))(kvs:List (Str×Value))(od:Obj):Prop where
 at_:h.get? a=some (instObj (c.cls C) d)
 dict:h.DictOf c.knd d kvs
 kv:KVR c.S W kvs es
 inst:InstAt h a (instObj (c.cls C) d) (c.cls C) (some od)
 look:∀name,lookIn name od=some (valueAt kvs name)
 owd:W.own d=some t
 C4:C<4
 len:es.length≤1000
theorem jci{c:Cx}{W:Wd}{Kp:aJ}{H:Tag→Option MObj}{nx:Nat}{s:Shared}{v:Value}{t:Tag}{C:Nat}{es:List (Nat×MV)}(I:Inv c W Kp H nx s)(r:VR c.S W v (.tag t))(e:H t=some (.inst C es)) :
  ∃a d kvs od,v=.ref a∧W.ρ t=some a∧W.own a=some t∧InstH c W s.heap t a d C es kvs od:=by
 refine Zxa r.of_tag fun a zq1 ha=>?_;obtain rfl:=zq1
 refine jaY (I.objs _ _ e) fun a' d kvs r' o1 o2 g hd zq1=>?_;refine Zaa zq1 fun kv hC hlen=>?_
 rw[ha] at r';obtain rfl:=qa1 r'
 have hd':=hd
 refine jaY hd fun o ents ep e1 e2 e3 e4 e5 e6=>?_
 exact⟨a,d,kvs,o,rfl,ha,o1,g,hd',kv,⟨g,rfl,rfl,e1⟩,jhe e3 e4 e5,o2,hC,hlen⟩
noncomputable def okV:MV→Bool
 |.raw v=>handedIn v
 |_=>true
theorem VR.handed{S:Nat→Str}{W:Wd}{v:Value}{x:MV}(r:VR S W v x)(h:okV x=true):handedIn v=true:=by
 cases r<;>first|rfl|exact h
theorem jgr{c:Cx}{C n:Nat}{od:Obj}{v:Value}(hC:C<4)(hn:n∈d9 C)(hl:lookIn (c.S n) od=some (some v)):findObj c.K (c.cls C) (some od) (c.S n)=some (.value v):=by
 refine Zxa ((c.cls_facts hC).cd) fun cd h1 h2=>?_
 unfold findObj
 rw[h1,c.hattr C n hn]
 simp only[Option.bind_some]
 unfold W.ownOf
 rw[h2,if_pos rfl]
 dsimp only
 rw[hl]
 rfl
section
variable {c:Cx}{sc:Scope}{lv:Nat}
noncomputable def getA(v:MV)(n:Nat)(σ:AS)(Q:MV→AS→Prop):Prop:=∃t C es x,v=.tag t∧σ.H t=some (.inst C es)∧n∈d9 C∧es.lookup n=some x∧okV x=true∧Q x σ
noncomputable def aq(a:MEx)(n:Nat):MEx:=fun σ Q=>a σ fun v σ1=>getA v n σ1 Q
theorem jj5{A:Around}{W:Wd}{Kp:aJ}{env:Env}{σ:AS}{s:Shared}{Q:MV→AS→Prop}{E:Value→Shared→Prop}{v:Value}{x:MV}{n:Nat}{b:Bool}(I:InvF c W Kp env σ s)(r:VR c.S W v x)(q:getA x n σ Q) :
  wpAny c.M A (getAttr v (c.S n) b) (PE c W Kp env Q) E s:=by
 refine dh q fun t C es y zq1 zq2=>?_;obtain rfl:=zq1;refine fc zq2 fun h1 h2 h3 h4 q=>?_
 refine dh (jci I.inv r h1) fun a d kvs od zq1 zq2=>?_;obtain rfl:=zq1;refine Zaa zq2 fun _ _ X=>?_
 refine Zxa (X.kv.some h3) fun u hu ru=>?_
 refine get_value I.inv.KIn X.inst (c.cls_facts X.C4).ga (jgr X.C4 h2 ((X.look _).trans (by rw[hu]))) (ru.handed h4) ?_
 exact PE.here (I.tok _) ru q
theorem ax{e:Expr}{a:MEx}{x:Str}{pos:Pos}(n:Nat)(hn:c.S n=x)(h:CE c sc lv e a)
  (hb:∀env:Env,eval (.Attribute e x pos) env=(do
   let o ←eval e env
   standAt pos.atName
   let r ←holding [o] (getAttr o x true)
   letTemporaryGo e o r
   pure r)):CE c sc lv (.Attribute e x pos) (aq a n):=by
 subst hn
 intro env A W Kp σ s Q E he hE hA I q
 refine Attribute_any_ (h.use he hE hA I q fun W1 y σ1 v s1 le1 I1 r1 q1=>?_) (hb env)
 exact qa6 (jj5 I1 r1 q1) (fun _ _ z=>z.le le1) fun _ _ z=>z
end
end
section
noncomputable def cv(H:Tag→Option MObj):MV→Option (List MV)
 |.tup xs=>some xs
 |v=>bV H v
noncomputable def jcS(n:Nat):Option MObj→Option MV
 |some (.dict es _)=>es.lookup n
 |some (.list _)=>none
 |some (.set _)=>none
 |some (.inst _ _)=>none
 |some (.obj _ _)=>none
 |none=>none
noncomputable def jfT(H:Tag→Option MObj)(n:Nat)(v:MV):Option MV:=MV.casesOn v none (fun _=>none) (fun _=>none) (fun _=>none) (fun t=>jcS n (H t)) (fun _=>none) (fun _=>none) (fun _=>none) (fun _ _=>none) (fun _=>none)
noncomputable def eW(H:Tag→Option MObj)(v w:MV):Option MV:=MV.casesOn w none (fun _=>none)
 (fun k=>match cv H v with
  |some xs=>if 0≤k then xs[k.toNat]? else none
  |none=>none) (fun n=>jfT H n v) (fun _=>none) (fun _=>none) (fun _=>none) (fun _=>none) (fun _ _=>none) (fun _=>none)
theorem jfl{c:Cx}{W:Wd}{Kp:aJ}{H:Tag→Option MObj}{nx:Nat}{s:Shared}{v:Value}{x:MV}{xs:List MV}(I:Inv c W Kp H nx s)(r:VR c.S W v x)(e:cv H x=some xs) :
  ∃a vs n,v=.ref a∧(s.heap.get? a=some (bS vs n)∨s.heap.get? a=some (eP vs n))∧VRs c.S W vs xs∧xs.length≤100000:=by
 unfold cv at e
 split at e
 ·obtain rfl:=qa1 e
  refine bZ r.of_tup fun a vs n zq1 zq2=>?_;obtain rfl:=zq1;refine Zaa zq2 fun h hv hl=>?_
  exact⟨a,vs,n,rfl,.inr (I.frz _ _ h),hv,hl⟩
 ·refine cS (cI I r e) fun a vs n h1 h2 h3 h4=>?_
  exact⟨a,vs,n,h1,.inl h2,h3,h4⟩
theorem jbh{h:Heap}{a:Addr}{vs:List Value}{n:Nat}(g:h.get? a=some (eP vs n)):IsTup h a vs.toArray:=⟨_,g,rfl,n,rfl⟩
theorem jbN{c:Cx}{W:Wd}{Kp:aJ}{H:Tag→Option MObj}{nx:Nat}{s:Shared}{v:Value}{t:Tag}{es:List (Nat×MV)}{eo:Option Obj}(I:Inv c W Kp H nx s)(r:VR c.S W v (.tag t))(e:H t=some (.dict es eo)) :
  ∃a kvs,v=.ref a∧W.ρ t=some a∧W.own a=some t∧s.heap.DictOf c.knd a kvs∧KVR c.S W kvs es∧es.length≤100000∧(a == sysModules)=false:=by
 refine Zxa r.of_tag fun a zq1 ha=>?_;obtain rfl:=zq1
 refine jbI (I.objs _ _ e) fun a' kvs r' o1 hd kv hl _=>?_
 rw[ha] at r';obtain rfl:=qa1 r'
 refine⟨a,kvs,rfl,ha,o1,hd,kv,hl,?_⟩
 refine Zx c.sm fun o ho=>?_
 exact beq_eq_false_iff_ne.mpr fun e=>by rw[e,I.kpOwn _ _ (I.base _ _ ho)] at o1;exact Xns o1
theorem jd8{c:Cx}{W:Wd}{Kp:aJ}{H:Tag→Option MObj}{nx:Nat}{s:Shared}{v:Value}{t:Tag}{xs:List Nat}(I:Inv c W Kp H nx s)(r:VR c.S W v (.tag t))(e:H t=some (.set xs)) :
  ∃a,v=.ref a∧W.ρ t=some a∧W.own a=some t∧s.heap.SetOf c.knd a (fun k=>xs.any fun n=>decide (c.S n=k)) xs.length∧xs.length≤1000:=by
 refine Zxa r.of_tag fun a zq1 ha=>?_;obtain rfl:=zq1
 refine fq (I.objs _ _ e) fun a' r' o1 hd hl=>?_
 rw[ha] at r';obtain rfl:=qa1 r'
 exact⟨a,rfl,ha,o1,hd,hl⟩
theorem eE(c:Cx)(n:Nat)(tk:Tok):c.knd.is (c.S n) (.str (c.S n) tk)=true:=strKind_is c.prog c.w (c.S n) tk
theorem jei{k:Int}{n:Nat}(h0:0≤k)(h:k.toNat<n):seqIndex? k n=some k.toNat:=by
 unfold seqIndex?
 have h2:¬ k<0:=Int.not_lt.mpr h0
 simp only[h2,if_false]
 rw[if_pos (by simp;omega)]
section
variable {c:Cx}{sc:Scope}{lv:Nat}
noncomputable def getI(v w:MV)(σ:AS)(Q:MV→AS→Prop):Prop:=∃x,eW σ.H v w=some x∧Q x σ
noncomputable def aF(a i:MEx):MEx:=fun σ Q=>a σ fun v σ1=>i σ1 fun w σ2=>getI v w σ2 Q
theorem aZ{e i:Expr}{a b:MEx}{pos:Pos}(h1:CE c sc lv e a)(h2:CE c sc lv i b)
  (hs:∀o k,subscripted i false o k=operate [o,k] (getItem o k):=by intro _ _;rfl):CE c sc lv (.Subscript e i pos) (aF a b):=
 CE.two h1 h2 (t:=subscriptTail e i) (fun _ _ _ _ _ h=>Subscript_ h) fun env A W Kp σ s Q E u v x y he hE hA I hu hv zp1=>by
  refine Zxa zp1 fun z hz q=>?_
  cases y<;>first|exact Xns hz|skip
  ·refine Zx hv.of_int fun tk zq1=>?_;obtain rfl:=zq1
   dsimp only[eW] at hz
   split at hz
   ·rename_i xs hq
    split at hz
    ·rename_i h0
     refine bZ (jfl I.inv hu hq) fun a vs n zq1 zq2=>?_;obtain rfl:=zq1;refine Zaa zq2 fun g hvs hl=>?_
     refine Zxa (hvs.get hz) fun w hw rw'=>?_
     have hlt:=(List.getElem?_eq_some_iff.mp hw).1
     rw[hvs.length] at hlt
     rcases g with g|g
     ·exact tail_any (br g).typeIs slot_list_getitem.lookup (wpAny_getItem_list (br g) h0 (sm3 hlt hl rfl) (by simpa using hw) (PE.here I rw' q)) (hs _ _)
     ·have hsz:vs.toArray.size=xs.length:=by simp[hvs.length]
      refine item_tupleT (jbh g) (by omega) (sm3 hlt hl rfl) ?_ hw (PE.here I rw' q) (hs _ _)
      exact jei h0 (by rw[hvs.length];exact hlt)
    ·exact Xns hz
   ·exact Xns hz
  ·refine Zx hv.of_str fun tk zq1=>?_;obtain rfl:=zq1
   cases x<;>first|exact Xns hz|skip
   rename_i t
   cases hq:σ.H t with
   |none=>dsimp only[eW,jfT] at hz;rw[hq] at hz;exact Xns hz
   |some o=>
    dsimp only[eW,jfT] at hz;rw[hq] at hz
    cases o<;>first|exact Xns hz|skip
    refine bt (jbN I.inv hu hq) fun a kvs zq1 zq2=>?_;obtain rfl:=zq1;refine dD zq2 fun _ _ hd kv hl hsm=>?_
    refine Zxa (kv.some hz) fun w hw rw'=>?_
    exact tail_any hd.typeIs slot_dict_getitem.lookup (wpAny_getItem_of (eE c _ tk) hd.mapOf hw (PE.here (I.tok _) rw' q)) (hs _ _)
noncomputable abbrev MT:=AS→(Bool→AS→Prop)→Prop
noncomputable def COp(c:Cx)(lv:Nat)(op:CmpOp)(g:MV→MV→MT):Prop:=
 ∀(env:Env)(A:Around)(W:Wd)(Kp:aJ)(σ:AS)(s:Shared)(Q:Bool→AS→Prop)(E:Value→Shared→Prop)(u v:Value)(x y:MV),EOK env→AOK c lv A Kp env→InvF c W Kp env σ s→VR c.S W u x→VR c.S W v y→g x y σ Q→
  wpAny c.M A (compareOp op u v) (fun r s'=>∃b,r=.bool b∧∃W' σ',W.le W'∧InvF c W' Kp env σ' s'∧Q b σ') E s
noncomputable def eG:MV→MV→Option Bool
 |.int i,.int j=>some (i == j)
 |.str a,.str b=>some (a == b)
 |.bool a,.bool b=>some (a == b)
 |.none,.none=>some true
 |.none,.str _=>some false
 |.str _,.none=>some false
 |.none,.int _=>some false
 |_,_=>none
theorem jfi(c:Cx)(a b:Nat):(c.S a == c.S b)=(a == b):=by
 by_cases h:a=b
 ·subst h;simp
 ·rw[beq_eq_false_iff_ne.mpr h,beq_eq_false_iff_ne.mpr fun e=>h (c.inj _ _ e)]
inductive FE:MV→MV→Bool→Prop
 |int (i j:Int):FE (.int i) (.int j) (i == j)
 |str (a b:Nat):FE (.str a) (.str b) (a == b)
 |bool (a b:Bool):FE (.bool a) (.bool b) (a == b)
 |none:FE .none .none true
 |noneStr (a:Nat):FE .none (.str a) false
 |strNone (a:Nat):FE (.str a) .none false
 |noneInt (i:Int):FE .none (.int i) false
theorem jec{x y:MV}{b:Bool}(e:eG x y=some b):FE x y b:=by
 cases x<;>first|exact Xns e|(cases y<;>first|exact Xns e|(obtain rfl:=qa1 e;constructor))
theorem jiE{c:Cx}{W:Wd}{A:Around}{s:Shared}{u v:Value}{x y:MV}{b:Bool}(hu:VR c.S W u x)(hv:VR c.S W v y)(e:eG x y=some b):SeqAt.EqAt A s u v b:=by
 cases jec e
 ·refine Zx hu.of_int fun t zq1=>?_;obtain rfl:=zq1;refine Zx hv.of_int fun t' zq1=>?_;obtain rfl:=zq1;exact SeqAt.EqAt.int_int _ _ _ _
 ·refine Zx hu.of_str fun t zq1=>?_;obtain rfl:=zq1;refine Zx hv.of_str fun t' zq1=>?_;obtain rfl:=zq1
  rw[←jfi c];exact SeqAt.EqAt.str_str _ _ _ _
 ·rw[hu.of_bool,hv.of_bool];exact SeqAt.EqAt.bool_bool _ _
 ·rw[hu.of_none,hv.of_none];exact SeqAt.EqAt.same _
 ·rw[hu.of_none];refine Zx hv.of_str fun t' zq1=>?_;obtain rfl:=zq1;exact SeqAt.EqAt.none_str _ _
 ·rw[hv.of_none];refine Zx hu.of_str fun t' zq1=>?_;obtain rfl:=zq1;exact SeqAt.EqAt.str_none _ _
 ·rw[hu.of_none];refine Zx hv.of_int fun t' zq1=>?_;obtain rfl:=zq1;exact SeqAt.EqAt.none_int _ _
noncomputable def eqF(x y:MV):MT:=fun σ Q=>∃b,eG x y=some b∧Q b σ
theorem ca:COp c lv .Eq eqF:=by
 intro env A W Kp σ s Q E u v x y hE hA I hu hv zp2;refine Zxa zp2 fun b e q=>?_
 have fin:∀s' b',s'.heap=s.heap→s'.os=s.os→s'.gens=s.gens→b'=b→∃b,Value.bool b'=.bool b∧∃W' σ',W.le W'∧InvF c W' Kp env σ' s'∧Q b σ':=fun s' b' h1 h2 h3 h4=>by
  subst h4
  refine⟨b',rfl,W,σ,.refl W,?_,q⟩
  obtain⟨hh,g,d,t,os⟩:=s'
  obtain⟨hh',g',d',t',os'⟩:=s
  dsimp only at h1 h2 h3
  subst h1 h2 h3
  exact⟨⟨I.inv.base,I.inv.kept,I.inv.frz,I.inv.kpF,I.inv.objs,I.inv.dom,I.inv.old,I.inv.kpOwn,I.inv.fOwn,I.inv.os,I.inv.gens,I.inv.emp,I.inv.keepB,I.inv.tab⟩,I.fm⟩
 cases jec e
 ·refine Zx hu.of_int fun t zq1=>?_;obtain rfl:=zq1;refine Zx hv.of_int fun t' zq1=>?_;obtain rfl:=zq1;exact PyProof.Rows.eq_int (fin _ _ rfl rfl rfl rfl)
 ·refine Zx hu.of_str fun t zq1=>?_;obtain rfl:=zq1;refine Zx hv.of_str fun t' zq1=>?_;obtain rfl:=zq1;exact PyProof.Rows.eq_str (fin _ _ rfl rfl rfl (jfi c _ _))
 ·rw[hu.of_bool,hv.of_bool];exact PyProof.Rows.eq_bool (fin _ _ rfl rfl rfl rfl)
 ·rw[hu.of_none,hv.of_none];exact EqNone.eq_none_none (fin _ _ rfl rfl rfl rfl)
 ·rw[hu.of_none];refine Zx hv.of_str fun t' zq1=>?_;obtain rfl:=zq1;exact EqNone.eq_none_str (fin _ _ rfl rfl rfl rfl)
 ·rw[hv.of_none];refine Zx hu.of_str fun t' zq1=>?_;obtain rfl:=zq1;exact EqNone.eq_str_none (fin _ _ rfl rfl rfl rfl)
 ·rw[hu.of_none];refine Zx hv.of_int fun t' zq1=>?_;obtain rfl:=zq1;exact EqNone.eq_none_int (fin _ _ rfl rfl rfl rfl)
noncomputable def neG(x y:MV):MT:=fun σ Q=>(∃i j,x=.int i∧y=.int j∧Q (i != j) σ)∨(∃i j,x=.str i∧y=.str j∧Q (i != j) σ)∨(∃i j,x=.bool i∧y=.bool j∧Q (i != j) σ)
theorem jeJ:COp c lv .NotEq neG:=by
 intro env A W Kp σ s Q E u v x y hE hA I hu hv q
 rcases q with⟨i,j,rfl,rfl,q⟩|⟨i,j,rfl,rfl,q⟩|⟨i,j,rfl,rfl,q⟩
 ·refine Zx hu.of_int fun t zq1=>?_;obtain rfl:=zq1;refine Zx hv.of_int fun t' zq1=>?_;obtain rfl:=zq1;exact PyProof.Rows.ne_int ⟨_,rfl,W,σ,.refl W,I,q⟩
 ·refine Zx hu.of_str fun t zq1=>?_;obtain rfl:=zq1;refine Zx hv.of_str fun t' zq1=>?_;obtain rfl:=zq1
  refine PyProof.Rows.ne_str ⟨_,rfl,W,σ,.refl W,I,?_⟩
  have:(c.S i != c.S j)=(i != j):=by unfold bne;rw[jfi]
  rw[this];exact q
 ·rw[hu.of_bool,hv.of_bool];exact PyProof.Rows.ne_bool ⟨_,rfl,W,σ,.refl W,I,q⟩
noncomputable def gtI(x y:MV):MT:=fun σ Q=>∃i j,x=.int i∧y=.int j∧Q (decide (j<i)) σ
theorem jhQ:COp c lv .Gt gtI:=by
 intro env A W Kp σ s Q E u v x y hE hA I hu hv zp3;refine cG zp3 fun i j hx hy q=>?_
 subst hx hy
 refine Zx hu.of_int fun t zq1=>?_;obtain rfl:=zq1;refine Zx hv.of_int fun t' zq1=>?_;obtain rfl:=zq1;exact PyProof.Rows.gt_int ⟨_,rfl,W,σ,.refl W,I,q⟩
theorem opt2{f:Bool→Bool→Bool}{a b:Option Bool}{z:Bool}(h:(match a,b with|some x,some y=>some (f x y)|_,_=>none)=some z):∃x y,a=some x∧b=some y∧f x y=z:=by
 cases a with
 |none=>exact Xns h
 |some x=>cases b with
  |none=>exact Xns h
  |some y=>exact⟨x,y,rfl,rfl,qa1 h⟩
noncomputable def jcU:List MV→List MV→Option Bool
 |[],[]=>some true
 |x::xs,y::ys=>match eG x y,jcU xs ys with
  |some b,some c=>some (b&&c)
  |_,_=>none
 |[],_::_=>some false
 |_::_,[]=>some false
noncomputable def eqLs(xs ys:List MV):Option Bool:=if xs.length=ys.length then jcU xs ys else some false
noncomputable def eqL(x y:MV):MT:=fun σ Q=>∃xs ys b,bV σ.H x=some xs∧bV σ.H y=some ys∧eqLs xs ys=some b∧Q b σ
noncomputable def neL(x y:MV):MT:=fun σ Q=>∃xs ys b,bV σ.H x=some xs∧bV σ.H y=some ys∧eqLs xs ys=some b∧Q (!b) σ
noncomputable def jd9(xs ys:List MV)(j:Nat):Bool:=match xs[j]? with
 |some x=>match ys[j]? with
  |some y=>(eG x y).getD false
  |none=>false
 |none=>false
theorem jgq{xs:List MV}:∀{ys:List MV}{b:Bool},jcU xs ys=some b→xs.length=ys.length→(∀j (x y:MV),xs[j]?=some x→ys[j]?=some y→eG x y=some (jd9 xs ys j))∧((List.range xs.length).all (jd9 xs ys))=b:=by
 induction xs with
 |nil=>
  intro ys b h hl
  cases ys with
  |nil=>obtain rfl:=qa1 h;exact⟨fun j x y e=>Xns e,rfl⟩
  |cons y ys=>exact absurd hl (Nat.succ_ne_zero _).symm
 |cons x xs ih=>
  intro ys b h hl
  cases ys with
  |nil=>exact absurd hl (Nat.succ_ne_zero _)
  |cons y ys=>
   refine cG (opt2 (f:=fun b c=>b&&c) h) fun b1 b2 h1 h2 e=>?_
   refine Za (ih h2 (Nat.succ.inj hl)) fun i1 i2=>?_
   have p0:jd9 (x::xs) (y::ys) 0=b1:=by show(eG x y).getD false=b1;rw[h1];rfl
   constructor
   ·intro j u v e1 e2
    cases j with
    |zero=>obtain rfl:=qa1 e1;obtain rfl:=qa1 e2;rw[p0];exact h1
    |succ j=>exact i1 j u v e1 e2
   ·rw[List.length_cons,List.range_succ_eq_map,List.all_cons,List.all_map,p0,←e,←i2];rfl
theorem jgS{W:Wd}{A:Around}{s:Shared}{vs ws:List Value}{xs ys:List MV}{b:Bool}(hv:VRs c.S W vs xs)(hw:VRs c.S W ws ys)(hl:xs.length=ys.length)(e:jcU xs ys=some b) :
  vs.toArray.size=ws.toArray.size∧(∀j (h1:j<vs.toArray.size)(h2:j<ws.toArray.size),SeqAt.EqAt A s vs.toArray[j] ws.toArray[j] (jd9 xs ys j))∧(List.range vs.toArray.size).all (jd9 xs ys)=b:=by
 refine Za (jgq e hl) fun h1 h2=>?_
 have sz:vs.toArray.size=xs.length:=by simp[hv.length]
 refine⟨by simp[hv.length,hw.length,hl],fun j g1 g2=>?_,by rw[sz];exact h2⟩
 have g1':j<vs.length:=by simpa using g1
 have g2':j<ws.length:=by simpa using g2
 refine Zxa (hv.getV (i:=j) (v:=vs[j]) (by simp[g1'])) fun x ex rx=>?_
 refine Zxa (hw.getV (i:=j) (v:=ws[j]) (by simp[g2'])) fun y ey ry=>?_
 have:=jiE (A:=A) (s:=s) rx ry (h1 j x y ex ey)
 simpa using this
theorem jcW:COp c lv .Eq eqL:=by
 intro env A W Kp σ s Q E u v x y hE hA I hu hv zp4;refine cS zp4 fun xs ys b h1 h2 h3 q=>?_
 refine bZ (cI I.inv hu h1) fun a1 vs n1 zq1 zq2=>?_;obtain rfl:=zq1;refine Zaa zq2 fun g1 r1 l1=>?_
 refine bZ (cI I.inv hv h2) fun a2 ws n2 zq1 zq2=>?_;obtain rfl:=zq1;refine Zaa zq2 fun g2 r2 l2=>?_
 have hu:A.units<cLine:=by have:=hA.units;rw[cLine_is];exact NB this rfl
 unfold eqLs at h3
 split at h3
 ·rename_i hl
  refine Zaa (jgS (A:=A.in1) (s:=s) r1 r2 hl h3) fun z1 z2 z3=>?_
  exact SeqAt.eq_listAt (br g1) (br g2) z1 hu z2 ⟨_,rfl,W,σ,.refl W,I,by rw[z3];exact q⟩
 ·rename_i hl
  obtain rfl:=qa1 h3
  exact SeqAt.eq_list_lengthsAt (br g1) (br g2) (by simp[r1.length,r2.length,hl]) hu ⟨_,rfl,W,σ,.refl W,I,q⟩
theorem jcV:COp c lv .NotEq neL:=by
 intro env A W Kp σ s Q E u v x y hE hA I hu hv zp5;refine cS zp5 fun xs ys b h1 h2 h3 q=>?_
 refine bZ (cI I.inv hu h1) fun a1 vs n1 zq1 zq2=>?_;obtain rfl:=zq1;refine Zaa zq2 fun g1 r1 l1=>?_
 refine bZ (cI I.inv hv h2) fun a2 ws n2 zq1 zq2=>?_;obtain rfl:=zq1;refine Zaa zq2 fun g2 r2 l2=>?_
 have hu:A.units<cLine:=by have:=hA.units;rw[cLine_is];exact NB this rfl
 unfold eqLs at h3
 split at h3
 ·rename_i hl
  refine Zaa (jgS (A:=A.in1) (s:=s) r1 r2 hl h3) fun z1 z2 z3=>?_
  exact SeqAt.RcNeAt.lists (br g1) (br g2) z1 hu z2 c.prog c.w E _ ⟨_,rfl,W,σ,.refl W,I,by rw[z3];exact q⟩
 ·rename_i hl
  obtain rfl:=qa1 h3
  exact SeqAt.RcNeAt.lists_lengths (br g1) (br g2) (by simp[r1.length,r2.length,hl]) hu c.prog c.w E _ ⟨_,rfl,W,σ,.refl W,I,q⟩
noncomputable def dY(x:MV):List MV→Option Bool
 |[]=>some false
 |y::ys=>match eG y x,dY x ys with
  |some b,some c=>some (b||c)
  |_,_=>none
noncomputable def inObj(n:Nat):Option MObj→Option Bool
 |some (.dict es _)=>some (es.lookup n).isSome
 |some (.set xs)=>some (xs.contains n)
 |some (.list _)=>none
 |some (.inst _ _)=>none
 |some (.obj _ _)=>none
 |none=>none
noncomputable def inStr(H:Tag→Option MObj)(n:Nat)(v:MV):Option Bool:=MV.casesOn v none (fun _=>none) (fun _=>none) (fun _=>none) (fun t=>inObj n (H t)) (fun _=>none) (fun _=>none) (fun _=>none) (fun _ _=>none) (fun _=>none)
noncomputable def fw(H:Tag→Option MObj)(x y:MV):Option Bool:=match cv H y with
 |some xs=>dY x xs
 |none=>MV.casesOn x none (fun _=>none) (fun _=>none) (fun n=>inStr H n y) (fun _=>none) (fun _=>none) (fun _=>none) (fun _=>none) (fun _ _=>none) (fun _=>none)
theorem jgV{H:Tag→Option MObj}{x y:MV}{xs:List MV}(h:cv H y=some xs):fw H x y=dY x xs:=by unfold fw;rw[h]
theorem jgU{H:Tag→Option MObj}{n:Nat}{t:Tag}(h:cv H (.tag t)=none):fw H (.str n) (.tag t)=inObj n (H t):=by unfold fw;rw[h];rfl
noncomputable def inM(x y:MV):MT:=fun σ Q=>∃b,fw σ.H x y=some b∧Q b σ
noncomputable def fe(x y:MV):MT:=fun σ Q=>∃b,fw σ.H x y=some b∧Q (!b) σ
noncomputable def jdA(v y:Value):Bool:=match y,v with
 |.int i _,.int j _=>i == j
 |.str a _,.str b _=>a == b
 |.bool a,.bool b=>a == b
 |.none,.none=>true
 |_,_=>false
theorem jfF{W:Wd}{v y:Value}{x z:MV}{b:Bool}(hv:VR c.S W v x)(hy:VR c.S W y z)(e:eG z x=some b):jdA v y=b:=by
 cases jec e
 ·refine Zx hv.of_int fun t zq1=>?_;obtain rfl:=zq1;refine Zx hy.of_int fun t' zq1=>?_;obtain rfl:=zq1;rfl
 ·refine Zx hv.of_str fun t zq1=>?_;obtain rfl:=zq1;refine Zx hy.of_str fun t' zq1=>?_;obtain rfl:=zq1;exact jfi c _ _
 ·rw[hv.of_bool,hy.of_bool];rfl
 ·rw[hv.of_none,hy.of_none];rfl
 ·rw[hy.of_none];refine Zx hv.of_str fun t' zq1=>?_;obtain rfl:=zq1;rfl
 ·rw[hv.of_none];refine Zx hy.of_str fun t' zq1=>?_;obtain rfl:=zq1;rfl
 ·rw[hy.of_none];refine Zx hv.of_int fun t' zq1=>?_;obtain rfl:=zq1;rfl
theorem jig{W:Wd}{v:Value}{x:MV}(hv:VR c.S W v x)(A:Around)(s:Shared){vs:List Value}{xs:List MV}(hs:VRs c.S W vs xs):∀{b:Bool},dY x xs=some b→(∀y∈vs,SeqAt.EqAt A s y v (jdA v y))∧vs.any (jdA v)=b:=by
 induction hs with
 |nil=>intro b h;obtain rfl:=qa1 h;exact⟨fun _ h=>Xnm h,rfl⟩
 |cons hy hs ih=>
  intro b h
  refine cG (opt2 (f:=fun b c=>b||c) h) fun b1 b2 h1 h2 e=>?_
  refine Za (ih h2) fun i1 i2=>?_
  refine⟨fun u hu=>?_,by rw[List.any_cons,i2,jfF hv hy h1];exact e⟩
  rcases List.mem_cons.mp hu with rfl|hu
  ·rw[jfF hv hy h1];exact jiE hy hv h1
  ·exact i1 u hu
theorem jhC(xs:List Nat)(n:Nat):(xs.any fun m=>decide (c.S m=c.S n))=xs.contains n:=by
 induction xs with
 |nil=>rfl
 |cons m xs ih=>
  rw[List.any_cons,List.contains_cons,ih]
  congr 1
  by_cases h:m=n
  ·subst h;simp
  ·have:c.S m≠c.S n:=fun e=>h (c.inj _ _ e)
   simp[this,Ne.symm h]
theorem jhH{A:Around}{W:Wd}{Kp:aJ}{σ:AS}{s:Shared}{E:Value→Shared→Prop}{R:Value→Shared→Prop}{u v:Value}{x y:MV}{b:Bool}(hu:VR c.S W u x)(hv:VR c.S W v y)(I:Inv c W Kp σ.H σ.nx s)(e:fw σ.H x y=some b)(neg:Bool)
  (q:∀tk,R (.bool (b^^neg)) { s with toks:=tk }):wpAny c.M A (compareOp (if neg then .NotIn else .In) u v) R E s:=by
 have seqs:∀xs,cv σ.H y=some xs→dY x xs=some b→wpAny c.M A (compareOp (if neg then .NotIn else .In) u v) R E s:=fun xs h1 h2=>by
  refine bZ (jfl I hv h1) fun a vs n zq1 zq2=>?_;obtain rfl:=zq1;refine Zaa zq2 fun g hvs hl=>?_
  refine Za (jig hu A.in1 s hvs h2) fun i1 i2=>?_
  have i1':∀y,y∈vs.toArray→SeqAt.EqAt A.in1 s y u (jdA u y):=fun y hy=>i1 y (by simpa using hy)
  have i2':vs.toArray.any (jdA u)=b:=by simpa using i2
  have q':=q s.toks
  rcases g with g|g<;>cases neg
  ·exact SeqAt.in_listAt _ (br g) i1' (by rw[i2'];simpa using q')
  ·exact SeqAt.notIn_listAt _ (br g) i1' (by rw[i2'];simpa using q')
  ·exact SeqAt.in_tupleAt _ (jbh g) i1' (by rw[i2'];simpa using q')
  ·exact SeqAt.notIn_tupleAt _ (jbh g) i1' (by rw[i2'];simpa using q')
 cases hz:cv σ.H y with
 |some xs=>rw[jgV hz] at e;exact seqs xs hz e
 |none=>
  unfold fw at e;rw[hz] at e
  cases x<;>first|exact Xns e|skip
  rename_i n
  cases y<;>first|exact Xns e|skip
  rename_i t
  dsimp only[inStr] at e
  cases hq:σ.H t with
  |none=>rw[hq] at e;exact Xns e
  |some o=>
   rw[hq] at e
   refine Zx hu.of_str fun tk zq1=>?_;obtain rfl:=zq1
   cases o<;>first|exact Xns e|skip
   ·obtain rfl:=qa1 e
    rename_i es eo
    refine bt (jbN I hv hq) fun a kvs zq1 zq2=>?_;obtain rfl:=zq1;refine dD zq2 fun _ _ hd kv hl hsm=>?_
    have hb:(valueAt kvs (c.S n)).isSome=(es.lookup n).isSome:=by
     rcases kv.at n with⟨h1,h2⟩|⟨x,v,h1,h2,_⟩<;>rw[h1,h2]<;>rfl
    cases neg
    ·exact wpAny_in_of (eE c n tk) hsm hd.mapOf (by rw[hb];simpa using q (s.toks+1))
    ·exact wpAny_notIn_of (eE c n tk) hsm hd.mapOf (by rw[hb];simpa using q (s.toks+1))
   ·obtain rfl:=qa1 e
    refine Zxa (jd8 I hv hq) fun a zq1 zq2=>?_;obtain rfl:=zq1;refine eS zq2 fun _ _ hd hl=>?_
    cases neg
    ·exact wpAny_inSet_of (eE c n tk) rfl hd (by rw[jhC];simpa using q (s.toks+1))
    ·exact wpAny_notInSet_of (eE c n tk) rfl hd (by rw[jhC];simpa using q (s.toks+1))
theorem ds:COp c lv .In inM:=by
 intro env A W Kp σ s Q E u v x y hE hA I hu hv zp6;refine Zxa zp6 fun b e q=>?_
 exact jhH hu hv I.inv e false fun tk=>⟨_,rfl,W,σ,.refl W,I.tok tk,by simpa using q⟩
theorem ja1:COp c lv .NotIn fe:=by
 intro env A W Kp σ s Q E u v x y hE hA I hu hv zp7;refine Zxa zp7 fun b e q=>?_
 exact jhH hu hv I.inv e true fun tk=>⟨_,rfl,W,σ,.refl W,I.tok tk,by simpa using q⟩
noncomputable def jdy:MV→Option Bool
 |.none=>some true
 |.raw _=>none
 |_=>some false
theorem jgc{W:Wd}{v:Value}{x:MV}{b:Bool}(h:VR c.S W v x)(e:jdy x=some b):(v == Value.none)=b:=by
 unfold jdy at e
 cases h<;>first|exact Xns e|(obtain rfl:=qa1 e;rfl)
noncomputable def isN(x y:MV):MT:=fun σ Q=>∃b,y=.none∧jdy x=some b∧Q b σ
noncomputable def isNN(x y:MV):MT:=fun σ Q=>∃b,y=.none∧jdy x=some b∧Q (!b) σ
theorem jbP:COp c lv .Is isN:=by
 intro env A W Kp σ s Q E u v x y hE hA I hu hv zp8;refine dR zp8 fun b hy e q=>?_
 subst hy
 rw[hv.of_none]
 exact is_none_gen ⟨_,rfl,W,σ,.refl W,I,by rw[jgc hu e];exact q⟩
theorem jdR:COp c lv .IsNot isNN:=by
 intro env A W Kp σ s Q E u v x y hE hA I hu hv zp9;refine dR zp9 fun b hy e q=>?_
 subst hy
 rw[hv.of_none]
 exact isnot_none_gen ⟨_,rfl,W,σ,.refl W,I,by rw[jgc hu e];exact q⟩
noncomputable def bX(H:Tag→Option MObj):MV→Option Bool
 |.none=>some false
 |.bool b=>some b
 |.int i=>some (i != 0)
 |.lst xs=>some (!xs.isEmpty)
 |.tup xs=>some (!xs.isEmpty)
 |.tag t=>match H t with
  |some (.list xs)=>some (!xs.isEmpty)
  |some (.dict es _)=>some (!es.isEmpty)
  |some (.set xs)=>some (!xs.isEmpty)
  |some (.inst _ _)=>some true
  |some (.obj _ _)=>none
  |none=>none
 |.str _=>none
 |.rng _=>none
 |.view _ _=>none
 |.raw _=>none
theorem KVR.isEmpty{W:Wd}{kvs:List (Str×Value)}{es:List (Nat×MV)}(h:KVR c.S W kvs es):kvs.isEmpty=es.isEmpty:=by cases h<;>rfl
theorem VRs.isEmpty{W:Wd}{vs:List Value}{xs:List MV}(h:VRs c.S W vs xs):vs.toArray.isEmpty=xs.isEmpty:=by cases h<;>exact rfl
theorem jfA:typeLookup (.type "set") "__bool__"=pure none:=by rw[typeLookup_type,builtinLookup_eq_fast];kernel_rfl
theorem jh4{A:Around}{E:Value→Shared→Prop}{s:Shared}{a:Addr}{f:Str→Bool}{n:Nat}{Q:Bool→Shared→Prop}(hS:s.heap.SetOf c.knd a f n)(hn:n≤1000)(h:∀tk,Q (n != 0) { s with toks:=tk }) :
  wpAny c.M A (truthy (.ref a)) Q E s:=by
 refine jet hS fun o es ep t ho hex hd _ _ _ hf hsz=>?_
 have hT:s.TypeIs (.ref a) "set":=⟨o,ho,hex.1⟩
 have hne:((es.size:Int) != 0)=(n != 0):=by rw[hsz];cases n<;>simp<;>omega
 have key:wpAny c.M A (runValue (.builtin "len" ⟨[.ref a],[]⟩)) (fun r s'=>r=.int es.size (s.toks+1)∧Q (n != 0) s') E s:=by
  refine wpAny_runValue (codeAny_builtin entry_len ?_)
  rw[Around.under_plainId plain_len _]
  exact qa6 (wpAny_len_body_set (Q:=fun r s'=>r=.int es.size (s.toks+1)∧Q (n != 0) s') ho hex hd hf (by omega) ⟨rfl,h _⟩)
   (fun fin s' h'=>by refine Zxa h' fun r zq1 hq=>?_;obtain rfl:=zq1;exact hq) fun _ _ e=>e
 unfold truthy
 first
  |refine qa5 (wpAny_callSpecial?_none (name:=Str.ofString "__bool__") hT jfA ?_)
  |refine qa5 (qa8 (qa5 (wpAny_callSpecial?_none (name:=Str.ofString "__bool__") hT jfA ?_)))
 first
  |refine qa5 (wpAny_specialOf (name:=Str.ofString "__len__") hT F.slot_set_len.lookup ?_)
  |refine qa5 (qa8 (qa5 (wpAny_specialOf (name:=Str.ofString "__len__") hT F.slot_set_len.lookup ?_)))
 first
  |exact qa5 (qa6 key (fun r s' h'=>by refine Za h' fun zq1 hq=>?_;obtain rfl:=zq1;exact qa8 (hne▸hq)) fun _ _ e=>e)
  |exact qa5 (qa8 (qa5 (qa6 key (fun r s' h'=>by obtain⟨rfl,hq⟩:=h';exact qa8 (hne▸hq)) fun _ _ e=>e)))
theorem jhq{α:Type}(xs:List α):(xs.length != 0)=!xs.isEmpty:=by cases xs<;>rfl
theorem jdI{A:Around}{W:Wd}{Kp:aJ}{σ:AS}{s:Shared}{E:Value→Shared→Prop}{R:Bool→Shared→Prop}{v:Value}{x:MV}{b:Bool}(hv:VR c.S W v x)(I:Inv c W Kp σ.H σ.nx s)(e:bX σ.H x=some b)
  (q:∀tk,R b { s with toks:=tk }):wpAny c.M A (truthy v) R E s:=by
 have seq:∀xs,cv σ.H x=some xs→(!xs.isEmpty)=b→wpAny c.M A (truthy v) R E s:=fun xs h1 h2=>by
  refine bZ (jfl I hv h1) fun a vs n zq1 zq2=>?_;obtain rfl:=zq1;refine Zaa zq2 fun g hvs hl=>?_
  have hz:(vs.toArray.size:Int)<2 ^ 63:=by simp[hvs.length];exact NJl hl rfl
  rcases g with g|g
  ·exact wpAny_truthy_list (br g) hz (by rw[hvs.isEmpty,h2];exact q _)
  ·exact truthy_tuple (jbh g) hz (by rw[hvs.isEmpty,h2];exact q _)
 cases x<;>first|exact Xns e|skip
 ·obtain rfl:=qa1 e;rw[hv.of_none];exact truthy_none (q s.toks)
 ·obtain rfl:=qa1 e;rw[hv.of_bool];exact wpAny_truthy_bool (q s.toks)
 ·obtain rfl:=qa1 e;refine Zx hv.of_int fun t zq1=>?_;obtain rfl:=zq1;exact PyProof.Rows.truthy_int (q s.toks)
 ·dsimp only[bX] at e;split at e
  ·rename_i xs hq;obtain rfl:=qa1 e;exact seq xs (by unfold cv;exact bh hq) rfl
  ·rename_i es _ hq;obtain rfl:=qa1 e
   refine bt (jbN I hv hq) fun a kvs zq1 zq2=>?_;obtain rfl:=zq1;refine dD zq2 fun _ _ hd kv hl hsm=>?_
   exact wpAny_truthy_dict hsm hd (by rw[kv.length];exact NJl hl rfl) (by rw[kv.isEmpty];exact q _)
  ·rename_i xs hq;obtain rfl:=qa1 e
   refine Zxa (jd8 I hv hq) fun a zq1 zq2=>?_;obtain rfl:=zq1;refine eS zq2 fun _ _ hd hl=>?_
   exact jh4 hd hl fun tk=>by rw[jhq];exact q tk
  ·rename_i C es hq;obtain rfl:=qa1 e
   refine dh (jci I hv hq) fun a d kvs od zq1 zq2=>?_;obtain rfl:=zq1;refine Zaa zq2 fun _ _ X=>?_
   have F:=c.cls_facts X.C4
   unfold truthy
   refine qa5 (m:=callSpecial? (.ref a) (Str.ofString "__bool__")) (qa5 (qa5 (X.inst.type.here ((looks_findIn I.KIn F.bo).here (qa8 ?_)))))
   refine qa5 (qa5 (X.inst.type.here ((looks_findIn I.KIn F.le).here ?_)))
   exact qa8 (q s.toks)
  ·exact Xns e
  ·exact Xns e
 ·obtain rfl:=qa1 e;exact seq _ rfl rfl
 ·obtain rfl:=qa1 e;exact seq _ rfl rfl
end
end
section
noncomputable def PT(c:Cx)(W:Wd)(Kp:aJ)(env:Env)(Q:Bool→AS→Prop)(b:Bool)(s':Shared):Prop:=
 ∃W' σ',W.le W'∧InvF c W' Kp env σ' s'∧Q b σ'
theorem PT.ex{c:Cx}{W:Wd}{Kp:aJ}{env:Env}{Q:Bool→AS→Prop}{b:Bool}{s:Shared}{p:Prop}(z:PT c W Kp env Q b s)(k:∀W' σ',W.le W'→InvF c W' Kp env σ' s→Q b σ'→p):p:=
 by refine cG z fun W' σ' a b e=>?_;exact k W' σ' a b e
noncomputable def CT(c:Cx)(sc:Scope)(lv:Nat)(e:Expr)(g:MT):Prop:=
 ∀(env:Env)(A:Around)(W:Wd)(Kp:aJ)(σ:AS)(s:Shared)(Q:Bool→AS→Prop)(E:Value→Shared→Prop),
  env.scope=sc→EOK env→AOK c lv A Kp env→InvF c W Kp env σ s→g σ Q→wpAny c.M A (PySem.isTrue e env (eval e env)) (PT c W Kp env Q) E s
theorem PT.le{c:Cx}{W W':Wd}{Kp:aJ}{env:Env}{Q:Bool→AS→Prop}{b:Bool}{s:Shared}(le:W.le W')(x:PT c W' Kp env Q b s):PT c W Kp env Q b s:=by
 refine cG x fun W'' σ a b d=>?_;exact⟨W'',σ,le.trans a,b,d⟩
theorem CT.use{c:Cx}{sc:Scope}{lv:Nat}{e:Expr}{g:MT}(h:CT c sc lv e g){env:Env}{A:Around}{W:Wd}{Kp:aJ}{σ:AS}{s:Shared}{Q:Bool→AS→Prop}{E:Value→Shared→Prop}{R:Bool→Shared→Prop}
  (he:env.scope=sc)(hE:EOK env)(hA:AOK c lv A Kp env)(I:InvF c W Kp env σ s)(hf:g σ Q)
  (k:∀W' σ' b s',W.le W'→InvF c W' Kp env σ' s'→Q b σ'→R b s'):wpAny c.M A (PySem.isTrue e env (eval e env)) R E s:=
 qa6 (h env A W Kp σ s Q E he hE hA I hf) (fun v s' z0=>z0.ex fun W' σ' a b q=>k W' σ' v s' a b q) fun _ _ x=>x
section
variable {c:Cx}{sc:Scope}{lv:Nat}
noncomputable def mB(t:MT):MEx:=fun σ Q=>t σ fun b σ1=>Q (.bool b) σ1
noncomputable def aA(g:MV→MV→MT)(a b:MEx):MT:=fun σ Q=>a σ fun x σ1=>b σ1 fun y σ2=>g x y σ2 Q
theorem jc2{e1 e2:Expr}{op:CmpOp}{pos:Pos}{a b:MEx}{g:MV→MV→MT}(ho:COp c lv op g)(h1:CE c sc lv e1 a)(h2:CE c sc lv e2 b)(hm:behindInMarks op e2=false:=by with_unfolding_all rfl) :
  CE c sc lv (.Compare e1 [op] [e2] pos) (mB (aA g a b)):=by
 intro env A W Kp σ s Q E he hE hA I q
 refine wpAny_Compare1 (h1.use he hE hA I q fun W1 x σ1 u s1 le1 I1 r1 q1=>?_) hm
 refine h2.use he hE hA I1 q1 fun W2 y σ2 v s2 le2 I2 r2 q2=>?_
 refine qa6 (ho env A W2 Kp σ2 s2 _ E u v x y hE hA I2 (r1.mono le2) r2 q2) (fun r s3 zp2=>?_) fun _ _ z=>z
 refine Zxa zp2 fun b hb zq1=>?_;obtain⟨W3,σ3,le3,I3,q3⟩:=zq1;subst hb
 exact⟨W3,_,σ3,(le1.trans le2).trans le3,I3,.bool b,q3⟩
theorem aK{e1 e2:Expr}{op:CmpOp}{pos:Pos}{a b:MEx}{g:MV→MV→MT}(ho:COp c lv op g)(h1:CE c sc lv e1 a)(h2:CE c sc lv e2 b)(hm:behindInMarks op e2=false:=by with_unfolding_all rfl) :
  CT c sc lv (.Compare e1 [op] [e2] pos) (aA g a b):=by
 intro env A W Kp σ s Q E he hE hA I q
 refine wpAny_isTrue_Compare1 (h1.use he hE hA I q fun W1 x σ1 u s1 le1 I1 r1 q1=>?_) hm
 refine h2.use he hE hA I1 q1 fun W2 y σ2 v s2 le2 I2 r2 q2=>?_
 refine qa6 (ho env A W2 Kp σ2 s2 _ E u v x y hE hA I2 (r1.mono le2) r2 q2) (fun r s3 zp3=>?_) fun _ _ z=>z
 refine Zxa zp3 fun b hb zq1=>?_;obtain⟨W3,σ3,le3,I3,q3⟩:=zq1;subst hb
 exact wpAny_truthy_bool ⟨W3,σ3,(le1.trans le2).trans le3,I3,q3⟩
noncomputable def mTr(f:MEx):MT:=fun σ Q=>f σ fun v σ1=>∃b,bX σ1.H v=some b∧Q b σ1
theorem bP{e:Expr}{f:MEx}(h:CE c sc lv e f)(ht:∀env:Env,PySem.isTrue e env (eval e env)=(do let v ←eval e env;standAt e.pos;holding [v] (truthy v)):=by intro _;rfl):CT c sc lv e (mTr f):=by
 intro env A W Kp σ s Q E he hE hA I q
 refine isTrue_plain (h.use he hE hA I q fun W1 x σ1 v s1 le1 I1 r1 zp4=>?_) (ht env)
 refine Zxa zp4 fun b hb q1=>?_;exact jdI r1 I1.inv hb fun tk=>⟨W1,σ1,le1,I1.tok tk,q1⟩
noncomputable def eU(t:MT):MT:=fun σ Q=>t σ fun b σ1=>Q (!b) σ1
theorem jdt{e:Expr}{t:MT}{pos:Pos}(h:CT c sc lv e t):CT c sc lv (.UnaryOp .Not e pos) (eU t):=by
 intro env A W Kp σ s Q E he hE hA I q
 exact wpAny_isTrue_Not (h.use he hE hA I q fun W1 σ1 b s1 le1 I1 q1=>⟨W1,σ1,le1,I1,q1⟩)
noncomputable def cu(a b:MT):MT:=fun σ Q=>a σ fun x σ1=>match x with|true=>b σ1 Q|false=>Q false σ1
noncomputable def mOr(a b:MT):MT:=fun σ Q=>a σ fun x σ1=>match x with|true=>Q true σ1|false=>b σ1 Q
noncomputable def ck:MT:=fun σ Q=>Q true σ
noncomputable def cy:MT:=fun σ Q=>Q false σ
inductive CTs(c:Cx)(sc:Scope)(lv:Nat)(op:BoolOp):List Expr→MT→Prop
 |nilA (h:op=.And):CTs c sc lv op [] ck
 |nilO (h:op=.Or):CTs c sc lv op [] cy
 |consA {e:Expr}{es:List Expr}{a b:MT}(ho:op=.And)(h:CT c sc lv e a)(t:CTs c sc lv op es b):CTs c sc lv op (e::es) (cu a b)
 |consO {e:Expr}{es:List Expr}{a b:MT}(ho:op=.Or)(h:CT c sc lv e a)(t:CTs c sc lv op es b):CTs c sc lv op (e::es) (mOr a b)
theorem CTs.all{op:BoolOp}{es:List Expr}{t:MT}(h:CTs c sc lv op es t){env:Env}{A:Around}{Kp:aJ}{E:Value→Shared→Prop}(he:env.scope=sc)(hE:EOK env)(hA:AOK c lv A Kp env) :
  ∀{W:Wd}{σ:AS}{s:Shared}{Q:Bool→AS→Prop},InvF c W Kp env σ s→t σ Q→wpAny c.M A (allTrue op es env) (PT c W Kp env Q) E s:=by
 induction h with
 |nilA ho=>subst ho;exact fun I q=>wpAny_allTrue_And_nil ⟨_,_,.refl _,I,q⟩
 |nilO ho=>subst ho;exact fun I q=>wpAny_allTrue_Or_nil ⟨_,_,.refl _,I,q⟩
 |consA ho h t ih=>
  subst ho
  intro W σ s Q I q
  refine wpAny_allTrue_And_cons (h.use he hE hA I q fun W1 σ1 b s1 le1 I1 q1=>?_)
  cases b
  ·exact⟨W1,σ1,le1,I1,q1⟩
  ·exact qa6 (ih I1 q1) (fun _ _ z=>z.le le1) fun _ _ z=>z
 |consO ho h t ih=>
  subst ho
  intro W σ s Q I q
  refine wpAny_allTrue_Or_cons (h.use he hE hA I q fun W1 σ1 b s1 le1 I1 q1=>?_)
  cases b
  ·exact qa6 (ih I1 q1) (fun _ _ z=>z.le le1) fun _ _ z=>z
  ·exact⟨W1,σ1,le1,I1,q1⟩
theorem cT{op:BoolOp}{es:List Expr}{t:MT}{pos:Pos}(h:CTs c sc lv op es t):CT c sc lv (.BoolOp op es pos) t:=by
 intro env A W Kp σ s Q E he hE hA I q
 exact wpAny_isTrue_BoolOp (h.all he hE hA I q)
noncomputable def mIf(t:MT)(a b:MEx):MEx:=fun σ Q=>t σ fun r σ1=>match r with|true=>a σ1 Q|false=>b σ1 Q
theorem jaQ{e e1 e2:Expr}{t:MT}{a b:MEx}{pos:Pos}(h:CT c sc lv e t)(h1:CE c sc lv e1 a)(h2:CE c sc lv e2 b):CE c sc lv (.IfExp e e1 e2 pos) (mIf t a b):=by
 intro env A W Kp σ s Q E he hE hA I q
 refine wpAny_IfExp (h.use he hE hA I q fun W1 σ1 r s1 le1 I1 q1=>?_)
 cases r
 ·exact qa6 (h2 env A W1 Kp σ1 s1 Q E he hE hA I1 q1) (fun _ _ z=>z.le le1) fun _ _ z=>z
 ·exact qa6 (h1 env A W1 Kp σ1 s1 Q E he hE hA I1 q1) (fun _ _ z=>z.le le1) fun _ _ z=>z
noncomputable def jfe(f:MEx):MEx:=fun σ Q=>f σ fun v σ1=>∃b,bX σ1.H v=some b∧Q (.bool (!b)) σ1
theorem CE_not{e:Expr}{f:MEx}{pos:Pos}(h:CE c sc lv e f):CE c sc lv (.UnaryOp .Not e pos) (jfe f):=by
 intro env A W Kp σ s Q E he hE hA I q
 refine qa5 (h.use he hE hA I q fun W1 x σ1 v s1 le1 I1 r1 zp5=>?_)
 refine Zxa zp5 fun b hb q1=>?_;refine qa5 (wpAny_standAt (wpAny_holding (not_of ?_)));exact jdI r1 I1.inv hb fun tk=>⟨W1,_,σ1,le1,I1.tok tk,.bool _,q1⟩
noncomputable def mOrV(f g:MEx):MEx:=fun σ Q=>f σ fun v σ1=>∃b,bX σ1.H v=some b∧match b with|true=>Q v σ1|false=>g σ1 Q
noncomputable def jgw(f g:MEx):MEx:=fun σ Q=>f σ fun v σ1=>∃b,bX σ1.H v=some b∧match b with|true=>g σ1 Q|false=>Q v σ1
theorem CE_or{e1 e2:Expr}{f g:MEx}{pos:Pos}(h1:CE c sc lv e1 f)(h2:CE c sc lv e2 g):CE c sc lv (.BoolOp .Or [e1,e2] pos) (mOrV f g):=by
 intro env A W Kp σ s Q E he hE hA I q
 show wpAny c.M A (boolOp pos .Or [eval e1 env,eval e2 env]) _ _ _
 refine qa5 (h1.use he hE hA I q fun W1 x σ1 v s1 le1 I1 r1 zp6=>?_)
 refine Zxa zp6 fun b hb q1=>?_;refine qa5 (wpAny_standAt (qa5 (wpAny_holding (jdI r1 I1.inv hb fun tk=>?_))));cases b
 ·exact qa6 (h2 env A W1 Kp σ1 _ Q E he hE hA (I1.tok tk) q1) (fun _ _ z=>z.le le1) fun _ _ z=>z
 ·exact qa8 ⟨W1,x,σ1,le1,I1.tok tk,r1,q1⟩
theorem CE_and{e1 e2:Expr}{f g:MEx}{pos:Pos}(h1:CE c sc lv e1 f)(h2:CE c sc lv e2 g):CE c sc lv (.BoolOp .And [e1,e2] pos) (jgw f g):=by
 intro env A W Kp σ s Q E he hE hA I q
 show wpAny c.M A (boolOp pos .And [eval e1 env,eval e2 env]) _ _ _
 refine qa5 (h1.use he hE hA I q fun W1 x σ1 v s1 le1 I1 r1 zp7=>?_)
 refine Zxa zp7 fun b hb q1=>?_;refine qa5 (wpAny_standAt (qa5 (wpAny_holding (jdI r1 I1.inv hb fun tk=>?_))));cases b
 ·exact qa8 ⟨W1,x,σ1,le1,I1.tok tk,r1,q1⟩
 ·exact qa6 (h2 env A W1 Kp σ1 _ Q E he hE hA (I1.tok tk) q1) (fun _ _ z=>z.le le1) fun _ _ z=>z
theorem CEs.plainArgs{es:List Expr}{fs:List MEx}(h:CEs c sc lv es fs)(pos:Pos)(env:Env):(backTo pos (starEach es env)).any (·.1)=false∧(backTo pos (starEach es env)).all (!·.1)=true:=by
 induction h with
 |nil=>exact⟨rfl,rfl⟩
 |cons _ _ hs ih=>
  rw[hs]
  exact⟨by simpa[backTo] using ih.1,by simpa[backTo] using ih.2⟩
theorem CEs.evalArgs{es:List Expr}{fs:List MEx}(h:CEs c sc lv es fs){pos:Pos}{f:Value}{env:Env}{A:Around}{W:Wd}{Kp:aJ}{σ:AS}{s:Shared}{Q:List MV→AS→Prop}{E:Value→Shared→Prop}{R:Args→Shared→Prop}
  (he:env.scope=sc)(hE:EOK env)(hA:AOK c lv A Kp env)(I:InvF c W Kp env σ s)(q:cr fs σ Q)(k:∀W' vs xs σ' s',W.le W'→InvF c W' Kp env σ' s'→VRs c.S W' vs xs→Q xs σ'→R ⟨vs,[]⟩ s') :
  wpAny c.M A (PySem.evalArgs f true (backTo pos (starEach es env)) []) R E s:=by
 have key:=h.spliced (pos:=pos) (E:=E) he hE hA I q
 cases h with
 |nil=>
  refine evalArgs_nil3 ?_
  exact k W [] [] σ s (.refl W) I .nil q
 |cons _ _ hs=>
  rw[hs] at key ⊢
  exact evalArgs_plain (qa6 key (fun vs s' z0=>z0.ex fun W' xs σ' a b d q=>k W' vs xs σ' s' a b d q) fun _ _ z=>z)
noncomputable def BOp(c:Cx)(lv:Nat)(f:Value)(g:List MV→MEx):Prop:=
 ∀(env:Env)(A:Around)(W:Wd)(Kp:aJ)(σ:AS)(s:Shared)(Q:MV→AS→Prop)(E:Value→Shared→Prop)(vs:List Value)(xs:List MV),EOK env→AOK c lv A Kp env→InvF c W Kp env σ s→VRs c.S W vs xs→g xs σ Q→
  wpAny c.M A (call f vs) (PE c W Kp env Q) E s
noncomputable def jiy:Value→Bool
 |.builtin _|.type _=>true
 |_=>false
theorem jbm{M:Model}{f:Value}(h:jiy f=true)(hh:Heap):∃k,(k=Keeper.frame∨k=Keeper.machine∨k=Keeper.boundFrame)∧Looks M hh (keeperOf f) k:=by
 cases f<;>first|exact Xft h|exact⟨.machine,.inr (.inl rfl),Looks.of_pure rfl⟩
noncomputable def aW(g:List MV→MEx)(fs:List MEx):MEx:=fun σ Q=>cr fs σ fun xs σ1=>g xs σ1 Q
theorem bv{n:Str}{np pos:Pos}{es:List Expr}{fs:List MEx}{f:Value}{g:List MV→MEx}(hf:CE c sc lv (.Name n np) (fi f))(hp:jiy f=true)(hg:BOp c lv f g)(h:CEs c sc lv es fs) :
  CE c sc lv (.Call (.Name n np) es [] pos) (aW g fs):=by
 intro env A W Kp σ s Q E he hE hA I q
 refine wpAny_Call_NameR (hf.use (Q:=fun v σ'=>v=.raw f∧σ'=σ) he hE hA I ⟨rfl,rfl⟩ fun W1 y σ1 v s1 le1 I1 r1 zp8=>?_)
 refine Za zp8 fun h1 h2=>?_;subst h1 h2
 rw[r1.of_raw]
 refine callWith_of (P:=fun _=>True) (by rw[(h.plainArgs pos env).1];rfl) (fun hh _=>jbm hp hh) ?_
 refine h.evalArgs he hE hA I1 q fun W2 vs xs σ2 s2 le2 I2 r2 q2=>⟨trivial,?_⟩
 exact qa6 (hg env A W2 Kp σ2 s2 Q E vs xs hE hA I2 r2 q2) (fun _ _ z=>z.le (le1.trans le2)) fun _ _ z=>z
noncomputable def cM(H:Tag→Option MObj):MV→Nat
 |.lst _=>1
 |.tag t=>match H t with
  |some (.list _)=>1
  |some (.dict _ _)=>2
  |some (.set _)=>3
  |some (.inst _ _)=>4
  |some (.obj _ _)=>5
  |none=>0
 |_=>0
noncomputable def jhV:Nat→String
 |1=>"list"
 |2=>"dict"
 |_=>"set"
theorem jkm{W:Wd}{Kp:aJ}{σ:AS}{s:Shared}{v:Value}{x:MV}{k:Nat}(I:Inv c W Kp σ.H σ.nx s)(r:VR c.S W v x)(e:cM σ.H x=k)(hk:k=1∨k=2∨k=3) :
  s.TypeIs v (jhV k)∧∀a,v=.ref a→∃o,s.heap.get? a=some o∧o.dict=none:=by
 have hl:∀xs,bV σ.H x=some xs→s.TypeIs v "list"∧∀a,v=.ref a→∃o,s.heap.get? a=some o∧o.dict=none:=fun xs h=>by
  refine bZ (cI I r h) fun a vs n zq1 zq2=>?_;obtain rfl:=zq1;refine Za zq2 fun g _=>?_
  exact⟨(br g).typeIs,fun b e=>by cases e;exact⟨_,g,rfl⟩⟩
 unfold cM at e
 split at e
 ·subst e;exact hl _ rfl
 ·split at e
  ·rename_i hq;subst e;exact hl _ (bh hq)
  ·rename_i hq;subst e
   refine bt (jbN I r hq) fun a kvs zq1 zq2=>?_;obtain rfl:=zq1;refine eS zq2 fun _ _ hd _=>?_
   exact⟨hd.typeIs,hd.mapOf.noDict⟩
  ·rename_i hq;subst e
   refine Zxa (jd8 I r hq) fun a zq1 zq2=>?_;obtain rfl:=zq1;refine eS zq2 fun _ _ hd _=>?_
   refine jbO hd fun o es ep t ho hex _=>?_
   exact⟨⟨o,ho,hex.1⟩,fun b e=>by cases e;exact⟨o,ho,hex.2.1⟩⟩
  ·subst e;rcases hk with h|h|h<;>exact absurd h (by decide)
  ·subst e;rcases hk with h|h|h<;>exact absurd h (by decide)
  ·subst e;rcases hk with h|h|h<;>exact absurd h (by decide)
 ·subst e;rcases hk with h|h|h<;>exact absurd h (by decide)
theorem plainK:(k:Nat)→PlainAttrs (jhV k)
 |0=>F.plainAttrs_set
 |1=>F.plainAttrs_list
 |2=>F.plainAttrs_dict
 |_+3=>F.plainAttrs_set
noncomputable def aV(k:Nat)(g:List MV→MEx)(a:MEx)(fs:List MEx):MEx:=fun σ Q=>a σ fun x σ1=>cM σ1.H x=k∧cr fs σ1 fun xs σ2=>g (x::xs) σ2 Q
theorem bA{o:Expr}{x:Str}{apos pos:Pos}{es:List Expr}{a:MEx}{fs:List MEx}{id:String}{g:List MV→MEx}(k:Nat)(hk:k=1∨k=2∨k=3)(slot:Slot (jhV k) x id)(hty:typeOf (.builtin id)=pure (.type "method_descriptor"))
  (hg:BOp c lv (.builtin id) g)(h0:CE c sc lv o a)(h:CEs c sc lv es fs)
  (hc:∀env:Env,∃pl,eval (.Call (.Attribute o x apos) es [] pos) env=(do
   let ov ←eval o env
   standAt apos.atName
   let (f,first) ←holding [ov] (getMethod ov x pl)
   callWith pos f first (backTo pos (starEach es env)) (backToKw pos (keywordEach [] env)))) :
  CE c sc lv (.Call (.Attribute o x apos) es [] pos) (aV k g a fs):=by
 intro env A W Kp σ s Q E he hE hA I q
 refine Zx (hc env) fun pl hc=>?_
 refine methodCall_KW (pl:=pl) (h0.use he hE hA I q fun W1 y σ1 v s1 le1 I1 r1 zp9=>?_) hc
 refine Za zp9 fun hkk q1=>?_;refine Za (jkm I1.inv r1 hkk hk) fun hT hd=>?_
 refine getMethod_builtin hT (plainK k) slot hty hd ?_
 refine callWith_of (P:=fun _=>True) (keywords:=[]) (by rw[(h.plainArgs pos env).1];rfl) (fun hh _=>jbm rfl hh) ?_
 refine h.evalArgs he hE hA I1 q1 fun W2 vs xs σ2 s2 le2 I2 r2 q2=>⟨trivial,?_⟩
 exact qa6 (hg env A W2 Kp σ2 s2 Q E (v::vs) (y::xs) hE hA I2 (.cons (r1.mono le2) r2) q2) (fun _ _ z=>z.le (le1.trans le2)) fun _ _ z=>z
end
end
section
open PySem PySem.W PySem.Calls PyProof.Rows PySem.Spec Builtin Builtin.ObjectAttr
theorem jgo{c:Cx}{h:Heap}{d:Addr}{kvs:List (Str×Value)}{name:Str}{v:Value}{tk:Tok}(hm:h.DictOf c.knd d kvs) :
  (h.update d (Obj.putName name (PyData.keyHash c.w.params name) (.str name tk) v)).DictOf c.knd d (stored kvs name v):=by
 refine jaY hm fun o es ep ho hc hd hk hp hn=>?_
 have hidx:(es.findIdx? fun e=>c.knd.is name e.key)=kvs.findIdx? fun kv=>decide (kv.1=name):=by
  rw[←hp.findIdx name];obtain⟨l⟩:=es;simp
 have hq:(fun e:DictEntry=>e.key.isStr name)=fun e=>c.knd.is name e.key:=funext fun e=>isStr_of name e.key
 obtain⟨oc,od,dt,sl⟩:=o
 dsimp only at hd
 subst hd
 refine Zaa hc fun h1 h2 h3=>?_
 dsimp only at h1 h2 h3
 subst h1 h2 h3
 cases hi:es.findIdx? fun e=>c.knd.is name e.key with
 |some i=>
  have e:Obj.putName name (PyData.keyHash c.w.params name) (.str name tk) v ⟨.type "dict",none,.dict es ep,#[]⟩=⟨.type "dict",none,.dict (es.modify i fun e=>{ e with val:=v }) ep,#[]⟩:=by
   simp only[Obj.putName_eq,Obj.putNameByArray,hq,hi]
  refine⟨_,_,ep,(Heap.get?_update_self _ ho (by rw[e];rfl)).trans (by rw[e]),⟨rfl,rfl,rfl⟩,rfl,hk.modify _ _,?_,?_⟩
  ·rw[stored,if_pos (any_of_findIdx_some (hidx▸hi))]
   have hl:(es.toList.findIdx? fun e=>c.knd.is name e.key)=some i:=by rw[←hi];obtain⟨l⟩:=es;simp
   have:=hp.modify hn hl v
   obtain⟨l⟩:=es
   simpa using this
  ·rw[stored,if_pos (any_of_findIdx_some (hidx▸hi)),keys_map_store];exact hn
 |none=>
  have hnot:name∉kvs.map (·.1):=not_mem_of_findIdx_none (hidx▸hi)
  have hany:¬ (kvs.any fun kv=>decide (kv.1=name))=true:=by
   rw[List.any_eq_true]
   intro zp1;refine Zxa zp1 fun kv hkv he=>?_
   exact hnot (List.mem_map.mpr ⟨kv,hkv,of_decide_eq_true he⟩)
  have e:Obj.putName name (PyData.keyHash c.w.params name) (.str name tk) v ⟨.type "dict",none,.dict es ep,#[]⟩=⟨.type "dict",none,.dict (es.push ⟨PyData.keyHash c.w.params name,.str name tk,v⟩) (ep+1),#[]⟩:=by
   simp only[Obj.putName_eq,Obj.putNameByArray,hq,hi]
  refine⟨_,_,ep+1,(Heap.get?_update_self _ ho (by rw[e];rfl)).trans (by rw[e]),⟨rfl,rfl,rfl⟩,rfl,?_,?_,?_⟩
  ·exact hk.push (k:=name) (strKind_is c.prog c.w name tk) v
  ·rw[stored,if_neg hany]
   have:=hp.append (k:=name) (strKind_is c.prog c.w name tk) (PyData.keyHash c.w.params name) v
   simpa using this
  ·rw[stored,if_neg hany,List.map_append,List.nodup_append]
   refine⟨hn,by simp,fun a ha b hb=>?_⟩
   simp at hb
   subst hb
   intro e;subst e;exact hnot ha
inductive aH where
 |next|brk|cont
 |ret (v:MV)
noncomputable abbrev MS:=AS→(aH→AS→Prop)→Prop
inductive FR(S:Nat→Str)(W:Wd):Flow→aH→Prop
 |next:FR S W .next .next
 |brk:FR S W .brk .brk
 |cont:FR S W .cont .cont
 |ret {v:Value}{x:MV}(h:VR S W v x):FR S W (.ret v) (.ret x)
noncomputable def PS(c:Cx)(W:Wd)(Kp:aJ)(env:Env)(Q:aH→AS→Prop)(f:Flow)(s':Shared):Prop:=
 ∃W' g σ',W.le W'∧InvF c W' Kp env σ' s'∧FR c.S W' f g∧Q g σ'
theorem PS.ex{c:Cx}{W:Wd}{Kp:aJ}{env:Env}{Q:aH→AS→Prop}{f:Flow}{s:Shared}{p:Prop}(z:PS c W Kp env Q f s)(k:∀W' g σ',W.le W'→InvF c W' Kp env σ' s→FR c.S W' f g→Q g σ'→p):p:=
 by refine cS z fun W' y σ' a b d e=>?_;exact k W' y σ' a b d e
theorem PS.le{c:Cx}{W W':Wd}{Kp:aJ}{env:Env}{Q:aH→AS→Prop}{f:Flow}{s:Shared}(le:W.le W')(x:PS c W' Kp env Q f s):PS c W Kp env Q f s:=by
 refine cS x fun W'' g σ a b d e=>?_;exact⟨W'',g,σ,le.trans a,b,d,e⟩
noncomputable def CS(c:Cx)(sc:Scope)(lv:Nat)(st:Stmt)(g:MS):Prop:=
 ∀(env:Env)(A:Around)(W:Wd)(Kp:aJ)(σ:AS)(s:Shared)(Q:aH→AS→Prop)(E:Value→Shared→Prop),
  env.scope=sc→EOK env→AOK c lv A Kp env→InvF c W Kp env σ s→g σ Q→wpAny c.M A (exec st env) (PS c W Kp env Q) E s
noncomputable def CSs(c:Cx)(sc:Scope)(lv:Nat)(sts:List Stmt)(g:MS):Prop:=
 ∀(env:Env)(A:Around)(W:Wd)(Kp:aJ)(σ:AS)(s:Shared)(Q:aH→AS→Prop)(E:Value→Shared→Prop),
  env.scope=sc→EOK env→AOK c lv A Kp env→InvF c W Kp env σ s→g σ Q→wpAny c.M A (execs sts env) (PS c W Kp env Q) E s
theorem jfZ{env:Env}(h:EOK env):interactive env=false:=by unfold interactive;rw[h.kind];rfl
section
variable {c:Cx}{sc:Scope}{lv:Nat}
noncomputable def aE:MS:=fun σ Q=>Q .next σ
noncomputable def ao(a b:MS):MS:=fun σ Q=>a σ fun f σ1=>match f with|.next=>b σ1 Q|.brk=>Q .brk σ1|.cont=>Q .cont σ1|.ret v=>Q (.ret v) σ1
theorem aO:CSs c sc lv [] aE:=by
 intro env A W Kp σ s Q E he hE hA I q
 exact wpAny_execs_nil ⟨W,_,σ,.refl W,I,.next,q⟩
theorem am{st:Stmt}{rest:List Stmt}{a b:MS}(h:CS c sc lv st a)(t:CSs c sc lv rest b):CSs c sc lv (st::rest) (ao a b):=by
 intro env A W Kp σ s Q E he hE hA I q
 refine wpAny_execs_cons (qa6 (h env A W Kp σ s _ E he hE hA I q) (fun f s1 z0=>z0.ex fun W1 g σ1 le1 I1 r1 q1=>?_) fun _ _ z=>z)
 cases r1 with
 |next=>exact qa6 (t env A W1 Kp σ1 s1 Q E he hE hA I1 q1) (fun _ _ z=>z.le le1) fun _ _ z=>z
 |brk=>exact⟨W1,_,σ1,le1,I1,.brk,q1⟩
 |cont=>exact⟨W1,_,σ1,le1,I1,.cont,q1⟩
 |ret h=>exact⟨W1,_,σ1,le1,I1,.ret h,q1⟩
theorem aw{st:Stmt}{a:MS}(h:CS c sc lv st a):CSs c sc lv [st] a:=by
 intro env A W Kp σ s Q E he hE hA I q
 refine wpAny_execs_cons (qa6 (h env A W Kp σ s _ E he hE hA I q) (fun f s1 z0=>z0.ex fun W1 g σ1 le1 I1 r1 q1=>?_) fun _ _ z=>z)
 cases r1 with
 |next=>exact wpAny_execs_nil ⟨W1,_,σ1,le1,I1,.next,q1⟩
 |brk=>exact⟨W1,_,σ1,le1,I1,.brk,q1⟩
 |cont=>exact⟨W1,_,σ1,le1,I1,.cont,q1⟩
 |ret h=>exact⟨W1,_,σ1,le1,I1,.ret h,q1⟩
noncomputable def dm:MS:=fun _ _=>False
theorem cW{sts:List Stmt}:CSs c sc lv sts dm:=fun _ _ _ _ _ _ _ _ _ _ _ _ q=>q.elim
noncomputable def sBrk:MS:=fun σ Q=>Q .brk σ
noncomputable def eO:MS:=fun σ Q=>Q .cont σ
theorem CS_brk{pos:Pos}:CS c sc lv (.Break pos) sBrk:=fun env A W Kp σ s Q E he hE hA I q=>qa5 (wpAny_standAt (qa8 ⟨W,_,σ,.refl W,I,.brk,q⟩))
theorem jdD{pos:Pos}:CS c sc lv (.Continue pos) eO:=fun env A W Kp σ s Q E he hE hA I q=>qa5 (wpAny_standAt (qa8 ⟨W,_,σ,.refl W,I,.cont,q⟩))
noncomputable def bD(f:MEx):MS:=fun σ Q=>f σ fun v σ1=>Q (.ret v) σ1
theorem cg{e:Expr}{f:MEx}{pos:Pos}(h:CE c sc lv e f):CS c sc lv (.Return (some e) pos) (bD f):=by
 intro env A W Kp σ s Q E he hE hA I q
 exact wpAny_Return_some (h.use he hE hA I q fun W1 x σ1 v s1 le1 I1 r1 q1=>⟨W1,_,σ1,le1,I1,.ret r1,q1⟩)
theorem jfW{pos:Pos}:CS c sc lv (.Return none pos) (bD (ah .none)):=by
 intro env A W Kp σ s Q E he hE hA I q
 exact wpAny_Return_none ⟨W,_,σ,.refl W,I,.ret .none,q⟩
noncomputable def aI(f:MEx):MS:=fun σ Q=>f σ fun v σ1=>v=.none∧Q .next σ1
theorem bb{e:Expr}{f:MEx}{pos:Pos}(h:CE c sc lv e f)(hs:∀env,swapsWith e none pos.line env=pure false:=by intro _;rfl):CS c sc lv (.Expr e pos) (aI f):=by
 intro env A W Kp σ s Q E he hE hA I q
 refine wpAny_Expr (h.use he hE hA I q fun W1 x σ1 v s1 le1 I1 r1 zp3=>?_) (jfZ hE) (hs env)
 refine Za zp3 fun hx q1=>?_;subst hx
 rw[r1.of_none]
 exact⟨W1,_,σ1,le1,I1,.next,q1⟩
noncomputable def sIf(t:MT)(a b:MS):MS:=fun σ Q=>t σ fun r σ1=>match r with|true=>a σ1 Q|false=>b σ1 Q
theorem bd{e:Expr}{b1 b2:List Stmt}{t:MT}{a b:MS}{pos:Pos}(h:CT c sc lv e t)(h1:CSs c sc lv b1 a)(h2:CSs c sc lv b2 b):CS c sc lv (.If e b1 b2 pos) (sIf t a b):=by
 intro env A W Kp σ s Q E he hE hA I q
 refine wpAny_If (h.use he hE hA I q fun W1 σ1 r s1 le1 I1 q1=>?_)
 cases r
 ·exact qa6 (h2 env A W1 Kp σ1 s1 Q E he hE hA I1 q1) (fun _ _ z=>z.le le1) fun _ _ z=>z
 ·exact qa6 (h1 env A W1 Kp σ1 s1 Q E he hE hA I1 q1) (fun _ _ z=>z.le le1) fun _ _ z=>z
noncomputable def jbp(t:MT):MS:=fun σ Q=>t σ fun r σ1=>r=true∧Q .next σ1
theorem jee{e:Expr}{msg:Option Expr}{t:MT}{pos:Pos}(h:CT c sc lv e t):CS c sc lv (.Assert e msg pos) (jbp t):=by
 intro env A W Kp σ s Q E he hE hA I q
 exact wpAny_Assert_holds (h.use he hE hA I q fun W1 σ1 r s1 le1 I1 zp4=>by refine Za zp4 fun hr q1=>?_;exact⟨hr,W1,_,σ1,le1,I1,.next,q1⟩)
theorem ae(m:List (Nat×MV))(x y:Nat)(v:MV):(ar m x v).lookup y=if y=x then some v else m.lookup y:=by
 unfold ar
 split
 ·rename_i h
  induction m with
  |nil=>simp at h
  |cons p m ih=>
   obtain⟨k,u⟩:=p
   rw[List.map_cons]
   by_cases hk:k=x
   ·subst hk
    simp only[beq_self_eq_true,if_true]
    by_cases hy:y=k
    ·subst hy;simp
    ·rw[List.lookup_cons,beq_eq_false_iff_ne.mpr hy,if_neg hy,List.lookup_cons,beq_eq_false_iff_ne.mpr hy]
     by_cases hm:(m.any fun p=>p.1 == k)=true
     ·rw[ih hm,if_neg hy]
     ·have:m.map (fun p=>if (p.1 == k)=true then(p.1,v) else p)=m:=by
       refine map_eq_self fun q hq=>?_
       rw[if_neg]
       intro hh
       exact hm (List.any_eq_true.mpr ⟨q,hq,hh⟩)
      rw[this]
   ·have hk':(k == x)=false:=beq_eq_false_iff_ne.mpr hk
    simp only[hk',Bool.false_eq_true,if_false]
    rw[List.any_cons,hk',Bool.false_or] at h
    rw[List.lookup_cons,List.lookup_cons,ih h]
    by_cases hy:y=k
    ·subst hy;simp[hk]
    ·rw[beq_eq_false_iff_ne.mpr hy]
 ·rename_i h
  rw[List.lookup_append]
  by_cases hy:y=x
  ·subst hy
   have:m.lookup y=none:=by
    rw[List.lookup_eq_none_iff]
    intro p hp
    rw[bne_iff_ne]
    intro hh
    exact h (List.any_eq_true.mpr ⟨p,hp,by rw[beq_iff_eq];exact hh.symm⟩)
   rw[this];simp
  ·have:List.lookup y [(x,v)]=none:=by rw[List.lookup_cons,beq_eq_false_iff_ne.mpr hy];rfl
   rw[this];simp[hy]
theorem jfV{h:Heap}{a b:Addr}{m:Str→Option Value}{v:Option Value}(n:h.Ns a m)(x:h.IsCell b v):b≠a:=by
 intro e;subst e
 refine eH n fun o es ep h1 h2 _=>?_
 refine Zxa x fun o' h3 h4=>?_
 rw[h1] at h3;obtain rfl:=qa1 h3;rw[h2] at h4;cases h4
theorem jbF{A:Around}{W:Wd}{Kp:aJ}{env:Env}{σ:AS}{s:Shared}{E:Value→Shared→Prop}{R:Unit→Shared→Prop}{v:Value}{mv:MV}{x:Nat}(hE:EOK env)(I:InvF c W Kp env σ s)(r:VR c.S W v mv)
  (hk:env.kindOf (c.S x)=some .local∨env.kindOf (c.S x)=some .cell)(k:∀s',InvF c W Kp env { σ with m:=ar σ.m x mv } s'→R () s'):wpAny c.M A (storeName env (c.S x) v) R E s:=by
 refine Zxa I.fm.ns fun mm hns hm=>?_
 rcases hk with hk|hk
 ·refine wpAny_storeName_local hk hns (fun h' hn hs=>k _ ?_) (by rw[hE.kind];rfl)
  have out:=I.fm.out env.locals (.inl rfl)
  have ne:∀b,((W.own b).isSome=true∨(Kp b).isSome=true∨(W.F b).isSome=true)→b≠env.locals:=fun b hb e=>by
   subst e;rw[out.1,out.2.1,out.2.2] at hb;simp at hb
  refine⟨I.inv.grown (fun b o hb g=>(hs.2 b (ne b hb)).trans g),I.fm.out,⟨_,hn,fun y u hy hl=>?_⟩,fun y u hy hl=>?_,fun y hl=>?_,I.fm.apart,I.fm.free⟩
  ·rw[ae] at hy
   by_cases e:y=x
   ·subst e
    rw[if_pos rfl] at hy;obtain rfl:=qa1 hy
    exact⟨v,if_pos rfl,r⟩
   ·rw[if_neg e] at hy
    refine Zxa (hm y u hy hl) fun u' p q=>?_
    exact⟨u',by rw[if_neg fun e'=>e (c.inj _ _ e')];exact p,q⟩
  ·rw[ae] at hy
   by_cases e:y=x
   ·subst e;rw[hk] at hl;rcases hl with hl|hl<;>cases hl
   ·rw[if_neg e] at hy
    refine cG (I.fm.cell y u hy hl) fun b u' p q r'=>?_
    exact⟨b,u',p,q.sameBut hs (jfV hns q),r'⟩
  ·refine bt (I.fm.own y hl) fun b u p q=>?_
   exact⟨b,u,p,q.sameBut hs (jfV hns q)⟩
 ·refine bt (I.fm.own x hk) fun b u₀ hl hc=>?_
  refine wpAny_storeName_cell hE.kind hk hl hc fun h' hc' hs=>k _ ?_
  have out:=I.fm.out b (.inr ⟨x,hk,hl⟩)
  have ne:∀d,((W.own d).isSome=true∨(Kp d).isSome=true∨(W.F d).isSome=true)→d≠b:=fun d hb e=>by
   subst e;rw[out.1,out.2.1,out.2.2] at hb;simp at hb
  refine⟨I.inv.grown (tk:=s.toks) (fun d o hb g=>(hs.2 d (ne d hb)).trans g),I.fm.out,⟨mm,hns.sameBut hs (Ne.symm (jfV hns hc)),fun y u hy hl'=>?_⟩,fun y u hy hl'=>?_,fun y hl'=>?_,I.fm.apart,I.fm.free⟩
  ·rw[ae] at hy
   by_cases e:y=x
   ·subst e;rw[hk] at hl';cases hl'
   ·rw[if_neg e] at hy;exact hm y u hy hl'
  ·rw[ae] at hy
   by_cases e:y=x
   ·subst e
    rw[if_pos rfl] at hy;obtain rfl:=qa1 hy
    exact⟨b,v,hl,hc',r⟩
   ·rw[if_neg e] at hy
    refine cG (I.fm.cell y u hy hl') fun d u' p q r'=>?_
    have hdb:d≠b:=by
     intro hd;subst hd
     rcases hl' with hl'|hl'
     ·exact e (I.fm.apart y x d hl' hk p hl)
     ·refine bt (I.fm.free y hl') fun d' o p' q'=>?_
      rw[p] at p';obtain rfl:=qa1 p'
      rw[out.2.2] at q';exact Xns q'
    exact⟨d,u',p,q.sameBut hs hdb,r'⟩
  ·by_cases e:y=x
   ·subst e;exact⟨b,some v,hl,hc'⟩
   ·refine bt (I.fm.own y hl') fun d u p q=>?_
    have hdb:d≠b:=by
     intro hd;subst hd
     exact e (I.fm.apart y x d hl' hk p hl)
    exact⟨d,u,p,q.sameBut hs hdb⟩
noncomputable def aL(x:Nat)(f:MEx):MS:=fun σ Q=>f σ fun v σ1=>Q .next { σ1 with m:=ar σ1.m x v }
theorem jiI{n:Str}{np pos:Pos}{e:Expr}{f:MEx}(x:Nat)(hn:c.S x=n)(hk:sc.names.lookup n=some .local∨sc.names.lookup n=some .cell)(h:CE c sc lv e f)
  (hs:∀env,env.scope=sc→EOK env→swapsWith e (some (.Name n np)) pos.line env=pure false:=by intro _ _ _;rfl):CS c sc lv (.Assign [.Name n np] e pos) (aL x f):=by
 subst hn
 intro env A W Kp σ s Q E he hE hA I q
 refine wpAny_Assign_Name (h.use he hE hA I q fun W1 y σ1 v s1 le1 I1 r1 q1=>?_) (hs env he hE)
 exact jbF hE I1 r1 (by subst he;exact hk) fun s' I'=>⟨W1,_,_,le1,I',.next,q1⟩
theorem jar(es:List (Nat×MV))(n:Nat)(x:MV):(ar es n x).length≤es.length+1:=by
 unfold ar;split
 ·simp
 ·simp
noncomputable def setA(o:MV)(n:Nat)(x:MV)(σ:AS)(Q:AS→Prop):Prop:=
 ∃t C es,o=.tag t∧σ.H t=some (.inst C es)∧n∈d9 C∧es.length<1000∧Q { σ with H:=ay σ.H t (.inst C (ar es n x)) }
theorem Fm.own_change{W:Wd}{Kp:aJ}{env:Env}{m:List (Nat×MV)}{h h':Heap}{a:Addr}{t:Tag}(f:Fm c W Kp env m h)(ow:W.own a=some t)(hk:Kp a=none)(hs:Heap.SameBut a h h'):Fm c W Kp env m h':=by
 refine f.move (Wd.le.refl W) (fun b hb=>⟨(f.out b hb).1,(f.out b hb).2.1⟩) fun b o hb g=>(hs.2 b fun e=>?_).trans g
 subst e
 rcases hb with hb|hb
 ·rw[(f.out b hb).1] at ow;exact Xns ow
 ·rw[hk] at hb;exact Xft hb
theorem Inv.own_kp{W:Wd}{Kp:aJ}{H:Tag→Option MObj}{nx:Nat}{s:Shared}{a:Addr}{t:Tag}(I:Inv c W Kp H nx s)(ow:W.own a=some t):Kp a=none:=by
 cases q:Kp a with
 |none=>rfl
 |some o=>rw[I.kpOwn a o q] at ow;exact Xns ow
theorem InvF.changed{W:Wd}{Kp:aJ}{env:Env}{σ:AS}{s:Shared}{t:Tag}{o o':MObj}{a:Addr}{h':Heap}{tk:Nat}(I:InvF c W Kp env σ s)(e:σ.H t=some o)(ow:W.own a=some t)(hs:Heap.SameBut a s.heap h')(x:OR c W t o' h')(ha:∃ob,h'.get? a=some ob)(hk:∀ps A,o=.obj (tabObj ps) A→∃ps',o'=.obj (tabObj ps') A:=by intro _ _ e;cases e) :
  InvF c W Kp env { σ with H:=ay σ.H t o' } { s with heap:=h',toks:=tk }:=
 ⟨I.inv.changed e ow hs x ha hk,I.fm.own_change ow (I.inv.own_kp ow) hs⟩
theorem jj4{A:Around}{W:Wd}{Kp:aJ}{env:Env}{σ:AS}{s:Shared}{E:Value→Shared→Prop}{R:Unit→Shared→Prop}{Q:AS→Prop}{o v:Value}{x y:MV}{n:Nat}(I:InvF c W Kp env σ s)(ro:VR c.S W o x)(rv:VR c.S W v y)
  (q:setA x n y σ Q)(k:∀σ' s',InvF c W Kp env σ' s'→Q σ'→R () s'):wpAny c.M A (setAttr o (c.S n) v) R E s:=by
 refine bZ q fun t C es zq1 zq2=>?_;obtain rfl:=zq1;refine eS zq2 fun h1 h2 h3 q=>?_
 refine dh (jci I.inv ro h1) fun a d kvs od zq1 zq2=>?_;obtain rfl:=zq1;refine Zaa zq2 fun ha owa X=>?_
 have Fc:=c.cls_facts X.C4
 refine Zxa Fc.cd fun cd hcd hdict=>?_
 refine set_plain I.inv.KIn X.inst Fc.sa ?_
 have I1:=I.tok (s.toks+1)
 have ht:takerIn c.K (c.cls C) (c.S n)=some none:=by unfold takerIn;rw[c.hattr C n h2];rfl
 refine osa_open (s:={ s with toks:=s.toks+1 }) I1.inv.KIn X.inst Fc.pl ht fun b=>?_
 obtain⟨hx,hcl,hno,hdi⟩:=X.inst
 have D:=X.dict
 have D0:=X.dict
 refine jaY D fun o' ents ep e1 e2 e3 e4 e5 e6=>?_
 have hod:od=o':=by
  have:=hdi
  dsimp only at this
  rw[e1] at this;exact(qa1 this).symm
 subst hod
 refine qa5 (qa8 (qa5 (qa5 (wpAny_loadPart hx (qa5 ((looks_clsIn I1.inv.KIn hcd).here ?_))))))
 rw[hdict]
 refine qa8 (a:=some d) (qa5 (qa8 (qa5 ?_)))
 unfold nsSet
 refine qa5 (qa5 (wpAny_askSetting (qa8 (qa5 (wpAny_mkText (qa5 (wpAny_loadPart e1 ?_)))))))
 rw[e3]
 dsimp only
 have hc:(!ents.any (·.key.isStr (c.S n))&&ents.any (·.refKey))=false:=by
  have:ents.any (·.refKey)=false:=by
   rw[Array.any_eq_false']
   intro e he
   refine Zxa (e4 e he) fun k hk1 _=>?_
   refine Zx (Value.isStrOf_shape (show Value.isStrOf k e.key=true from hk1)) fun tt htt=>?_
   simp[DictEntry.refKey,htt]
  rw[this,Bool.and_false]
 rw[aRefKeyMayBeTheName_at,hc]
 refine wpAny_updatePart e1 ?_
 have hs:Heap.SameBut d s.heap (s.heap.update d (Obj.putName (c.S n) (PyData.keyHash c.w.params (c.S n)) (.str (c.S n) (s.toks+1)) v)):=Heap.SameBut.update ..
 have D':=jgo (c:=c) (name:=c.S n) (v:=v) (tk:=s.toks+1) D0
 have D1:=D'
 refine jaY D' fun o2 ents2 ep2 f1 f2 f3 f4 f5 f6=>?_
 have hsz:ents2.size≤sizeLine+1:=by
  have l1:=f5.length
  have l2:=(X.kv.put n rv).length
  have l3:=jar es n y
  rw[sizeLine_eq]
  have:ents2.toList.length=ents2.size:=rfl
  omega
 refine qa5 (wpAny_lookBehind f1 (by rw[f3];exact pastItsLine_dict hsz) ?_)
 refine qa8 ?_
 have hda:d≠a:=by
  intro e;subst e
  rw[e1] at hx;obtain rfl:=qa1 hx;cases e3
 have OR':OR c W t (.inst C (ar es n y)) (s.heap.update d (Obj.putName (c.S n) (PyData.keyHash c.w.params (c.S n)) (.str (c.S n) (s.toks+1)) v)):=
  ⟨a,d,_,ha,owa,X.owd,(hs.2 a (Ne.symm hda)).trans X.at_,D1,X.kv.put n rv,X.C4,by have:=jar es n y;exact Nk2 0 1 1 1000 0 1000 this h3 rfl⟩
 exact k _ _ (I.changed h1 X.owd hs OR' ⟨_,f1⟩) q
noncomputable def aT(o:MEx)(n:Nat)(f:MEx):MS:=fun σ Q=>f σ fun v σ1=>o σ1 fun u σ2=>setA u n v σ2 fun σ3=>Q .next σ3
theorem aQ{eo e:Expr}{x:Str}{np pos:Pos}{o f:MEx}(n:Nat)(hn:c.S n=x)(ho:CE c sc lv eo o)(h:CE c sc lv e f)
  (hs:∀env,swapsWith e (some (.Attribute eo x np)) pos.line env=pure false:=by intro _;rfl):CS c sc lv (.Assign [.Attribute eo x np] e pos) (aT o n f):=by
 subst hn
 intro env A W Kp σ s Q E he hE hA I q
 refine plainObj_wpAny_Assign_Attribute (h.use he hE hA I q fun W1 y σ1 v s1 le1 I1 r1 q1=>?_) (hs env)
 refine ho.use he hE hA I1 q1 fun W2 z σ2 u s2 le2 I2 r2 q2=>?_
 exact jj4 I2 r2 (r1.mono le2) q2 fun σ' s' I' q'=>⟨W2,_,σ',le1.trans le2,I',.next,q'⟩
noncomputable def setI(o i x:MV)(σ:AS)(Q:AS→Prop):Prop:=
 (∃t xs k,o=.tag t∧i=.int k∧σ.H t=some (.list xs)∧0≤k∧k.toNat<xs.length∧Q { σ with H:=ay σ.H t (.list (xs.set k.toNat x)) })∨
 (∃t es eo n,o=.tag t∧i=.str n∧σ.H t=some (.dict es eo)∧es.length<1000∧Q { σ with H:=ay σ.H t (.dict (ar es n x)) })
theorem jd4{A:Around}{E:Value→Shared→Prop}{s:Shared}{l:Addr}{items:Array Value}{k:Int}{t:Tok}{v:Value}{Q:Unit→Shared→Prop}(hl:s.heap.PlainList l items)
  (h0:0≤k)(hfit:k<2 ^ 63)(hn:k<items.size)
  (hQ:∀h',h'.PlainList l (items.setIfInBounds k.toNat v)→Heap.SameBut l s.heap h'→Q () { s with heap:=h' }) :
  wpAny c.M A (setItem (.ref l) (.int k t) v) Q E s:=by
 refine Zx (id hl) fun ne ho=>?_
 have hT:=hl.isList.typeIs (s:=s)
 unfold setItem
 try with_reducible refine wpAny_holding ?_
 first|refine qa5 (qa8 ?_)|skip
 refine qa5 (wpAny_sequenceKey hT (by decide) ?_)
 refine qa5 (wpAny_callSpecial?_slot (name:=Str.ofString "__setitem__") hT slot_list_setitem
  (wpAny_call_entry slot_list_setitem hT entry_list_setitem ?_ (args_list_setitem _ _ _)))
 show wpAny _ _ (Builtin.List.listSubscript? (.int k t) >>= _) _ _ s
 refine qa5 (wpAny_listSubscript_int (fitsIndex_of h0 hfit) ?_)
 clear hfit
 refine Zx (Int.eq_ofNat_of_zero_le h0) fun j zq1=>?_;obtain rfl:=zq1
 have hj:j<items.size:=Int.ofNat_lt.mp hn
 have hx':items[j]?=some items[j]:=Array.getElem?_eq_getElem hj
 show wpAny _ _ ((seqItemAt l j >>= fun r=>pure (r.map (j,·))) >>= _) _ _ s
 refine qa5 (qa5 (wpAny_seqItemAt ho rfl (qa8 ?_)))
 rw[hx']
 show wpAny _ _ (setSeqItemAt l j v >>= _) _ _ s
 have e:Obj.mapSeq (·.setIfInBounds j v) { cls:=.type "list",data:=.seq items ne }={ cls:=.type "list",data:=.seq (items.setIfInBounds j v) ne }:=by
  simp[Obj.mapSeq]
 have hfin:(s.heap.update l (Obj.mapSeq (·.setIfInBounds j v))).PlainList l (items.setIfInBounds j v):=
  ⟨ne,by rw[Heap.get?_update_self _ ho (by rw[e];rfl),e]⟩
 refine qa5 (wpAny_setSeqItemAt ho rfl ?_)
 first
  |exact qa5 (qa8 (qa8 ⟨.none,rfl,qa8 (hQ _ hfin (Heap.SameBut.update ..))⟩))
  |exact qa8 ⟨.none,rfl,qa8 (hQ _ hfin (Heap.SameBut.update ..))⟩
theorem je7{h:Heap}{a:Addr}{vs:List Value}{n:Nat}(g:h.get? a=some (bS vs n)):h.PlainList a vs.toArray:=⟨n,g⟩
theorem jc3{W:Wd}{Kp:aJ}{H:Tag→Option MObj}{nx:Nat}{s:Shared}{v:Value}{t:Tag}{xs:List MV}(I:Inv c W Kp H nx s)(r:VR c.S W v (.tag t))(e:H t=some (.list xs)) :
  ∃a vs n,v=.ref a∧W.ρ t=some a∧W.own a=some t∧s.heap.get? a=some (bS vs n)∧VRs c.S W vs xs∧xs.length≤100000:=by
 refine Zxa r.of_tag fun a zq1 ha=>?_;obtain rfl:=zq1
 refine jbH (I.objs _ _ e) fun a' vs n r' o1 g hv hl=>?_
 rw[ha] at r';obtain rfl:=qa1 r'
 exact⟨a,vs,n,rfl,ha,o1,g,hv,hl⟩
theorem OR.list{W:Wd}{t:Tag}{a:Addr}{vs:List Value}{xs:List MV}{h:Heap}(ha:W.ρ t=some a)(ow:W.own a=some t)(p:h.PlainList a vs.toArray)(r:VRs c.S W vs xs)(hl:xs.length≤100000):OR c W t (.list xs) h:=by
 refine Zx p fun n g=>?_
 exact⟨a,vs,n,ha,ow,g,r,hl⟩
theorem jj3{A:Around}{W:Wd}{Kp:aJ}{env:Env}{σ:AS}{s:Shared}{E:Value→Shared→Prop}{R:Unit→Shared→Prop}{Q:AS→Prop}{o i v:Value}{x y z:MV}(I:InvF c W Kp env σ s)(ro:VR c.S W o x)(ri:VR c.S W i y)(rv:VR c.S W v z)
  (q:setI x y z σ Q)(k:∀σ' s',InvF c W Kp env σ' s'→Q σ'→R () s'):wpAny c.M A (setItem o i v) R E s:=by
 rcases q with⟨t,xs,j,rfl,rfl,h1,h2,h3,q⟩|⟨t,es,eo,n,rfl,rfl,h1,h2,q⟩
 ·refine bZ (jc3 I.inv ro h1) fun a vs n zq1 zq2=>?_;obtain rfl:=zq1;refine fc zq2 fun ha ow g hv hl=>?_
  refine Zx ri.of_int fun tk zq1=>?_;obtain rfl:=zq1
  have hlen:=hv.length
  refine jd4 (je7 g) h2 (sm3 h3 hl rfl) (by rw[List.size_toArray];omega) fun h' p hs=>?_
  have p':h'.PlainList a (vs.set j.toNat v).toArray:=by
   have e:vs.toArray.setIfInBounds j.toNat v=(vs.set j.toNat v).toArray:=by simp
   rw[←e];exact p
  have I':=I.changed (tk:=s.toks) (o':=.list (xs.set j.toNat z)) h1 ow hs (OR.list ha ow p' (All2.set rv hv _) (by rw[List.length_set];exact hl)) (by refine Zx p' fun _ e=>?_;exact⟨_,e⟩)
  exact k _ _ I' q
 ·refine bt (jbN I.inv ro h1) fun a kvs zq1 zq2=>?_;obtain rfl:=zq1;refine dD zq2 fun ha ow hd kv hl hsm=>?_
  refine Zx ri.of_str fun tk zq1=>?_;obtain rfl:=zq1
  refine wpAny_setItem_pairs (eE c n tk) hd (fun h' hd' hs=>?_) (by rw[kv.length];exact jdw hl)
  have I':=I.changed (tk:=s.toks+1) (o':=.dict (ar es n z)) h1 ow hs ⟨a,_,ha,ow,hd',kv.put n rv,by have:=jar es n z;exact Nk2 0 1 1 1000 0 100000 this h2 rfl,fun _ q=>nomatch q⟩ (by refine bZ hd' fun _ _ _ e _=>?_;exact⟨_,e⟩)
  exact k _ _ I' q
noncomputable def dv(o i f:MEx):MS:=fun σ Q=>f σ fun v σ1=>o σ1 fun u σ2=>i σ2 fun w σ3=>setI u w v σ3 fun σ4=>Q .next σ4
theorem jba{eo ei e:Expr}{np pos:Pos}{o i f:MEx}(ho:CE c sc lv eo o)(hi:CE c sc lv ei i)(h:CE c sc lv e f)
  (hs:∀env,swapsWith e (some (.Subscript eo ei np)) pos.line env=pure false:=by intro _;rfl):CS c sc lv (.Assign [.Subscript eo ei np] e pos) (dv o i f):=by
 intro env A W Kp σ s Q E he hE hA I q
 refine wpAny_Assign_Subscript (h.use he hE hA I q fun W1 y σ1 v s1 le1 I1 r1 q1=>?_) (hs env)
 refine ho.use he hE hA I1 q1 fun W2 z σ2 u s2 le2 I2 r2 q2=>?_
 refine hi.use he hE hA I2 q2 fun W3 z' σ3 u' s3 le3 I3 r3 q3=>?_
 exact jj3 I3 (r2.mono le3) r3 (r1.mono (le2.trans le3)) q3 fun σ' s' I' q'=>⟨W3,_,σ',(le1.trans le2).trans le3,I',.next,q'⟩
noncomputable def jcd:List Nat→List MV→AS→AS
 |x::xs,v::vs,σ=>jcd xs vs { σ with m:=ar σ.m x v }
 |_,_,σ=>σ
inductive NTs(c:Cx)(sc:Scope):List Expr→List Nat→Prop
 |nil:NTs c sc [] []
 |cons {n:Str}{p:Pos}{es:List Expr}{xs:List Nat}(x:Nat)(hn:c.S x=n)(hk:sc.names.lookup n=some .local∨sc.names.lookup n=some .cell)(t:NTs c sc es xs):NTs c sc (.Name n p::es) (x::xs)
theorem NTs.each{es:List Expr}{xs:List Nat}(h:NTs c sc es xs)(env:Env):(assignEach es env).length=xs.length∧(assignEach es env).findIdx? (·.1)=none:=by
 induction h with
 |nil=>exact⟨rfl,rfl⟩
 |cons x hn hk t ih=>exact⟨congrArg (·+1) ih.1,by show List.findIdx? _ ((false,_)::assignEach _ env)=none;rw[List.findIdx?_cons];simp[ih.2]⟩
theorem NTs.stores{env:Env}{A:Around}{W:Wd}{Kp:aJ}{E:Value→Shared→Prop}{R:Unit→Shared→Prop}(he:env.scope=sc)(hE:EOK env){es:List Expr}{xs:List Nat}(h:NTs c sc es xs):∀{vs:List Value}{ys:List MV}{σ:AS}{s:Shared},VRs c.S W vs ys→InvF c W Kp env σ s→xs.length=ys.length→
  (∀s',InvF c W Kp env (jcd xs ys σ) s'→R () s')→wpAny c.M A (assignInOrder ((assignEach es env).map (·.2)) vs) R E s:=by
 induction h with
 |nil=>
  intro vs ys σ s hv I hl k
  cases hv with
  |nil=>exact qa8 (k s I)
  |cons _ _=>cases hl
 |cons x hn hk t ih=>
  intro vs ys σ s hv I hl k
  cases hv with
  |nil=>cases hl
  |cons r hv=>
   subst hn
   refine qa5 (wpAny_holding (wpAny_assign_Name (jbF hE I r (by unfold Env.kindOf;rw[he];exact hk) fun s' I'=>?_)))
   exact ih hv I' (Nat.succ.inj hl) k
theorem jh2{env:Env}{A:Around}{W:Wd}{Kp:aJ}{σ:AS}{s:Shared}{E:Value→Shared→Prop}{R:Unit→Shared→Prop}{es:List Expr}{xs:List Nat}{k:Nat}{pos:Pos}{v:Value}{ys:List MV}(he:env.scope=sc)(hE:EOK env)(hA:AOK c lv A Kp env)(h:NTs c sc es xs)
  (I:InvF c W Kp env σ s)(r:VR c.S W v (.tup ys))(hl:xs.length=ys.length)(q:∀s',InvF c W Kp env (jcd xs ys σ) s'→R () s'):wpAny c.M A (assign (.Tuple es k pos) env v) R E s:=by
 refine bZ r.of_tup fun a vs n zq1 zq2=>?_;obtain rfl:=zq1;refine Zaa zq2 fun g hv _=>?_
 refine Za (h.each env) fun e1 e2=>?_
 refine wpAny_assign_Tuple hA.handled (jbh (I.inv.frz _ _ g)) (by rw[e1,hl,List.size_toArray,hv.length]) e2 fun h' hx=>?_
 have k':∀b ob,s.heap.get? b=some ob→h'.get? b=some ob:=fun b ob g=>hx b ob (qa7 (Heap.lt_size g)) g
 exact h.stores he hE hv (s:={ s with heap:=h' }) ⟨I.inv.grown (tk:=s.toks) (fun b o _ g=>k' b o g),I.fm.alloc (.refl W) (fun _ _=>⟨rfl,rfl⟩) k'⟩ hl q
noncomputable def jbz(xs:List Nat)(f:MEx):MS:=fun σ Q=>f σ fun v σ1=>∃ys,v=.tup ys∧xs.length=ys.length∧Q .next (jcd xs ys σ1)
theorem jg4{es:List Expr}{k:Nat}{tpos pos:Pos}{e:Expr}{f:MEx}{xs:List Nat}(hx:NTs c sc es xs)(h:CE c sc lv e f)
  (hs:∀env,swapsWithSole [.Tuple es k tpos] e pos.line env=pure false:=by intro _;rfl)(hw:∀env,swappedStores [.Tuple es k tpos] e env=pure none:=by intro _;rfl) :
  CS c sc lv (.Assign [.Tuple es k tpos] e pos) (jbz xs f):=by
 intro env A W Kp σ s Q E he hE hA I q
 refine Assign_Tuple (h.use he hE hA I q fun W1 y σ1 v s1 le1 I1 r1 zp7=>?_) (hs env) (hw env)
 refine dR zp7 fun ys hy hl q1=>?_;subst hy
 exact jh2 he hE hA hx I1 r1 hl fun s' I'=>⟨W1,_,_,le1,I',.next,q1⟩
end
end
section
section
variable {c:Cx}{W W':Wd}{Kp:aJ}{env:Env}{σ:AS}{s s':Shared}{m:List (Nat×MV)}{h:Heap}{lv:Nat}{A:Around}
theorem Fm.obj(f:Fm c W Kp env m h){b:Addr}(hb:FA c env b):∃o,h.get? b=some o∧(∀vs n,o.data≠.seq vs n)∧∀vs,o.data≠.fields vs:=by
 rcases hb with rfl|⟨x,hx,hl⟩
 ·refine Zxa f.ns fun mm zq1 _=>?_;refine eH zq1 fun o es ep e hd _=>?_
  exact⟨o,e,fun _ _ q=>(by rw[hd] at q;cases q),fun _ q=>(by rw[hd] at q;cases q)⟩
 ·refine jfq (f.own x hx) fun b' u p o e hd=>?_
  rw[hl] at p;obtain rfl:=qa1 p
  exact⟨o,e,fun _ _ q=>(by rw[hd] at q;cases q),fun _ q=>(by rw[hd] at q;cases q)⟩
open Classical in
noncomputable def KpX(c:Cx)(env:Env)(Kp:aJ)(h:Heap):aJ:=fun b=>if FA c env b then(h.get? b).map (·,true) else Kp b
theorem jfs{b:Addr}(hb:FA c env b):KpX c env Kp h b=(h.get? b).map (·,true):=by unfold KpX;rw[if_pos hb]
theorem jds{b:Addr}(hb:¬ FA c env b):KpX c env Kp h b=Kp b:=by unfold KpX;rw[if_neg hb]
theorem InvF.kpx(I:InvF c W Kp env σ s){b:Addr}{o:Obj×Bool}(e:Kp b=some o):KpX c env Kp s.heap b=some o:=by
 by_cases hb:FA c env b
 ·rw[(I.fm.out b hb).2.2] at e;exact Xns e
 ·rw[jds hb];exact e
theorem InvF.enter(I:InvF c W Kp env σ s):Inv c W (KpX c env Kp s.heap) σ.H σ.nx s:=by
 refine⟨fun a o e=>I.kpx (I.inv.base a o e),fun a o e=>?_,I.inv.frz,fun a o e hB=>?_,I.inv.objs,I.inv.dom,I.inv.old,fun a o e=>?_,I.inv.fOwn,I.inv.os,I.inv.gens,I.inv.emp,I.inv.keepB,I.inv.tab⟩
 ·by_cases hb:FA c env a
  ·rw[jfs hb] at e
   cases q:s.heap.get? a with
   |none=>rw[q] at e;exact Xns e
   |some o'=>rw[q] at e;obtain rfl:=qa1 e;exact⟨o',rfl,.refl _ _⟩
  ·rw[jds hb] at e;exact I.inv.kept a o e
 ·by_cases hb:FA c env a
  ·exact(I.fm.out a hb).2.1
  ·rw[jds hb] at e;exact I.inv.kpF a o e hB
 ·by_cases hb:FA c env a
  ·exact(I.fm.out a hb).1
  ·rw[jds hb] at e;exact I.inv.kpOwn a o e
theorem InvF.back(I:InvF c W Kp env σ s)(le:W.le W'){H':Tag→Option MObj}{nx':Nat}(I':Inv c W' (KpX c env Kp s.heap) H' nx' s'):InvF c W' Kp env ⟨H',nx',σ.m⟩ s':=by
 have fa:∀b,FA c env b→∀o,s.heap.get? b=some o→KpX c env Kp s.heap b=some (o,true):=fun b hb o e=>by rw[jfs hb,e];rfl
 refine⟨⟨I.inv.base,fun a o e=>I'.kept a o (I.kpx e),I'.frz,fun a o e hB=>I'.kpF a o (I.kpx e) hB,I'.objs,I'.dom,I'.old,fun a o e=>I'.kpOwn a o (I.kpx e),I'.fOwn,I'.os,I'.gens,I'.emp,I'.keepB,I'.tab⟩,?_⟩
 refine I.fm.moveS le (fun b hb=>?_) fun b o hb e=>?_
 ·refine Zxa (I.fm.obj hb) fun o e _=>?_
  have k:=fa b hb o e
  refine⟨I'.kpOwn b _ k,I'.kpF b _ k ?_⟩
  cases q:c.B.get? b with
  |none=>rfl
  |some o'=>have:=I.inv.base b o' q;rw[(I.fm.out b hb).2.2] at this;exact Xns this
 ·rcases hb with hb|hb
  ·refine Zxa (I'.kept b _ (fa b hb o e)) fun o' g' q'=>?_
   exact⟨o',g',q'.1⟩
  ·refine Zx (Option.isSome_iff_exists.mp hb) fun o' e'=>?_
   refine Zxa (I.inv.kept b o' e') fun o2 g2 q2=>?_
   rw[e] at g2;obtain rfl:=qa1 g2
   refine Zxa (I'.kept b o' (I.kpx e')) fun o3 g3 q3=>?_
   exact⟨o3,g3,q2.1.symm.trans q3.1⟩
theorem AOK.mono{lv':Nat}(hA:AOK c lv A Kp env)(h:lv'≤lv):AOK c lv' A Kp env:=⟨by have:=hA.depth;exact NCm h this,by have:=hA.units;exact NCm h this,hA.handled,hA.frames⟩
theorem AOK.deeper{env':Env}(hA:AOK c (lv+1) A Kp env)(I:InvF c W Kp env σ s)(hL:env'.frame=some env'.locals)(hk:env'.scope.kind=.function)(hn:s.heap.objs.size≤env'.locals) :
  AOK c lv (A.deeper env') (KpX c env Kp s.heap) env':=by
 refine Zxa hA.frames fun fr hf hh=>?_
 refine⟨by have:=hA.depth;show A.depth+1+8*lv<900;exact NC this rfl,by have:=hA.units;show A.units+3+40*lv<9000;exact NC this rfl,hA.handled,env'::fr,?_,fun e he=>?_⟩
 ·show A.frames.map _=_;rw[hf];rfl
 ·rcases List.mem_cons.mp he with rfl|he
  ·refine⟨by rw[hk];decide,e.locals,hL,?_,.inl rfl⟩
   cases q:c.B.get? e.locals with
   |none=>rfl
   |some o=>exact absurd (Heap.lt_size (I.inv.keeps _ _ q)) (Nat.not_lt.mpr hn)
  ·refine jez (hh e he) fun h1 L h2 h3 h4=>?_
   refine⟨h1,L,h2,h3,.inr ?_⟩
   rcases h4 with rfl|⟨o,h4,h5⟩
   ·refine dR (I.fm.obj (b:=env.locals) (.inl rfl)) fun o e _ hs=>?_
    exact⟨o,by rw[jfs (.inl rfl),e];rfl,hs⟩
   ·exact⟨o,I.kpx h4,h5⟩
theorem jeX{k:Str→Option NameKind}{n:Str}:∀{l:List (Str×Value)}{mm:Str→Option Value},(∀p∈l,p.1≠n)→bindL k l mm n=mm n
 |[],_,_=>rfl
 |(a,v)::l,mm,h=>by
  show bindL k l _ n=_
  rw[jeX fun p hp=>h p (qa2 _ hp)]
  split
  ·show(if n=a then _ else _)=_
   rw[if_neg];exact fun e=>h (a,v) qa4 e.symm
  ·rfl
theorem jeY{k:Str→Option NameKind}{n:Str}:∀{l:List (Str×Value)}{mm:Str→Option Value},(∀p∈l,p.1≠n)→bindC k l mm n=mm n
 |[],_,_=>rfl
 |(a,v)::l,mm,h=>by
  show bindC k l _ n=_
  rw[jeY fun p hp=>h p (qa2 _ hp)]
  split
  ·rfl
  ·show(if n=a then _ else _)=_
   rw[if_neg];exact fun e=>h (a,v) qa4 e.symm
noncomputable def cP(S:Nat→Str)(ps:List Nat)(vs:List Value):List (Str×Value):=(ps.map S).zip vs
theorem jaz{S:Nat→Str}:∀{ps:List Nat}{vs:List Value}{p:Str×Value},p∈cP S ps vs→∃n∈ps,p.1=S n
 |[],_,_,h=>Xnm h
 |n::ps,[],_,h=>Xnm h
 |n::ps,v::vs,p,h=>by
  rcases List.mem_cons.mp h with rfl|h
  ·exact⟨n,qa4,rfl⟩
  ·refine Zxa (jaz h) fun n' h1 h2=>?_
   exact⟨n',qa2 _ h1,h2⟩
theorem jg0(c:Cx){k:Str→Option NameKind}{ps:List Nat}{vs:List Value}{xs:List MV}{W:Wd}(nd:ps.Nodup)(hv:VRs c.S W vs xs):∀{mm:Str→Option Value}{x:Nat}{v:MV},(ps.zip xs).lookup x=some v→k (c.S x)=some .local→∃u,bindL k (cP c.S ps vs) mm (c.S x)=some u∧VR c.S W u v:=by
 induction hv generalizing ps with
 |nil=>intro mm x v h hk;cases ps<;>exact Xns h
 |@cons v y vs xs r rs ih=>
  intro mm x z h hk
  cases ps with
  |nil=>exact Xns h
  |cons p ps=>
   refine Za (List.nodup_cons.mp nd) fun h1 h2=>?_
   by_cases e:x=p
   ·subst e
    simp at h;subst h
    refine⟨v,?_,r⟩
    show bindL k (cP c.S ps vs) _ (c.S x)=_
    rw[jeX,if_pos hk,if_pos rfl]
    intro q hq
    refine Zxa (jaz hq) fun n a b=>?_
    rw[b];intro e;exact h1 (c.inj _ _ e▸a)
   ·rw[List.zip_cons_cons,List.lookup_cons,beq_eq_false_iff_ne.mpr e] at h
    exact ih h2 h hk
theorem jg1(c:Cx){k:Str→Option NameKind}{ps:List Nat}{vs:List Value}{xs:List MV}{W:Wd}(nd:ps.Nodup)(hv:VRs c.S W vs xs):∀{mm:Str→Option Value}{x:Nat}{v:MV},(ps.zip xs).lookup x=some v→k (c.S x)=some .cell→∃u,bindC k (cP c.S ps vs) mm (c.S x)=some u∧VR c.S W u v:=by
 induction hv generalizing ps with
 |nil=>intro mm x v h hk;cases ps<;>exact Xns h
 |@cons v y vs xs r rs ih=>
  intro mm x z h hk
  cases ps with
  |nil=>exact Xns h
  |cons p ps=>
   refine Za (List.nodup_cons.mp nd) fun h1 h2=>?_
   by_cases e:x=p
   ·subst e
    simp at h;subst h
    refine⟨v,?_,r⟩
    show bindC k (cP c.S ps vs) _ (c.S x)=_
    rw[jeY,if_neg (by rw[hk];decide),if_pos rfl]
    intro q hq
    refine Zxa (jaz hq) fun n a b=>?_
    rw[b];intro e;exact h1 (c.inj _ _ e▸a)
   ·rw[List.zip_cons_cons,List.lookup_cons,beq_eq_false_iff_ne.mpr e] at h
    exact ih h2 h hk
theorem Fm.fresh{env':Env}{ps:List Nat}{vs:List Value}{xs:List MV}(I:InvF c W Kp env σ s)(x:InCallC s env'.locals (bindL env'.kindOf (cP c.S ps vs) fun _=>none) env'.cells (bindC env'.kindOf (cP c.S ps vs) fun _=>none) s')
  (nd:ps.Nodup)(hv:VRs c.S W vs xs)(hnf:∀x,env'.kindOf (c.S x)≠some .free)(hcell:∀x,env'.kindOf (c.S x)=some .cell→∃b,env'.cells.lookup (c.S x)=some b) :
  Fm c W (KpX c env Kp s.heap) env' (ps.zip xs) s'.heap:=by
 have hlo:∀b,FA c env' b→s.heap.objs.size≤b:=fun b hb=>by
  rcases hb with rfl|⟨n,_,hl⟩
  ·exact x.toInCall.fresh
  ·exact qb1 x.toInCall.fresh (Nat.le_of_lt (x.above _ _ (mem_of_lookup hl)))
 refine⟨fun b hb=>⟨I.inv.fresh_own (hlo b hb),I.inv.fresh_F (hlo b hb),?_⟩,⟨_,x.toInCall.ns,fun n v h hk=>jg0 c nd hv h hk⟩,fun n v h hk=>?_,fun n hk=>?_,fun n n' b hn hn' hl hl'=>?_,fun n hn=>absurd hn (hnf n)⟩
 ·rw[jds fun hf=>absurd (I.fm.lt hf) (Nat.not_lt.mpr (hlo b hb))]
  exact I.inv.fresh_kp (hlo b hb)
 ·rcases hk with hk|hk
  ·refine Zx (hcell n hk) fun b hl=>?_
   refine Zxa (jg1 c nd hv (mm:=fun _=>none) h hk) fun u hu r=>?_
   exact⟨b,u,hl,by rw[←hu];exact x.cell _ _ hl,r⟩
  ·exact absurd hk (hnf n)
 ·refine Zx (hcell n hk) fun b hl=>?_
  exact⟨b,_,hl,x.cell _ _ hl⟩
 ·exact c.inj _ _ (name_of_addr x.apart (mem_of_lookup hl) (mem_of_lookup hl'))
end
noncomputable def ez:aH→MV
 |.ret v=>v
 |_=>.none
noncomputable def PC(c:Cx)(W:Wd)(Kp:aJ)(env:Env)(Q:MV→AS→Prop)(E:Value→Shared→Prop)(r:Result)(s':Shared):Prop:=match r with
 |.ok (.ret v)=>PE c W Kp env Q v s'
 |.ok _=>False
 |.error e=>E e s'
noncomputable def FOp(c:Cx)(lv:Nat)(f:Value)(kn:List Str)(g:List MV→List MV→MEx):Prop:=
 ∀(env:Env)(A:Around)(W:Wd)(Kp:aJ)(σ:AS)(s:Shared)(Q:MV→AS→Prop)(E:Value→Shared→Prop)(vs ks:List Value)(xs ys:List MV),EOK env→AOK c lv A Kp env→InvF c W Kp env σ s→VRs c.S W vs xs→VRs c.S W ks ys→ys.length=kn.length→g xs ys σ Q→
  codeAny c.M A (.call f ⟨vs,kn.zip ks⟩) (PC c W Kp env Q E) s
theorem FOp.call{c:Cx}{lv:Nat}{f:Value}{kn:List Str}{g:List MV→List MV→MEx}(h:FOp c lv f kn g){env:Env}{A:Around}{W:Wd}{Kp:aJ}{σ:AS}{s:Shared}{Q:MV→AS→Prop}{E:Value→Shared→Prop}{vs ks:List Value}{xs ys:List MV}
  (hE:EOK env)(hA:AOK c lv A Kp env)(I:InvF c W Kp env σ s)(hv:VRs c.S W vs xs)(hk:VRs c.S W ks ys)(hl:ys.length=kn.length)(q:g xs ys σ Q):wpAny c.M A (PySem.call f vs (kn.zip ks)) (PE c W Kp env Q) E s:=
 wpAny_call (codeAny_mono (h env A W Kp σ s Q E vs ks xs ys hE hA I hv hk hl q) fun r s' z=>by
  cases r with
  |ok fl=>cases fl<;>exact z
  |error e=>exact z)
noncomputable def cD(n:Nat)(ps:List Nat)(bm:List MV→List MV→List MV)(body:MS):List MV→List MV→MEx:=fun xs ys σ Q=>
 xs.length=n∧body ⟨σ.H,σ.nx,ps.zip (bm xs ys)⟩ fun fl σ'=>Q (ez fl) ⟨σ'.H,σ'.nx,σ.m⟩
structure Binds(c:Cx)(fd:FuncData)(n:Nat)(kn:List Str)(ps:List Nat)(bm:List MV→List MV→List MV):Prop where
 nd:ps.Nodup
 go:∀(W:Wd)(s:Shared)(vs ks:List Value)(xs ys:List MV),c.K.In s.heap→(∀a o,c.B.get? a=some o→jhW o=true→W.F a=some o)→VRs c.S W vs xs→VRs c.S W ks ys→xs.length=n→ys.length=kn.length→
  ∃us,BindsTo s fd ⟨vs,kn.zip ks⟩ (cP c.S ps us)∧VRs c.S W us (bm xs ys)
noncomputable def jcf(sc:Scope):Bool:=(sc.kind matches .function)&&!sc.isCoroutine&&!sc.isGenerator&&sc.names.all fun p=>!(p.2 == .free)
theorem jb4{sc:Scope}{P:Prop}(hsc:jcf sc=true)(k:sc.kind=.function→sc.isCoroutine=false→sc.isGenerator=false→(sc.names.all fun p=>!(p.2 == .free))=true→P):P:=by
 unfold jcf at hsc
 simp only[Bool.and_eq_true,Bool.not_eq_true'] at hsc
 refine Za hsc fun zq1 hfree=>?_;refine Za zq1 fun zq1 hgen=>?_;obtain⟨hk,hco⟩:=zq1
 refine k ?_ hco hgen hfree
 generalize sc.kind=k at hk
 cases k<;>first|rfl|exact Xft hk
noncomputable def psOK(c:Cx)(sc:Scope)(ps:List Nat):Prop:=∀p∈ps,sc.names.lookup (c.S p)=some .local∨sc.names.lookup (c.S p)=some .cell
theorem jaL{names:List (Str×NameKind)}(h:names.all (fun p=>!(p.2 == .free))=true)(x:Str):names.lookup x≠some .free:=fun e=>by
 have:=List.all_eq_true.mp h _ (mem_of_lookup e)
 exact Xft this
theorem bJ{c:Cx}{lv:Nat}{f:Addr}{kn:List Str}{n:Nat}{ps:List Nat}{bm:List MV→List MV→List MV}{name qual:Str}{params:Arguments}{sts:List Stmt}{sc:Scope}{dV kV doc pm cdv ct oc:Value}{an od:Option Addr}{osl:Array (Option Value)}{body:MS}
  (ho:c.K.lookup f=some ⟨oc,od,.func (fnX name qual params sts sc [] dV kV doc pm an cdv ct),osl⟩)(hcd:codeIn c.K cdv qual=true)
  (hb:Binds c (fnX name qual params sts sc [] dV kV doc pm an cdv ct) n kn ps bm)(hsc:jcf sc=true)(hps:psOK c sc ps)(h:CSs c sc lv sts body) :
  FOp c (lv+1) (.ref f) kn (cD n ps bm body):=by
 refine jb4 hsc ?_;clear hsc;intro hk hco hgen hfree
 intro env A W Kp σ s Q E vs ks xs ys hE hA I hv hks hkl zp1;refine Za zp1 fun hn q=>?_
 refine Zxa (hb.go W s vs ks xs ys I.inv.KIn I.inv.emp hv hks hn hkl) fun us hbt hus=>?_
 refine codeAny_call_function (fd:=fnX name qual params sts sc [] dV kV doc pm an cdv ct) (body:=sts) (by have:=hA.depth;show A.depth<1000;exact NB this rfl) (I.inv.KIn _ _ ho) rfl hco hgen rfl (codeRec_of I.inv.KIn hcd) (hbt _ _ _ _ ?_)
 refine wpAny_newFunctionEnv_cells hk (fun p hp=>?_) fun env' he s1 x=>?_
 ·refine Zxa (jaz hp) fun y hy e=>?_
  rw[e]
  exact(hps y hy).imp id fun z=>⟨z,cellsFrom_some _ _ _ (.inl z)⟩
 subst he
 refine⟨I.inv.lim.keeps x.toInCall.keep,codeAny_func ?_⟩
 refine bt x.done fun h₁ tk zq1 hkeep=>?_;obtain rfl:=zq1
 have I1:InvF c W (KpX c env Kp s.heap) (newEnv sc s.heap.objs.size mainGlobals (cellsFrom (s.heap.objs.size+1) sc.names []) (qual++".<locals>.") (some f) cdv none builtinsNs) ⟨σ.H,σ.nx,ps.zip (bm xs ys)⟩ { s with heap:=h₁,toks:=tk }:=
  ⟨I.enter.grown fun b o _ e=>hkeep b o e,Fm.fresh I x hb.nd hus (fun y=>jaL hfree _) fun y hy=>Option.isSome_iff_exists.mp (cellsFrom_some _ _ _ (.inl hy))⟩
 have hA':=hA.deeper (env':=newEnv sc s.heap.objs.size mainGlobals (cellsFrom (s.heap.objs.size+1) sc.names []) (qual++".<locals>.") (some f) cdv none builtinsNs) I rfl hk (qa9 _)
 refine qa6 (h _ _ W _ _ _ _ _ rfl ⟨hk,rfl,rfl,hgen,hco⟩ hA' I1 q) (fun fl s2 z0=>z0.ex fun W2 g σ2 le2 I2 r2 q2=>?_) fun _ _ z=>z
 refine⟨W2,ez g,⟨σ2.H,σ2.nx,σ.m⟩,le2,I.back le2 I2.inv,?_,q2⟩
 cases r2 with
 |next=>exact .none
 |brk=>exact .none
 |cont=>exact .none
 |ret r=>exact r
theorem FOp.mono{c:Cx}{lv lv':Nat}{f:Value}{kn:List Str}{g:List MV→List MV→MEx}(h:FOp c lv f kn g)(hl:lv≤lv'):FOp c lv' f kn g:=
 fun env A W Kp σ s Q E vs ks xs ys hE hA I hv hk hkl q=>h env A W Kp σ s Q E vs ks xs ys hE (hA.mono hl) I hv hk hkl q
section
variable {c:Cx}{sc:Scope}{lv:Nat}
inductive KEs(c:Cx)(sc:Scope)(lv:Nat):List Keyword→List Str→List MEx→Prop
 |nil:KEs c sc lv [] [] []
 |cons {n:Str}{e:Expr}{p:Pos}{ks:List Keyword}{kn:List Str}{f:MEx}{fs:List MEx}(h:CE c sc lv e f)(t:KEs c sc lv ks kn fs):KEs c sc lv (⟨some n,e,p⟩::ks) (n::kn) (f::fs)
theorem KEs.names{ks:List Keyword}{kn:List Str}{fs:List MEx}(h:KEs c sc lv ks kn fs)(pos:Pos)(env:Env) :
  (backToKw pos (keywordEach ks env)).all (·.1.isSome)=true∧(backToKw pos (keywordEach ks env)).any (·.1.isNone)=false∧(backToKw pos (keywordEach ks env)).filterMap (·.1)=kn:=by
 induction h with
 |nil=>exact⟨rfl,rfl,rfl⟩
 |cons _ _ ih=>
  refine Zaa ih fun a b d=>?_
  refine⟨?_,?_,?_⟩
  ·exact a
  ·exact b
  ·exact congrArg (List.cons _) d
theorem KEs.all{pos:Pos}{ks:List Keyword}{kn:List Str}{fs:List MEx}(h:KEs c sc lv ks kn fs){env:Env}{A:Around}{Kp:aJ}{E:Value→Shared→Prop}(he:env.scope=sc)(hE:EOK env)(hA:AOK c lv A Kp env) :
  ∀{W:Wd}{σ:AS}{s:Shared}{Q:List MV→AS→Prop},InvF c W Kp env σ s→cr fs σ Q→wpAny c.M A (evalAll ((backToKw pos (keywordEach ks env)).map (·.2))) (PEs c W Kp env fun xs σ'=>xs.length=kn.length∧Q xs σ') E s:=by
 induction h with
 |nil=>exact fun I q=>kwAll_nil ⟨_,[],_,.refl _,I,.nil,rfl,q⟩
 |cons h t ih=>
  intro W σ s Q I q
  refine kwAll_cons (h.use he hE hA I q fun W1 x σ1 v s1 le1 I1 r1 q1=>?_)
  exact qa6 (ih I1 q1) (fun vs s2 z=>z.ex fun W2 xs σ2 le2 I2 r2 q2=>⟨W2,x::xs,σ2,le1.trans le2,I2,.cons (r1.mono le2) r2,congrArg Nat.succ q2.1,q2.2⟩) fun _ _ z=>z
theorem CEs.evalArgsK{es:List Expr}{fs:List MEx}(h:CEs c sc lv es fs){ks:List Keyword}{kn:List Str}{kfs:List MEx}(hk:KEs c sc lv ks kn kfs){pos:Pos}{f:Value}{env:Env}{A:Around}{W:Wd}{Kp:aJ}{σ:AS}{s:Shared}{Q:List MV→List MV→AS→Prop}{E:Value→Shared→Prop}{R:Args→Shared→Prop}
  (he:env.scope=sc)(hE:EOK env)(hA:AOK c lv A Kp env)(I:InvF c W Kp env σ s)(q:cr fs σ fun xs σ1=>cr kfs σ1 fun ys σ2=>Q xs ys σ2)
  (k:∀W' vs xs us ys σ' s',W.le W'→InvF c W' Kp env σ' s'→VRs c.S W' vs xs→VRs c.S W' us ys→ys.length=kn.length→Q xs ys σ'→R ⟨vs,kn.zip us⟩ s') :
  wpAny c.M A (PySem.evalArgs f true (backTo pos (starEach es env)) (backToKw pos (keywordEach ks env))) R E s:=by
 cases hk with
 |nil=>exact h.evalArgs he hE hA I q fun W1 vs xs σ1 s1 le1 I1 r1 q1=>k W1 vs xs [] [] σ1 s1 le1 I1 r1 .nil rfl q1
 |cons h1 t1=>
  rename_i n e p ks kn f fs
  have hk':KEs c sc lv (⟨some n,e,p⟩::ks) (n::kn) (f::fs):=.cons h1 t1
  refine Zaa (hk'.names pos env) fun ha _ hn=>?_
  have key:=h.spliced (pos:=pos) (E:=E) he hE hA I q
  have fin:∀(vs:List Value)(s1:Shared),PEs c W Kp env (fun xs σ1=>cr (f::fs) σ1 fun ys σ2=>Q xs ys σ2) vs s1→wpAny c.M A (evalAll ((backToKw pos (keywordEach (⟨some n,e,p⟩::ks) env)).map (·.2))) (fun us s2=>R ⟨vs,((backToKw pos (keywordEach (⟨some n,e,p⟩::ks) env)).filterMap (·.1)).zip us⟩ s2) E s1:=fun vs s1 z0=>z0.ex fun W1 xs σ1 le1 I1 r1 q1=>by
   rw[hn]
   exact qa6 (hk'.all he hE hA I1 q1) (fun us s2 z=>z.ex fun W2 ys σ2 le2 I2 r2 q2=>k W2 vs xs us ys σ2 s2 (le1.trans le2) I2 (r1.mono le2) r2 q2.1 q2.2) fun _ _ z=>z
  cases h with
  |nil=>exact evalArgs_kw2_nil ha (fin [] s ⟨W,[],σ,.refl W,I,.nil,q⟩)
  |cons _ _ hs=>
   rw[hs] at key ⊢
   exact evalArgs_kw ha (qa6 key fin fun _ _ z=>z)
noncomputable def bF(g:List MV→List MV→MEx)(fs kfs:List MEx):MEx:=fun σ Q=>cr fs σ fun xs σ1=>cr kfs σ1 fun ys σ2=>g xs ys σ2 Q
theorem dq{n:Str}{np pos:Pos}{es:List Expr}{fs:List MEx}{ks:List Keyword}{kn:List Str}{kfs:List MEx}{f:Value}{g:List MV→List MV→MEx}(hf:CE c sc lv (.Name n np) (fi f))(hkp:keepIn c.K f=true)(hg:FOp c lv f kn g)(h:CEs c sc lv es fs)(hk:KEs c sc lv ks kn kfs) :
  CE c sc lv (.Call (.Name n np) es ks pos) (bF g fs kfs):=by
 intro env A W Kp σ s Q E he hE hA I q
 refine wpAny_Call_Name_kw (hf.use (Q:=fun v σ'=>v=.raw f∧σ'=σ) he hE hA I ⟨rfl,rfl⟩ fun W1 y σ1 v s1 le1 I1 r1 zp2=>?_)
 refine Za zp2 fun h1 h2=>?_;subst h1 h2
 rw[r1.of_raw]
 refine callWith_of (P:=fun h=>c.K.In h) (by rw[(h.plainArgs pos env).1,(hk.names pos env).2.1];rfl) (fun hh X=>keeps_K hkp hh X) ?_
 refine h.evalArgsK hk he hE hA I1 q fun W2 vs xs us ys σ2 s2 le2 I2 r2 r2' hl q2=>⟨I2.inv.KIn,?_⟩
 exact qa6 (hg.call hE hA I2 r2 r2' hl q2) (fun _ _ z=>z.le (le1.trans le2)) fun _ _ z=>z
noncomputable def bx(C n:Nat)(g:List MV→List MV→MEx)(a:MEx)(fs kfs:List MEx):MEx:=fun σ Q=>a σ fun x σ1=>∃t es,x=.tag t∧σ1.H t=some (.inst C es)∧es.lookup n=none∧cr fs σ1 fun xs σ2=>cr kfs σ2 fun ys σ3=>g (x::xs) ys σ3 Q
theorem bY{o:Expr}{x:Str}{apos pos:Pos}{es:List Expr}{ks:List Keyword}{kn:List Str}{a:MEx}{fs kfs:List MEx}{g:List MV→List MV→MEx}(C n:Nat)(hn:c.S n=x)(hm:n∈jch C)(hg:FOp c lv (.ref (c.fn ((C+1)*1000+n))) kn g)
  (h0:CE c sc lv o a)(h:CEs c sc lv es fs)(hk:KEs c sc lv ks kn kfs)
  (hc:∀env:Env,∃pl,eval (.Call (.Attribute o x apos) es ks pos) env=(do
   let ov ←eval o env
   standAt apos.atName
   let (f,first) ←holding [ov] (getMethod ov x pl)
   callWith pos f first (backTo pos (starEach es env)) (backToKw pos (keywordEach ks env)))) :
  CE c sc lv (.Call (.Attribute o x apos) es ks pos) (bx C n g a fs kfs):=by
 subst hn
 intro env A W Kp σ s Q E he hE hA I q
 refine Zx (hc env) fun pl hc=>?_
 refine methodCall_KW (pl:=pl) (h0.use he hE hA I q fun W1 y σ1 v s1 le1 I1 r1 zp3=>?_) hc
 refine cG zp3 fun t es' hy ht zq1=>?_;obtain⟨hl,q1⟩:=zq1;subst hy
 refine dh (jci I1.inv r1 ht) fun a' d kvs od zq1 zq2=>?_;obtain rfl:=zq1;refine Zaa zq2 fun ha ho X=>?_
 have Fc:=c.cls_facts X.C4
 have hmg:=c.hmeth C n hm
 unfold jc4 at hmg
 simp only[Bool.and_eq_true,beq_iff_eq] at hmg
 refine Za hmg fun zq1 m3=>?_;refine Za zq1 fun m1 m2=>?_
 refine method_fn I1.inv.KIn X.inst Fc.ga Fc.gat m1 m3 ?_ ?_
 ·show(lookIn (c.S n) od).map _=_
  have e1:=X.look (c.S n)
  have e2:=X.kv.none hl
  rw[e1,e2];rfl
 ·have hkp:keepIn c.K (.ref (c.fn ((C+1)*1000+n)))=true:=by
   unfold fnIn at m2;unfold keepIn
   dsimp only
   split at m2
   ·rename_i q;rw[q]
   ·exact Xft m2
  refine callWith_of (P:=fun h=>c.K.In h) (by rw[(h.plainArgs pos env).1,(hk.names pos env).2.1];rfl) (fun hh X=>keeps_K hkp hh X) ?_
  refine h.evalArgsK hk he hE hA I1 q1 fun W2 vs xs us ys σ2 s2 le2 I2 r2 r2' hl q2=>⟨I2.inv.KIn,?_⟩
  exact qa6 (hg.call (vs:=.ref a'::vs) hE hA I2 (.cons (r1.mono le2) r2) r2' hl q2) (fun _ _ z=>z.le (le1.trans le2)) fun _ _ z=>z
noncomputable def mNew(C:Nat)(g:List MV→List MV→MEx):List MV→List MV→MEx:=fun xs ys σ Q=>
 ∃t,ja' σ.H σ.nx t∧g (.tag t::xs) ys ⟨ay σ.H t (.inst C []),cw σ.nx t,σ.m⟩ fun v σ'=>v=.none∧Q (.tag t) σ'
theorem AOK.under_make{A:Around}{Kp:aJ}{env:Env}{C:Addr}{vs:List Value}{kw:List (Str×Value)}(hA:AOK c (lv+1) A Kp env):AOK c lv (A.under (.builtin "type.__call__" ⟨.ref C::vs,kw⟩)) Kp env:=by
 refine⟨?_,?_,hA.handled,hA.frames⟩
 ·rw[depth_under_kw];have:=hA.depth;exact NC this rfl
 ·show A.units+_+40*lv<9000
  have:Code.cUnits (.builtin "type.__call__" ⟨.ref C::vs,kw⟩)=1:=rfl
  rw[this];have:=hA.units;exact NC this rfl
theorem jeI{kn:List Str}{g:List MV→List MV→MEx}(C:Nat)(hC:C<4)(h60:60∈jch C)(hnm:c.S 60="__init__")(hg:FOp c lv (.ref (c.fn ((C+1)*1000+60))) kn g):FOp c (lv+1) (.ref (c.cls C)) kn (mNew C g):=by
 intro env A W Kp σ s Q E vs ks xs ys hE hA I hv hks hkl zp4;refine Zxa zp4 fun t ft q=>?_
 have Fc:=c.cls_facts hC
 have hmg:=c.hmeth C 60 h60
 unfold jc4 at hmg
 simp only[Bool.and_eq_true,beq_iff_eq] at hmg
 refine Za hmg fun zq1 m3=>?_;refine Za zq1 fun m1 m2=>?_
 rw[show S0 60=_ from hnm] at m1
 obtain⟨hh,gg,dd,tt,os⟩:=s
 refine make_core (makes_of I.inv.KIn Fc.make) (looks_findIn I.inv.KIn m1) (fun self=>bind_fn I.inv.KIn self m3) (.inl rfl) ?_
 have k:∀b ob,hh.get? b=some ob→((hh.push emptyDict).push (instObj (c.cls C) hh.objs.size)).get? b=some ob:=fun b ob e=>qb2 _ (qb2 _ e)
 have gd:((hh.push emptyDict).push (instObj (c.cls C) hh.objs.size)).get? hh.objs.size=some emptyDict:=qb2 _ (Heap.get?_push_size _ rfl)
 have gi:((hh.push emptyDict).push (instObj (c.cls C) hh.objs.size)).get? (hh.objs.size+1)=some (instObj (c.cls C) hh.objs.size):=by
  have:=Heap.get?_push_size (hh.push emptyDict) (o:=instObj (c.cls C) hh.objs.size) rfl
  rwa [Heap.size_push] at this
 have le:W.le (W.add t (hh.objs.size+1) [hh.objs.size]):=Wd.le_add I.inv ft (Nat.le_succ _) (fun b hb=>by rw[List.mem_singleton.mp hb];exact qa9 _)
 have has:∀b∈[hh.objs.size],hh.objs.size≤b:=fun b hb=>by rw[List.mem_singleton.mp hb];exact qa9 _
 have hd:((hh.push emptyDict).push (instObj (c.cls C) hh.objs.size)).DictOf c.knd hh.objs.size []:=⟨emptyDict,#[],0,gd,⟨rfl,rfl,rfl⟩,rfl,fun _ h=>by simp at h,.nil,List.nodup_nil⟩
 have e1:(W.add t (hh.objs.size+1) [hh.objs.size]).ρ t=some (hh.objs.size+1):=by show(if t=t then _ else _)=_;rw[if_pos rfl]
 have I1:=I.inv.alloc (o:=.inst C []) (as:=[hh.objs.size]) (tk:=tt) (h':=(hh.push emptyDict).push (instObj (c.cls C) hh.objs.size)) ft (Nat.le_succ _) has ⟨_,gi⟩ (fun b hb=>by rw[List.mem_singleton.mp hb];exact⟨_,gd⟩) k
  ⟨hh.objs.size+1,hh.objs.size,[],e1,by show(if _∨_ then _ else _)=_;rw[if_pos (.inl rfl)],by show(if _∨_ then _ else _)=_;rw[if_pos (.inr qa4)],gi,hd,.nil,hC,(Nat.zero_le _)⟩
 have IF1:InvF c (W.add t (hh.objs.size+1) [hh.objs.size]) Kp env ⟨ay σ.H t (.inst C []),cw σ.nx t,σ.m⟩ ⟨(hh.push emptyDict).push (instObj (c.cls C) hh.objs.size),gg,dd,tt,os⟩:=
  ⟨I1,I.fm.alloc le (Wd.add_old (n:=hh.objs.size) (Nat.le_succ _) has) k⟩
 refine codeAny_mono (hg env _ _ Kp _ _ _ E (.ref (hh.objs.size+1)::vs) ks (.tag t::xs) ys hE hA.under_make IF1 (.cons (.tag e1) (hv.mono le)) (hks.mono le) hkl q) fun r s' z=>?_
 cases r with
 |error e=>exact z
 |ok fl=>
  cases fl with
  |ret v=>
   refine jbH z fun W' mv σ' le' I' r' hmv q'=>?_
   subst hmv
   exact⟨r'.of_none,W',.tag t,σ',le.trans le',I',.tag (le'.ρ _ _ e1),q'⟩
  |next=>exact z
  |brk=>exact z
  |cont=>exact z
end
end
section
section
variable {c:Cx}{W W':Wd}{Kp:aJ}{env:Env}{σ σ':AS}{s s':Shared}{m:List (Nat×MV)}{h:Heap}{lv:Nat}{A:Around}{fp:List Addr}
noncomputable def Offs(c:Cx)(fp:List Addr)(W:Wd)(Kp:aJ)(env:Env):Prop:=∀b∈fp,Off W Kp b∧¬ FA c env b
theorem Offs.fresh(I:InvF c W Kp env σ s)(hb:∀b∈fp,s.heap.objs.size≤b):Offs c fp W Kp env:=fun b h=>
 ⟨⟨I.inv.fresh_own (hb b h),I.inv.fresh_F (hb b h),I.inv.fresh_kp (hb b h)⟩,fun hf=>absurd (I.fm.lt hf) (Nat.not_lt.mpr (hb b h))⟩
theorem InvF.offChange{h':Heap}{tk:Nat}(I:InvF c W Kp env σ s)(off:Offs c fp W Kp env)(k:∀b o,b∉fp→s.heap.get? b=some o→h'.get? b=some o):InvF c W Kp env σ { s with heap:=h',toks:=tk }:=by
 refine⟨I.inv.grown fun b o hb g=>k b o (fun hm=>?_) g,I.fm.move (.refl W) (fun b hb=>⟨(I.fm.out b hb).1,(I.fm.out b hb).2.1⟩) fun b o hb g=>k b o (fun hm=>?_) g⟩
 ·refine Za (off b hm) fun zq1 _=>?_;refine Zaa zq1 fun o1 o2 o3=>?_
  rcases hb with hb|hb|hb
  ·rw[o1] at hb;exact Xft hb
  ·rw[o3] at hb;exact Xft hb
  ·rw[o2] at hb;exact Xft hb
 ·refine Za (off b hm) fun zq1 hf=>?_;refine Zaa zq1 fun _ _ o3=>?_
  rcases hb with hb|hb
  ·exact hf hb
  ·rw[o3] at hb;exact Xft hb
theorem InvF.grow{h':Heap}{tk:Nat}(I:InvF c W Kp env σ s)(k:∀b o,s.heap.get? b=some o→h'.get? b=some o):InvF c W Kp env σ { s with heap:=h',toks:=tk }:=
 I.offChange (fp:=[]) (fun _ h=>nomatch h) fun b o _ e=>k b o e
noncomputable def KpH(Kp:aJ)(fp:List Addr)(h:Heap):aJ:=fun b=>if b∈fp then(h.get? b).map (·,false) else Kp b
theorem jgH{b:Addr}(hb:b∈fp):KpH Kp fp h b=(h.get? b).map (·,false):=by unfold KpH;rw[if_pos hb]
theorem jc0{b:Addr}(hb:b∉fp):KpH Kp fp h b=Kp b:=by unfold KpH;rw[if_neg hb]
theorem Offs.kp(off:Offs c fp W Kp env){b:Addr}{o:Obj×Bool}(e:Kp b=some o):b∉fp:=fun hm=>by rw[(off b hm).1.2.2] at e;exact Xns e
theorem Offs.kpH(off:Offs c fp W Kp env){b:Addr}{o:Obj×Bool}(e:Kp b=some o):KpH Kp fp h b=some o:=by rw[jc0 (off.kp e)];exact e
theorem InvF.hold(I:InvF c W Kp env σ s)(off:Offs c fp W Kp env):InvF c W (KpH Kp fp s.heap) env σ s:=by
 refine⟨⟨fun a o e=>off.kpH (I.inv.base a o e),fun a o e=>?_,I.inv.frz,fun a o e hB=>?_,I.inv.objs,I.inv.dom,I.inv.old,fun a o e=>?_,I.inv.fOwn,I.inv.os,I.inv.gens,I.inv.emp,I.inv.keepB,I.inv.tab⟩,
  ⟨fun b hb=>⟨(I.fm.out b hb).1,(I.fm.out b hb).2.1,?_⟩,I.fm.ns,I.fm.cell,I.fm.own,I.fm.apart,fun x hx=>?_⟩⟩
 ·by_cases hb:a∈fp
  ·rw[jgH hb] at e
   cases q:s.heap.get? a with
   |none=>rw[q] at e;exact Xns e
   |some o'=>rw[q] at e;obtain rfl:=qa1 e;exact⟨o',rfl,.refl _ _⟩
  ·rw[jc0 hb] at e;exact I.inv.kept a o e
 ·by_cases hb:a∈fp
  ·exact(off a hb).1.2.1
  ·rw[jc0 hb] at e;exact I.inv.kpF a o e hB
 ·by_cases hb:a∈fp
  ·exact(off a hb).1.1
  ·rw[jc0 hb] at e;exact I.inv.kpOwn a o e
 ·by_cases hm:b∈fp
  ·exact absurd hb (off b hm).2
  ·rw[jc0 hm];exact(I.fm.out b hb).2.2
 ·refine bt (I.fm.free x hx) fun b o h1 h2=>?_
  exact⟨b,o,h1,off.kpH h2⟩
theorem AOK.hold(hA:AOK c lv A Kp env)(off:Offs c fp W Kp env):AOK c lv A (KpH Kp fp h) env:=by
 refine Zxa hA.frames fun fr hf hh=>?_
 refine⟨hA.depth,hA.units,hA.handled,fr,hf,fun e he=>?_⟩
 refine jez (hh e he) fun h1 L h2 h3 h4=>?_
 exact⟨h1,L,h2,h3,h4.imp id fun zp1=>by refine Zxa zp1 fun o p q=>?_;exact⟨o,off.kpH p,q⟩⟩
theorem InvF.drop(I:InvF c W Kp env σ s)(off:Offs c fp W Kp env)(I':InvF c W' (KpH Kp fp s.heap) env σ' s'):InvF c W' Kp env σ' s':=
 ⟨⟨I.inv.base,fun a o e=>I'.inv.kept a o (off.kpH e),I'.inv.frz,fun a o e hB=>I'.inv.kpF a o (off.kpH e) hB,I'.inv.objs,I'.inv.dom,I'.inv.old,fun a o e=>I'.inv.kpOwn a o (off.kpH e),I'.inv.fOwn,I'.inv.os,I'.inv.gens,I'.inv.emp,I'.inv.keepB,I'.inv.tab⟩,
  ⟨fun b hb=>⟨(I'.fm.out b hb).1,(I'.fm.out b hb).2.1,(I.fm.out b hb).2.2⟩,I'.fm.ns,I'.fm.cell,I'.fm.own,I'.fm.apart,I.fm.free⟩⟩
theorem InvF.held(I:InvF c W Kp env σ s)(off:Offs c fp W Kp env)(I':InvF c W' (KpH Kp fp s.heap) env σ' s'){b:Addr}(hb:b∈fp){o:Obj}(e:s.heap.get? b=some o):s'.heap.get? b=some o:=by
 refine Zxa (I'.inv.kept b (o,false) (by rw[jgH hb,e];rfl)) fun o' g q=>?_
 rw[q.exact] at g;exact g
theorem InvF.heldX(I:InvF c W Kp env σ s)(off:Offs c fp W Kp env)(I':InvF c W' (KpH Kp fp s.heap) env σ' s'){b:Addr}(hb:b∈fp){o:Obj}(e:s.heap.get? b=some o)(_hc:o.cls≠.type "frame"):s'.heap.get? b=some o:=I.held off I' hb e
theorem Offs.held(I:InvF c W Kp env σ s)(off:Offs c fp W Kp env)(live:∀b∈fp,∃o,s.heap.get? b=some o)(I':InvF c W' (KpH Kp fp s.heap) env σ' s'):Offs c fp W' Kp env:=fun b hb=>by
 refine Zx (live b hb) fun o e=>?_
 have k:KpH Kp fp s.heap b=some (o,false):=by rw[jgH hb,e];rfl
 refine⟨⟨I'.inv.kpOwn b _ k,I'.inv.kpF b _ k ?_,(off b hb).1.2.2⟩,(off b hb).2⟩
 cases q:c.B.get? b with
 |none=>rfl
 |some o'=>have:=I.inv.base b o' q;rw[(off b hb).1.2.2] at this;exact Xns this
structure Itr(c:Cx)(sc:Scope)(target:Expr)(xs:List MV)(st:MV→AS→AS)(g:(Tag→Option MObj)→Prop)(W0:Wd)(fp:List Addr)(I:Addr)(J:Nat→Heap→Prop):Prop where
 frame:∀i h h',J i h→(∀b∈fp,∀o,h.get? b=some o→h'.get? b=some o)→J i h'
 live:∀i h,J i h→∀b∈fp,∃o,h.get? b=some o∧o.cls≠.type "frame"
 step:∀(env:Env)(A:Around)(W:Wd)(Kp:aJ)(σ:AS)(s:Shared)(i:Nat)(x:MV)(E:Value→Shared→Prop),env.scope=sc→EOK env→A.handled=none→W0.le W→InvF c W Kp env σ s→g σ.H→Offs c fp W Kp env→J i s.heap→xs[i]?=some x→
  wpAny c.M A (pyNext (.ref I)) (fun r s1=>∃v,r=some v∧wpAny c.M A (letOwnedTupleGo target (.ref I) v) (fun _ s2=>wpAny c.M A (assign target env v) (fun _ s3=>InvF c W Kp env (st x σ) s3∧J (i+1) s3.heap) E s2) E s1) E s
 done:∀(env:Env)(A:Around)(W:Wd)(Kp:aJ)(σ:AS)(s:Shared)(i:Nat)(E:Value→Shared→Prop),env.scope=sc→EOK env→A.handled=none→W0.le W→InvF c W Kp env σ s→g σ.H→Offs c fp W Kp env→J i s.heap→xs[i]?=none→
  wpAny c.M A (pyNext (.ref I)) (fun r s1=>r=none∧InvF c W Kp env σ s1) E s
 self:∀(A:Around)(i:Nat)(s:Shared)(E:Value→Shared→Prop)(Q:Value→Shared→Prop),J i s.heap→Q (.ref I) s→wpAny c.M A (pyIter (.ref I)) Q E s
 stH:∀x σ,(st x σ).H=σ.H∧(st x σ).nx=σ.nx
 stm:∀x σ n,sc.names.lookup (c.S n)≠some .local→(st x σ).m.lookup n=σ.m.lookup n
end
noncomputable abbrev fC:=AS→(List MV→((Tag→Option MObj)→Prop)→AS→Prop)→Prop
noncomputable def CSrc(c:Cx)(sc tsc:Scope)(lv:Nat)(target e:Expr)(st:MV→AS→AS)(f:fC):Prop:=
 ∀(env:Env)(A:Around)(W:Wd)(Kp:aJ)(σ:AS)(s:Shared)(Q:List MV→((Tag→Option MObj)→Prop)→AS→Prop)(E:Value→Shared→Prop),env.scope=sc→EOK env→AOK c lv A Kp env→InvF c W Kp env σ s→f σ Q→
  wpAny c.M A (eval e env) (fun x s1=>wpAny c.M A (pyIter x) (fun it s2=>∃W' σ' xs g fp I J,it=.ref I∧W.le W'∧InvF c W' Kp env σ' s2∧Itr c tsc target xs st g W' fp I J∧J 0 s2.heap∧Offs c fp W' Kp env∧Q xs g σ') E s1) E s
noncomputable def dJ(g:(Tag→Option MObj)→Prop)(st:MV→AS→AS)(body:MS):List MV→MS
 |[],σ,Q=>g σ.H∧Q .next σ
 |x::r,σ,Q=>g σ.H∧body (st x σ) fun f σ'=>match f with
  |.next=>dJ g st body r σ' Q
  |.cont=>dJ g st body r σ' Q
  |.brk=>Q .next σ'
  |.ret v=>Q (.ret v) σ'
noncomputable def cN(f:fC)(st:MV→AS→AS)(body:MS):MS:=fun σ Q=>f σ fun xs g σ1=>dJ g st body xs σ1 Q
section
variable {c:Cx}{sc:Scope}{lv:Nat}
theorem jel{prog:Program}{w:World}{A:Around}{R:Result→Shared→Prop}{s:Shared}{target:Expr}{it:Value}{body:List Stmt}{env:Env}
  (turn:∀E,wpAny (model prog w) A (pyNext it) (fun r s₁=>match r with
   |none=>R (.ok .next) s₁
   |some v=>wpAny (model prog w) A (letOwnedTupleGo target it v) (fun _ s₁=>wpAny (model prog w) A (assign target env v) (fun _ s₂=>wpAny (model prog w) A (execs body env) (fun f s₃=>match f with
      |.next|.cont=>codeAny (model prog w) A (.forLoop target it body [] env) R s₃
      |.brk=>R (.ok .next) s₃
      |.ret v=>R (.ok (.ret v)) s₃) E s₂) E s₁) E s₁) E s):codeAny (model prog w) A (.forLoop target it body [] env) R s:=by
 refine codeAny_of_tree ?_
 show wpAny _ A ((forTurn target it body [] env).onRaise (fun x=>do noteFrame x env;theTreesLotGoes x)) _ _ s
 refine wpAny_noted ?_
 simp only[forTurn]
 refine qa5 (wpAny_standAt (qa5 (wpAny_onRaise (qa6 (turn _) (fun r s₁ h₁=>?_) fun _ _ h'=>wpAny_standAt h'))))
 cases r with
 |none=>exact qa8 ⟨rfl,codeAny_block (wpAny_execs_nil h₁)⟩
 |some v=>
  refine qa5 (qa6 h₁ (fun _ s₁ h₁=>qa5 (qa6 h₁ (fun _ s₂ h₂=>qa5 (qa6 h₂ (fun f s₃ h₃=>?_) fun _ _ h'=>h')) fun _ _ h'=>h')) fun _ _ h'=>h')
  cases f with
  |next=>exact qa8 ⟨rfl,h₃⟩
  |cont=>exact qa8 ⟨rfl,h₃⟩
  |brk=>exact qa8 h₃
  |ret v=>exact qa8 h₃
theorem Itr.kept{target:Expr}{xs:List MV}{st:MV→AS→AS}{g:(Tag→Option MObj)→Prop}{W0 W W':Wd}{fp:List Addr}{Ia:Addr}{J:Nat→Heap→Prop}{env:Env}{Kp:aJ}{σ σ':AS}{s s':Shared}{i:Nat}(it:Itr c sc target xs st g W0 fp Ia J)(Ji:J i s.heap)(I:InvF c W Kp env σ s)(off:Offs c fp W Kp env)(I':InvF c W' (KpH Kp fp s.heap) env σ' s') :
  J i s'.heap:=it.frame _ _ _ Ji fun b hb o e=>I.held off I' hb e
theorem Itr.lives{target:Expr}{xs:List MV}{st:MV→AS→AS}{g:(Tag→Option MObj)→Prop}{W0:Wd}{fp:List Addr}{Ia:Addr}{J:Nat→Heap→Prop}{h:Heap}{i:Nat}(it:Itr c sc target xs st g W0 fp Ia J)(Ji:J i h):∀b∈fp,∃o,h.get? b=some o:=fun b hb=>(it.live _ _ Ji b hb).imp fun _ e=>e.1
theorem jeo{α:Type}{xs l:List α}{i:Nat}{x:α}(hd:xs.drop i=x::l):xs[i]?=some x∧xs.drop (i+1)=l:=⟨by rw[←List.head?_drop,hd];rfl,by rw[←List.tail_drop,hd];rfl⟩
theorem jiY{target:Expr}{body:List Stmt}{st:MV→AS→AS}{b:MS}{env:Env}{A:Around}{W0 W1:Wd}{Kp:aJ}{xs:List MV}{g:(Tag→Option MObj)→Prop}{fp:List Addr}{Ia:Addr}{J:Nat→Heap→Prop}{Q:aH→AS→Prop}{R:Result→Shared→Prop}(hb:CSs c sc lv body b)(he:env.scope=sc)(hE:EOK env)(hA:AOK c lv A Kp env)(it:Itr c sc target xs st g W0 fp Ia J)
  (hR:∀f s,PS c W1 Kp env Q f s→R (.ok f) s)(l:List MV):∀{i:Nat}{W:Wd}{σ:AS}{s:Shared},xs.drop i=l→W0.le W→W1.le W→InvF c W Kp env σ s→Offs c fp W Kp env→J i s.heap→dJ g st b l σ Q→codeAny c.M A (.forLoop target (.ref Ia) body [] env) R s:=by
 induction l with
 |nil=>
  intro i W σ s hd le le1 I off Ji q
  refine jel fun E=>qa6 (it.done env A W Kp σ s i E he hE hA.handled le I q.1 off Ji (List.getElem?_eq_none (List.drop_eq_nil_iff.mp hd))) (fun r s' z=>?_) fun _ _ z=>z
  cases z.1
  exact hR _ _ ⟨W,_,σ,le1,z.2,.next,q.2⟩
 |cons x l ih=>
  intro i W σ s hd le le1 I off Ji q
  refine jel fun E=>qa6 (it.step env A W Kp σ s i x E he hE hA.handled le I q.1 off Ji (jeo hd).1) (fun r s' zp2=>?_) fun _ _ z=>z
  refine Zxa zp2 fun v e z=>?_;cases e
  refine qa6 z (fun _ s2 z=>qa6 z (fun _ s3 z=>?_) fun _ _ z=>z) fun _ _ z=>z
  refine qa6 (hb env A W _ (st x σ) s3 _ E he hE (hA.hold off) (z.1.hold off) q.2) (fun fl s4 z0=>z0.ex fun W4 gf σ4 le4 I4 r4 q4=>?_) fun _ _ z=>z
  have go:dJ g st b l σ4 Q→codeAny c.M A (.forLoop target (.ref Ia) body [] env) R s4:=ih (jeo hd).2 (le.trans le4) (le1.trans le4) (z.1.drop off I4) (Offs.held z.1 off (it.lives z.2) I4) (it.kept z.2 z.1 off I4)
  cases r4 with
  |next=>exact go q4
  |cont=>exact go q4
  |brk=>exact hR _ _ ⟨W4,_,σ4,le1.trans le4,z.1.drop off I4,.next,q4⟩
  |ret r=>exact hR _ _ ⟨W4,_,σ4,le1.trans le4,z.1.drop off I4,.ret r,q4⟩
theorem cn{target iter:Expr}{body:List Stmt}{pos:Pos}{st:MV→AS→AS}{f:fC}{b:MS}(hi:CSrc c sc sc lv target iter st f)(hb:CSs c sc lv body b)
  (hs:∀env x,foldedSetIterable iter env x=pure x:=by intro _ _;rfl):CS c sc lv (.For target iter body [] pos) (cN f st b):=by
 intro env A W Kp σ s Q E he hE hA I q
 refine wpAny_For (qa6 (hi env A W Kp σ s _ E he hE hA I q) (fun x s1 h1=>qa6 h1 (fun i s2 h2=>?_) fun _ _ z=>z) fun _ _ z=>z) (hs env)
 refine aX h2 fun W1 σ1 xs g fp Ia J zq1 zq2=>?_;obtain rfl:=zq1;refine dD zq2 fun le1 I1 it J0 off1 q1=>?_
 exact jiY hb he hE hA it (fun f s z=>z) xs (i:=0) rfl (.refl _) le1 I1 off1 J0 q1
end
end
section
noncomputable def fh(scope sc:Scope):Scope:=
 { scope with names:=scope.names.map fun(n,k)=>if (k == .free&&sc.kind == .function&&sc.names.lookup n == some .cell) then(n,.cell) else(n,k) }
theorem jdn{sc:Scope}{x:Str}:∀(names:List (Str×NameKind)),
  (names.map fun(n,k)=>if (k == NameKind.free&&sc.kind == .function&&sc.names.lookup n == some .cell) then(n,NameKind.cell) else(n,k)).lookup x =
   (names.lookup x).map fun k=>if (k == NameKind.free&&sc.kind == .function&&sc.names.lookup x == some .cell) then NameKind.cell else k
 |[]=>rfl
 |(n,k)::r=>by
  rw[List.map_cons]
  by_cases e:x=n
  ·subst e
   by_cases hc:(k == NameKind.free&&sc.kind == .function&&sc.names.lookup x == some .cell)=true
   ·dsimp only
    rw[if_pos hc,List.lookup_cons,List.lookup_cons,beq_self_eq_true]
    simp only[Option.map_some]
    rw[if_pos hc]
   ·dsimp only
    rw[if_neg hc,List.lookup_cons,List.lookup_cons,beq_self_eq_true]
    simp only[Option.map_some]
    rw[if_neg hc]
  ·have e':(x == n)=false:=beq_eq_false_iff_ne.mpr e
   have ih:=jdn (sc:=sc) (x:=x) r
   by_cases hc:(k == NameKind.free&&sc.kind == .function&&sc.names.lookup n == some .cell)=true
   ·dsimp only;rw[if_pos hc,List.lookup_cons,e',List.lookup_cons,e'];exact ih
   ·dsimp only;rw[if_neg hc,List.lookup_cons,e',List.lookup_cons,e'];exact ih
noncomputable def jbC(env:Env)(acc:List (Str×Addr))(p:Str×NameKind):List (Str×Addr):=if p.2 == .free then(p.1,(env.cells.lookup p.1).getD 0)::acc else acc
noncomputable def eV(env:Env)(names:List (Str×NameKind)):List (Str×Addr):=names.foldl (jbC env) []
theorem jfP{env:Env}(names:List (Str×NameKind)):∀(acc:List (Str×Addr)),(∀x∈names,x.2=.free→∃a,env.cells.lookup x.1=some a)→
  (forIn names acc fun p r=>if (p.2 == NameKind.free)=true then(do let a ←cellOf env p.1;pure (ForInStep.yield ((p.1,a)::r))) else pure (ForInStep.yield r):Sem (List (Str×Addr)))=pure (names.foldl (jbC env) acc):=by
 induction names with
 |nil=>
  intro acc _
  exact rfl
 |cons p r ih=>
  intro acc h
  rw[List.forIn_cons,List.foldl_cons]
  by_cases hk:p.2=.free
  ·refine Zx (h p qa4 hk) fun a ha=>?_
   have e1:cellOf env p.1=pure a:=by unfold cellOf;rw[ha]
   have e2:jbC env acc p=(p.1,a)::acc:=by unfold jbC;rw[hk,ha];rfl
   rw[hk,e1,e2]
   exact ih _ fun x hx=>h x (qa2 _ hx)
  ·have hk':(p.2 == NameKind.free)=false:=by cases hp:p.2<;>first|rfl|exact absurd hp hk
   have e2:jbC env acc p=acc:=by unfold jbC;rw[hk'];rfl
   rw[hk',e2]
   exact ih _ fun x hx=>h x (qa2 _ hx)
theorem jcC{scope:Scope}{env:Env}(h:∀x∈scope.names,x.2=.free→∃a,env.cells.lookup x.1=some a):closureFor scope env=pure (eV env scope.names):=by
 have:=jfP scope.names [] h
 have e:closureFor scope env=((forIn scope.names [] fun p r=>if (p.2 == NameKind.free)=true then(do let a ←cellOf env p.1;pure (ForInStep.yield ((p.1,a)::r))) else pure (ForInStep.yield r):Sem (List (Str×Addr))) >>= fun cs=>pure cs):=rfl
 rw[e,this];rfl
theorem jd1{env:Env}{x:Str}(names:List (Str×NameKind)):∀(acc:List (Str×Addr)),(∀b,acc.lookup x=some b→b=(env.cells.lookup x).getD 0)→
  ((names.foldl (jbC env) acc).lookup x=if (x,NameKind.free)∈names∨(acc.lookup x).isSome=true then some ((env.cells.lookup x).getD 0) else none):=by
 induction names with
 |nil=>
  intro acc h
  simp only[List.foldl_nil,List.not_mem_nil,false_or]
  cases hq:acc.lookup x with
  |none=>exact rfl
  |some b=>simp[h b hq]
 |cons p r ih=>
  intro acc h
  rw[List.foldl_cons]
  obtain⟨n,k⟩:=p
  by_cases hk:k=.free
  ·subst hk
   have e2:jbC env acc (n,.free)=(n,(env.cells.lookup n).getD 0)::acc:=rfl
   rw[e2]
   by_cases e:x=n
   ·subst e
    rw[ih _ (fun b hb=>by rw[List.lookup_cons,beq_self_eq_true] at hb;exact(qa1 hb).symm)]
    simp
   ·have e':(x == n)=false:=beq_eq_false_iff_ne.mpr e
    have e3:List.lookup x ((n,(env.cells.lookup n).getD 0)::acc)=acc.lookup x:=by rw[List.lookup_cons,e']
    rw[ih _ (fun b hb=>h b (by rw[e3] at hb;exact hb)),e3]
    refine ite_congr (propext (or_congr ?_ Iff.rfl)) (fun _=>rfl) fun _=>rfl
    rw[List.mem_cons]
    exact⟨.inr,fun h=>h.elim (fun q=>absurd (Prod.mk.inj q).1 e) id⟩
  ·have hk':(k == NameKind.free)=false:=by cases hp:k<;>first|rfl|exact absurd hp hk
   have e2:jbC env acc (n,k)=acc:=by unfold jbC;rw[hk'];rfl
   rw[e2,ih acc h]
   refine ite_congr (propext (or_congr ?_ Iff.rfl)) (fun _=>rfl) fun _=>rfl
   rw[List.mem_cons]
   exact⟨.inr,fun h=>h.elim (fun q=>absurd (Prod.mk.inj q).2.symm hk) id⟩
theorem jbd{env:Env}{x:Str}{names:List (Str×NameKind)}{b:Addr}(h:(eV env names).lookup x=some b):(x,NameKind.free)∈names∧b=(env.cells.lookup x).getD 0:=by
 unfold eV at h
 rw[jd1 names [] (fun b hb=>Xns hb)] at h
 split at h
 ·rename_i q
  rcases q with q|q
  ·exact⟨q,(qa1 h).symm⟩
  ·exact Xft q
 ·exact Xns h
theorem jdB{env:Env}{x:Str}{names:List (Str×NameKind)}{b:Addr}(h:(x,NameKind.free)∈names)(e:env.cells.lookup x=some b):(eV env names).lookup x=some b:=by
 unfold eV
 rw[jd1 names [] (fun b hb=>Xns hb),if_pos (.inl h),e];rfl
structure CompOK(c:Cx)(sc scope:Scope)(fs:List Nat):Prop where
 kind:scope.kind=.function
 gen:scope.isGenerator=false
 co:scope.isCoroutine=false
 nocell:∀x∈scope.names,x.2≠.cell
 nl:∀x∈scope.names,x.2=.local→scope.names.lookup x.1=some .local
 fr:∀n∈fs,scope.names.lookup (c.S n)=some .free
 all:∀x∈scope.names,x.2=.free→∃n∈fs,c.S n=x.1
 out:∀n∈fs,sc.names.lookup (c.S n)=some .cell∨sc.names.lookup (c.S n)=some .free
noncomputable def db(fs:List Nat)(m:List (Nat×MV)):List (Nat×MV):=fs.filterMap fun n=>(m.lookup n).map fun v=>(n,v)
theorem jbb{m:List (Nat×MV)}{x:Nat}:∀(fs:List Nat),(db fs m).lookup x=if x∈fs then m.lookup x else none
 |[]=>rfl
 |n::fs=>by
  have ih:=jbb (m:=m) (x:=x) fs
  unfold db at ih ⊢
  rw[List.filterMap_cons]
  cases hq:m.lookup n with
  |none=>
   simp only[Option.map_none]
   rw[ih]
   by_cases e:x=n
   ·subst e;simp[hq]
   ·simp[e]
  |some v=>
   simp only[Option.map_some]
   by_cases e:x=n
   ·subst e;simp[hq]
   ·rw[List.lookup_cons,beq_eq_false_iff_ne.mpr e]
    simp only
    rw[ih]
    simp[e]
section
variable {c:Cx}{W W':Wd}{Kp:aJ}{env:Env}{σ:AS}{s s':Shared}{scope:Scope}{fs:List Nat}
noncomputable def cE(scope:Scope)(C:Addr)(env:Env):Env:=compEnvC scope (eV env scope.names) C env
theorem jgZ(I:InvF c W Kp env σ s)(ok:CompOK c env.scope scope fs):∀x∈scope.names,x.2=.free→∃a,env.cells.lookup x.1=some a:=fun x hx hk=>by
 refine Zxa (ok.all x hx hk) fun n hn e=>?_
 rcases ok.out n hn with h|h
 ·refine bt (I.fm.own n h) fun b u p _=>?_;exact⟨b,by rw[←e];exact p⟩
 ·refine bt (I.fm.free n h) fun b o p _=>?_;exact⟨b,by rw[←e];exact p⟩
theorem jed{C:Addr}(x:Str):(cE scope C env).kindOf x=(scope.names.lookup x).map fun k=>if (k == NameKind.free&&env.scope.kind == .function&&env.scope.names.lookup x == some .cell) then NameKind.cell else k:=jdn scope.names
theorem jbk{C:Addr}{x:Str}(ok:CompOK c env.scope scope fs)(h:(cE scope C env).kindOf x=some .cell):scope.names.lookup x=some .free∧env.kindOf x=some .cell:=by
 rw[jed] at h
 cases hq:scope.names.lookup x with
 |none=>rw[hq] at h;exact Xns h
 |some k=>
  rw[hq] at h
  simp only[Option.map_some,Option.some.injEq] at h
  split at h
  ·rename_i q
   simp at q
   exact⟨by rw[q.1.1],q.2⟩
  ·subst h;exact absurd rfl (ok.nocell _ (mem_of_lookup hq))
theorem ji4{C:Addr}{x:Str}(hf:env.scope.kind=.function)(ok:CompOK c env.scope scope fs)(h:(cE scope C env).kindOf x=some .free):scope.names.lookup x=some .free∧env.kindOf x≠some .cell:=by
 rw[jed] at h
 cases hq:scope.names.lookup x with
 |none=>rw[hq] at h;exact Xns h
 |some k=>
  rw[hq] at h
  simp only[Option.map_some,Option.some.injEq] at h
  split at h
  ·cases h
  ·rename_i q
   subst h
   refine⟨rfl,fun e=>q ?_⟩
   have e':env.scope.names.lookup x=some .cell:=e
   rw[hf,e'];rfl
open Classical in
noncomputable def KpC(c:Cx)(env cenv:Env)(Kp:aJ)(h:Heap):aJ:=fun b=>if FA c env b∧¬ FA c cenv b then(h.get? b).map (·,true) else Kp b
theorem jft{cenv:Env}{h:Heap}{b:Addr}(h1:FA c env b)(h2:¬ FA c cenv b):KpC c env cenv Kp h b=(h.get? b).map (·,true):=by unfold KpC;rw[if_pos ⟨h1,h2⟩]
theorem jc1{cenv:Env}{h:Heap}{b:Addr}(h1:¬ (FA c env b∧¬ FA c cenv b)):KpC c env cenv Kp h b=Kp b:=by unfold KpC;rw[if_neg h1]
theorem InvF.kpC{cenv:Env}(I:InvF c W Kp env σ s){b:Addr}{o:Obj×Bool}(e:Kp b=some o):KpC c env cenv Kp s.heap b=some o:=by
 rw[jc1];exact e
 intro zp1;refine Za zp1 fun h _=>?_
 rw[(I.fm.out b h).2.2] at e;exact Xns e
theorem jhL{C:Addr}(I:InvF c W Kp env σ s)(ok:CompOK c env.scope scope fs){b:Addr}(h:FA c (cE scope C env) b):b=C∨FA c env b:=by
 rcases h with h|⟨x,hx,hl⟩
 ·exact .inl h
 ·refine Za (jbk ok hx) fun h1 h2=>?_
  refine bt (I.fm.own x h2) fun b' u p _=>?_
  refine .inr (.inr ⟨x,h2,?_⟩)
  have:=(jbd hl).2
  rw[p] at this ⊢
  rw[this];rfl
theorem InvF.comp{C:Addr}{h':Heap}{tk:Nat}(hE:EOK env)(I:InvF c W Kp env σ s)(ok:CompOK c env.scope scope fs)(hC:s.heap.objs.size≤C)(k:∀b o,s.heap.get? b=some o→h'.get? b=some o)(hn:h'.Ns C fun _=>none) :
  InvF c W (KpC c env (cE scope C env) Kp s.heap) (cE scope C env) ⟨σ.H,σ.nx,db fs σ.m⟩ { s with heap:=h',toks:=tk }:=by
 have I1:Inv c W (KpC c env (cE scope C env) Kp s.heap) σ.H σ.nx s:=by
  refine⟨fun a o e=>I.kpC (I.inv.base a o e),fun a o e=>?_,I.inv.frz,fun a o e hB=>?_,I.inv.objs,I.inv.dom,I.inv.old,fun a o e=>?_,I.inv.fOwn,I.inv.os,I.inv.gens,I.inv.emp,I.inv.keepB,I.inv.tab⟩
  ·by_cases hb:FA c env a∧¬ FA c (cE scope C env) a
   ·rw[jft hb.1 hb.2] at e
    cases q:s.heap.get? a with
    |none=>rw[q] at e;exact Xns e
    |some o'=>rw[q] at e;obtain rfl:=qa1 e;exact⟨o',rfl,.refl _ _⟩
   ·rw[jc1 hb] at e;exact I.inv.kept a o e
  ·by_cases hb:FA c env a∧¬ FA c (cE scope C env) a
   ·exact(I.fm.out a hb.1).2.1
   ·rw[jc1 hb] at e;exact I.inv.kpF a o e hB
  ·by_cases hb:FA c env a∧¬ FA c (cE scope C env) a
   ·exact(I.fm.out a hb.1).1
   ·rw[jc1 hb] at e;exact I.inv.kpOwn a o e
 refine⟨I1.grown fun b o _ e=>k b o e,fun b hb=>?_,⟨_,hn,fun x v hx hk=>?_⟩,fun x v hx hk=>?_,fun x hx=>?_,fun x y b hx hy hl hl'=>?_,fun x hx=>?_⟩
 ·rcases jhL I ok hb with rfl|hf
  ·refine⟨I.inv.fresh_own hC,I.inv.fresh_F hC,?_⟩
   rw[jc1 fun h=>h.2 hb];exact I.inv.fresh_kp hC
  ·refine⟨(I.fm.out b hf).1,(I.fm.out b hf).2.1,?_⟩
   rw[jc1 fun h=>h.2 hb];exact(I.fm.out b hf).2.2
 ·rw[jbb] at hx
  split at hx
  ·rename_i hm
   rw[jed,ok.fr x hm] at hk
   simp only[Option.map_some,Option.some.injEq] at hk
   split at hk<;>cases hk
  ·exact Xns hx
 ·rw[jbb] at hx
  split at hx
  ·rename_i hm
   have hmem:=mem_of_lookup (ok.fr x hm)
   refine cG (I.fm.cell x v hx (ok.out x hm)) fun b u p q r=>?_
   exact⟨b,u,jdB hmem p,q.keeps k,r⟩
  ·exact Xns hx
 ·refine Za (jbk ok hx) fun h1 h2=>?_
  refine bt (I.fm.own x h2) fun b u p q=>?_
  exact⟨b,u,jdB (mem_of_lookup h1) p,q.keeps k⟩
 ·refine Za (jbk ok hx) fun h1 h2=>?_
  refine Za (jbk ok hy) fun h3 h4=>?_
  refine bt (I.fm.own x h2) fun b1 u1 p1 q1=>?_
  refine bt (I.fm.own y h4) fun b2 u2 p2 q2=>?_
  have e1:=(jbd hl).2
  have e2:=(jbd hl').2
  rw[p1] at e1;rw[p2] at e2
  have e1:b=b1:=e1
  have e2:b=b2:=e2
  exact I.fm.apart x y b h2 h4 (by rw[e1];exact p1) (by rw[e2];exact p2)
 ·refine Za (ji4 hE.kind ok hx) fun h1 h2=>?_
  refine Zxa (ok.all _ (mem_of_lookup h1) rfl) fun n hn e=>?_
  have e:=c.inj _ _ e
  subst e
  rcases ok.out n hn with h|h
  ·exact absurd h h2
  ·refine bt (I.fm.free n h) fun b o p q=>?_
   exact⟨b,o,jdB (mem_of_lookup h1) p,I.kpC q⟩
theorem InvF.uncomp{C:Addr}{σ':AS}(hE:EOK env)(I:InvF c W Kp env σ s)(ok:CompOK c env.scope scope fs)(le:W.le W')(hC:s.heap.objs.size≤C)(I':InvF c W' (KpC c env (cE scope C env) Kp s.heap) (cE scope C env) σ' s')
  (hm:∀n∈fs,σ'.m.lookup n=σ.m.lookup n):InvF c W' Kp env ⟨σ'.H,σ'.nx,σ.m⟩ s'∧Offs c [C] W' Kp env:=by
 have hCf:¬ FA c env C:=fun h=>absurd (I.fm.lt h) (Nat.not_lt.mpr hC)
 have hCfa:FA c (cE scope C env) C:=.inl rfl
 have base:∀a,FA c env a→c.B.get? a=none:=fun a ha=>by
  cases q:c.B.get? a with
  |none=>rfl
  |some o'=>have:=I.inv.base a o' q;rw[(I.fm.out a ha).2.2] at this;exact Xns this
 have locNot:¬ FA c (cE scope C env) env.locals:=fun h=>by
  rcases h with h|⟨x,hx,hl⟩
  ·exact hCf (.inl h.symm)
  ·refine Za (jbk ok hx) fun h1 h2=>?_
   refine jfq (I.fm.own x h2) fun b u p o q1 q2=>?_
   have e:=(jbd hl).2
   rw[p] at e
   have e:env.locals=b:=e
   refine Zxa I.fm.ns fun mm zq1 _=>?_;refine eH zq1 fun o' es ep g hd _=>?_
   rw[e,q1] at g;obtain rfl:=qa1 g
   rw[q2] at hd;cases hd
 have keepL:∀a o,FA c env a→¬ FA c (cE scope C env) a→s.heap.get? a=some o→∃o',s'.heap.get? a=some o'∧UpS o o':=fun a o h1 h2 e=>by
  refine Zxa (I'.inv.kept a (o,true) (by rw[jft h1 h2,e];rfl)) fun o' g q=>?_
  exact⟨o',g,q.1⟩
 refine⟨⟨⟨I.inv.base,fun a o e=>I'.inv.kept a o (I.kpC e),I'.inv.frz,fun a o e hB=>I'.inv.kpF a o (I.kpC e) hB,I'.inv.objs,I'.inv.dom,I'.inv.old,fun a o e=>I'.inv.kpOwn a o (I.kpC e),I'.inv.fOwn,I'.inv.os,I'.inv.gens,I'.inv.emp,I'.inv.keepB,I'.inv.tab⟩,
  ⟨fun b hb=>?_,?_,fun x v hx hk=>?_,fun x hx=>?_,I.fm.apart,I.fm.free⟩⟩,fun b hb=>?_⟩
 ·by_cases hf:FA c (cE scope C env) b
  ·exact⟨(I'.fm.out b hf).1,(I'.fm.out b hf).2.1,(I.fm.out b hb).2.2⟩
  ·refine Zxa (I.fm.obj hb) fun o e _=>?_
   have kk:KpC c env (cE scope C env) Kp s.heap b=some (o,true):=by rw[jft hb hf,e];rfl
   exact⟨I'.inv.kpOwn b _ kk,I'.inv.kpF b _ kk (base b hb),(I.fm.out b hb).2.2⟩
 ·refine Zxa I.fm.ns fun mm hns hmm=>?_
  refine eH hns fun o es ep e hd r=>?_
  refine Zxa (keepL _ _ (.inl rfl) locNot e) fun o' e' q=>?_
  exact⟨mm,⟨o',es,ep,e',q.data.1.trans hd,r⟩,fun x v hx hk=>by refine Zxa (hmm x v hx hk) fun u p q=>?_;exact⟨u,p,q.mono le⟩⟩
 ·refine cG (I.fm.cell x v hx hk) fun b u p q r=>?_
  rcases hk with hk|hk
  ·by_cases hf:FA c (cE scope C env) b
   ·rcases hf with hf|⟨y,hy,hl⟩
    ·have hf:b=C:=hf
     subst hf;exact absurd (Or.inr ⟨x,hk,p⟩) hCf
    ·refine Za (jbk ok hy) fun h1 h2=>?_
     refine bt (I.fm.own y h2) fun b2 u2 p2 q2=>?_
     have e:=(jbd hl).2
     rw[p2] at e
     have e:b=b2:=e
     subst e
     have:=I.fm.apart x y b hk h2 p p2
     subst this
     refine Zxa (ok.all _ (mem_of_lookup h1) rfl) fun n hn e=>?_
     have e:=c.inj _ _ e
     subst e
     refine cG (I'.fm.cell n v (by rw[hm n hn];exact hx) (.inl hy)) fun b' u' p' q' r'=>?_
     have hl':(eV env scope.names).lookup (c.S n)=some b':=p'
     have hl:(eV env scope.names).lookup (c.S n)=some b:=hl
     rw[hl] at hl';obtain rfl:=qa1 hl'
     exact⟨b,u',p,q',r'⟩
   ·refine Zxa q fun o q1 q2=>?_
    refine Zxa (keepL _ _ (.inr ⟨x,hk,p⟩) hf q1) fun o' e' q=>?_
    exact⟨b,u,p,⟨o',e',q.data.1.trans q2⟩,r.mono le⟩
  ·refine bt (I.fm.free x hk) fun b2 o2 p2 q2=>?_
   rw[p] at p2;obtain rfl:=qa1 p2
   refine Zxa q fun o q1 q3=>?_
   refine Zxa (I.inv.kept b o2 q2) fun o3 e3 s3=>?_
   rw[q1] at e3
   have e3:=qa1 e3
   subst e3
   refine Zxa (I'.inv.kept b o2 (I.kpC q2)) fun o4 e4 s4=>?_
   exact⟨b,u,p,⟨o4,e4,s4.1.data.1.trans (s3.1.data.1.symm.trans q3)⟩,r.mono le⟩
 ·refine bt (I.fm.own x hx) fun b u p q=>?_
  by_cases hf:FA c (cE scope C env) b
  ·rcases hf with hf|⟨y,hy,hl⟩
   ·have hf:b=C:=hf
    subst hf;exact absurd (Or.inr ⟨x,hx,p⟩) hCf
   ·refine bt (I'.fm.own y hy) fun b' u' p' q'=>?_
    have hl':(eV env scope.names).lookup (c.S y)=some b':=p'
    have hl:(eV env scope.names).lookup (c.S y)=some b:=hl
    rw[hl] at hl';obtain rfl:=qa1 hl'
    exact⟨b,u',p,q'⟩
  ·refine Zxa q fun o q1 q2=>?_
   refine Zxa (keepL _ _ (.inr ⟨x,hx,p⟩) hf q1) fun o' e' q=>?_
   exact⟨b,u,p,⟨o',e',q.data.1.trans q2⟩⟩
 ·rw[List.mem_singleton.mp hb]
  exact⟨⟨(I'.fm.out C hCfa).1,(I'.fm.out C hCfa).2.1,I.inv.fresh_kp hC⟩,hCf⟩
theorem AOK.comp{lv:Nat}{A:Around}{C:Addr}(I:InvF c W Kp env σ s)(ok:CompOK c env.scope scope fs)(hC:s.heap.objs.size≤C)(hA:AOK c lv A Kp env):AOK c lv A (KpC c env (cE scope C env) Kp s.heap) (cE scope C env):=by
 refine Zxa hA.frames fun fr hf hh=>?_
 refine⟨hA.depth,hA.units,hA.handled,fr,hf,fun e he=>?_⟩
 refine jez (hh e he) fun h1 L h2 h3 h4=>?_
 refine⟨h1,L,h2,h3,.inr ?_⟩
 rcases h4 with rfl|⟨o,p,q⟩
 ·have locNot:¬ FA c (cE scope C env) env.locals:=fun h=>by
   rcases h with h|⟨x,hx,hl⟩
   ·have:=I.fm.lt (b:=env.locals) (.inl rfl)
    have h:env.locals=C:=h
    exact absurd (h▸this) (Nat.not_lt.mpr hC)
   ·refine Za (jbk ok hx) fun h1 h2=>?_
    refine jfq (I.fm.own x h2) fun b u p o q1 q2=>?_
    have e:=(jbd hl).2
    rw[p] at e
    have e:env.locals=b:=e
    refine Zxa I.fm.ns fun mm zq1 _=>?_;refine eH zq1 fun o' es ep g hd _=>?_
    rw[e,q1] at g;obtain rfl:=qa1 g
    rw[q2] at hd;cases hd
  refine dR (I.fm.obj (b:=env.locals) (.inl rfl)) fun o e _ hs=>?_
  exact⟨o,by rw[jft (.inl rfl) locNot,e];rfl,hs⟩
 ·exact⟨o,I.kpC p,q⟩
end
end
section
section
variable {prog:Program}{w:World}{A:Around}{R:Result→Shared→Prop}{s:Shared}
theorem jd0{elt target iter:Expr}{ifs:List Expr}{scope:Scope}{pos:Pos}{it acc:Value}{env:Env}
  (turn:∀E,wpAny (model prog w) A (pyNext it) (fun r s₁=>match r with
   |none=>R (.ok .next) s₁
   |some v=>wpAny (model prog w) A (letOwnedTupleGo target it v) (fun _ s₀=>wpAny (model prog w) A (assign target env v) (fun _ s₂=>
     wpAny (model prog w) A (forIn ifs true fun c r=>if r=true then do let ok ←PySem.isTrue c env (eval c env);pure (ForInStep.yield ok) else pure (ForInStep.yield r)) (fun ok s₃=>
      if ok=true then wpAny (model prog w) A (eval elt env) (fun x s₄=>
       wpAny (model prog w) A (call (.builtin "list.append") [acc,x]) (fun _ s₅=>codeAny (model prog w) A (.compLoop (.ListComp elt [⟨target,iter,ifs,0⟩] scope pos) 0 it acc env) R s₅) E s₄) E s₃
      else codeAny (model prog w) A (.compLoop (.ListComp elt [⟨target,iter,ifs,0⟩] scope pos) 0 it acc env) R s₃) E s₂) E s₀) E s₁) E s) :
  codeAny (model prog w) A (.compLoop (.ListComp elt [⟨target,iter,ifs,0⟩] scope pos) 0 it acc env) R s:=by
 refine codeAny_of_tree ?_
 show wpAny _ A ((compTurn (.ListComp elt [⟨target,iter,ifs,0⟩] scope pos) 0 it acc env).onRaise (fun x=>do noteFrame x env;theTreesLotGoes x)) _ _ s
 refine wpAny_noted ?_
 rw[compTurn_list]
 refine qa5 (wpAny_standAt (qa5 (qa6 (turn _) (fun r s₁ h₁=>?_) fun _ _ h'=>h')))
 cases r with
 |none=>exact qa8 h₁
 |some v=>
  refine qa5 (qa6 h₁ (fun a s₀ h₁=>qa5 (qa6 h₁ (fun a s₂ h₂=>qa5 (qa6 h₂ (fun ok s₃ h₃=>?_) fun _ _ h'=>h')) fun _ _ h'=>h')) fun _ _ h'=>h')
  cases ok with
  |false=>exact qa8 ⟨rfl,h₃⟩
  |true=>exact qa5 (qa5 (qa6 h₃ (fun x s₄ h₄=>qa5 (qa6 h₄ (fun a s₅ h₅=>qa8 (qa8 ⟨rfl,h₅⟩)) fun _ _ h'=>h')) fun _ _ h'=>h'))
end
noncomputable def CTl(c:Cx)(sc:Scope)(lv:Nat)(ifs:List Expr)(g:MT):Prop:=
 ∀(env:Env)(A:Around)(W:Wd)(Kp:aJ)(σ:AS)(s:Shared)(Q:Bool→AS→Prop)(E:Value→Shared→Prop),
  env.scope=sc→EOK env→AOK c lv A Kp env→InvF c W Kp env σ s→g σ Q→
  wpAny c.M A (forIn ifs true fun c r=>if r=true then do let ok ←PySem.isTrue c env (eval c env);pure (ForInStep.yield ok) else pure (ForInStep.yield r)) (PT c W Kp env Q) E s
theorem jck{c:Cx}{sc:Scope}{lv:Nat}:CTl c sc lv [] ck:=fun env A W Kp σ s Q E he hE hA I q=>wpAny_tests_nil ⟨W,σ,.refl W,I,q⟩
theorem jcj{c:Cx}{sc:Scope}{lv:Nat}{e:Expr}{g:MT}(h:CT c sc lv e g):CTl c sc lv [e] g:=fun env A W Kp σ s Q E he hE hA I q=>wpAny_tests_one (h env A W Kp σ s Q E he hE hA I q)
noncomputable def d7(g:(Tag→Option MObj)→Prop)(st:MV→AS→AS)(t:MT)(elt:MEx)(m:List (Nat×MV)):List MV→List MV→AS→(MV→AS→Prop)→Prop
 |[],acc,σ,Q=>g σ.H∧newL acc ⟨σ.H,σ.nx,m⟩ Q
 |x::r,acc,σ,Q=>g σ.H∧t (st x σ) fun b σ1=>match b with
  |true=>elt σ1 fun v σ2=>σ2.m=(st x σ).m∧acc.length<1000∧d7 g st t elt m r (acc++[v]) σ2 Q
  |false=>σ1.m=(st x σ).m∧d7 g st t elt m r acc σ1 Q
noncomputable def cK(fs:List Nat)(f:fC)(st:MV→AS→AS)(t:MT)(elt:MEx):MEx:=fun σ Q=>f σ fun xs g σ1=>d7 g st t elt σ1.m xs [] ⟨σ1.H,σ1.nx,db fs σ1.m⟩ Q
section
variable {c:Cx}{W W':Wd}{Kp:aJ}{env:Env}{σ:AS}{s s':Shared}{Q:MV→AS→Prop}
theorem Fm.add{W2:Wd}{m:List (Nat×MV)}{h:Heap}(f:Fm c W Kp env m h)(le:W.le W2)(ho:∀b,FA c env b→W2.own b=none∧W2.F b=none):Fm c W2 Kp env m h:=f.move le ho fun _ _ _ e=>e
theorem PE.adoptL{a:Addr}{vs:List Value}{xs:List MV}{n:Nat}(I:InvF c W Kp env σ s)(off:Offs c [a] W Kp env)(hv:VRs c.S W vs xs)(q:Mini.newL xs σ Q)(g:s.heap.get? a=some (bS vs n)):PE c W Kp env Q (.ref a) s:=by
 refine Za (off a qa4) fun oa hf=>?_
 have hlen:=q.1
 rcases q.2 with q|⟨t,ft,q⟩
 ·have le:W.le (W.freeze a (bS vs n)):=Wd.le_freeze oa.2.1
  refine⟨W.freeze a (bS vs n),.lst xs,σ,le,⟨I.inv.adoptF oa g,I.fm.add le fun b hb=>⟨(I.fm.out b hb).1,?_⟩⟩,.lst (n:=n) ?_ (hv.mono le) hlen,q⟩
  ·show(if b=a then _ else _)=_
   rw[if_neg];exact(I.fm.out b hb).2.1
   intro e;subst e;exact hf hb
  ·show(if a=a then _ else _)=_
   rw[if_pos rfl]
 ·have le:W.le (W.add t a []):=Wd.le_adopt (I.inv.unused ft) oa.1
  have I':=I.inv.adopt (o:=.list xs) ft oa ⟨_,g⟩ ⟨a,vs,n,by show(if t=t then _ else _)=_;rw[if_pos rfl],by show(if a=a∨a∈[] then _ else _)=_;rw[if_pos (.inl rfl)],g,hv.mono le,hlen⟩
  refine⟨W.add t a [],.tag t,{ σ with H:=ay σ.H t (.list xs),nx:=cw σ.nx t },le,⟨I',I.fm.add le fun b hb=>⟨?_,(I.fm.out b hb).2.1⟩⟩,.tag ?_,q⟩
  ·show(if b=a∨b∈[] then _ else _)=_
   rw[if_neg];exact(I.fm.out b hb).1
   rintro (e|e)
   ·subst e;exact hf hb
   ·exact Xnm e
  ·show(if t=t then _ else _)=_
   rw[if_pos rfl]
theorem VRs.snoc{S:Nat→Str}{W:Wd}{vs:List Value}{xs:List MV}{v:Value}{x:MV}(h:VRs S W vs xs)(r:VR S W v x):VRs S W (vs++[v]) (xs++[x]):=h.append (.cons r .nil)
end
section
variable {c:Cx}{sc:Scope}{lv:Nat}
theorem jiC{h:Heap}{D:Addr}{vs:List Value}{n:Nat}{fp:List Addr}(gD:h.get? D=some (bS vs n))(l:∀b∈fp,∃o,h.get? b=some o):∀b∈D::fp,∃o,h.get? b=some o:=fun b hb=>by
 cases hb with
 |head=>exact⟨_,gD⟩
 |tail _ hb=>exact l b hb
theorem Offs.hd{D:Addr}{fp:List Addr}{W:Wd}{K:aJ}{ce:Env}(off:Offs c (D::fp) W K ce):Offs c [D] W K ce:=fun b hb=>off b (by rw[List.mem_singleton.mp hb];exact .head _)
theorem Offs.tl{D:Addr}{fp:List Addr}{W:Wd}{K:aJ}{ce:Env}{h:Heap}(off:Offs c (D::fp) W K ce)(fpD:D∉fp):Offs c fp W (KpH K [D] h) ce:=fun b hb=>
 ⟨⟨(off b (.tail _ hb)).1.1,(off b (.tail _ hb)).1.2.1,by rw[jc0 fun hm=>fpD (by rw[←List.mem_singleton.mp hm];exact hb)];exact(off b (.tail _ hb)).1.2.2⟩,(off b (.tail _ hb)).2⟩
theorem jih{elt target iter:Expr}{ifs:List Expr}{scope:Scope}{pos:Pos}{st:MV→AS→AS}{t:MT}{f:MEx}{ce:Env}{A:Around}{W0:Wd}{K:aJ}{xs:List MV}{g:(Tag→Option MObj)→Prop}{fp:List Addr}{Ia D:Addr}{J:Nat→Heap→Prop}{Q:MV→AS→Prop}{RR:Result→Shared→Prop}{m0 mq:List (Nat×MV)}
  (hs:ce.scope=sc)(hE:EOK ce)(hA:AOK c lv A K ce)(ht:CTl c sc lv ifs t)(hf:CE c sc lv elt f)(it:Itr c sc target xs st g W0 fp Ia J)(fpD:D∉fp)
  (fin:∀W σ s acc vs n,W0.le W→InvF c W K ce σ s→Offs c [D] W K ce→(∀n,sc.names.lookup (c.S n)≠some .local→σ.m.lookup n=m0.lookup n)→s.heap.get? D=some (bS vs n)→VRs c.S W vs acc→newL acc ⟨σ.H,σ.nx,mq⟩ Q→RR (.ok .next) s)
  (l:List MV):∀(i:Nat)(W:Wd)(σ:AS)(acc:List MV)(vs:List Value)(nn:Nat)(s:Shared),xs.drop i=l→W0.le W→InvF c W K ce σ s→Offs c (D::fp) W K ce→J i s.heap→s.heap.get? D=some (bS vs nn)→VRs c.S W vs acc→acc.length≤1000→(∀n,sc.names.lookup (c.S n)≠some .local→σ.m.lookup n=m0.lookup n)→d7 g st t f mq l acc σ Q→
   codeAny c.M A (.compLoop (.ListComp elt [⟨target,iter,ifs,0⟩] scope pos) 0 (.ref Ia) (.ref D) ce) RR s:=by
 induction l with
 |nil=>
  intro i W σ acc vs nn s hd le I off Ji gD rD hacc hm q
  refine jd0 fun E=>?_
  have oD:=off.hd
  have of1:=off.tl (h:=s.heap) fpD
  refine qa6 (it.done ce A W _ σ s i E hs hE hA.handled le (I.hold oD) q.1 of1 Ji (List.getElem?_eq_none (List.drop_eq_nil_iff.mp hd))) (fun r s1 z=>?_) fun _ _ z=>z
  cases z.1
  exact fin W σ s1 acc vs nn le (I.drop oD z.2) (Offs.held I oD (jiC gD fun _ h=>nomatch h) z.2) hm (I.held oD z.2 (.head _) gD) rD q.2
 |cons x l ih=>
  intro i W σ acc vs nn s hd le I off Ji gD rD hacc hm q
  refine jd0 fun E=>?_
  have oD:=off.hd
  have of1:=off.tl (h:=s.heap) fpD
  have hx:xs[i]?=some x:=by rw[←List.head?_drop,hd];rfl
  have hd':xs.drop (i+1)=l:=by rw[←List.tail_drop,hd];rfl
  refine qa6 (it.step ce A W _ σ s i x E hs hE hA.handled le (I.hold oD) q.1 of1 Ji hx) (fun r s1 zp1=>?_) fun _ _ z=>z
  refine Zxa zp1 fun v e z=>?_;cases e
  refine qa6 z (fun _ s2 z=>qa6 z (fun _ s3 z=>?_) fun _ _ z=>z) fun _ _ z=>z
  have gD3:=I.held oD z.1 (.head _) gD
  have I3:=I.drop oD z.1
  have lv3:=jiC gD3 fun b hb=>(it.live _ _ z.2 b hb).elim fun o e=>⟨o,e.1⟩
  have back:∀{W5:Wd}{σ5:AS}{s5:Shared},InvF c W5 (KpH K (D::fp) s3.heap) ce σ5 s5→J (i+1) s5.heap:=fun I5=>it.frame _ _ _ z.2 fun b hb o e=>I3.held off I5 (.tail _ hb) e
  have hm':∀n,sc.names.lookup (c.S n)≠some .local→(st x σ).m.lookup n=m0.lookup n:=fun n hn=>(it.stm x σ n hn).trans (hm n hn)
  have hA1:=hA.hold (h:=s3.heap) off
  refine qa6 (ht ce A W _ (st x σ) s3 _ E hs hE hA1 (I3.hold off) q.2) (fun b s4 z0=>z0.ex fun W4 σ4 le4 I4 q4=>?_) fun _ _ z=>z
  cases b with
  |false=>exact ih (i+1) W4 σ4 acc vs nn s4 hd' (le.trans le4) (I3.drop off I4) (Offs.held I3 off lv3 I4) (back I4) (I3.held off I4 (.head _) gD3) (rD.mono le4) hacc (by rw[q4.1];exact hm') q4.2
  |true=>
   refine qa6 (hf ce A W4 _ σ4 s4 _ E hs hE hA1 I4 q4) (fun v s5 zp2=>?_) fun _ _ z=>z
   refine jaY zp2 fun W5 y σ5 le5 I5 r5 em hl q5=>?_;have gD5:=I3.held off I5 (.head _) gD3
   have off5:=Offs.held I3 off lv3 I5
   refine wpAny_list_append_plain (je7 gD5) (fun h6 p6 sb6=>?_) (by rw[List.size_toArray,rD.length,sizeLine_eq];exact Nk1 0 1000 0 16777216 hacc rfl)
   have p6':h6.PlainList D (vs++[v]).toArray:=List.push_toArray vs v▸p6
   refine Zx p6' fun n6 g6=>?_
   exact ih (i+1) W5 σ5 (acc++[y]) (vs++[v]) n6 _ hd' (le.trans (le4.trans le5)) ((I3.drop off I5).offChange (tk:=s5.toks) off5.hd fun b o hb e=>(sb6.2 b fun e'=>hb (by rw[e'];exact .head _)).trans e) off5
    (it.frame _ _ _ (back I5) fun b hb o e=>(sb6.2 b fun e'=>fpD (by rw[←e'];exact hb)).trans e) g6 ((rD.mono (le4.trans le5)).snoc r5) (by rw[List.length_append];exact hl) (by rw[em];exact hm') q5
theorem jii{elt target iter:Expr}{ifs:List Expr}{scope:Scope}{pos:Pos}{fs:List Nat}{st:MV→AS→AS}{t:MT}{f:MEx}{env:Env}{A:Around}{W:Wd}{Kp:aJ}{σ:AS}{s:Shared}{xs:List MV}{g:(Tag→Option MObj)→Prop}{fp:List Addr}{Ia C:Addr}{J:Nat→Heap→Prop}{Q:MV→AS→Prop}{RR:Value→Addr→Result→Shared→Prop}{h₁:Heap}{tk:Nat}
  (hE:EOK env)(hA:AOK c lv A Kp env)(ok:CompOK c env.scope scope fs)(ht:CTl c (fh scope env.scope) lv ifs t)(hf:CE c (fh scope env.scope) lv elt f)
  (I:InvF c W Kp env σ s)(it:Itr c (fh scope env.scope) target xs st g W fp Ia J)(J0:J 0 s.heap)(off:Offs c fp W Kp env)(q:d7 g st t f σ.m xs [] ⟨σ.H,σ.nx,db fs σ.m⟩ Q)
  (hRR:∀(D C:Addr)(s':Shared)(W':Wd)(acc:List MV)(vs:List Value)(n:Nat)(σ':AS)(m:Str→Option Value),W.le W'→InvF c W' Kp env ⟨σ'.H,σ'.nx,σ.m⟩ s'→Offs c [C] W' Kp env→Offs c [D] W' Kp env→D≠C→s'.heap.Ns C m→s'.heap.get? D=some (bS vs n)→VRs c.S W' vs acc→newL acc ⟨σ'.H,σ'.nx,σ.m⟩ Q→RR (.ref D) C (.ok .next) s')
  (hC:s.heap.objs.size≤C)(hDC:s.heap.objs.size≠C)(k1:∀b o,s.heap.get? b=some o→h₁.get? b=some o)(gD:h₁.get? s.heap.objs.size=some (bS [] 0))(hns:h₁.Ns C fun _=>none) :
  codeAny c.M A (.compStart (.ListComp elt [⟨target,iter,ifs,0⟩] scope pos) 0 (.ref Ia) (.ref s.heap.objs.size) (cE scope C env)) (RR (.ref s.heap.objs.size) C) { s with heap:=h₁,toks:=tk }:=by
 have fpD:s.heap.objs.size∉fp:=fun hm=>by refine Zxa (it.live _ _ J0 _ hm) fun o e _=>?_;exact absurd (Heap.lt_size e) (Nat.lt_irrefl _)
 have J1:J 0 h₁:=it.frame _ _ _ J0 fun b _ o e=>k1 b o e
 have loop:codeAny c.M A (.compLoop (.ListComp elt [⟨target,iter,ifs,0⟩] scope pos) 0 (.ref Ia) (.ref s.heap.objs.size) (cE scope C env)) (RR (.ref s.heap.objs.size) C) { s with heap:=h₁,toks:=tk }:=by
  refine jih (sc:=fh scope env.scope) (m0:=db fs σ.m) rfl (show EOK (cE scope C env) from⟨ok.kind,hE.globals,hE.builtins,ok.gen,ok.co⟩) (hA.comp I ok hC) ht hf it fpD (fun W' σ' s' acc vs n le' I' oD hm gD rD qn=>?_) xs 0 W _ [] [] 0 _ rfl (.refl W) (I.comp hE ok hC k1 hns) (fun b hb=>?_) J1 gD .nil (Nat.zero_le _) (fun _ _=>rfl) q
  ·have u:=I.uncomp hE ok le' hC I' fun n hn=>by
    rw[hm n ?_,jbb,if_pos hn]
    rw[show(fh scope env.scope).names.lookup (c.S n)=_ from jdn scope.names,ok.fr n hn]
    simp only[Option.map_some,ne_eq,Option.some.injEq]
    split<;>decide
   exact I'.fm.ns.elim fun mm hns=>hRR _ C s' W' acc vs n σ' mm le' u.1 u.2 (fun b hb=>by
    rw[List.mem_singleton.mp hb]
    exact⟨⟨(oD _ (.head _)).1.1,(oD _ (.head _)).1.2.1,I.inv.fresh_kp (qa9 _)⟩,fun h=>qa7 (I.fm.lt h) rfl⟩) hDC hns.1 gD rD qn
  ·have key:¬ FA c env b→Kp b=none→W.own b=none→W.F b=none→b≠C→(W.own b=none∧W.F b=none∧KpC c env (cE scope C env) Kp s.heap b=none)∧¬ FA c (cE scope C env) b:=fun nf k o f h=>⟨⟨o,f,(jc1 fun h=>nf h.1).trans k⟩,fun h'=>(jhL I ok h').elim h nf⟩
   cases hb with
   |head=>exact key (fun h=>absurd (I.fm.lt h) (Nat.lt_irrefl _)) (I.inv.fresh_kp (qa9 _)) (I.inv.fresh_own (qa9 _)) (I.inv.fresh_F (qa9 _)) hDC
   |tail _ hb=>exact key (off b hb).2 (off b hb).1.2.2 (off b hb).1.1 (off b hb).1.2.1 fun e=>(it.live _ _ J0 b hb).elim fun o h=>absurd (Heap.lt_size h.1) (Nat.not_lt.mpr (e▸hC))
 exact codeAny_compStart_list loop (it.self _ _ _ _ _ J1 loop)
theorem jgh{elt target iter:Expr}{ifs:List Expr}{scope:Scope}{pos:Pos}{fs:List Nat}{st:MV→AS→AS}{t:MT}{f:MEx}{env:Env}{A:Around}{W:Wd}{Kp:aJ}{σ:AS}{s:Shared}{xs:List MV}{g:(Tag→Option MObj)→Prop}{fp:List Addr}{Ia:Addr}{J:Nat→Heap→Prop}{Q:MV→AS→Prop}{E:Value→Shared→Prop}{RR:Value→Addr→Result→Shared→Prop}
  (hE:EOK env)(hA:AOK c lv A Kp env)(ok:CompOK c env.scope scope fs)(ht:CTl c (fh scope env.scope) lv ifs t)(hf:CE c (fh scope env.scope) lv elt f)
  (I:InvF c W Kp env σ s)(it:Itr c (fh scope env.scope) target xs st g W fp Ia J)(J0:J 0 s.heap)(off:Offs c fp W Kp env)(q:d7 g st t f σ.m xs [] ⟨σ.H,σ.nx,db fs σ.m⟩ Q)
  (hRR:∀(D C:Addr)(s':Shared)(W':Wd)(acc:List MV)(vs:List Value)(n:Nat)(σ':AS)(m:Str→Option Value),W.le W'→InvF c W' Kp env ⟨σ'.H,σ'.nx,σ.m⟩ s'→Offs c [C] W' Kp env→Offs c [D] W' Kp env→D≠C→s'.heap.Ns C m→s'.heap.get? D=some (bS vs n)→VRs c.S W' vs acc→newL acc ⟨σ'.H,σ'.nx,σ.m⟩ Q→RR (.ref D) C (.ok .next) s') :
  wpAny c.M A (newList []) (fun acc s₃=>wpAny c.M A (newFunctionEnv scope env.globals (eV env scope.names) [] env.qual none .none (some env)) (fun cenv s₄=>
   codeAny c.M A (.compStart (.ListComp elt [⟨target,iter,ifs,0⟩] scope pos) 0 (.ref Ia) acc { cenv with scope:=relabel scope env }) (RR acc cenv.locals) s₄) E s₃) E s:=by
 refine wpAny_newList ?_ (jdw (Nat.zero_le _))
 refine wpAny_newFunctionEnv ok.nocell (by intro y hy;exact Xnm hy) (fun h₁ hns₁ hsb₁=>?_) ok.kind
 have hsz2:(s.heap.push { cls:=.type "list",data:=.seq ([]:List Value).toArray }).objs.size=s.heap.objs.size+1:=Heap.size_push ..
 have k2:∀b,b<s.heap.objs.size+1→∀o,(s.heap.push { cls:=.type "list",data:=.seq ([]:List Value).toArray }).get? b=some o→h₁.get? b=some o:=fun b hb o e=>hsb₁.extBut b o (qa7 (hsz2▸hb)) (qb2 _ e)
 have hC:s.heap.objs.size≤(s.heap.push { cls:=.type "list",data:=.seq ([]:List Value).toArray }).objs.size:=hsz2▸Nat.le_succ _
 have hDC:s.heap.objs.size≠(s.heap.push { cls:=.type "list",data:=.seq ([]:List Value).toArray }).objs.size:=hsz2▸qa7 (Nat.lt_succ_self _)
 exact jii hE hA ok ht hf I it J0 off q hRR hC hDC (fun b o e=>k2 b (Nat.lt_succ_of_lt (Heap.lt_size e)) o (qb2 _ e)) (k2 _ (Nat.lt_succ_self _) _ (Heap.get?_push_size _ rfl)) hns₁
theorem jcl{elt target iter:Expr}{ifs:List Expr}{scope:Scope}{pos:Pos}{fs:List Nat}{st:MV→AS→AS}{t:MT}{f:MEx}{src:fC}(ok:CompOK c sc scope fs)(hi:CSrc c sc (fh scope sc) lv target iter st src)(ht:CTl c (fh scope sc) lv ifs t)(hf:CE c (fh scope sc) lv elt f)
  (hs:∀env x,foldedSetIterable iter env x=pure x:=by intro _ _;rfl):CE c sc lv (.ListComp elt [⟨target,iter,ifs,0⟩] scope pos) (cK fs src st t f):=by
 intro env A W Kp σ s Q E he hE hA I q
 subst he
 rw[eval_ListComp]
 refine wpAny_comprehension_free (use:=none) rfl (hs env) (jcC (jgZ I ok)) ok.kind ok.nl ?_
 refine qa6 (hi env A W Kp σ s _ E rfl hE hA I q) (fun x s1 h1=>qa6 h1 (fun it s2 h2=>?_) fun _ _ z=>z) fun _ _ z=>z
 refine aX h2 fun W1 σ1 xs g fp Ia J zq1 zq2=>?_;obtain rfl:=zq1;refine dD zq2 fun le1 I1 itr J0 off1 q1=>?_
 refine jgh (RR:=fun acc C=>compPost c.M A E none (PE c W Kp env Q) acc C) hE hA ok ht hf I1 itr J0 off1 q1 ?_
 intro D C s' W' acc vs n σ' m le' I' oC oD hDC hns gD rD qn
 refine⟨m,hns,fun h' sb=>?_⟩
 have k:∀b o,b∉[C]→s'.heap.get? b=some o→h'.get? b=some o:=fun b o hb e=>(sb.2 b fun e'=>hb (by rw[e'];exact qa4)).trans e
 have I2:InvF c W' Kp env ⟨σ'.H,σ'.nx,σ1.m⟩ { s' with heap:=h' }:=I'.offChange (tk:=s'.toks) oC k
 exact(PE.adoptL I2 oD rD qn (k _ _ (by rw[List.mem_singleton];exact hDC) gD)).le (le1.trans le')
theorem ja4{elt target iter:Expr}{ifs:List Expr}{scope:Scope}{pos np spos:Pos}{n:Str}{fs:List Nat}{st:MV→AS→AS}{t:MT}{f:MEx}{src:fC}(x:Nat)(hn:c.S x=n)(hk:sc.names.lookup n=some .local)
  (ok:CompOK c sc scope fs)(hi:CSrc c sc (fh scope sc) lv target iter st src)(ht:CTl c (fh scope sc) lv ifs t)(hf:CE c (fh scope sc) lv elt f)
  (hsw:∀env:Env,env.scope=sc→swapsWith (.ListComp elt [⟨target,iter,ifs,0⟩] scope pos) (some (.Name n np)) spos.line env=pure true)(hs:∀env x,foldedSetIterable iter env x=pure x:=by intro _ _;rfl) :
  CS c sc lv (.Assign [.Name n np] (.ListComp elt [⟨target,iter,ifs,0⟩] scope pos) spos) (aL x (cK fs src st t f)):=by
 subst hn
 intro env A W Kp σ s Q E he hE hA I q
 rw[exec_Assign_Name_used _ _ _ _ (hsw env he)]
 subst he
 refine qa5 (wpAny_standAt (qa5 ?_))
 show wpAny _ A (do let _ ←comprehension (.ListComp elt [⟨target,iter,ifs,0⟩] scope pos) scope env _ (newList []) false (eval iter env) (some (assign (.Name (c.S x) np) env))) _ _ s
 refine qa5 (qa6 (wpAny_comprehension_free (use:=some (assign (.Name (c.S x) np) env)) (Q:=fun _ s'=>PS c W Kp env Q .next s') rfl (hs env) (jcC (jgZ I ok)) ok.kind ok.nl ?_) (fun _ s' hq=>qa8 (qa8 hq)) fun _ _ e=>e)
 refine qa6 (hi env A W Kp σ s _ E rfl hE hA I q) (fun y s1 h1=>qa6 h1 (fun it s2 h2=>?_) fun _ _ z=>z) fun _ _ z=>z
 refine aX h2 fun W1 σ1 xs g fp Ia J zq1 zq2=>?_;obtain rfl:=zq1;refine dD zq2 fun le1 I1 itr J0 off1 q1=>?_
 refine jgh (RR:=fun acc C=>compPost c.M A E (some (assign (.Name (c.S x) np) env)) (fun _ s'=>PS c W Kp env Q .next s') acc C) hE hA ok ht hf I1 itr J0 off1 q1 ?_
 intro D C s' W' acc vs n σ' m le' I' oC oD hDC hns gD rD qn
 show wpAny _ A (assign (.Name (c.S x) np) env (.ref D)) _ _ _
 obtain⟨W2,mv,σ2,le2,I2,r2,q2⟩:=PE.adoptL (Kp:=KpH Kp [C] s'.heap) (I'.hold oC) (fun b hb=>by
  rw[List.mem_singleton.mp hb]
  refine Za (oD _ qa4) fun zq1 o4=>?_;refine Zaa zq1 fun o1 o2 o3=>?_
  exact⟨⟨o1,o2,by rw[jc0 (by rw[List.mem_singleton];exact hDC)];exact o3⟩,o4⟩) rD qn gD
 refine wpAny_assign_Name (jbF hE I2 r2 (.inl hk) fun s3 I3=>?_)
 have liveC:∀b∈[C],∃o,s'.heap.get? b=some o:=fun b hb=>by rw[List.mem_singleton.mp hb];refine bZ hns fun o _ _ e _=>?_;exact⟨o,e⟩
 have I4:=I'.drop oC I3
 have oC4:=Offs.held I' oC liveC I3
 have hns3:s3.heap.Ns C m:=by
  refine eH hns fun o es ep e hd r=>?_
  exact⟨o,es,ep,I'.held oC I3 qa4 e,hd,r⟩
 refine⟨m,hns3,fun h' sb=>?_⟩
 have k:∀b o,b∉[C]→s3.heap.get? b=some o→h'.get? b=some o:=fun b o hb e=>(sb.2 b fun e'=>hb (by rw[e'];exact qa4)).trans e
 exact⟨W2,_,_,(le1.trans le').trans le2,I4.offChange (tk:=s3.toks) oC4 k,.next,q2⟩
end
end
section
noncomputable def aG(x:Nat):MV→AS→AS:=fun v σ=>{ σ with m:=ar σ.m x v }
theorem jiw{m:Int}(h:0≤m):Builtin.Range.rangeSize 0 m 1=m:=by rw[rangeSize_one];split<;>omega
noncomputable def jjz:List MV→Option (MV×MV)
 |[]=>none
 |[_]=>none
 |[a,b]=>some (a,b)
 |_::_::_::_=>none
noncomputable def jiz(v:MV):Option (MV×MV):=MV.casesOn v none (fun _=>none) (fun _=>none) (fun _=>none) (fun _=>none) (fun _=>none) (fun xs=>jjz xs) (fun _=>none) (fun _ _=>none) (fun _=>none)
noncomputable def jb0(x y:Nat):MV→AS→AS:=fun v σ=>Option.casesOn (jiz v) σ fun p=>{ σ with m:=ar (ar σ.m x p.1) y p.2 }
theorem jf4(x y:Nat)(v:MV)(σ:AS):jb0 x y v σ=σ∨∃a b,jb0 x y v σ={ σ with m:=ar (ar σ.m x a) y b }:=by
 unfold jb0
 cases jiz v with
 |none=>exact .inl rfl
 |some p=>exact .inr ⟨p.1,p.2,rfl⟩
section
variable {c:Cx}{sc tsc:Scope}{lv:Nat}{xs:List MV}{g:(Tag→Option MObj)→Prop}{W0:Wd}{fp:List Addr}{I:Addr}{J:Nat→Heap→Prop}
theorem jgX{W:Wd}{Kp:aJ}{env:Env}{A:Around}{σ σ':AS}{s:Shared}{E:Value→Shared→Prop}{m:Sem Unit}(hI:InvF c W Kp env σ s)(off:Offs c fp W Kp env)(live:∀b∈fp,∃o,s.heap.get? b=some o∧o.cls≠.type "frame")
  (h:∀Kp',InvF c W Kp' env σ s→wpAny c.M A m (fun _ s'=>InvF c W Kp' env σ' s') E s) :
  wpAny c.M A m (fun _ s'=>InvF c W Kp env σ' s'∧∀b∈fp,∀o,s.heap.get? b=some o→s'.heap.get? b=some o) E s:=
 qa6 (h _ (hI.hold off)) (fun _ s' I'=>⟨hI.drop off I',fun b hb o e=>by
  refine Zxa (live b hb) fun o2 e2 hc=>?_
  rw[e] at e2;obtain rfl:=qa1 e2
  exact hI.heldX off I' hb e hc⟩) fun _ _ z=>z
theorem Itr.ofName{n:Str}{pos:Pos}(x:Nat)(hn:c.S x=n)(hk:tsc.names.lookup n=some .local)
  (frame:∀i h h',J i h→(∀b∈fp,∀o,h.get? b=some o→h'.get? b=some o)→J i h')
  (live:∀i h,J i h→∀b∈fp,∃o,h.get? b=some o∧o.cls≠.type "frame")
  (next:∀(env:Env)(A:Around)(W:Wd)(Kp:aJ)(σ:AS)(s:Shared)(i:Nat)(y:MV)(E:Value→Shared→Prop),A.handled=none→W0.le W→InvF c W Kp env σ s→g σ.H→Offs c fp W Kp env→J i s.heap→xs[i]?=some y→
   wpAny c.M A (pyNext (.ref I)) (fun r s1=>∃v,r=some v∧VR c.S W v y∧InvF c W Kp env σ s1∧J (i+1) s1.heap) E s)
  (done:∀(env:Env)(A:Around)(W:Wd)(Kp:aJ)(σ:AS)(s:Shared)(i:Nat)(E:Value→Shared→Prop),A.handled=none→W0.le W→InvF c W Kp env σ s→g σ.H→Offs c fp W Kp env→J i s.heap→xs[i]?=none→
   wpAny c.M A (pyNext (.ref I)) (fun r s1=>r=none∧InvF c W Kp env σ s1) E s)
  (self:∀(A:Around)(i:Nat)(s:Shared)(E:Value→Shared→Prop)(Q:Value→Shared→Prop),J i s.heap→Q (.ref I) s→wpAny c.M A (pyIter (.ref I)) Q E s) :
  Itr c tsc (.Name n pos) xs (aG x) g W0 fp I J where
 frame:=frame
 live:=live
 step:=fun env A W Kp σ s i y E he hE hh le hI gg off Ji hx=>by
  subst hn
  refine qa6 (next env A W Kp σ s i y E hh le hI gg off Ji hx) (fun r s1 zp1=>?_) fun _ _ z=>z
  refine fq zp1 fun v hr rv I1 J1=>?_;refine⟨v,hr,?_⟩;refine wpAny_of_eq (rfl:letOwnedTupleGo (.Name (c.S x) pos) (.ref I) v=pure ()) ?_
  refine qa6 (jgX (σ':=aG x y σ) I1 off (live _ _ J1) fun Kp' I2=>wpAny_assign_Name (jbF hE I2 rv (.inl (by unfold Env.kindOf;rw[he];exact hk)) fun s' z=>z)) (fun _ s' zp2=>by refine Za zp2 fun z1 z2=>?_;exact⟨z1,frame _ _ _ J1 z2⟩) fun _ _ z=>z
 done:=fun env A W Kp σ s i E he hE hh le hI gg off Ji hx=>done env A W Kp σ s i E hh le hI gg off Ji hx
 self:=self
 stH:=fun _ _=>⟨rfl,rfl⟩
 stm:=fun y σ n' h=>by
  show(ar σ.m x y).lookup n'=_
  rw[ae,if_neg]
  intro e;subst e;rw[hn] at h;exact h hk
theorem Itr.ofPair{n1 n2:Str}{p1 p2 pos:Pos}{k:Nat}(x1 x2:Nat)(hn1:c.S x1=n1)(hn2:c.S x2=n2)(hk1:tsc.names.lookup n1=some .local)(hk2:tsc.names.lookup n2=some .local)
  (frame:∀i h h',J i h→(∀b∈fp,∀o,h.get? b=some o→h'.get? b=some o)→J i h')
  (live:∀i h,J i h→∀b∈fp,∃o,h.get? b=some o∧o.cls≠.type "frame")
  (next:∀(env:Env)(A:Around)(W:Wd)(Kp:aJ)(σ:AS)(s:Shared)(i:Nat)(y:MV)(E:Value→Shared→Prop),A.handled=none→W0.le W→InvF c W Kp env σ s→g σ.H→Offs c fp W Kp env→J i s.heap→xs[i]?=some y→
   wpAny c.M A (pyNext (.ref I)) (fun r s1=>∃T,r=some (.ref T)∧wpAny c.M A (letOwnedTupleGo (.Tuple [.Name n1 p1,.Name n2 p2] k pos) (.ref I) (.ref T)) (fun _ s2=>∃v1 v2 y1 y2,y=.tup [y1,y2]∧VR c.S W v1 y1∧VR c.S W v2 y2∧InvF c W Kp env σ s2∧J (i+1) s2.heap∧s2.heap.IsTuple T #[v1,v2]) E s1) E s)
  (done:∀(env:Env)(A:Around)(W:Wd)(Kp:aJ)(σ:AS)(s:Shared)(i:Nat)(E:Value→Shared→Prop),A.handled=none→W0.le W→InvF c W Kp env σ s→g σ.H→Offs c fp W Kp env→J i s.heap→xs[i]?=none→
   wpAny c.M A (pyNext (.ref I)) (fun r s1=>r=none∧InvF c W Kp env σ s1) E s)
  (self:∀(A:Around)(i:Nat)(s:Shared)(E:Value→Shared→Prop)(Q:Value→Shared→Prop),J i s.heap→Q (.ref I) s→wpAny c.M A (pyIter (.ref I)) Q E s) :
  Itr c tsc (.Tuple [.Name n1 p1,.Name n2 p2] k pos) xs (jb0 x1 x2) g W0 fp I J where
 frame:=frame
 live:=live
 step:=fun env A W Kp σ s i y E he hE hh le hI gg off Ji hx=>by
  refine qa6 (next env A W Kp σ s i y E hh le hI gg off Ji hx) (fun r s1 zp3=>?_) fun _ _ z=>z
  refine Zxa zp3 fun T hr z=>?_;refine⟨_,hr,?_⟩;refine qa6 z (fun _ s2 zp4=>?_) fun _ _ z=>z
  refine jbO zp4 fun v1 v2 y1 y2 hy r1 zq1=>?_;obtain⟨r2,I2,J2,hT⟩:=zq1;subst hy
  have nt:NTs c tsc [.Name n1 p1,.Name n2 p2] [x1,x2]:=.cons x1 hn1 (.inl hk1) (.cons x2 hn2 (.inl hk2) .nil)
  refine qa6 (jgX (σ':=jb0 x1 x2 (.tup [y1,y2]) σ) I2 off (live _ _ J2) fun Kp' I3=>?_) (fun _ s' zp5=>by refine Za zp5 fun z1 z2=>?_;exact⟨z1,frame _ _ _ J2 z2⟩) fun _ _ z=>z
  refine Za (nt.each env) fun e1 e2=>?_
  refine wpAny_assign_Tuple hh hT e1 e2 fun h' hx=>?_
  have I4:InvF c W Kp' env σ { s2 with heap:=h' }:=I3.grow (tk:=s2.toks) fun b o e=>hx b o (qa7 (Heap.lt_size e)) e
  exact nt.stores he hE (.cons r1 (.cons r2 .nil)) I4 rfl fun s' z=>z
 done:=fun env A W Kp σ s i E he hE hh le hI gg off Ji hx=>done env A W Kp σ s i E hh le hI gg off Ji hx
 self:=self
 stH:=fun y σ=>by rcases jf4 x1 x2 y σ with e|⟨a,b,e⟩<;>rw[e]<;>exact⟨rfl,rfl⟩
 stm:=fun y σ n' h=>by
  rcases jf4 x1 x2 y σ with e|⟨a,b,e⟩<;>rw[e]
  show(ar (ar σ.m x1 _) x2 _).lookup n'=_
  rw[ae,if_neg,ae,if_neg]
  ·intro e;subst e;rw[hn1] at h;exact h hk1
  ·intro e;subst e;rw[hn2] at h;exact h hk2
end
section
variable {c:Cx}{sc tsc:Scope}{lv:Nat}
theorem Offs.one{W:Wd}{Kp:aJ}{env:Env}{σ:AS}{s:Shared}(I:InvF c W Kp env σ s):Offs c [s.heap.objs.size] W Kp env:=Offs.fresh I fun b h=>by rw[List.mem_singleton.mp h];exact qa9 _
theorem jhl{H:Tag→Option MObj}{v:MV}{xs:List MV}(h:cv H v=some xs):v=.tup xs∨((∀H',cv H' v=bV H' v)∧bV H v=some xs):=by
 cases v with
 |tup ys=>left;unfold cv at h;obtain rfl:=qa1 h;rfl
 |_=>right;exact⟨fun _=>rfl,h⟩
theorem InvF.one{fpA:Addr}{W:Wd}{Kp:aJ}{env:Env}{σ:AS}{s:Shared}{h':Heap}{tk:Nat}(I:InvF c W Kp env σ s)(off:Offs c [fpA] W Kp env)(k:∀b o,b≠fpA→s.heap.get? b=some o→h'.get? b=some o):InvF c W Kp env σ { s with heap:=h',toks:=tk }:=
 I.offChange off fun b o hb e=>k b o (fun e'=>hb (by rw[e'];exact qa4)) e
theorem VRs.getM{S:Nat→Str}{W:Wd}{vs:List Value}{xs:List MV}(h:VRs S W vs xs){i:Nat}(e:xs[i]?=none):vs[i]?=none:=by
 rw[List.getElem?_eq_none_iff] at e ⊢
 rw[h.length];exact e
noncomputable def bq(f:MEx):fC:=fun σ Q=>f σ fun v σ1=>∃xs,cv σ1.H v=some xs∧Q xs (fun H=>cv H v=some xs) σ1
theorem bE{e:Expr}{f:MEx}{n:Str}{pos:Pos}(x:Nat)(hn:c.S x=n)(hk:tsc.names.lookup n=some .local)(h:CE c sc lv e f):CSrc c sc tsc lv (.Name n pos) e (aG x) (bq f):=by
 intro env A W Kp σ s Q E he hE hA hI q
 refine h.use he hE hA hI q fun W1 v σ1 u s1 le1 I1 r1 zp6=>?_
 refine Zxa zp6 fun xs hxs q1=>?_;have off:=Offs.one I1
 rcases jhl hxs with rfl|⟨hsame,hlo⟩
 ·refine bZ r1.of_tup fun a vs nn zq1 zq2=>?_;obtain rfl:=zq1;refine Zaa zq2 fun gF hvs hl=>?_
  have gg:=I1.inv.frz _ _ gF
  have hlt:=Heap.lt_size gg
  refine wpAny_pyIter_tuple (jbh gg) ⟨W1,σ1,xs,_,[s1.heap.objs.size],s1.heap.objs.size,fun i h=>h.IsTupleIter s1.heap.objs.size a i,rfl,le1,I1.grow (tk:=s1.toks) fun b o e=>qb2 _ e,?_,⟨_,Heap.get?_push_size _ rfl,rfl,rfl⟩,off,q1⟩
  refine Itr.ofName x hn hk (fun i h h' hJ k=>hJ.at fun o e=>k _ qa4 o e) (fun i h hJ b hb=>by rw[List.mem_singleton.mp hb];refine dR hJ fun o e hc _=>?_;exact⟨o,e,by rw[hc];decide⟩) ?_ ?_ (fun A i s E Q hJ q=>wpAny_pyIter_tupleiter hJ q)
  ·intro env A W Kp σ s i y E hh le I2 _ off2 hJ hx
   have g2:=I2.inv.frz _ _ (le.F _ _ gF)
   refine Zxa (hvs.get hx) fun w hw rw'=>?_
   refine wpAny_pyNext_tuple_item hJ (jbh g2) (x:=w) (by simpa using hw) fun h' hit hs=>?_
   exact⟨w,rfl,rw'.mono le,I2.one (tk:=s.toks) off2 fun b o hb e=>(hs.2 b hb).trans e,hit⟩
  ·intro env A W Kp σ s i E hh le I2 _ off2 hJ hx
   have g2:=I2.inv.frz _ _ (le.F _ _ gF)
   refine wpAny_pyNext_tuple_end hh hJ (jbh g2) (by simpa using hvs.getM hx) fun h' hs=>?_
   exact⟨rfl,I2.one (tk:=s.toks) off2 fun b o hb e=>hs b o hb e⟩
 ·refine bZ (cI I1.inv r1 hlo) fun a vs nn zq1 zq2=>?_;obtain rfl:=zq1;refine Zaa zq2 fun gg hvs hl=>?_
  refine wpAny_pyIter_list (br gg) ⟨W1,σ1,xs,_,[s1.heap.objs.size],s1.heap.objs.size,fun i h=>h.IsListIter s1.heap.objs.size a i,rfl,le1,I1.grow (tk:=s1.toks) fun b o e=>qb2 _ e,?_,⟨_,Heap.get?_push_size _ rfl,rfl,rfl⟩,off,q1⟩
  refine Itr.ofName x hn hk (fun i h h' hJ k=>hJ.at fun o e=>k _ qa4 o e) (fun i h hJ b hb=>by rw[List.mem_singleton.mp hb];refine dR hJ fun o e hc _=>?_;exact⟨o,e,by rw[hc];decide⟩) ?_ ?_ (fun A i s E Q hJ q=>wpAny_pyIter_listiter hJ q)
  ·intro env A W Kp σ s i y E hh le I2 hg off2 hJ hx
   refine cS (cI I2.inv (r1.mono le) ((hsame _).symm.trans hg)) fun a' vs2 n2 ea g2 hv2 _=>?_
   cases ea
   refine Zxa (hv2.get hx) fun w hw rw'=>?_
   refine wpAny_pyNext_list_item hJ (br g2) (x:=w) (by simpa using hw) fun h' hit hs=>?_
   exact⟨w,rfl,rw',I2.one (tk:=s.toks) off2 fun b o hb e=>(hs.2 b hb).trans e,hit⟩
  ·intro env A W Kp σ s i E hh le I2 hg off2 hJ hx
   refine cS (cI I2.inv (r1.mono le) ((hsame _).symm.trans hg)) fun a' vs2 n2 ea g2 hv2 _=>?_
   cases ea
   refine wpAny_pyNext_list_end hh hJ (br g2) (by simpa using hv2.getM hx) fun h' hs=>?_
   exact⟨rfl,I2.one (tk:=s.toks) off2 fun b o hb e=>hs b o hb e⟩
noncomputable def fv(n:Int):List MV:=(List.range n.toNat).map fun(i:Nat)=>MV.int (i:Int)
noncomputable def eA(f:MEx):fC:=fun σ Q=>f σ fun v σ1=>∃n,v=.rng n∧0≤n∧n≤100000∧Q (fv n) (fun _=>True) σ1
theorem VR.of_rng{S:Nat→Str}{W:Wd}{v:Value}{n:Int}(h:VR S W v (.rng n)):∃a t u w,v=.ref a∧W.F a=some { cls:=.type "range",data:=.fields #[.int 0 t,.int n u,.int 1 w] }:=h.inv
theorem jbi{e:Expr}{f:MEx}{n:Str}{pos:Pos}(x:Nat)(hn:c.S x=n)(hk:tsc.names.lookup n=some .local)(h:CE c sc lv e f):CSrc c sc tsc lv (.Name n pos) e (aG x) (eA f):=by
 intro env A W Kp σ s Q E he hE hA hI q
 refine h.use he hE hA hI q fun W1 v σ1 u s1 le1 I1 r1 zp7=>?_
 refine fq zp7 fun m hv h0 h1 q1=>?_;subst hv
 have off:=Offs.one I1
 refine dh r1.of_rng fun a t u w zq1 gF=>?_;obtain rfl:=zq1
 have gg:=I1.inv.frz _ _ gF
 have hsz:Builtin.Range.rangeSize 0 m 1=m:=jiw (by assumption)
 refine wpAny_pyIter_range (a:=0) (b:=m) (c:=1) gg (small_one (by decide) (by decide) (sm1 h0) (sm2 h1)) ⟨W1,σ1,fv m,_,[s1.heap.objs.size],s1.heap.objs.size,fun i h=>IsRangeIter h s1.heap.objs.size (i:Int) (m - i) 1,rfl,le1,I1.grow (tk:=s1.toks) fun b o e=>qb2 _ e,?_,?_,off,q1⟩
 ·have hget:∀i:Nat,(fv m)[i]?=if i<m.toNat then some (.int (i:Int)) else none:=fun i=>by
   unfold fv
   rw[List.getElem?_map]
   split
   ·rename_i hi;rw[List.getElem?_range hi];rfl
   ·rename_i hi;rw[List.getElem?_eq_none (by simp;exact Int.toNat_le.mp (qb3 hi))];rfl
  refine Itr.ofName x hn hk (fun i h h' hJ k=>k _ qa4 _ hJ) (fun i h hJ b hb=>by rw[List.mem_singleton.mp hb];exact⟨_,hJ,show Value.type "range_iterator"≠Value.type "frame" by decide⟩) ?_ ?_ (fun A i s E Q hJ q=>wpAny_pyIter_rangeiter hJ q)
  ·intro env A W Kp σ s i y E hh le I2 _ off2 hJ hx
   rw[hget] at hx
   split at hx
   ·rename_i hi
    obtain rfl:=qa1 hx
    refine wpAny_pyNext_range_item hJ (Int.sub_pos_of_lt (Int.lt_toNat.mp hi)) fun h' hit hs=>?_
    refine⟨_,rfl,.int _ _,I2.one (tk:=s.toks+1) off2 fun b o hb e=>(hs.2 b hb).trans e,?_⟩
    have e1:((i+1:Nat):Int)=(i:Int)+1:=Int.natCast_succ _
    have e2:m - ((i+1:Nat):Int)=m - (i:Int) - 1:=by rw[Int.natCast_succ];exact(Int.sub_sub _ _ _).symm
    show IsRangeIter h' _ _ _ 1
    rw[e1,e2] at *
    exact hit
   ·exact Xns hx
  ·intro env A W Kp σ s i E hh le I2 _ off2 hJ hx
   rw[hget] at hx
   split at hx
   ·exact Xsn hx
   ·refine wpAny_pyNext_range_end hh hJ (Int.sub_nonpos_of_le (Int.toNat_le.mp (qb3 (by assumption)))) fun h' hs=>?_
    exact⟨rfl,I2.one (tk:=s.toks) off2 fun b o hb e=>hs b o hb e⟩
 ·show IsRangeIter _ _ ((0:Nat):Int) (m - ((0:Nat):Int)) 1
  have e2:m - ((0:Nat):Int)=m:=Int.sub_zero _
  rw[e2]
  rw[hsz]
  exact Heap.get?_push_size _ rfl
end
end
section
section
variable {c:Cx}{sc tsc:Scope}{lv:Nat}
theorem VR.of_view{S:Nat→Str}{W:Wd}{v:Value}{b:Bool}{t:Tag}(h:VR S W v (.view b t)):∃a d,v=.ref a∧W.F a=some { cls:=.type (if b then "dict_items" else "dict_values"),data:=.fields #[.ref d] }∧W.ρ t=some d:=h.inv
theorem InvF.exact{W:Wd}{Kp:aJ}{env:Env}{σ:AS}{s:Shared}{t:Tag}{es:List (Nat×MV)}{eo:Option Obj}{d:Addr}(I:InvF c W Kp env σ s)(e:σ.H t=some (.dict es eo))(hd:W.ρ t=some d) :
  ∃o kvs ep,InvF c W Kp env { σ with H:=ay σ.H t (.dict es (some o)) } s∧s.heap.get? d=some o∧KVR c.S W kvs es∧(∀h:Heap,h.get? d=some o→h.DictAt c.knd d kvs ep):=by
 have X:=I.inv.objs t _ e
 refine jbI X fun a kvs r ow D kv hl hex=>?_
 rw[hd] at r;obtain rfl:=qa1 r
 have D0:=D
 refine jaY D fun o ents ep g h1 h2 h3 h4 h5=>?_
 refine⟨o,kvs,ep,⟨⟨I.inv.base,I.inv.kept,I.inv.frz,I.inv.kpF,fun u ou q=>?_,fun u b q=>?_,I.inv.old,I.inv.kpOwn,I.inv.fOwn,I.inv.os,I.inv.gens,I.inv.emp,I.inv.keepB,jfQ I.inv.tab e (by intro _ _ q;cases q)⟩,I.fm⟩,g,kv,fun h gh=>⟨o,ents,gh,h1,h2,h3,h4,h5⟩⟩
 ·by_cases hu:u=t
  ·subst hu;have q':ay σ.H u (.dict es (some o)) u=some ou:=q
   rw[dB] at q';obtain rfl:=qa1 q'
   exact⟨d,kvs,hd,ow,D0,kv,hl,fun o' q=>by obtain rfl:=qa1 q;exact g⟩
  ·have q':ay σ.H t (.dict es (some o)) u=some ou:=q
   rw[af hu] at q';exact I.inv.objs u ou q'
 ·by_cases hu:u=t
  ·subst hu;left;show(ay σ.H u _ u).isSome=true;rw[dB];rfl
  ·show(ay σ.H t _ u).isSome=true∨_
   rw[af hu];exact I.inv.dom u b q
theorem Inv.at_exact{W:Wd}{Kp:aJ}{H:Tag→Option MObj}{nx:Nat}{s:Shared}{t:Tag}{es:List (Nat×MV)}{o:Obj}{d:Addr}(I:Inv c W Kp H nx s)(e:H t=some (.dict es (some o)))(hd:W.ρ t=some d):s.heap.get? d=some o:=by
 refine jbI (I.objs t _ e) fun a kvs r _ _ _ _ hex=>?_
 rw[hd] at r;obtain rfl:=qa1 r
 exact hex o rfl
theorem KVR.getM{S:Nat→Str}{W:Wd}{kvs:List (Str×Value)}{es:List (Nat×MV)}(h:KVR S W kvs es):∀{i:Nat}{n:Nat}{x:MV},es[i]?=Option.some (n,x)→∃v,kvs[i]?=Option.some (S n,v)∧VR S W v x:=by
 induction h with
 |nil=>intro i n x e;exact Xns e
 |cons h _ ih=>
  intro i n x e
  cases i with
  |zero=>cases e;exact⟨_,rfl,h⟩
  |succ i=>exact ih e
theorem KVR.getN{S:Nat→Str}{W:Wd}{kvs:List (Str×Value)}{es:List (Nat×MV)}(h:KVR S W kvs es){i:Nat}(e:es[i]?=Option.none):kvs[i]?=Option.none:=by
 rw[List.getElem?_eq_none_iff] at e ⊢
 rw[h.length];exact e
noncomputable def jeD(f:MEx):fC:=fun σ Q=>f σ fun v σ1=>∃t es eo,v=.view false t∧σ1.H t=some (.dict es eo)∧∀o,Q (es.map (·.2)) (fun H=>H t=some (.dict es (some o))) { σ1 with H:=ay σ1.H t (.dict es (some o)) }
theorem jgl{e:Expr}{f:MEx}{n:Str}{pos:Pos}(x:Nat)(hn:c.S x=n)(hk:tsc.names.lookup n=some .local)(h:CE c sc lv e f):CSrc c sc tsc lv (.Name n pos) e (aG x) (jeD f):=by
 intro env A W Kp σ s Q E he hE hA hI q
 refine h.use he hE hA hI q fun W1 v σ1 u s1 le1 I1 r1 zp1=>?_
 refine eH zp1 fun t es eo hv ht q1=>?_;subst hv
 refine bt r1.of_view fun a d zq1 zq2=>?_;obtain rfl:=zq1;refine Za zq2 fun gF hd=>?_
 refine cS (I1.exact ht hd) fun o kvs ep I2 go kv hAt=>?_
 have off:=Offs.one I2
 have gg:=I2.inv.frz _ _ gF
 refine wpAny_pyIter_values ⟨_,gg,rfl,rfl⟩ (hAt _ go) ⟨W1,_,es.map (·.2),_,[s1.heap.objs.size],s1.heap.objs.size,fun i h=>h.IsValIter s1.heap.objs.size d i kvs.length ep,rfl,le1,I2.grow (tk:=s1.toks) fun b o e=>qb2 _ e,?_,⟨_,Heap.get?_push_size _ rfl,rfl,rfl⟩,off,q1 o⟩
 refine Itr.ofName x hn hk (fun i h h' hJ k=>hJ.at fun o e=>k _ qa4 o e) (fun i h hJ b hb=>by rw[List.mem_singleton.mp hb];refine dR hJ fun o e hc _=>?_;exact⟨o,e,by rw[hc];decide⟩) ?_ ?_ (fun A i s E Q hJ q=>wpAny_pyIter_valiter hJ q)
 ·intro env A W Kp σ s i y E hh le I3 hg off2 hJ hx
  have g3:=I3.inv.at_exact hg (le.ρ _ _ hd)
  rw[List.getElem?_map] at hx
  cases hq:es[i]? with
  |none=>rw[hq] at hx;exact Xns hx
  |some p=>
   rw[hq] at hx
   obtain rfl:=qa1 hx
   refine Zxa (kv.getM (n:=p.1) (x:=p.2) hq) fun w hw rw'=>?_
   refine wpAny_pyNext_values_item hJ (hAt _ g3) hw fun h' hit hs=>?_
   exact⟨w,rfl,rw'.mono le,I3.one (tk:=s.toks) off2 fun b o hb e=>(hs.2 b hb).trans e,hit⟩
 ·intro env A W Kp σ s i E hh le I3 hg off2 hJ hx
  have g3:=I3.inv.at_exact hg (le.ρ _ _ hd)
  rw[List.getElem?_map] at hx
  have hq:es[i]?=none:=by cases hq:es[i]? with
   |none=>rfl
   |some p=>rw[hq] at hx;exact Xsn hx
  refine wpAny_pyNext_values_end hh hJ (hAt _ g3) (kv.getN hq) fun h' hs=>?_
  exact⟨rfl,I3.one (tk:=s.toks) off2 fun b o hb e=>hs b o hb e⟩
noncomputable def jdf(xs:List MV):List MV:=xs.zipIdx.map fun p=>.tup [.int (p.2:Int),p.1]
noncomputable def jeE(f:MEx):fC:=fun σ Q=>f σ fun v σ1=>∃xs,bV σ1.H v=some xs∧Q (jdf xs) (fun H=>bV H v=some xs) σ1
theorem ji9{nf:Str}{np cp:Pos}{e:Expr}{f:MEx}{n1 n2:Str}{p1 p2 pos:Pos}{k:Nat}(x1 x2:Nat)(hn1:c.S x1=n1)(hn2:c.S x2=n2)(hk1:tsc.names.lookup n1=some .local)(hk2:tsc.names.lookup n2=some .local)
  (hf:CE c sc lv (.Name nf np) (fi (.type "enumerate")))(h:CE c sc lv e f)(hstar:∀rest env,starEach (e::rest) env=(false,eval e env)::starEach rest env:=by intro _ _;rfl) :
  CSrc c sc tsc lv (.Tuple [.Name n1 p1,.Name n2 p2] k pos) (.Call (.Name nf np) [e] [] cp) (jb0 x1 x2) (jeE f):=by
 intro env A W Kp σ s Q E he hE hA hI q
 have hes:CEs c sc lv [e] [f]:=.cons h .nil hstar
 refine wpAny_Call_NameR (hf.use (Q:=fun v σ'=>v=.raw (.type "enumerate")∧σ'=σ) he hE hA hI ⟨rfl,rfl⟩ fun W0 y σ0 v0 s0 le0 I0 r0 zp7=>?_)
 refine Za zp7 fun h1 h2=>?_;subst h1 h2
 rw[r0.of_raw]
 refine callWith_of (P:=fun _=>True) (by rw[(hes.plainArgs cp env).1];rfl) (fun hh _=>jbm rfl hh) ?_
 refine hes.evalArgs (Q:=fun ys σ1=>match ys with|[v]=>∃xs,bV σ1.H v=some xs∧Q (jdf xs) (fun H=>bV H v=some xs) σ1|_=>False) he hE hA I0 q fun W1 us ys σ1 s1 le1 I1 r1 q1=>⟨trivial,?_⟩
 rcases ys with _|⟨v,_|⟨_,_⟩⟩
 ·exact q1.elim
 rotate_left
 ·exact q1.elim
 refine Zxa q1 fun xs hl q1=>?_
 rcases us with _|⟨u,_|⟨_,_⟩⟩
 ·exact absurd r1.length (fun h=>nomatch h)
 rotate_left
 ·exact absurd r1.length (fun h=>nomatch h)
 replace r1:VR c.S W1 u v:=by cases r1 with|cons h _=>exact h
 refine bZ (cI I1.inv r1 hl) fun l vs nn zq1 zq2=>?_;obtain rfl:=zq1;refine Zaa zq2 fun gg hvs hlen=>?_
 have hll:=Heap.lt_size gg
 refine call_enumerate_list (br gg) fun h1 hen hli hsz hk=>?_
 refine wpAny_pyIter_enum hen ?_
 have off:Offs c [s1.heap.objs.size+1,s1.heap.objs.size] W1 Kp env:=Offs.fresh I1 fun b hb=>by
  rcases List.mem_cons.mp hb with e|hb
  ·rw[e];exact Nat.le_succ _
  ·rw[List.mem_singleton.mp hb];exact qa9 _
 refine⟨W1,σ1,jdf xs,_,[s1.heap.objs.size+1,s1.heap.objs.size],s1.heap.objs.size+1,fun i h=>(∃old,IsEnum h (s1.heap.objs.size+1) s1.heap.objs.size i old)∧h.IsListIter s1.heap.objs.size l i,rfl,le0.trans le1,I1.grow (tk:=s1.toks) hk,?_,⟨⟨_,hen⟩,hli⟩,off,q1⟩
 have ne1:s1.heap.objs.size+1≠s1.heap.objs.size:=Nat.succ_ne_self _
 have ne2:l≠s1.heap.objs.size+1:=qa7 (Nat.lt_succ_of_lt hll)
 have ne3:l≠s1.heap.objs.size:=qa7 hll
 generalize s1.heap.objs.size+1=en at *
 generalize s1.heap.objs.size=il at *
 have hget:∀i:Nat,(jdf xs)[i]?=(xs[i]?).map fun x=>.tup [.int (i:Int),x]:=fun i=>by
  unfold jdf
  rw[List.getElem?_map,List.getElem?_zipIdx]
  cases xs[i]?<;>simp
 refine Itr.ofPair x1 x2 hn1 hn2 hk1 hk2 (fun i h h' zp8 k=>by refine Za zp8 fun zq1 hJ2=>?_;obtain⟨old,hJ⟩:=zq1;exact⟨⟨old,k _ qa4 _ hJ⟩,hJ2.at fun o e=>k _ (qa2 _ qa4) o e⟩)
  (fun i h zp9 b hb=>by
   refine Za zp9 fun zq1 hJ2=>?_;obtain⟨old,hJ⟩:=zq1;rcases List.mem_cons.mp hb with e|hb
   ·rw[e];exact⟨_,hJ,show Value.type "enumerate"≠Value.type "frame" by decide⟩
   ·rw[List.mem_singleton.mp hb];refine dR hJ2 fun o e hc _=>?_;exact⟨o,e,by rw[hc];decide⟩) ?_ ?_ (fun A i s E Q zp10 q=>by refine Za zp10 fun zq1 _=>?_;obtain⟨old,hJ⟩:=zq1;exact wpAny_pyIter_enum hJ q)
 ·intro env A W Kp σ s i y E hh le I3 hg off2 zp11 hx;refine Za zp11 fun zq1 hJ2=>?_;obtain⟨old,hJ⟩:=zq1
  refine cS (cI I3.inv (r1.mono le) hg) fun l' vs2 n2 el g2 hv2 _=>?_
  cases el
  rw[hget] at hx
  cases hq:xs[i]? with
  |none=>rw[hq] at hx;exact Xns hx
  |some x=>
   rw[hq] at hx
   obtain rfl:=qa1 hx
   refine Zxa (hv2.get hq) fun w hw rw'=>?_
   have hlt:i<vs2.toArray.size:=by have:=(List.getElem?_eq_some_iff.mp hw).1;simpa using this
   have WT:=WalksT.enumerate (prog:=c.prog) (w:=c.w) hh en il l ne1 ne2 ne3 vs2.toArray
   refine WT.item i s _ _ hlt ⟨⟨old,hJ⟩,hJ2,br g2⟩ fun T vals h' tk hP hTsz hT hM hk'=>⟨T,rfl,?_⟩
   refine bt hP fun t x' hx' zq1=>?_;obtain rfl:=zq1
   have hw':vs2.toArray[i]?=some w:=by simpa using hw
   rw[hw'] at hx';obtain rfl:=qa1 hx'
   have hTn:=WT.apart _ _ _ hM
   refine WT.go _ _ _ _ _ _ _ _ hM fun h2 hst hk2=>?_
   refine⟨_,_,_,_,rfl,.int i t,rw',?_,⟨hst.1,hst.2.1⟩,?_⟩
   ·have I4:=I3.offChange (tk:=tk) off2 hk'
    exact I4.offChange (tk:=tk) off2 hk2
   ·refine Zxa hT fun o go r=>?_;exact⟨o,hk2 _ _ hTn go,r⟩
 ·intro env A W Kp σ s i E hh le I3 hg off2 zp12 hx;refine Za zp12 fun zq1 hJ2=>?_;obtain⟨old,hJ⟩:=zq1
  refine cS (cI I3.inv (r1.mono le) hg) fun l' vs2 n2 el g2 hv2 _=>?_
  cases el
  rw[hget] at hx
  have hq:xs[i]?=none:=by cases hq:xs[i]? with
   |none=>rfl
   |some p=>rw[hq] at hx;exact Xsn hx
  refine wpAny_pyNext_enum_end hh hJ hJ2 (br g2) (by simpa using hv2.getM hq) fun h' hs=>?_
  exact⟨rfl,I3.offChange (tk:=s.toks) off2 fun b o hb e=>hs b o (fun e'=>hb (by rw[e'];exact qa2 _ qa4)) e⟩
end
end
section
section
variable {c:Cx}{sc:Scope}{lv:Nat}{W:Wd}{Kp:aJ}{env:Env}{σ:AS}{s:Shared}
theorem dZ{f:Value}{g:List MV→MEx}(h:∀(env:Env)(A:Around)(W:Wd)(Kp:aJ)(σ:AS)(s:Shared)(Q:MV→AS→Prop)(E:Value→Shared→Prop)(vs:List Value)(xs:List MV),A.handled=none→A.units<cLine→InvF c W Kp env σ s→VRs c.S W vs xs→g xs σ Q→
  wpAny c.M A (call f vs) (PE c W Kp env Q) E s):BOp c lv f g:=
 fun env A W Kp σ s Q E vs xs hE hA I hv q=>h env A W Kp σ s Q E vs xs hA.handled (by have:=hA.units;rw[cLine_is];exact NB this rfl) I hv q
noncomputable def All2i{α β:Type}(R:α→β→Prop)(vs:List α)(xs:List β):Prop:=List.casesOn xs (vs=[]) (fun x ys=>∃v ws,vs=v::ws∧R v x∧All2 R ws ys)
theorem All2.inv{α β:Type}{R:α→β→Prop}{vs:List α}{xs:List β}(h:All2 R vs xs):All2i R vs xs:=by
 cases h with
 |nil=>exact rfl
 |cons h t=>exact⟨_,_,rfl,h,t⟩
theorem VRs.nil'{S:Nat→Str}{W:Wd}{vs:List Value}(h:VRs S W vs []):vs=[]:=All2.inv h
theorem VRs.one{S:Nat→Str}{W:Wd}{vs:List Value}{x:MV}(h:VRs S W vs [x]):∃v,vs=[v]∧VR S W v x:=
 cG (All2.inv h) fun v _ e r t=>⟨v,e.trans (congrArg (v::·) (VRs.nil' t)),r⟩
theorem VRs.two{S:Nat→Str}{W:Wd}{vs:List Value}{x y:MV}(h:VRs S W vs [x,y]):∃v w,vs=[v,w]∧VR S W v x∧VR S W w y:=
 cG (All2.inv h) fun v _ e r t=>Zxa (VRs.one t) fun w e' r'=>⟨v,w,e.trans (congrArg (v::·) e'),r,r'⟩
theorem VRs.three{S:Nat→Str}{W:Wd}{vs:List Value}{x y z:MV}(h:VRs S W vs [x,y,z]):∃v w u,vs=[v,w,u]∧VR S W v x∧VR S W w y∧VR S W u z:=
 cG (All2.inv h) fun v _ e r t=>cG (VRs.two t) fun w u e' r' r''=>⟨v,w,u,e.trans (congrArg (v::·) e'),r,r',r''⟩
theorem jc8{h:Heap}{a:Addr}{vs vs':List Value}{n:Nat}{f:Array Value→Array Value}(g:h.get? a=some (bS vs n))(e:f vs.toArray=vs'.toArray):(h.update a (Obj.mapSeq f)).PlainList a vs'.toArray:=by
 have e1:∃n',Obj.mapSeq f (bS vs n)=bS vs' n':=by
  simp only[Obj.mapSeq,e]
  exact⟨_,rfl⟩
 refine Zx e1 ?_;clear e1;intro n' e1
 exact⟨n',by rw[Heap.get?_update_self _ g (by rw[e1];rfl),e1]⟩
theorem PE.list{Q:MV→AS→Prop}{t:Tag}{a:Addr}{xs ys:List MV}{vs':List Value}{v:Value}{y:MV}{h':Heap}{tk:Nat}(I:InvF c W Kp env σ s)(e:σ.H t=some (.list xs))(ha:W.ρ t=some a)(ow:W.own a=some t)(p:h'.PlainList a vs'.toArray)(sb:Heap.SameBut a s.heap h')(hv:VRs c.S W vs' ys)(hl:ys.length≤100000)
  (r:VR c.S W v y)(q:Q y { σ with H:=ay σ.H t (.list ys) }):PE c W Kp env Q v { s with heap:=h',toks:=tk }:=
 ⟨W,y,_,.refl W,I.changed e ow sb (OR.list ha ow p hv hl) (by refine Zx p ?_;clear p;intro _ e;exact⟨_,e⟩),r,q⟩
noncomputable def popM:List MV→MEx:=fun xs σ Q=>
 (∃t ys y,xs=[.tag t]∧σ.H t=some (.list ys)∧ys[ys.length - 1]?=some y∧Q y { σ with H:=ay σ.H t (.list (ys.eraseIdx (ys.length - 1))) })∨
 (∃t ys i y,xs=[.tag t,.int i]∧σ.H t=some (.list ys)∧0≤i∧ys[i.toNat]?=some y∧Q y { σ with H:=ay σ.H t (.list (ys.eraseIdx i.toNat)) })
theorem jeK:BOp c lv (.builtin "list.pop") popM:=dZ fun env A W Kp σ s Q E vs xs _ _ I hv q=>by
 have er:∀(vs:List Value)(k:Nat),vs.toArray.eraseIdxIfInBounds k=(vs.eraseIdx k).toArray:=fun vs k=>by simp[Array.eraseIdxIfInBounds];intro h;exact(List.eraseIdx_of_length_le h).symm
 rcases q with⟨t,ys,y,rfl,ht,hy,q⟩|⟨t,ys,i,y,rfl,ht,h0,hy,q⟩
 ·refine Zxa hv.one fun v zq1 r=>?_;obtain rfl:=zq1
  refine bZ (jc3 I.inv r ht) fun a us n zq1 zq2=>?_;obtain rfl:=zq1;refine fc zq2 ?_;clear zq2;intro ha ow g hus hl
  refine Zxa (hus.get hy) fun w hw rw'=>?_
  have hlen:=hus.length
  refine call_meets PySem.F.slot_list_pop ⟨_,g,rfl⟩ PySem.F.entry_list_pop (PySem.F.args_list_pop_1 _) (PySem.MeetsSeq.list_pop_last a _ n w (by rw[List.size_toArray,hlen];simpa using hw) (by rw[List.size_toArray,hlen,sizeLine_eq];exact Nk1 0 100000 0 16777216 hl rfl)) ⟨g,?_⟩
  refine PE.list (tk:=s.toks) I ht ha ow (jc8 g (by rw[List.size_toArray,hlen];exact er us _)) (Heap.SameBut.update ..) (hus.eraseIdx _) ?_ rw' q
  have:=List.length_eraseIdx_le ys (ys.length - 1);exact qb1 this hl
 ·refine bt hv.two fun v w' zq1 zq2=>?_;obtain rfl:=zq1;refine Za zq2 ?_;clear zq2;intro r ri
  refine Zx ri.of_int fun tk zq1=>?_;obtain rfl:=zq1
  refine bZ (jc3 I.inv r ht) fun a us n zq1 zq2=>?_;obtain rfl:=zq1;refine fc zq2 ?_;clear zq2;intro ha ow g hus hl
  refine Zxa (hus.get hy) fun w hw rw'=>?_
  have hlen:=hus.length
  have hlt:=(List.getElem?_eq_some_iff.mp hw).1
  refine call_meets PySem.F.slot_list_pop ⟨_,g,rfl⟩ PySem.F.entry_list_pop (PySem.F.args_list_pop_2 _ _) (PySem.MeetsSeq.list_pop_at a _ n i tk i.toNat w (fitsIndex_of h0 (by omega)) (jei h0 (by rw[List.size_toArray];exact hlt)) (by simpa using hw) (by rw[List.size_toArray,hlen,sizeLine_eq];exact Nk1 0 100000 0 16777216 hl rfl)) ⟨g,?_⟩
  refine PE.list (tk:=s.toks) I ht ha ow (jc8 g (er us _)) (Heap.SameBut.update ..) (hus.eraseIdx _) ?_ rw' q
  have:=List.length_eraseIdx_le ys i.toNat;exact qb1 this hl
noncomputable def bg:List MV→MEx:=fun xs σ Q=>∃t ys y,xs=[.tag t,y]∧σ.H t=some (.list ys)∧ys.length<1000∧Q .none { σ with H:=ay σ.H t (.list (ys++[y])) }
theorem bT:BOp c lv (.builtin "list.append") bg:=dZ fun env A W Kp σ s Q E vs xs _ _ I hv zp2=>by
 refine cS zp2 ?_;clear zp2;intro t ys y hx ht hlen q;subst hx
 refine bt hv.two fun v w zq1 zq2=>?_;obtain rfl:=zq1;refine Za zq2 ?_;clear zq2;intro r rw'
 refine bZ (jc3 I.inv r ht) fun a us n zq1 zq2=>?_;obtain rfl:=zq1;refine fc zq2 ?_;clear zq2;intro ha ow g hus hl
 refine wpAny_list_append_plain (je7 g) (fun h' p sb=>?_) (by rw[List.size_toArray,hus.length,sizeLine_eq];exact Nk1 1 1000 0 16777216 hlen rfl)
 have e:us.toArray.push w=(us++[w]).toArray:=by simp
 rw[e] at p
 exact PE.list (tk:=s.toks) I ht ha ow p sb (hus.snoc rw') (by rw[List.length_append];simp;exact Nk1 1 1000 0 99999 hlen rfl) .none q
noncomputable def jeH:List MV→MEx:=fun xs σ Q=>∃t ys y zs,xs=[.tag t,y]∧σ.H t=some (.list ys)∧bV σ.H y=some zs∧ys.length+zs.length≤1000∧Q .none { σ with H:=ay σ.H t (.list (ys++zs)) }
theorem jiq:BOp c lv (.builtin "list.extend") jeH:=dZ fun env A W Kp σ s Q E vs xs _ _ I hv zp3=>by
 refine jbO zp3 ?_;clear zp3;intro t ys y zs hx ht zq1;obtain⟨hy,hlen,q⟩:=zq1;subst hx
 refine bt hv.two fun v w zq1 zq2=>?_;obtain rfl:=zq1;refine Za zq2 ?_;clear zq2;intro r rw'
 refine bZ (jc3 I.inv r ht) fun a us n zq1 zq2=>?_;obtain rfl:=zq1;refine fc zq2 ?_;clear zq2;intro ha ow g hus hl
 refine bZ (cI I.inv rw' hy) fun b ws n2 zq1 zq2=>?_;obtain rfl:=zq1;refine Zaa zq2 ?_;clear zq2;intro g2 hws hl2
 have l1:=hus.length
 have l2:=hws.length
 refine call_meets PySem.F.slot_list_extend ⟨_,g,rfl⟩ PySem.F.entry_list_extend (PySem.F.args_list_extend_2 _ _) (PySem.AutoSeq1.list_extend_list_list_0 a us.toArray n b ws.toArray n2 ?_ (by rw[List.size_toArray,l1,sizeLine_eq];exact Nk1 0 100000 0 16777216 hl rfl) (by rw[List.size_toArray,List.size_toArray,l1,l2,sizeLine_eq];exact Nk1 0 1000 0 16777217 hlen rfl)) ⟨g,g2,?_⟩
 ·intro h
  simp only[Bool.and_eq_true] at h
  have h2:=h.2
  unfold Builtin.List.listTooLong at h2
  rw[List.size_toArray,List.size_toArray,l1,l2,sizeLine_eq] at h2
  simp at h2
  exact Nk3 0 1000 16777217 0 hlen h2 rfl
 ·refine PE.list (tk:=s.toks) I ht ha ow (jc8 (vs':=us++ws) g (by simp)) (Heap.SameBut.update ..) (hus.append hws) (by rw[List.length_append];exact Nk1 0 1000 0 100000 hlen rfl) .none q
noncomputable def dE:List MV→MEx:=fun xs σ Q=>∃x ys,xs=[x]∧bV σ.H x=some ys∧Q (.int ys.length) σ
theorem ef:BOp c lv (.builtin "len") dE:=dZ fun env A W Kp σ s Q E vs xs _ _ I hv zp4=>by
 refine cG zp4 ?_;clear zp4;intro x ys hx hl q;subst hx
 refine Zxa hv.one fun v zq1 r=>?_;obtain rfl:=zq1
 refine bZ (cI I.inv r hl) fun a us n zq1 zq2=>?_;obtain rfl:=zq1;refine Zaa zq2 ?_;clear zq2;intro g hus hlen
 have l1:=hus.length
 refine call_len_list (br g) (by rw[List.size_toArray,l1];exact NJl hlen rfl) ?_
 rw[List.size_toArray,l1]
 exact PE.here (I.tok _) (.int _ _) q
theorem PE.frz{Q:MV→AS→Prop}{o:Obj}{y:MV}{tk:Nat}(I:InvF c W Kp env σ s)(hy:VR c.S (W.freeze s.heap.objs.size o) (.ref s.heap.objs.size) y)(hf:o.isFreed=false)(q:Q y σ):PE c W Kp env Q (.ref s.heap.objs.size) { s with heap:=s.heap.push o,toks:=tk }:=by
 have le:W.le (W.freeze s.heap.objs.size o):=Wd.le_freeze (I.inv.fresh_F (qa9 _))
 have off:=Offs.one I
 have I1:=I.grow (tk:=tk) (h':=s.heap.push o) fun b ob e=>qb2 _ e
 refine Za (off _ qa4) fun oa hfa=>?_
 refine⟨W.freeze s.heap.objs.size o,y,σ,le,⟨I1.inv.adoptF oa (Heap.get?_push_size _ hf),I1.fm.add le fun b hb=>⟨(I.fm.out b hb).1,?_⟩⟩,hy,q⟩
 show(if b=_ then _ else _)=_
 rw[if_neg];exact(I.fm.out b hb).2.1
 intro e;subst e;exact hfa hb
noncomputable def dW:List MV→MEx:=fun xs σ Q=>∃n,xs=[.int n]∧Q (.rng n) σ
theorem jaK:BOp c lv (.type "range") dW:=dZ fun env A W Kp σ s Q E vs xs _ _ I hv zp5=>by
 refine Zxa zp5 ?_;clear zp5;intro n hx q;subst hx
 refine Zxa hv.one fun v zq1 r=>?_;obtain rfl:=zq1
 refine Zx r.of_int fun tk zq1=>?_;obtain rfl:=zq1
 refine call_range_1 (PE.frz (tk:=s.toks+1+1) I (.rng (t:=s.toks) (u:=tk) (v:=s.toks+1) ?_) rfl q)
 show(if _=_ then _ else _)=_
 rw[if_pos rfl]
theorem VRs.of_list{S:Nat→Str}{W:Wd}:∀{vs:List Value}{xs:List MV},vs.length=xs.length→(∀(i:Nat)(v:Value)(x:MV),vs[i]?=some v→xs[i]?=some x→VR S W v x)→VRs S W vs xs
 |[],[],_,_=>.nil
 |v::vs,x::xs,hl,h=>.cons (h 0 v x rfl rfl) (VRs.of_list (by simpa using hl) fun i v x a b=>h (i+1) v x (by simpa using a) (by simpa using b))
 |[],_::_,hl,_=>by simp at hl
 |_::_,[],hl,_=>by simp at hl
theorem jjt(m:Int)(i:Nat):(fv m)[i]?=if i<m.toNat then some (.int (i:Int)) else none:=by
 unfold fv
 rw[List.getElem?_map]
 split
 ·rename_i hi;rw[List.getElem?_range hi];rfl
 ·rename_i hi;rw[List.getElem?_eq_none (by simp;exact Int.toNat_le.mp (qb3 hi))];rfl
theorem jhm(m:Int):(fv m).length=m.toNat:=by unfold fv;simp
noncomputable def jcq:List MV→MEx:=fun xs σ Q=>∃x,xs=[x]∧((∃ys,cv σ.H x=some ys∧newL ys σ Q)∨(∃n,x=.rng n∧0≤n∧n≤100000∧newL (fv n) σ Q)∨(∃t es eo,x=.view false t∧σ.H t=some (.dict es eo)∧newL (es.map (·.2)) σ Q))
theorem jco:BOp c lv (.type "list") jcq:=dZ fun env A W Kp σ s Q E vs xs hh _ I hv zp6=>by
 refine Zxa zp6 ?_;clear zp6;intro x hx q;subst hx
 refine Zxa hv.one fun v zq1 r=>?_;obtain rfl:=zq1
 rcases q with⟨ys,hy,q⟩|⟨n,rfl,h0,h1,q⟩|⟨t,es,eo,rfl,ht,q⟩
 ·refine bZ (jfl I.inv r hy) fun a us n zq1 zq2=>?_;obtain rfl:=zq1;refine Zaa zq2 ?_;clear zq2;intro g hus hlen
  have hz:us.toArray.size≤sizeLine:=by rw[List.size_toArray,hus.length,sizeLine_eq];exact Nk1 0 100000 0 16777216 hlen rfl
  rcases g with g|g
  ·exact call_list_seq a (.inl rfl) g rfl rfl (fun h' c' k gg=>PE.newL (tk:=s.toks) (n:=c') I hus q (qa9 _) gg fun b o e=>k b o e) hz
  ·exact call_list_seq a (.inr rfl) g rfl rfl (fun h' c' k gg=>PE.newL (tk:=s.toks) (n:=c') I hus q (qa9 _) gg fun b o e=>k b o e) hz
 ·refine dh r.of_rng fun a t u w zq1 gF=>?_;obtain rfl:=zq1
  have gg:=I.inv.frz _ _ gF
  have hsz:Builtin.Range.rangeSize 0 n 1=n:=jiw (by assumption)
  refine call_list_range (n:=n.toNat) hh (a:=0) (b:=n) (c:=1) gg (small_one (by decide) (by decide) (sm1 h0) (sm2 h1)) (by rw[hsz];exact(Int.toNat_of_nonneg h0).symm) (qb1 (Int.toNat_le.mpr h1) (by decide)) fun h' tk acc c' k g hit=>?_
  refine PE.newL (vs:=acc.toList) (n:=c') (tk:=tk) I (VRs.of_list ?_ fun i v x hv hx=>?_) q (qa9 _) (by rw[g]) k
  ·rw[jhm];have:=hit.1;simpa using this
  ·rw[jjt] at hx
   split at hx
   ·obtain rfl:=qa1 hx
    refine Zx (hit.2 i v (by simpa using hv)) fun tk e=>?_
    have e0:(0:Int)+(i:Int)*1=(i:Int):=(Int.zero_add _).trans (Int.mul_one _)
    rw[e,e0];exact .int _ _
   ·exact Xns hx
 ·refine bt r.of_view fun a d zq1 zq2=>?_;obtain rfl:=zq1;refine Za zq2 ?_;clear zq2;intro gF hd
  refine cS (I.exact ht hd) fun o kvs ep I2 go kv hAt=>?_
  have gg:=I.inv.frz _ _ gF
  have hl:=(I.inv.objs t _ ht)
  refine jbI hl ?_;clear hl;intro _ kvs' _ _ _ kv' hlen _
  refine PySem.W.kdl_call (PySem.W.kdl_values (knd:=c.knd) (kvs:=kvs) (ep:=ep)) hh ⟨⟨_,gg,rfl,rfl⟩,hAt _ go⟩ (by rw[kv.length,sizeLine_eq];exact Nk1 0 100000 0 16777216 hlen rfl) fun h' tk acc c' k g hit=>?_
  refine PE.newL (vs:=acc.toList) (n:=c') (tk:=tk) I (VRs.of_list ?_ fun i v x hv hx=>?_) q (qa9 _) (by rw[g]) k
  ·have:=hit.1;rw[List.length_map,←kv.length];simpa using this
  ·refine Zx (hit.2 i v (by simpa using hv)) fun k0 e=>?_
   rw[List.getElem?_map] at hx
   cases hq:es[i]? with
   |none=>rw[hq] at hx;exact Xns hx
   |some p=>
    rw[hq] at hx
    obtain rfl:=qa1 hx
    refine Zxa (kv.getM (n:=p.1) (x:=p.2) hq) fun w hw rw'=>?_
    rw[hw] at e;cases e
    exact rw'
end
end
section
section
variable {c:Cx}{sc:Scope}{lv:Nat}{W:Wd}{Kp:aJ}{env:Env}{σ:AS}{s:Shared}
noncomputable def c8(ns:List Nat):List MV:=ns.map .str
noncomputable def jdq:List MV→MEx:=fun xs σ Q=>∃v n ns i,xs=[v,.str n]∧bV σ.H v=some (c8 ns)∧ns[i]?=some n∧n∉ns.take i∧Q (.int (i:Int)) σ
theorem jjb:BOp c lv (.builtin "list.index") jdq:=dZ fun env A W Kp σ s Q E vs xs _ _ I hv zp1=>by
 refine jbO zp1 ?_;clear zp1;intro v n ns i hx hl zq1;obtain⟨hi,hno,q⟩:=zq1;subst hx
 refine bt hv.two fun u w zq1 zq2=>?_;obtain rfl:=zq1;refine Za zq2 ?_;clear zq2;intro r rw'
 refine Zx rw'.of_str fun tk zq1=>?_;obtain rfl:=zq1
 refine bZ (cI I.inv r hl) fun a us nn zq1 zq2=>?_;obtain rfl:=zq1;refine Zaa zq2 ?_;clear zq2;intro g hus hlen
 have hll:=hus.length
 have hmem:∀y∈us.toArray,∃m t,y=.str (c.S m) t:=fun y hy=>by
  obtain⟨j,hj,e⟩:=List.getElem_of_mem (List.mem_toArray.mp hy)
  refine Zxa (hus.getV (i:=j) (v:=y) (by rw[List.getElem?_eq_getElem hj,e])) fun x ex rx=>?_
  unfold c8 at ex
  rw[List.getElem?_map] at ex
  cases hq:ns[j]? with
  |none=>rw[hq] at ex;exact Xns ex
  |some m=>rw[hq] at ex;obtain rfl:=qa1 ex;refine Zx rx.of_str fun t e=>?_;exact⟨m,t,e⟩
 have hat:∀j (hj:j<us.length),∃m t,ns[j]?=some m∧us[j]=.str (c.S m) t:=fun j hj=>by
  refine Zxa (hus.getV (i:=j) (v:=us[j]) (by rw[List.getElem?_eq_getElem hj])) fun x ex rx=>?_
  unfold c8 at ex
  rw[List.getElem?_map] at ex
  cases hq:ns[j]? with
  |none=>rw[hq] at ex;exact Xns ex
  |some m=>rw[hq] at ex;obtain rfl:=qa1 ex;refine Zx rx.of_str fun t e=>?_;exact⟨m,t,rfl,e⟩
 have hilt:i<us.length:=by rw[hll];unfold c8;rw[List.length_map];exact(List.getElem?_eq_some_iff.mp hi).1
 let e:Value→Bool:=fun y=>match y with|.str z _=>z == c.S n|_=>false
 refine call_meets PySem.F.slot_list_index ⟨_,g,rfl⟩ PySem.F.entry_list_index (PySem.F.args_list_index_2 _ _) (PySem.SeqAt.list_indexAt a us.toArray nn none #[] (.str (c.S n) tk) e i (by rw[List.size_toArray];exact hilt) (by rw[hll] at hilt;omega) ?_ ?_) ⟨g,fun y hy=>?_,PE.here (I.tok _) (.int _ _) q⟩
 ·refine bt (hat i hilt) fun m t hm e1=>?_
  rw[hi] at hm;obtain rfl:=qa1 hm
  simp only[List.getElem_toArray,e1,e,beq_self_eq_true]
 ·intro m hm hmi
  refine bt (hat m (by rw[List.size_toArray] at hm;exact hm)) fun k t hk e1=>?_
  simp only[List.getElem_toArray,e1,e]
  rw[jfi]
  refine beq_eq_false_iff_ne.mpr fun e=>hno ?_
  subst e
  rw[List.mem_take_iff_getElem]
  refine Zx (List.getElem?_eq_some_iff.mp hk) fun h1 h2=>?_
  exact⟨m,(Nat.lt_min.mpr ⟨hmi,by assumption⟩),h2⟩
 ·refine Zxx (hmem y hy) fun m t zq1=>?_;obtain rfl:=zq1
  show SeqAt.EqAt A.in1 s _ _ (c.S m == c.S n)
  exact SeqAt.EqAt.str_str _ _ _ _
noncomputable def getM:List MV→MEx:=fun xs σ Q=>∃t n d es eo,xs=[.tag t,.str n,d]∧σ.H t=some (.dict es eo)∧Q ((es.lookup n).getD d) σ
theorem jhR:BOp c lv (.builtin "dict.get") getM:=dZ fun env A W Kp σ s Q E vs xs _ _ I hv zp2=>by
 refine Zxx zp2 ?_;clear zp2;intro t n zq1;obtain⟨d,es,eo,hx,ht,q⟩:=zq1;subst hx
 refine bZ hv.three fun u w w2 zq1 zq2=>?_;obtain rfl:=zq1;refine Zaa zq2 ?_;clear zq2;intro r rk rd
 refine Zx rk.of_str fun tk zq1=>?_;obtain rfl:=zq1
 refine bt (jbN I.inv r ht) fun a kvs zq1 zq2=>?_;obtain rfl:=zq1;refine dD zq2 ?_;clear zq2;intro ha ow hd kv hl hsm
 refine call_meetsIn PySem.F.slot_dict_get hd.typeIs PySem.F.entry_dict_get (PySem.F.args_dict_get_3 _ _ _) (meets_dict_get_default c.knd a (eE c n tk) hsm w2) ⟨_,hd.mapOf,?_⟩
 refine PE.here (mv:=(es.lookup n).getD d) (I.tok _) ?_ q
 rcases kv.at n with⟨h1,h2⟩|⟨x,v,h1,h2,h3⟩
 ·rw[h1,h2];exact rd
 ·rw[h1,h2];exact h3
noncomputable def jgu(b:Bool):List MV→MEx:=fun xs σ Q=>∃t es eo,xs=[.tag t]∧σ.H t=some (.dict es eo)∧Q (.view b t) σ
theorem jdV:BOp c lv (.builtin "dict.values") (jgu false):=dZ fun env A W Kp σ s Q E vs xs _ _ I hv zp3=>by
 refine eH zp3 ?_;clear zp3;intro t es eo hx ht q;subst hx
 refine Zxa hv.one fun u zq1 r=>?_;obtain rfl:=zq1
 refine bt (jbN I.inv r ht) fun a kvs zq1 zq2=>?_;obtain rfl:=zq1;refine dD zq2 ?_;clear zq2;intro ha ow hd kv hl hsm
 refine call_meetsIn PySem.F.slot_dict_values hd.typeIs PySem.F.entry_dict_values (PySem.F.args_dict_values_1 _) (meets_dict_values c.knd a hsm) ⟨⟨kvs,hd⟩,PE.frz (tk:=s.toks) I (.view (d:=a) ?_ ha) rfl q⟩
 show(if _=_ then _ else _)=_
 rw[if_pos rfl];rfl
noncomputable def sDel(o i:MEx):MS:=fun σ Q=>o σ fun u σ1=>i σ1 fun w σ2=>∃t n es eo,u=.tag t∧w=.str n∧σ2.H t=some (.dict es eo)∧(es.lookup n).isSome=true∧Q .next { σ2 with H:=ay σ2.H t (.dict (adel es n)) }
theorem jiJ{eo ei:Expr}{np pos:Pos}{o i:MEx}(ho:CE c sc lv eo o)(hi:CE c sc lv ei i):CS c sc lv (.Delete [.Subscript eo ei np] pos) (sDel o i):=by
 intro env A W Kp σ s Q E he hE hA I q
 refine wpAny_Delete (wpAny_deleteEach_cons (wpAny_delete_Subscript (ho.use he hE hA I q fun W1 z σ1 u s1 le1 I1 r1 q1=>?_)))
 refine hi.use he hE hA I1 q1 fun W2 z' σ2 u' s2 le2 I2 r2 zp5=>?_
 refine jbO zp5 ?_;clear zp5;intro t n es eo' hu hw zq1;obtain⟨ht,hs,q2⟩:=zq1;subst hu hw
 refine Zx r2.of_str fun tk zq1=>?_;obtain rfl:=zq1
 refine bt (jbN I2.inv (r1.mono le2) ht) fun a kvs zq1 zq2=>?_;obtain rfl:=zq1;refine dD zq2 ?_;clear zq2;intro ha ow hd kv hl hsm
 have hsome:(valueAt kvs (c.S n)).isSome=true:=by
  rcases kv.at n with⟨h1,_⟩|⟨x,v,_,h2,_⟩
  ·rw[h1] at hs;exact Xft hs
  ·rw[h2];rfl
 refine wpAny_delItem_slot hd.typeIs (by decide +kernel) PySem.F.slot_dict_delitem (call_meetsIn PySem.F.slot_dict_delitem hd.typeIs PySem.F.entry_dict_delitem (PySem.F.args_dict_delitem_2 _ _) (meets_dict_delitem_pairs c.knd a (eE c n tk)) ⟨kvs,hd,by rw[kv.length];exact jdw hl,hsome,fun h' hd' sb=>?_⟩)
 refine wpAny_deleteEach_nil ?_
 have hlen:(adel es n).length≤100000:=qb1 (List.length_filter_le ..) hl
 exact⟨W2,_,_,le1.trans le2,I2.changed (tk:=s2.toks+1) (o':=.dict (adel es n)) ht ow sb ⟨a,_,ha,ow,hd',kv.del n,hlen,fun _ q=>nomatch q⟩ (by refine bZ hd' ?_;clear hd';intro _ _ _ e _;exact⟨_,e⟩),.next,q2⟩
noncomputable def jgD:List MV→MEx:=fun xs σ Q=>∃n,xs=[.str n,.raw (.type "str")]∧Q (.bool true) σ
noncomputable def jgE(C:Nat):List MV→MEx:=fun xs σ Q=>∃t es,xs=[.tag t,.raw (.ref (fA C))]∧σ.H t=some (.inst C es)∧Q (.bool true) σ
theorem jgm:BOp c lv (.builtin "isinstance") jgD:=dZ fun env A W Kp σ s Q E vs xs _ _ I hv zp7=>by
 refine Zxa zp7 ?_;clear zp7;intro n hx q;subst hx
 refine bt hv.two fun u w zq1 zq2=>?_;obtain rfl:=zq1;refine Za zq2 ?_;clear zq2;intro r rk
 refine Zx r.of_str fun tk zq1=>?_;obtain rfl:=zq1
 rw[rk.of_raw]
 exact call_isinstance (isinstance_true (Tx:="str") (by rw[typeOf];rfl) (by rw[isSubtype_type];kernel_rfl)) ⟨rfl,PE.here I (.bool true) q⟩
theorem jja(C:Nat):BOp c lv (.builtin "isinstance") (jgE C):=dZ fun env A W Kp σ s Q E vs xs _ _ I hv zp8=>by
 refine cG zp8 ?_;clear zp8;intro t es hx ht q;subst hx
 refine bt hv.two fun u w zq1 zq2=>?_;obtain rfl:=zq1;refine Za zq2 ?_;clear zq2;intro r rk
 rw[rk.of_raw]
 refine dh (jci I.inv r ht) fun a d kvs od zq1 zq2=>?_;obtain rfl:=zq1;refine Zaa zq2 ?_;clear zq2;intro ha ho X
 have hM:∀(prog:Program)(w:World)(A:Around)(R:Result→Shared→Prop)(s':Shared),s'.heap.get? a=some (instObj (c.cls C) d)→R (.ok (.ret (.bool true))) s'→wpAny (model prog w) A.in1 (Builtin.«isinstance» ⟨[.ref a,.ref (c.cls C)],[]⟩)
   (fun fin s'=>match fin with|.done f=>R (.ok f) s'|.again c'=>c'.quiet=true∧codeAny (model prog w) A c' R s') (fun e s'=>R (.error e) s') s':=fun prog w A R s' g hR=>by
  refine isinstance_outer ?_ (by intro e;cases e)
  refine qa5 (m:=typeOf (.ref a)) ?_
  simp only[typeOf]
  refine qa5 (wpAny_load g (qa8 ?_))
  rw[if_pos (by simp)]
  exact qa5 (wpAny_rule (qa8 hR))
 refine call_function_meets PySem.F.kind_isinstance PySem.F.plain_isinstance PySem.F.entry_isinstance (PySem.F.args_isinstance_2 _ _) (S:=fun A R s'=>s'.heap.get? a=some (instObj (c.cls C) d)∧R (.ok (.ret (.bool true))) s') (fun prog w A R s' hs=>hM prog w A R s' hs.1 hs.2) ⟨X.at_,PE.here I (.bool true) q⟩
end
end
section
section
variable {c:Cx}{sc:Scope}{lv:Nat}{W:Wd}{Kp:aJ}{env:Env}{σ:AS}{s:Shared}
noncomputable def fAdd(i j:Int):Option Int:=some (i+j)
noncomputable def dH(i j:Int):Option Int:=if j=0 then none else some (i.fmod j)
noncomputable def dQ(i j:Int):Option Int:=if 0<j∧j<1000000000 then some (i.fdiv j) else none
noncomputable def fPow(i j:Int):Option Int:=if 0≤j∧j≤1000∧0≤i∧i<1000 then some (i ^ j.toNat) else none
theorem jgL{e1 e2:Expr}{pos:Pos}{a b:MEx}(h1:CE c sc lv e1 a)(h2:CE c sc lv e2 b):CE c sc lv (.BinOp e1 .Add e2 pos) (bK fAdd a b):=
 jfv h1 h2 fun hr _ q=>by obtain rfl:=qa1 hr;exact PyProof.Rows.add_int (q _ _ rfl)
theorem eR{e1 e2:Expr}{pos:Pos}{a b:MEx}(h1:CE c sc lv e1 a)(h2:CE c sc lv e2 b):CE c sc lv (.BinOp e1 .Mod e2 pos) (bK dH a b):=
 jfv h1 h2 fun hr _ q=>by unfold dH at hr;split at hr<;>cases hr;exact PyProof.Rows.mod_int (by assumption) (q _ _ rfl)
theorem eL{e1 e2:Expr}{pos:Pos}{a b:MEx}(h1:CE c sc lv e1 a)(h2:CE c sc lv e2 b):CE c sc lv (.BinOp e1 .FloorDiv e2 pos) (bK dQ a b):=
 jfv h1 h2 fun hr _ q=>by
  unfold dQ at hr;split at hr<;>cases hr
  rename_i hj
  exact PyProof.Rows.floordiv_int (by omega) (q _ _ rfl) (Or.inl (PyProof.noPylong_small (by omega)))
theorem jgI{e1 e2:Expr}{pos:Pos}{a b:MEx}(h1:CE c sc lv e1 a)(h2:CE c sc lv e2 b):CE c sc lv (.BinOp e1 .Pow e2 pos) (bK fPow a b):=
 jfv h1 h2 fun hr _ q=>by
  unfold fPow at hr;split at hr<;>cases hr
  rename_i hj
  exact PyProof.Rows.pow_int_small hj.1 (by omega) (by omega) (q _ _ rfl)
noncomputable def mNeg(f:MEx):MEx:=fun σ Q=>f σ fun v σ1=>∃i,v=.int i∧Q (.int (-i)) σ1
theorem jgJ{e:Expr}{f:MEx}{pos:Pos}(h:CE c sc lv e f):CE c sc lv (.UnaryOp .USub e pos) (mNeg f):=by
 intro env A W Kp σ s Q E he hE hA I q
 refine wpAny_UnaryOp (h.use he hE hA I q fun W1 x σ1 v s1 le1 I1 r1 zp1=>?_)
 refine Zxa zp1 fun i hi q1=>?_;subst hi
 refine Zx r1.of_int fun tk zq1=>?_;obtain rfl:=zq1
 exact PyProof.Rows.neg_int ⟨W1,_,σ1,le1,I1.tok _,.int _ _,q1⟩
noncomputable def mCat(a b:MEx):MEx:=fun σ Q=>a σ fun x σ1=>b σ1 fun y σ2=>∃xs ys,bV σ2.H x=some xs∧bV σ2.H y=some ys∧newL (xs++ys) σ2 Q
theorem jgK{e1 e2:Expr}{pos:Pos}{a b:MEx}(h1:CE c sc lv e1 a)(h2:CE c sc lv e2 b):CE c sc lv (.BinOp e1 .Add e2 pos) (mCat a b):=
 CE.two h1 h2 (fun _ _ _ _ _ h=>wpAny_BinOp h) fun env A W Kp σ s Q E u v x y he hE hA I hu hv zp2=>by
  refine cG zp2 fun xs ys hx hy q=>?_;refine bZ (cI I.inv hu hx) fun a1 vs n1 zq1 zq2=>?_;obtain rfl:=zq1;refine Zaa zq2 fun g1 r1 l1=>?_
  refine bZ (cI I.inv hv hy) fun a2 ws n2 zq1 zq2=>?_;obtain rfl:=zq1;refine Zaa zq2 fun g2 r2 l2=>?_
  have hq:=q.1
  refine concat_meets (br g1).typeIs (br g2).typeIs noFill_list_add seq_list_add PySem.F.slot_list_add PySem.F.entry_list_add (PySem.F.args_list_add_2 _ _) (list_addW a1 a2 vs.toArray ws.toArray n1 n2 none none #[] #[] ?_) ⟨g1,g2,?_⟩
  ·rw[List.size_toArray,List.size_toArray,r1.length,r2.length];rw[List.length_append] at hq;rw[sizeLine_eq];exact Nk1 0 100000 0 16777216 hq rfl
  ·refine PE.newL (vs:=vs++ws) (n:=0) (tk:=s.toks) I (r1.append r2) q (qa9 _) ?_ fun b o e=>qb2 _ e
   have:=Heap.get?_push_size s.heap (o:={ cls:=Value.type "list",data:=Data.seq (vs.toArray++ws.toArray) }) rfl
   rw[this];simp
noncomputable def jcH:Option MEx→AS→(Option Int→AS→Prop)→Prop
 |none,σ,Q=>Q none σ
 |some f,σ,Q=>f σ fun v σ1=>∃i,v=.int i∧Q (some i) σ1
inductive CP(c:Cx)(sc:Scope)(lv:Nat):Option Expr→Option MEx→Prop
 |none:CP c sc lv none none
 |some {e:Expr}{f:MEx}(h:CE c sc lv e f):CP c sc lv (some e) (some f)
noncomputable def jby(xs:List MV):Option Int→Option Int→Option Int→Option (List MV)
 |none,none,none=>some xs
 |some a,none,none=>if 0≤a then some (xs.drop a.toNat) else none
 |none,some b,none=>if 0≤b then some (xs.take b.toNat) else none
 |some a,some b,none=>if 0≤a∧a≤b then some ((xs.drop a.toNat).take (b.toNat - a.toNat)) else none
 |none,none,some k=>if k = -1 then some xs.reverse else none
 |some _,none,some _=>none
 |none,some _,some _=>none
 |some _,some _,some _=>none
noncomputable def c6(a:MEx)(lo hi st:Option MEx):MEx:=fun σ Q=>a σ fun v σ1=>jcH lo σ1 fun l σ2=>jcH hi σ2 fun h σ3=>jcH st σ3 fun k σ4=>∃xs ys,bV σ4.H v=some xs∧jby xs l h k=some ys∧newL ys σ4 Q
theorem CP.use{x:Option Expr}{f:Option MEx}(h:CP c sc lv x f){env:Env}{A:Around}{W:Wd}{Kp:aJ}{σ:AS}{s:Shared}{Q:Option Int→AS→Prop}{E:Value→Shared→Prop}{R:Value→Shared→Prop}
  (he:env.scope=sc)(hE:EOK env)(hA:AOK c lv A Kp env)(I:InvF c W Kp env σ s)(q:jcH f σ Q)(k:∀W' o σ' v s',W.le W'→InvF c W' Kp env σ' s'→IsPart v o→Q o σ'→R v s'):wpAny c.M A (evalPart x env) R E s:=by
 cases h with
 |none=>exact qa8 (k W Option.none σ .none s (.refl W) I .none q)
 |some h=>
  refine h.use he hE hA I q fun W1 y σ1 v s1 le1 I1 r1 zp3=>?_
  refine Zxa zp3 fun i hi q1=>?_;subst hi
  refine Zx r1.of_int fun tk zq1=>?_;obtain rfl:=zq1
  exact k W1 (Option.some i) σ1 _ s1 le1 I1 (.int i tk) q1
theorem slq{n m l i:Nat}(h1:i<m - n)(h2:¬ i<min m l - n):l≤n+i:=qb3 fun q=>h2 (Nat.lt_sub_of_add_lt (Nat.lt_min.mpr ⟨Nat.add_lt_of_lt_sub h1,by rw[Nat.add_comm];exact q⟩))
theorem slr{n m l i:Nat}(h:¬ i<m - n):¬ i<min m l - n:=fun q=>h (Nat.lt_of_lt_of_le q (Nat.sub_le_sub_right (Nat.min_le_left _ _) _))
theorem jjp{S:Nat→Str}{W:Wd}{vs:List Value}{xs ys:List MV}{lo hi st:Option Int}(h:VRs S W vs xs)(e:jby xs lo hi st=some ys):∃ws,slicePick vs.toArray lo hi st=ws.toArray∧VRs S W ws ys∧st≠some 0:=by
 cases lo<;>cases hi<;>cases st<;>first|exact Xns e|skip
 ·obtain rfl:=qa1 e;exact⟨vs,slicePick_all _,h,by simp⟩
 ·rename_i k
  dsimp only[jby] at e;split at e<;>cases e
  rename_i hk
  subst hk
  exact⟨vs.reverse,by rw[PySem.W.krv_pick],h.rev,by simp⟩
 ·rename_i b
  dsimp only[jby] at e;split at e<;>cases e
  refine Zx (Int.eq_ofNat_of_zero_le ‹0≤b›) fun n zq1=>?_;obtain rfl:=zq1
  exact⟨vs.take n,slicePick_upto' _ n,h.take _,by simp⟩
 ·rename_i a
  dsimp only[jby] at e;split at e<;>cases e
  refine Zx (Int.eq_ofNat_of_zero_le ‹0≤a›) fun n zq1=>?_;obtain rfl:=zq1
  exact⟨vs.drop n,slicePick_from' _ n,h.drop _,by simp⟩
 ·rename_i a b
  dsimp only[jby] at e;split at e<;>cases e
  rename_i hab
  refine Zx (Int.eq_ofNat_of_zero_le hab.1) fun n zq1=>?_;obtain rfl:=zq1
  refine Zx (Int.eq_ofNat_of_zero_le (Int.le_trans hab.1 hab.2)) fun m zq1=>?_;obtain rfl:=zq1
  refine⟨(vs.drop n).take (m - n),?_,(h.drop _).take _,by simp⟩
  rw[slicePick_plain]
  simp only[Option.elim_some,clipAt_nat,List.size_toArray]
  congr 1
  apply List.ext_getElem?
  intro i
  rw[List.getElem?_take,List.getElem?_take,List.getElem?_drop,List.getElem?_drop]
  by_cases hn:n≤vs.length
  ·rw[Nat.min_eq_left hn]
   by_cases h1:i<m - n
   ·rw[if_pos h1]
    split
    ·rfl
    ·rw[List.getElem?_eq_none];exact slq h1 (by assumption)
   ·rw[if_neg h1,if_neg (slr h1)]
  ·have h1:vs[n+i]?=none:=List.getElem?_eq_none (qb1 (Nat.le_of_not_le hn) (Nat.le_add_right _ _))
   have h2:vs[min n vs.length+i]?=none:=List.getElem?_eq_none (by rw[Nat.min_eq_right (Nat.le_of_not_le hn)];exact Nat.le_add_right _ _)
   rw[h1,h2];simp
theorem dL{e:Expr}{lo hi st:Option Expr}{p pos:Pos}{a:MEx}{l h k:Option MEx}(h0:CE c sc lv e a)(h1:CP c sc lv lo l)(h2:CP c sc lv hi h)(h3:CP c sc lv st k)
  (hs:∃ops:Value→Value→List Value,∀o i,subscripted (.Slice lo hi st p) false o i=operate (ops o i) (getItem o i)):CE c sc lv (.Subscript e (.Slice lo hi st p) pos) (c6 a l h k):=by
 intro env A W Kp σ s Q E he hE hA I q
 refine Zx hs fun ops hs=>?_
 refine Subscript_ (h0.use he hE hA I q fun W1 v σ1 u s1 le1 I1 r1 q1=>?_)
 refine wpAny_Slice (h1.use he hE hA I1 q1 fun W2 o2 σ2 v2 s2 le2 I2 p2 q2=>?_)
 refine h2.use he hE hA I2 q2 fun W3 o3 σ3 v3 s3 le3 I3 p3 q3=>?_
 refine h3.use he hE hA I3 q3 fun W4 o4 σ4 v4 s4 le4 I4 p4 zp4=>?_
 refine cG zp4 fun xs ys hx hsl qn=>?_;have le14:=(le2.trans le3).trans le4
 refine bZ (cI I4.inv (r1.mono le14) hx) fun b vs n zq1 zq2=>?_;obtain rfl:=zq1;refine Zaa zq2 fun g r hl=>?_
 refine dR (jjp r hsl) fun ws hw rw' hst=>?_
 have hsz:(s4.heap.push { cls:=.type "slice",data:=.fields #[v2,v3,v4] }).objs.size=s4.heap.objs.size+1:=Heap.size_push ..
 refine tail_any (Heap.IsList.typeIs (s:={ s4 with heap:=s4.heap.push { cls:=.type "slice",data:=.fields #[v2,v3,v4] } }) ((br g).push _)) slot_list_getitem.lookup
  (wpAny_getItem_list_slice ((br g).push _) (Heap.IsSliceOf.new ..) p2 p3 p4 hst ?_ (by rw[List.size_toArray,r.length,sizeLine_eq];exact Nk1 0 100000 0 16777216 hl rfl)) (hs _ _)
 rw[hw]
 have hn:s4.heap.objs.size≤(s4.heap.push { cls:=.type "slice",data:=.fields #[v2,v3,v4] }).objs.size:=by rw[hsz];exact Nat.le_succ _
 have key:=PE.newL (vs:=ws) (n:=0) (tk:=s4.toks) (h':=(s4.heap.push { cls:=.type "slice",data:=.fields #[v2,v3,v4] }).push (bS ws 0)) I4 rw' qn hn (Heap.get?_push_size _ rfl) fun b o e=>qb2 _ (qb2 _ e)
 exact key.le (le1.trans le14)
end
end
section
section
variable {c:Cx}{sc:Scope}{lv:Nat}{W:Wd}{Kp:aJ}{env:Env}{σ:AS}{s:Shared}
noncomputable def jcY(f:Nat→Nat→Option Bool)(x y:MV):MT:=fun σ Q=>∃m n b,x=.str m∧y=.str n∧f m n=some b∧Q b σ
theorem jef(f:Nat→Nat→Option Bool)(hf:∀m n b,f m n=some b→(!(Builtin.Str.occurrences (c.S n) (c.S m) 0 (c.S n).length 1).isEmpty)=b):COp c lv .In (jcY f):=by
 intro env A W Kp σ s Q E u v x y hE hA I hu hv zp1;refine cS zp1 fun m n b hx hy hb q=>?_
 subst hx hy
 refine Zx hu.of_str fun t zq1=>?_;obtain rfl:=zq1;refine Zx hv.of_str fun t' zq1=>?_;obtain rfl:=zq1
 exact PySem.P.in_str ⟨b,by rw[hf m n b hb],W,σ,.refl W,I,q⟩
noncomputable def jff(is:List Int):List MV:=is.map .int
noncomputable def jce:List MV→MEx:=fun xs σ Q=>∃x,xs=[x]∧((∃ns,bV σ.H x=some (c8 ns)∧ns.length<64∧∀ns':List Nat,ns'.Perm ns→sortedS (ns'.map S0)=true→newL (c8 ns') σ Q)∨
 (∃ns,bV σ.H x=some (jff ns)∧ns.length<64∧∀ns':List Int,ns'.Perm ns→ns'.Pairwise (·≤·)→newL (jff ns') σ Q))
theorem jhz{W:Wd}:∀{vs:List Value}{ns:List Nat},VRs c.S W vs (c8 ns)→StrsAre vs (ns.map c.S)
 |_,[],h=>by rw[h.nil'];exact .nil
 |_,n::ns,h=>by
  cases h with|cons r t=>refine Zx r.of_str fun tk zq1=>?_;obtain rfl:=zq1;exact .cons _ _ (jhz t)
theorem jhD{W:Wd}:∀{vs:List Value}{ns:List Nat},StrsAre vs (ns.map c.S)→VRs c.S W vs (c8 ns)
 |_,[],h=>by cases h;exact .nil
 |_,n::ns,h=>by cases h with|cons x t h=>exact .cons (.str n t) (jhD h)
theorem jhF{W:Wd}:∀{vs:List Value}{ns:List Int},VRs c.S W vs (jff ns)→IntsAre vs ns
 |_,[],h=>by rw[h.nil'];exact .nil
 |_,n::ns,h=>by
  cases h with|cons r t=>refine Zx r.of_int fun tk zq1=>?_;obtain rfl:=zq1;exact .cons _ _ (jhF t)
theorem jhE{W:Wd}:∀{vs:List Value}{ns:List Int},IntsAre vs ns→VRs c.S W vs (jff ns)
 |_,[],h=>by cases h;exact .nil
 |_,n::ns,h=>by cases h with|cons x t h=>exact .cons (.int n t) (jhE h)
theorem jju{S:Nat→Str}:∀{ss:List Str}{ns:List Nat},ss.Perm (ns.map S)→∃ns':List Nat,ss=ns'.map S∧ns'.Perm ns:=by
 intro ss ns h
 generalize hq:ns.map S=q at h
 induction h generalizing ns with
 |nil=>cases ns with
  |nil=>exact⟨[],rfl,.nil⟩
  |cons=>cases hq
 |cons x _ ih=>cases ns with
  |nil=>cases hq
  |cons n ns=>
   cases hq
   refine Zxa (ih rfl) fun ns' e p=>?_
   exact⟨n::ns',by rw[e];rfl,p.cons n⟩
 |swap x y l=>cases ns with
  |nil=>cases hq
  |cons n ns=>cases ns with
   |nil=>cases hq
   |cons m ns=>cases hq;exact⟨m::n::ns,rfl,.swap ..⟩
 |trans _ _ ih1 ih2=>
  refine Zxa (ih2 hq) fun n2 e2 p2=>?_
  refine Zxa (ih1 e2.symm) fun n1 e1 p1=>?_
  exact⟨n1,e1,p1.trans p2⟩
theorem jcQ:BOp c lv (.builtin "sorted") jce:=dZ fun env A W Kp σ s Q E vs xs _ _ I hv zp3=>by
 refine Zxa zp3 fun x hx q=>?_;subst hx
 refine Zxa hv.one fun u zq1 r=>?_;obtain rfl:=zq1
 rcases q with⟨ns,hl,h64,q⟩|⟨ns,hl,h64,q⟩
 ·refine bZ (cI I.inv r hl) fun a us n zq1 zq2=>?_;obtain rfl:=zq1;refine Zaa zq2 fun g hus _=>?_
  have hlen:=hus.length
  refine sorted_strs (br g) (jhz hus) (by rw[hlen];unfold c8;rw[List.length_map];exact h64) fun out ss' h1 h2 h3=>?_
  refine Zxa (jju h2) fun ns' zq1 hp=>?_;obtain rfl:=zq1
  refine Zx (sortedAll_at s.heap us out) fun e he=>?_
  exact PE.newL (tk:=s.toks) (vs:=out.toList) (n:=e) I (jhD h1) (q ns' hp h3) (Nat.le_succ _) (by rw[he]) fun b o e=>sortedAll_old e
 ·refine bZ (cI I.inv r hl) fun a us n zq1 zq2=>?_;obtain rfl:=zq1;refine Zaa zq2 fun g hus _=>?_
  have hlen:=hus.length
  refine sorted_ints (br g) (jhF hus) (by rw[hlen];unfold jff;rw[List.length_map];exact h64) fun out ns' h1 h2 h3=>?_
  refine Zx (sortedAll_at s.heap us out) fun e he=>?_
  exact PE.newL (tk:=s.toks) (vs:=out.toList) (n:=e) I (jhE h1) (q ns' h2 h3) (Nat.le_succ _) (by rw[he]) fun b o e=>sortedAll_old e
theorem PE.adoptT{Q:MV→AS→Prop}{a:Addr}{t:Tag}{o:MObj}(I:InvF c W Kp env σ s)(off:Offs c [a] W Kp env)(ft:ja' σ.H σ.nx t)(ha':∃ob,s.heap.get? a=some ob)(x:∀W',W.le W'→W'.ρ t=some a→W'.own a=some t→OR c W' t o s.heap)(q:Q (.tag t) { σ with H:=ay σ.H t o,nx:=cw σ.nx t }):PE c W Kp env Q (.ref a) s:=by
 refine Za (off a qa4) fun oa hf=>?_
 have le:W.le (W.add t a []):=Wd.le_adopt (I.inv.unused ft) oa.1
 have e1:(W.add t a []).ρ t=some a:=by show(if t=t then _ else _)=_;rw[if_pos rfl]
 have I':=I.inv.adopt (o:=o) ft oa ha' (x _ le e1 (by show(if a=a∨a∈[] then _ else _)=_;rw[if_pos (.inl rfl)]))
 refine⟨W.add t a [],.tag t,{ σ with H:=ay σ.H t o,nx:=cw σ.nx t },le,⟨I',I.fm.add le fun b hb=>⟨?_,(I.fm.out b hb).2.1⟩⟩,.tag e1,q⟩
 show(if b=a∨b∈[] then _ else _)=_
 rw[if_neg];exact(I.fm.out b hb).1
 rintro (e|e)
 ·subst e;exact hf hb
 ·exact Xnm e
noncomputable def jbB:MEx:=fun σ Q=>∃t,ja' σ.H σ.nx t∧Q (.tag t) { σ with H:=ay σ.H t (.dict []),nx:=cw σ.nx t }
theorem jfG{h:Heap}{a:Addr}(g:h.get? a=some { cls:=.type "dict",data:=.dict #[] }):h.DictOf c.knd a []:=⟨_,#[],0,g,⟨rfl,rfl,rfl⟩,rfl,fun _ h=>by simp at h,.nil,List.nodup_nil⟩
theorem jbj{pos:Pos}:CE c sc lv (.Dict [] [] pos) jbB:=by
 intro env A W Kp σ s Q E he hE hA I zp4;refine Zxa zp4 fun t ft q=>?_
 have gd:(s.heap.push { cls:=.type "dict",data:=.dict #[] }).get? s.heap.objs.size=some { cls:=.type "dict",data:=.dict #[] }:=Heap.get?_push_size _ rfl
 have I1:=I.grow (tk:=s.toks) (h':=s.heap.push { cls:=.type "dict",data:=.dict #[] }) fun b o e=>qb2 _ e
 exact wpAny_Dict_empty (PE.adoptT (o:=.dict []) I1 (Offs.one I) ft ⟨_,gd⟩ (fun W' le r o=>⟨_,[],r,o,jfG gd,.nil,(Nat.zero_le _),fun _ q=>nomatch q⟩) q)
noncomputable def jfn:List (MEx×MEx)→AS→(List (MV×MV)→AS→Prop)→Prop
 |[],σ,Q=>Q [] σ
 |(k,f)::r,σ,Q=>k σ fun x σ1=>f σ1 fun y σ2=>jfn r σ2 fun ps σ3=>Q ((x,y)::ps) σ3
noncomputable def keysOf? : List (MV×MV)→Option (List (Nat×MV))
 |[]=>some []
 |(.str n,y)::r=>(keysOf? r).map ((n,y)::·)
 |_=>none
noncomputable def jhU(ps:List (MEx×MEx)):MEx:=fun σ Q=>jfn ps σ fun xs σ1=>∃es t,keysOf? xs=some es∧ja' σ1.H σ1.nx t∧Q (.tag t) { σ1 with H:=ay σ1.H t (.dict (es.foldl (fun acc p=>ar acc p.1 p.2) [])),nx:=cw σ1.nx t }
inductive DEs(c:Cx)(sc:Scope)(lv:Nat):List (Option Expr)→List Expr→List (MEx×MEx)→Prop
 |nil:DEs c sc lv [] [] []
 |cons {k e:Expr}{ks:List (Option Expr)}{es:List Expr}{fk f:MEx}{fs:List (MEx×MEx)}(hk:CE c sc lv k fk)(h:CE c sc lv e f)(t:DEs c sc lv ks es fs):DEs c sc lv (some k::ks) (e::es) ((fk,f)::fs)
noncomputable abbrev PRs(S:Nat→Str)(W:Wd):List (Value×Value)→List (MV×MV)→Prop:=All2 fun p q=>VR S W p.1 q.1∧VR S W p.2 q.2
theorem DEs.shape{ks:List (Option Expr)}{es:List Expr}{fs:List (MEx×MEx)}(h:DEs c sc lv ks es fs):ks.all (·.isSome)=true∧ks.length=es.length∧fs.length=ks.length:=by
 induction h with
 |nil=>exact⟨rfl,rfl,rfl⟩
 |cons _ _ _ ih=>exact⟨by simpa using ih.1,by simpa using ih.2.1,by simpa using ih.2.2⟩
theorem DEs.pairs{pos:Pos}{ks:List (Option Expr)}{es:List Expr}{fs:List (MEx×MEx)}(h:DEs c sc lv ks es fs){env:Env}{A:Around}{Kp:aJ}{E:Value→Shared→Prop}(he:env.scope=sc)(hE:EOK env)(hA:AOK c lv A Kp env) :
  ∀{W:Wd}{σ:AS}{s:Shared}{Q:List (MV×MV)→AS→Prop},InvF c W Kp env σ s→jfn fs σ Q→wpAny c.M A (evalPairs (pairTrees ks es env pos)) (fun vs s'=>∃W' xs σ',W.le W'∧InvF c W' Kp env σ' s'∧PRs c.S W' vs xs∧xs.length=fs.length∧Q xs σ') E s:=by
 induction h with
 |nil=>exact fun I q=>evalPairs_nil ⟨_,[],_,.refl _,I,.nil,rfl,q⟩
 |cons hk h t ih=>
  intro W σ s Q I q
  refine evalPairs_cons (hk.use he hE hA I q fun W1 x σ1 v s1 le1 I1 r1 q1=>?_)
  refine qa5 (h.use he hE hA I1 q1 fun W2 y σ2 v2 s2 le2 I2 r2 q2=>qa5 (wpAny_standAt (qa8 (qa6 (ih I2 q2) (fun vs s3 z=>?_) fun _ _ z=>z))))
  refine jbH z fun W3 xs σ3 le3 I3 r3 hl3 q3=>?_
  exact⟨W3,(x,y)::xs,σ3,(le1.trans le2).trans le3,I3,.cons ⟨r1.mono (le2.trans le3),r2.mono le3⟩ r3,congrArg Nat.succ hl3,q3⟩
theorem jik{W:Wd}{vs:List (Value×Value)}{xs:List (MV×MV)}(h:PRs c.S W vs xs):∀{es:List (Nat×MV)},keysOf? xs=some es→∃kvs,Carries c.knd vs kvs∧KVR c.S W kvs es:=by
 induction h with
 |nil=>intro es h;obtain rfl:=qa1 h;exact⟨[],trivial,.nil⟩
 |cons h t ih=>
  rename_i v x vs xs
  obtain⟨x,y⟩:=x
  obtain⟨k,v⟩:=v
  intro es e
  cases x with
  |str n=>
   refine Zxa (Option.map_eq_some_iff.mp (show(keysOf? xs).map ((n,y)::·)=some es from e)) fun es' hq zq1=>?_;obtain rfl:=zq1
   refine Zxa (ih hq) fun kvs h1 h2=>?_
   refine Zx h.1.of_str fun tk zq1=>?_;obtain rfl:=zq1
   exact⟨(c.S n,_)::kvs,⟨eE c n tk,rfl,h1⟩,.cons h.2 h2⟩
  |_=>exact Xns e
theorem jie{W:Wd}{kvs:List (Str×Value)}{es:List (Nat×MV)}(h1:KVR c.S W kvs es):∀{acc:List (Str×Value)}{ea:List (Nat×MV)},KVR c.S W acc ea→KVR c.S W (merged acc kvs) (es.foldl (fun acc p=>ar acc p.1 p.2) ea):=by
 induction h1 with
 |nil=>intro acc ea h;exact h
 |cons r t ih=>intro acc ea h;exact ih (h.put _ r)
theorem jeW:∀(es ea:List (Nat×MV)),(es.foldl (fun acc p=>ar acc p.1 p.2) ea).length≤ea.length+es.length
 |[],ea=>qa9 _
 |p::es,ea=>by
  have h1:=jeW es (ar ea p.1 p.2)
  have h2:=jar ea p.1 p.2
  simp only[List.foldl_cons,List.length_cons]
  omega
theorem jkA{ks:List (Option Expr)}{es:List Expr}{fs:List (MEx×MEx)}{pos:Pos}(h:DEs c sc lv ks es fs)(h0:ks≠[])(h15:ks.length≤15):CE c sc lv (.Dict ks es pos) (jhU fs):=by
 intro env A W Kp σ s Q E he hE hA I q
 have gd:(s.heap.push { cls:=.type "dict",data:=.dict #[] }).get? s.heap.objs.size=some { cls:=.type "dict",data:=.dict #[] }:=Heap.get?_push_size _ rfl
 have I1:=I.grow (tk:=s.toks) (h':=s.heap.push { cls:=.type "dict",data:=.dict #[] }) fun b o e=>qb2 _ e
 have off:Offs c [s.heap.objs.size] W Kp env:=Offs.one I
 refine wpAny_Dict_walk (knd:=c.knd) h.shape.1 h.shape.2.1 h0 h15 ?_
 refine qa6 (h.pairs (pos:=pos) he hE (hA.hold (h:=s.heap.push { cls:=.type "dict",data:=.dict #[] }) off) (I1.hold off) q) (fun vs s2 z=>?_) fun _ _ z=>z
 refine jbH z fun W2 xs σ2 le2 I2 r2 hxl zq1=>?_;refine cG zq1 fun els t hk ft q2=>?_
 have g2:=I1.heldX off I2 (b:=s.heap.objs.size) qa4 gd (by decide)
 have off2:=Offs.held I1 off (fun b hb=>by rw[List.mem_singleton.mp hb];exact⟨_,gd⟩) I2
 have I3:=I1.drop off I2
 refine Zxa (jik r2 hk) fun kvs hc kv=>?_
 refine⟨kvs,hc,jfG g2,fun h' hd sb=>?_⟩
 have I4:=I3.one (tk:=s2.toks+vs.length) off2 fun b o hb e=>(sb.2 b hb).trans e
 have hlen:els.length≤15:=by
  have l1:=kv.length
  have l2:=hc.length
  have l3:=r2.length
  have l4:=h.shape.2.2
  omega
 refine(PE.adoptT (o:=.dict (els.foldl (fun acc p=>ar acc p.1 p.2) [])) I4 off2 ft (by refine bZ hd fun _ _ _ e _=>?_;exact⟨_,e⟩) (fun W' le r o=>⟨_,_,r,o,hd,jie (kv.mono le) .nil,?_,fun _ q=>nomatch q⟩) q2).le le2
 have:=jeW els []
 simp at this;exact Nk2 0 0 0 15 0 100000 this hlen rfl
end
end
section
section
variable {c:Cx}{sc:Scope}{lv:Nat}{W:Wd}{Kp:aJ}{env:Env}{σ:AS}{s:Shared}
noncomputable abbrev ff(c:Cx)(xs:List Nat):Str→Bool:=fun k=>xs.any fun n=>decide (c.S n=k)
noncomputable def cV(xs ys:List Nat):List Nat:=ys.foldl (fun acc y=>if y∈acc then acc else acc++[y]) xs
theorem je3(xs:List Nat)(y:Nat)(ys:List Nat):cV xs (y::ys)=cV (if y∈xs then xs else xs++[y]) ys:=rfl
theorem memS_iff{xs:List Nat}{n:Nat}:ff c xs (c.S n)=true↔n∈xs:=by
 show(xs.any fun m=>decide (c.S m=c.S n))=true↔_
 rw[List.any_eq_true]
 constructor
 ·intro zp1;refine Zxa zp1 ?_;clear zp1;intro m h1 h2
  rw[←c.inj _ _ (of_decide_eq_true h2)];exact h1
 ·exact fun h=>⟨n,h,(if_pos rfl)⟩
noncomputable def jgv:List MV→MEx:=fun xs σ Q=>xs=[]∧∃t,ja' σ.H σ.nx t∧Q (.tag t) { σ with H:=ay σ.H t (.set []),nx:=cw σ.nx t }
theorem jg5:BOp c lv (.type "set") jgv:=dZ fun env A W Kp σ s Q E vs xs _ _ I hv zp2=>by
 refine fB zp2 ?_;clear zp2;intro hx t ft q;subst hx
 rw[hv.nil']
 refine call_set_0 fun led=>?_
 have gd:(s.heap.push { cls:=.type "set",dict:=none,data:=.set #[] 0 (.fresh 0 0 led) }).get? s.heap.objs.size=some { cls:=.type "set",dict:=none,data:=.set #[] 0 (.fresh 0 0 led) }:=Heap.get?_push_size _ rfl
 have I1:=I.grow (tk:=s.toks) (h':=s.heap.push { cls:=.type "set",dict:=none,data:=.set #[] 0 (.fresh 0 0 led) }) fun b o e=>qb2 _ e
 refine PE.adoptT (o:=.set []) I1 (Offs.one I) ft ⟨_,gd⟩ (fun W' le r o=>⟨_,r,o,⟨_,#[],0,_,gd,⟨rfl,rfl,rfl⟩,rfl,fun _ h=>Xnm h,fun k=>by simp,by decide,?_,rfl⟩,(Nat.zero_le _)⟩) q
 cases led<;>decide
theorem jke{A:Around}{E:Value→Shared→Prop}{a:Addr}{xs:List Nat}{n:Nat}{tk:Tok}{h0:Heap}{s:Shared}{Q:Bool→Shared→Prop}(hS:s.heap.SetOf c.knd a (ff c xs) xs.length)(hl:xs.length≤1000)
  (h:∀b h' tk',Heap.SameBut a s.heap h'→h'.SetOf c.knd a (ff c (if n∈xs then xs else xs++[n])) (if n∈xs then xs else xs++[n]).length→Q b { s with heap:=h',toks:=tk' }) :
  wpAny c.M A (setAdd a (.str (c.S n) tk)) Q E s:=by
 unfold setAdd
 refine wpAny_holding ?_
 refine qa5 (c.knd.pyHash (k:=c.S n) (eE c n tk) ?_)
 refine wpAny_setAddHashed_of (knd:=c.knd) (s:={ s with toks:=s.toks+1 }) (eE c n tk) rfl hS (by have:scanBound=4096:=rfl;exact Nk2 0 1000 4096 0 2 0 hl (qa3 this.symm) rfl) fun h' sb hS2=>?_
 refine h _ h' (s.toks+1) sb ?_
 by_cases hm:n∈xs
 ·rw[if_pos hm]
  rw[memS_iff.mpr hm] at hS2
  simp only[if_true] at hS2
  have e:(fun k'=>ff c xs k'||decide (k'=c.S n))=ff c xs:=funext fun k'=>by
   by_cases hk:k'=c.S n
   ·subst hk;rw[memS_iff.mpr hm];rfl
   ·simp[hk]
  rw[e] at hS2;exact hS2
 ·rw[if_neg hm]
  have hf:ff c xs (c.S n)=false:=by
   cases hq:ff c xs (c.S n) with
   |false=>rfl
   |true=>exact absurd (memS_iff.mp hq) hm
  rw[hf] at hS2
  have e:(fun k'=>ff c xs k'||decide (k'=c.S n))=ff c (xs++[n]):=funext fun k'=>by
   show _=(List.any (xs++[n]) _)
   rw[List.any_append]
   simp only[List.any_cons,List.any_nil,Bool.or_false]
   congr 1
   simp only[decide_eq_decide]
   exact eq_comm
  rw[e] at hS2
  simp only[Bool.false_eq_true,if_false] at hS2
  rw[List.length_append];exact hS2
noncomputable def jdu:List MV→MEx:=fun xs σ Q=>∃t v ys ns,xs=[.tag t,v]∧σ.H t=some (.set ys)∧bV σ.H v=some (c8 ns)∧ys.length+ns.length≤900∧Q .none { σ with H:=ay σ.H t (.set (cV ys ns)) }
theorem jfx{h h':Heap}{a:Addr}{f:Str→Bool}{n:Nat}(x:h.SetOf c.knd a f n)(k:∀o,h.get? a=some o→h'.get? a=some o):h'.SetOf c.knd a f n:=
 x.elim fun o y=>y.elim fun es z=>z.elim fun ep z=>z.elim fun tb z=>⟨o,es,ep,tb,k o z.1,z.2⟩
theorem jiT{h h':Heap}{a:Addr}{xs:Array Value}(x:h.IsList a xs)(k:∀o,h.get? a=some o→h'.get? a=some o):h'.IsList a xs:=x.elim fun o z=>⟨o,k o z.1,z.2⟩
theorem jjy{h h':Heap}{a l:Addr}{i:Nat}(x:h.IsListIter a l i)(k:∀o,h.get? a=some o→h'.get? a=some o):h'.IsListIter a l i:=x.elim fun o z=>⟨o,k o z.1,z.2⟩
theorem jku(ys:List Nat)(n:Nat):(if n∈ys then ys else ys++[n]).length≤ys.length+1:=by
 split
 ·exact Nat.le_succ _
 ·rw[List.length_append];exact qa9 _
theorem jhi{a l it:Addr}(hal:a≠l)(hai:a≠it)(hil:it≠l):∀(k:Nat){A:Around}{R:Result→Shared→Prop}{s:Shared}{us:List Value}{ns:List Nat}{i:Nat}{ys:List Nat}{W:Wd},A.handled=none→us.length - i=k→VRs c.S W us (c8 ns)→s.heap.IsListIter it l i→s.heap.IsList l us.toArray→s.heap.SetOf c.knd a (ff c ys) ys.length→ys.length+(ns.length - i)≤900→i≤us.length→
  (∀h' tk,(∀b o,b≠a→b≠it→s.heap.get? b=some o→h'.get? b=some o)→h'.SetOf c.knd a (ff c (cV ys (ns.drop i))) (cV ys (ns.drop i)).length→R (.ok (.ret .none)) { s with heap:=h',toks:=tk })→
  codeAny c.M A (.builtin "set.update.loop" ⟨[.ref a,.ref it],[]⟩) R s:=by
 intro k
 induction k with
 |zero=>
  intro A R s us ns i ys W hh hk hu hit hl hS hsz hi hR
  have hge:us.length≤i:=Nat.le_of_sub_eq_zero hk
  have hd:ns.drop i=[]:=List.drop_eq_nil_iff.mpr (by rw[←List.length_map (as:=ns) MV.str];exact hu.length▸hge)
  refine codeAny_builtin PyProof.Rows.F.entry_set_update_loop ?_
  rw[Around.under_plainId PyProof.Rows.F.plain_set_update_loop _]
  refine qa5 (wpAny_pyNext_list_end hh hit hl (Nat.not_lt.mpr hge |> fun h=>by simpa using hge) fun h' he=>?_)
  rw[hd] at hR
  exact qa8 (hR h' s.toks (fun b o _ hb e=>he b o hb e) (jfx hS fun o e=>he a o hai e))
 |succ k ih=>
  intro A R s us ns i ys W hh hk hu hit hl hS hsz hi hR
  have hlt:i<us.length:=Nat.lt_of_sub_eq_succ hk
  have hln:i<ns.length:=by rw[←List.length_map (as:=ns) MV.str];exact hu.length▸hlt
  obtain⟨x,hx⟩:∃x,us[i]?=some x:=⟨_,List.getElem?_eq_getElem hlt⟩
  obtain⟨tk,rfl⟩:∃tk,x=.str (c.S ns[i]) tk:=by
   refine Zxa (hu.getV hx) fun mv hmv rv=>?_
   rw[show(c8 ns)[i]?=some (.str ns[i]) by unfold c8;rw[List.getElem?_map,List.getElem?_eq_getElem hln];rfl] at hmv
   obtain rfl:=qa1 hmv
   exact rv.of_str
  refine codeAny_builtin PyProof.Rows.F.entry_set_update_loop ?_
  rw[Around.under_plainId PyProof.Rows.F.plain_set_update_loop _]
  rw[List.drop_eq_getElem_cons hln,je3] at hR
  generalize ns[i]=n at hx hR
  refine qa5 (wpAny_pyNext_list_item hit hl (x:=.str (c.S n) tk) (by simpa using hx) fun h1 hit1 hs1=>?_)
  refine qa5 (wpAny_holding (jke (h0:=h1) (s:={ s with heap:=h1 }) (jfx hS fun o e=>(hs1.2 a hai).trans e) (qb1 (Nat.le_add_right _ _) (qb1 hsz (by decide))) fun b h2 tk2 sb hS2=>?_))
  refine qa8 ⟨plainId_quiet PyProof.Rows.F.plain_set_update_loop _,ih hh (NS hk) hu (jjy hit1 fun o e=>(sb.2 it (Ne.symm hai)).trans e) (jiT hl fun o e=>(sb.2 l (Ne.symm hal)).trans ((hs1.2 l (Ne.symm hil)).trans e)) hS2 ?_ hlt fun h3 tk3 k3 hS3=>hR h3 tk3 (fun b o hb1 hb2 e=>k3 b o hb1 hb2 ((sb.2 b hb1).trans ((hs1.2 b hb2).trans e))) hS3⟩
  have:=jku ys n
  exact NT hsz hln (by assumption)
theorem jd3:∀(ys xs:List Nat),(cV xs ys).length≤xs.length+ys.length
 |[],xs=>qa9 _
 |y::ys,xs=>by
  rw[je3]
  have:=jd3 ys (if y∈xs then xs else xs++[y])
  split at this
  ·rw[if_pos ‹_›];simp only[List.length_cons];exact Nk1 0 0 0 1 this rfl
  ·rw[if_neg ‹_›];rw[List.length_append] at this;simp only[List.length_cons,List.length_nil] at this ⊢;omega
theorem PE.setTo{Q:MV→AS→Prop}{t:Tag}{a:Addr}{xs ys:List Nat}{v:Value}{y:MV}{h':Heap}{tk:Nat}(I:InvF c W Kp env σ s)(e:σ.H t=some (.set xs))(ha:W.ρ t=some a)(ow:W.own a=some t)(hS:h'.SetOf c.knd a (ff c ys) ys.length)(sb:Heap.SameBut a s.heap h')(hl:ys.length≤1000)
  (r:VR c.S W v y)(q:Q y { σ with H:=ay σ.H t (.set ys) }):PE c W Kp env Q v { s with heap:=h',toks:=tk }:=
 ⟨W,y,_,.refl W,I.changed (o':=.set ys) e ow sb ⟨a,ha,ow,hS,hl⟩ (by refine dh hS ?_;clear hS;intro _ _ _ _ e _;exact⟨_,e⟩),r,q⟩
theorem jcP:BOp c lv (.builtin "set.update") jdu:=dZ fun env A W Kp σ s Q E vs xs hh _ I hv zp4=>by
 refine jbO zp4 ?_;clear zp4;intro t v ys ns hx ht zq1;obtain⟨hl,hsz,q⟩:=zq1;subst hx
 refine bt hv.two fun u w zq1 zq2=>?_;obtain rfl:=zq1;refine Za zq2 ?_;clear zq2;intro r rw'
 refine Zxa (jd8 I.inv r ht) fun a zq1 zq2=>?_;obtain rfl:=zq1;refine eS zq2 ?_;clear zq2;intro ha ow hS hls
 refine bZ (cI I.inv rw' hl) fun l us n zq1 zq2=>?_;obtain rfl:=zq1;refine Zaa zq2 ?_;clear zq2;intro g hus hlen
 have hal:a≠l:=by
  intro e;subst e
  refine jbO hS ?_;clear hS;intro o _ _ _ ho hex _
  rw[g] at ho;obtain rfl:=qa1 ho
  have:=hex.1
  simp at this
 have hTs:s.TypeIs (.ref a) "set":=hS.typeIs
 refine wpAny_call_entry PySem.F.slot_set_update hTs PySem.F.entry_set_update ?_ (PySem.F.args_set_update_2 _ _)
 have hsls:=PySem.F.sub_list_set
 have hslf:=PySem.F.sub_list_frozenset
 have hne:(Value.type "list" == Value.type "dict")=false:=by decide
 have hTl:s.TypeIs (.ref l) "list":=(br g).typeIs
 have fin:wpAny c.M A.in1 (runValue (.builtin "set.update.loop" ⟨[.ref a,.ref s.heap.objs.size],[]⟩)) (fun r s'=>PE c W Kp env Q .none s') E { s with heap:=s.heap.push { cls:=.type "list_iterator",data:=.fields #[.ref l,.int 0 0] } }:=by
  have hsl:l<s.heap.objs.size:=Heap.lt_size g
  refine dh (id hS) fun o es ep tb ho rest=>?_
  refine wpAny_runValue (jhi (a:=a) (l:=l) (it:=s.heap.objs.size) (i:=0) (ys:=ys) (W:=W) hal (qa7 (Heap.lt_size ho)) (qb4 hsl) _ hh rfl hus ⟨_,Heap.get?_push_size _ rfl,rfl,rfl⟩ ((br g).push _) ⟨o,es,ep,tb,qb2 _ ho,rest⟩ (by omega) (Nat.zero_le _) fun h' tk k hS'=>?_)
  have hl2:=jd3 ns ys
  refine dh hS' ?_;clear hS';intro o' es' ep' tb' ho' rest'
  have hex':=rest'.1
  have hd':=rest'.2.1
  have gu:(s.heap.update a fun _=>o').get? a=some o':=Heap.get?_update_self _ ho (by
   obtain⟨oc,od,dt,sl⟩:=o'
   dsimp only at hd'
   subst hd'
   rfl)
  have I2:=I.changed (tk:=tk) (h':=s.heap.update a fun _=>o') (o':=.set (cV ys ns)) ht ow (Heap.SameBut.update ..) ⟨a,ha,ow,⟨o',es',ep',tb',gu,rest'⟩,(Nk2 0 0 0 900 0 1000 hl2 hsz rfl)⟩ ⟨_,gu⟩
  refine⟨W,.none,_,.refl W,I2.grow (tk:=tk) fun b ob e=>?_,.none,q⟩
  by_cases hb:b=a
  ·subst hb;rw[gu] at e;obtain rfl:=qa1 e;exact ho'
  ·have e':s.heap.get? b=some ob:=by
    have:=(Heap.SameBut.update (h:=s.heap) (a:=a) (f:=fun _=>o')).2 b hb
    rw[←this];exact e
   exact k b ob hb (qa7 (Heap.lt_size e')) (qb2 _ e')
 unfold Builtin.«set.update»
 refine qa5 ?_
 show wpAny _ _ (pure (a,[Value.ref l])) _ _ s
 refine qa8 ?_
 show wpAny _ _ (forIn [Value.ref l] PUnit.unit _ >>= _) _ _ s
 refine qa5 ?_
 rw[List.forIn_cons]
 refine qa5 (qa5 ?_)
 unfold Builtin.Frozenset.updateFrom Builtin.Frozenset.isAnySet
 refine qa5 (qa5 (wpAny_isInstance hTl hsls ?_))
 refine wpAny_isInstance hTl hslf ?_
 refine qa5 (wpAny_typeOf hTl ?_)
 rw[hne]
 refine qa5 (wpAny_pyIter_list (br g) ?_)
 refine qa5 (qa6 fin (fun r s' z=>?_) fun _ _ z=>z)
 refine qa8 (qa8 ?_)
 refine qa8 ?_
 exact qa8 ⟨_,rfl,z⟩
theorem jh8{A:Around}{E:Value→Shared→Prop}{s:Shared}{a:Addr}{o:Obj}{es:Array (Int×Value)}{ep:Nat}{t:SetTable}{x:Value}{k:Str}{Q:Option Nat→Shared→Prop}(hkey:c.knd.is k x=true)(hsc:x.scannable=true)(ho:s.heap.get? a=some o)(hd:o.data=.set es ep t)
  (hel:ElemsOf c.knd es.toList)(hb:es.size<scanBound)(hf:t.fits es.size=true)(h:Q (es.toList.findIdx? fun e=>c.knd.is k e.2) s):wpAny c.M A (setFind a x (c.knd.hash k)) Q E s:=by
 unfold setFind setFindIn
 refine qa5 (wpAny_setState_of ho hd hf ?_)
 dsimp only
 rw[byScan_of hsc hb hel]
 simp only[↓reduceIte]
 refine qa5 (wpAny_rule ?_)
 refine qa5 (wpAny_setScan_of hkey ho hd hf hel ?_)
 cases hr:es.toList.findIdx? (fun e=>c.knd.is k e.2) with
 |none=>rw[hr] at h;exact qa8 h
 |some j=>
  rw[hr] at h
  dsimp only
  exact qa8 (by rw[Nat.zero_add];exact h)
theorem jdX{α:Type} [DecidableEq α]:∀{xs ks:List α},xs.Nodup→(∀x∈xs,x∈ks)→ks.length=xs.length→ks.Perm xs
 |[],ks,_,_,hl=>by rw[List.length_eq_zero_iff.mp hl]
 |x::xs,ks,hn,hc,hl=>by
  refine Za (List.nodup_cons.mp hn) fun h1 h2=>?_
  have hx:=hc x qa4
  have p:=List.perm_cons_erase hx
  refine p.trans (List.Perm.cons x (jdX h2 (fun y hy=>?_) ?_))
  ·exact(List.mem_erase_of_ne (fun e=>by subst e;exact h1 hy)).mpr (hc y (qa2 _ hy))
  ·rw[List.length_erase_of_mem hx,hl];simp
theorem jcp{α:Type}(xs:Array α)(p:Nat)(h:p<xs.size):(SetTable.eraseAt xs p).toList=xs.toList.eraseIdx p:=by
 unfold SetTable.eraseAt
 rw[Array.toList_append,Array.toList_extract,Array.toList_extract,List.eraseIdx_eq_take_drop_succ,List.extract_eq_take_drop,List.extract_eq_take_drop]
 congr 1
 rw[List.take_of_length_le]
 rw[List.length_drop,Array.length_toList];exact qa9 _
theorem jbn{α:Type}(xs:Array α)(p:Nat)(h:p<xs.size):(SetTable.eraseAt xs p).size=xs.size - 1:=by
 rw[←Array.length_toList,jcp xs p h,List.length_eraseIdx_of_lt (by simpa using h),Array.length_toList]
theorem jgp{α:Type}(xs:Array α)(p:Nat)(x:α):(SetTable.insertAt xs p x).size=xs.size+1:=by
 have h:=(SetTable.insertAt_perm xs p x).length_eq
 simpa using h
theorem ji3{t:SetTable}{n i:Nat}(h:t.fits n=true)(hi:i<n):(t.drop i).fits (n - 1)=true:=by
 simp only[SetTable.fits,Bool.and_eq_true,beq_iff_eq,decide_eq_true_eq] at h ⊢
 refine Za h ?_;clear h;intro h1 h2
 have hlt:i<t.place.size:=by rw[h1];exact hi
 unfold SetTable.drop
 rw[Array.getElem?_eq_getElem hlt]
 dsimp only
 refine⟨by rw[jbn _ _ hlt,h1],?_⟩
 unfold SetTable.fill at h2 ⊢
 dsimp only
 rw[jbn _ _ hlt,jgp]
 have:t.place.size - 1+(t.dummies.size+1)=t.place.size+t.dummies.size:=by omega
 rw[this]
 exact h2
noncomputable def jbM:List MV→MEx:=fun xs σ Q=>∃t n ys,xs=[.tag t,.str n]∧σ.H t=some (.set ys)∧ys.Nodup∧n∈ys∧Q .none { σ with H:=ay σ.H t (.set (ys.erase n)) }
theorem jjr{a:Addr}{h:Heap}{ys:List Nat}{o:Obj}{es:Array (Int×Value)}(hn:ys.Nodup)(hel:ElemsOf c.knd es.toList)(hm:∀k,ff c ys k=true↔∃e∈es.toList,c.knd.is k e.2=true)(hsz:es.size=ys.length) :
  (∀e∈es.toList,∃tk,e.2=.str (strOf e.2) tk)∧(es.toList.map fun e=>strOf e.2).Perm (ys.map c.S):=by
 have h1:∀e∈es.toList,∃tk,e.2=.str (strOf e.2) tk:=fun e he=>by
  refine Za (hel e he) fun zq1 _=>?_;refine Zxa zq1 ?_;clear zq1;intro k hk _
  refine Zx (Value.isStrOf_shape (show Value.isStrOf k e.2=true from hk)) fun tk ht=>?_
  exact⟨tk,by rw[ht];rfl⟩
 refine⟨h1,jdX ?_ (fun x hx=>?_) ?_⟩
 ·exact List.Pairwise.map _ (fun a b hab e=>hab (c.inj _ _ e)) hn
 ·refine Zxa (List.mem_map.mp hx) fun n hn' zq1=>?_;obtain rfl:=zq1
  refine Zxa ((hm (c.S n)).mp (memS_iff.mpr hn')) fun e he hk=>?_
  refine Zx (Value.isStrOf_shape (show Value.isStrOf (c.S n) e.2=true from hk)) fun tk ht=>?_
  exact List.mem_map.mpr ⟨e,he,by rw[ht];rfl⟩
 ·rw[List.length_map,List.length_map,Array.length_toList,hsz]
theorem jdZ{α:Type}:∀(l:List α)(i:Nat)(h:i<l.length),l.Perm (l[i]::l.eraseIdx i)
 |[],_,h=>by simp at h
 |x::l,0,_=>.refl _
 |x::l,i+1,h=>by
  have ih:=jdZ l i (by simpa using h)
  exact(ih.cons x).trans (.swap ..)
theorem jfK:BOp c lv (.builtin "set.remove") jbM:=dZ fun env A W Kp σ s Q E vs xs hh _ I hv zp5=>by
 refine jbH zp5 ?_;clear zp5;intro t n ys hx ht hnd hmem q;subst hx
 refine bt hv.two fun u w zq1 zq2=>?_;obtain rfl:=zq1;refine Za zq2 ?_;clear zq2;intro r rw'
 refine Zx rw'.of_str fun tk zq1=>?_;obtain rfl:=zq1
 refine Zxa (jd8 I.inv r ht) fun a zq1 zq2=>?_;obtain rfl:=zq1;refine eS zq2 ?_;clear zq2;intro ha ow hS hls
 have hTs:s.TypeIs (.ref a) "set":=hS.typeIs
 refine jet (id hS) fun o es ep tb ho hex hd hel hm hb hf hsz=>?_
 refine Za (jjr (a:=a) (h:=s.heap) (o:=o) hnd hel hm hsz) fun hstr hp=>?_
 refine wpAny_call_entry PySem.F.slot_set_remove hTs PySem.F.entry_set_remove ?_ (PySem.F.args_set_remove_2 _ _)
 unfold Builtin.«set.remove»
 refine qa5 ?_
 show wpAny _ _ (pure (a,Value.str (c.S n) tk)) _ _ s
 refine qa8 ?_
 show wpAny _ _ (Builtin.Frozenset.withSetAsKey "set.remove" (.str (c.S n) tk) (setDiscard a) >>= _) _ _ s
 refine qa5 ?_
 unfold Builtin.Frozenset.withSetAsKey
 refine wpAny_tryCatch ?_
 unfold setDiscard
 refine wpAny_holding ?_
 refine qa5 (c.knd.pyHash (k:=c.S n) (eE c n tk) ?_)
 unfold setDiscardHashed
 refine qa5 (jh8 (s:={ s with toks:=s.toks+1 }) (eE c n tk) rfl ho hd hel hb hf ?_)
 have hin:=(hm (c.S n)).mp (memS_iff.mpr hmem)
 cases hr:es.toList.findIdx? (fun e=>c.knd.is (c.S n) e.2) with
 |none=>
  refine Zxa hin ?_;clear hin;intro e he hk
  have:=List.findIdx?_eq_none_iff.mp hr e he
  rw[hk] at this;exact Xtf this
 |some i=>
  refine Zxa (List.findIdx?_eq_some_iff_getElem.mp hr) fun hi hpi _=>?_
  have hi':i<es.size:=by simpa using hi
  dsimp only
  refine qa5 (wpAny_setState_of (s:={ s with toks:=s.toks+1 }) ho hd hf ?_)
  dsimp only
  have hz:(SetTable.eraseAt es i).size<scanBound:=by rw[jbn _ _ hi'];exact Nat.lt_of_le_of_lt (Nat.sub_le _ _) hb
  refine qa5 (wpAny_storeSet_of (s:={ s with toks:=s.toks+1 }) ho hd ?_ (fits_of_scanBound hz))
  refine qa5 (wpAny_point (qa8 ?_))
  have hkey:strOf es.toList[i].2=c.S n:=by
   refine Zx (Value.isStrOf_shape (show Value.isStrOf (c.S n) es.toList[i].2=true from hpi)) fun tk' ht'=>?_
   rw[ht'];rfl
  have hp2:((es.toList.eraseIdx i).map fun e=>strOf e.2).Perm ((ys.erase n).map c.S):=by
   have p1:(es.toList.map fun e=>strOf e.2).Perm (c.S n::(es.toList.eraseIdx i).map fun e=>strOf e.2):=by
    have:=(jdZ es.toList i hi).map fun e:Int×Value=>strOf e.2
    rw[List.map_cons,hkey] at this
    exact this
   have p2:(ys.map c.S).Perm (c.S n::(ys.erase n).map c.S):=(List.perm_cons_erase hmem).map c.S
   exact(p1.symm.trans (hp.trans p2)).cons_inv
  have hel':ElemsOf c.knd (SetTable.eraseAt es i).toList:=fun e he=>hel e (by rw[jcp _ _ hi'] at he;exact List.mem_of_mem_eraseIdx he)
  have hm':∀k,ff c (ys.erase n) k=true↔∃e∈(SetTable.eraseAt es i).toList,c.knd.is k e.2=true:=fun k=>by
   have e1:ff c (ys.erase n) k=true↔k∈(ys.erase n).map c.S:=by
    show(List.any _ _)=true↔_
    rw[List.any_eq_true,List.mem_map]
    constructor
    ·intro zp6;refine Zxa zp6 ?_;clear zp6;intro m h1 h2;exact⟨m,h1,of_decide_eq_true h2⟩
    ·intro zp7;refine Zxa zp7 ?_;clear zp7;intro m h1 h2;exact⟨m,h1,by simp[h2]⟩
   rw[e1,←hp2.mem_iff,jcp _ _ hi',List.mem_map]
   constructor
   ·intro zp8;refine Zxa zp8 ?_;clear zp8;intro e he zq1;obtain rfl:=zq1
    refine Zx (hstr e (List.mem_of_mem_eraseIdx he)) fun tk' ht'=>?_
    refine⟨e,he,?_⟩
    show Value.isStrOf _ e.2=true
    rw[ht'];exact strKind_is c.prog c.w _ tk'
   ·intro zp9;refine Zxa zp9 ?_;clear zp9;intro e he hk
    refine Zx (Value.isStrOf_shape (show Value.isStrOf k e.2=true from hk)) fun tk' ht'=>?_
    exact⟨e,he,by rw[ht'];rfl⟩
  refine Za (SetOf_store (knd:=c.knd) ho hex hd hel' hm' hz (by rw[jbn _ _ hi'];exact ji3 hf hi')) fun hg hS'=>?_
  have hlen:(SetTable.eraseAt es i).size=(ys.erase n).length:=by rw[jbn _ _ hi',List.length_erase_of_mem hmem,hsz]
  rw[hlen] at hS'
  have hle:(ys.erase n).length≤1000:=by rw[List.length_erase_of_mem hmem];exact qb1 (Nat.sub_le _ _) hls
  exact qa8 ⟨_,rfl,PE.setTo (tk:=s.toks+1) (I.tok (s.toks+1)) ht ha ow hS' (Heap.SameBut.update ..) hle .none q⟩
end
end
section
theorem jiR:typeLookup (.type "list_reverseiterator") "__len__"=pure none:=by rw[typeLookup_type,builtinLookup_eq_fast];kernel_rfl
theorem jjJ:typeLookup (.type "list_reverseiterator") "__length_hint__"=pure (some (.builtin "list_reverseiterator.__length_hint__")):=by rw[typeLookup_type,builtinLookup_eq_fast];kernel_rfl
section
variable {prog:Program}{w:World}{A:Around}{E:Value→Shared→Prop}{s:Shared}
theorem jgs{I l:Addr}{items:Array Value}{Q:Value→Shared→Prop}(hh:A.handled=none)(hne:l≠I)(hl:s.heap.IsList l items)(hI:s.heap.IsRevIter I l ((items.size:Int) - 1))(hsz:items.size≤sizeLine)
  (hQ:∀h' tk acc c',(∀b o,b≠I→s.heap.get? b=some o→h'.get? b=some o)→h'.get? s.heap.objs.size=some { cls:=.type "list",dict:=none,data:=.seq acc c',slots:=#[] }→ItemsOf (fun i v=>items[items.size - 1 - i]?=some v) acc items.size→Q (.ref s.heap.objs.size) { s with heap:=h',toks:=tk }) :
  wpAny (model prog w) A (call (.type "list") [.ref I]) Q E s:=by
 have W:=(Walks.listRev (prog:=prog) (w:=w) (A:=A.in1.in1) hh I l hne items).toS
 have hIlt:I<s.heap.objs.size:=by refine Zxa hI fun o e _=>?_;exact Heap.lt_size e
 have hllt:l<s.heap.objs.size:=by refine Zxa hl fun o e _=>?_;exact Heap.lt_size e
 have hfp:∀b∈[I,l],b<s.heap.objs.size:=fun b hb=>by
  rcases List.mem_cons.mp hb with e|hb
  ·rw[e];exact hIlt
  ·rw[List.mem_singleton.mp hb];exact hllt
 have hSf:s.heap.objs.size∉[I,l]:=fun hm=>Nat.lt_irrefl _ (hfp _ hm)
 have hSI:s.heap.objs.size≠I:=fun e=>hSf (by rw[e];exact qa4)
 refine callType_codes (Q₁:=fun obj s₁=>obj=.ref s.heap.objs.size∧s₁={ s with heap:=s.heap.push { cls:=.type "list",data:=.seq #[] } }) PySem.F.called_list (PySem.F.typeCall_list_1 _) PySem.F.entry_list_init
  (code_list_new _ ⟨rfl,rfl⟩) fun obj s₁ h₁=>?_
 refine Za h₁ fun zq1 zq2=>?_;obtain rfl:=zq1;obtain rfl:=zq2
 have hS:(s.heap.push { cls:=.type "list",data:=.seq #[] }).get? s.heap.objs.size=some { cls:=.type "list",data:=.seq #[] }:=Heap.get?_push_size _ rfl
 refine⟨⟨_,hS,rfl⟩,PySem.F.args_list_init_2 _ _,?_⟩
 show wpAny _ A.in1.in1 (do let old ←Builtin.List.listItems (.ref s.heap.objs.size);Builtin.List.listUpdate (.ref s.heap.objs.size) (fun _=>#[]);letGo old.toList.reverse;Builtin.List.listExtendWith (.ref s.heap.objs.size) (.ref I) .none) _ _ _
 refine qa5 ?_
 unfold Builtin.List.listItems
 refine qa5 (wpAny_seqItems hS rfl (qa8 ?_))
 show wpAny _ A.in1.in1 (updateSeq s.heap.objs.size (fun _=>#[]) >>= fun _=>letGo (#[]:Array Value).toList.reverse >>= fun _=>Builtin.List.listExtendWith (.ref s.heap.objs.size) (.ref I) .none) _ _ _
 refine qa5 (wpAny_updateSeq hS rfl ?_)
 have hS₂:=Heap.get?_update_self (Obj.mapSeq (fun _=>(#[]:Array Value))) hS rfl
 refine qa5 (wpAny_letGo ?_)
 have old:∀b o,s.heap.get? b=some o→((s.heap.push { cls:=.type "list",data:=.seq #[] }).update s.heap.objs.size (Obj.mapSeq (fun _=>(#[]:Array Value)))).get? b=some o:=
  fun b o e=>(Heap.get?_update_other _ _ (qb4 (Heap.lt_size e))).trans (qb2 _ e)
 generalize (s.heap.push { cls:=.type "list",data:=.seq #[] }).update s.heap.objs.size (Obj.mapSeq (fun _=>(#[]:Array Value)))=h2 at hS₂ old ⊢
 have hst:(fun(i:Nat)(s:Shared)=>i≤items.size∧s.heap.IsRevIter I l ((items.size:Int) - 1 - (i:Int))∧s.heap.IsList l items) 0 { s with heap:=h2 }:=by
  refine⟨Nat.zero_le _,?_,?_⟩
  ·refine dR hI fun o e hc hd=>?_
   exact⟨o,old _ _ e,hc,by rw[hd];simp⟩
  ·refine Zxa hl fun o e r=>?_;exact⟨o,old _ _ e,r⟩
 have hT:Shared.TypeIs { s with heap:=h2 } (.ref I) "list_reverseiterator":=hst.2.1.typeIs
 have h1:Builtin.List.listSameRef (.ref s.heap.objs.size) (.ref I)=false:=if_neg hSI
 unfold Builtin.List.listExtendWith
 refine qa5 (wpAny_typeOf hT ?_)
 rw[if_neg (by rw[h1];decide)]
 refine qa5 (W.self 0 _ _ _ hst ?_)
 refine qa5 (wpAny_holding ?_)
 unfold Builtin.List.listLengthHint
 refine qa5 (wpAny_specialOf hT jiR ?_)
 show wpAny _ _ (specialOf (Value.ref I) (Str.ofString "__length_hint__") >>= _) _ _ _
 refine qa5 (wpAny_specialOf hT jjJ ?_)
 generalize hid:("list_reverseiterator.__length_hint__" : String)=id0
 wp_delta
 rw[show splitId id0=some ("list_reverseiterator","__length_hint__") from by subst hid;decide +kernel]
 subst hid
 refine qa5 (wpAny_isInstance (b:=true) hT (by rw[isSubtype_type];kernel_rfl) ?_)
 refine qa8 ?_
 rw[if_neg (by decide)]
 refine qa8 ⟨plainId_quiet PySem.F.plain_extend_loop _,codeAny_extend_loopS W hsz _ hSf _ items.size 0 _ #[] _ rfl (Nat.zero_le _) hst hS₂ (ItemsOf.nil _) fun s' acc' c' hm hS' hacc=>?_⟩
 rw[Moved.eq_with hm] at hS' ⊢
 refine⟨rfl,hQ s'.heap s'.toks acc' c' (fun b o hb e=>hm.heap b o (fun hmem=>?_) (old b o e)) hS' hacc⟩
 rcases List.mem_cons.mp hmem with e'|hmem
 ·exact absurd (Heap.lt_size e) (by rw[e'];exact Nat.lt_irrefl _)
 ·exact hb (List.mem_singleton.mp hmem)
end
section
variable {c:Cx}{sc:Scope}{lv:Nat}{env:Env}
theorem jc9{M:Model}{A:Around}{E:Value→Shared→Prop}{s:Shared}{f:Value}{e:Expr}{pos:Pos}{R:Args→Shared→Prop}(hs:starEach [e] env=(false,eval e env)::starEach [] env)(h:wpAny M A (eval e env) (fun v s'=>R ⟨[v],[]⟩ s') E s) :
  wpAny M A (PySem.evalArgs f true (backTo pos (starEach [e] env)) []) R E s:=by
 rw[hs]
 refine evalArgs_plain ?_
 show wpAny M A (do let v ←eval e env;let here ←pure [v];return here++(←holding here (PySem.spliced (backTo pos (starEach [] env))))) _ _ _
 refine qa5 (qa6 h (fun v s' z=>?_) fun _ _ z=>z)
 exact qa5 (qa8 (qa5 (wpAny_holding (qa8 (qa8 z)))))
noncomputable def mRev(f:MEx):MEx:=fun σ Q=>f σ fun v σ1=>∃xs,bV σ1.H v=some xs∧newL xs.reverse σ1 Q
theorem jip{n1 n2:Str}{p1 p2 pos pos2:Pos}{e:Expr}{f:MEx}(h1:CE c sc lv (.Name n1 p1) (fi (.type "list")))(h2:CE c sc lv (.Name n2 p2) (fi (.type "reversed")))(h:CE c sc lv e f)
  (hs:∀env,starEach [e] env=(false,eval e env)::starEach [] env:=by intro _;rfl):CE c sc lv (.Call (.Name n1 p1) [.Call (.Name n2 p2) [e] [] pos2] [] pos) (mRev f):=by
 intro env A W Kp σ s Q E he hE hA I q
 refine wpAny_Call_NameR (h1.use (Q:=fun v σ'=>v=.raw (.type "list")∧σ'=σ) he hE hA I ⟨rfl,rfl⟩ fun W1 y σ1 v s1 le1 I1 r1 zp1=>?_)
 refine Za zp1 fun h11 h12=>?_;subst h11 h12
 rw[r1.of_raw]
 refine callWith_of (P:=fun _=>True) rfl (fun hh _=>jbm rfl hh) (jc9 rfl ?_)
 refine wpAny_Call_NameR (h2.use (Q:=fun v σ'=>v=.raw (.type "reversed")∧σ'=σ1) he hE hA I1 ⟨rfl,rfl⟩ fun W2 y2 σ2 v2 s2 le2 I2 r2 zp2=>?_)
 refine Za zp2 fun h21 h22=>?_;subst h21 h22
 rw[r2.of_raw]
 refine callWith_of (P:=fun _=>True) (by rw[hs];rfl) (fun hh _=>jbm rfl hh) (jc9 (hs env) ?_)
 refine h.use he hE hA I2 q fun W3 x σ3 u s3 le3 I3 r3 zp3=>?_
 refine Zxa zp3 fun xs hx qn=>?_;refine⟨trivial,?_⟩;refine bZ (cI I3.inv r3 hx) fun l us n zq1 zq2=>?_;obtain rfl:=zq1;refine Zaa zq2 fun g hus hlen=>?_
 have hll:=hus.length
 have hlt:=Heap.lt_size g
 show wpAny c.M A (PySem.call (.type "reversed") [.ref l]) _ E s3
 refine call_reversed_list (br g) ⟨trivial,?_⟩
 show wpAny c.M A (PySem.call (.type "list") [.ref s3.heap.objs.size]) _ E _
 have I4:=I3.grow (tk:=s3.toks) (h':=s3.heap.push (revObj l ((us.toArray.size:Int) - 1))) fun b o e=>qb2 _ e
 have off:=Offs.one I3
 have hsz:(s3.heap.push (revObj l ((us.toArray.size:Int) - 1))).objs.size=s3.heap.objs.size+1:=Heap.size_push ..
 refine jgs (items:=us.toArray) hA.handled (qa7 hlt) ((br g).push _) ⟨_,Heap.get?_push_size _ rfl,rfl,rfl⟩ (by rw[List.size_toArray,hll,sizeLine_eq];exact Nk1 0 100000 0 16777216 hlen rfl) fun h' tk acc c' k gD hit=>?_
 have hDne:s3.heap.objs.size+1≠s3.heap.objs.size:=Nat.succ_ne_self _
 have I5:=I4.one (tk:=tk) (h':=h') off fun b o hb e=>k b o hb e
 have key:PE c W3 Kp env Q (.ref (s3.heap.objs.size+1)) { s3 with heap:=h',toks:=tk }:=by
  refine PE.adoptL (xs:=xs.reverse) (vs:=acc.toList) (n:=c') I5 (Offs.fresh I3 fun b hb=>by rw[List.mem_singleton.mp hb];exact Nat.le_succ _) (VRs.of_list ?_ fun i v x hv hx'=>?_) qn ?_
  ·have:=hit.1;rw[List.length_reverse,←hll];simpa using this
  ·have hv':=hit.2 i v (by simpa using hv)
   have hilt:i<xs.length:=by have:=(List.getElem?_eq_some_iff.mp hx').1;simpa using this
   rw[List.getElem?_reverse hilt] at hx'
   refine Zxa (hus.get hx') fun w hw rw'=>?_
   rw[List.size_toArray,hll] at hv'
   have e1:us[xs.length - 1 - i]?=some v:=by simpa using hv'
   rw[hw] at e1;obtain rfl:=qa1 e1
   exact rw'
  ·have gD':=gD
   rw[hsz] at gD'
   rw[gD']
 rw[hsz]
 exact key.le ((le1.trans le2).trans le3)
end
end
section
structure jgj(c:Cx)(Ca:Addr)(name:Str)(f:Value):Prop where
 hg:specialIn c.K (.ref Ca) "__getattribute__"=some (some (.builtin "type.__getattribute__"))
 ex:∃mc p rest,readsIn c.K Ca mc=true∧findCls c.K (.ref Ca) mc name=some (.get (.builtin "staticmethod.__get__") (.ref p) .none (.ref Ca))∧recIn c.K p "staticmethod"=some (f::rest)
 hv:handedIn f=true
 hk:keepIn c.K f=true
structure jfJ(c:Cx)(C:Nat)(name:Str)(f:Value):Prop where
 ex:∃cd p rest,clsIn c.K (c.cls C)=some cd∧cd.hasDict=true∧(copiedNames.contains name&&(cd.mro.isEmpty||cd.mro.contains (.type "staticmethod")||cd.mro.contains (.type "classmethod")))=false∧findIn c.K (.ref (c.cls C)) name=some (some (.ref p))∧specialIn c.K (.ref p) "__get__"=some (some (.builtin "staticmethod.__get__"))∧takesIn c.K (.ref p)=some false∧
  (typeIn c.K (.ref p)).any (fun t=>t != .type "function"&&t != .type "method_descriptor"&&t != .type "wrapper_descriptor")=true∧recIn c.K p "staticmethod"=some (f::rest)
 hv:handedIn f=true
 hk:keepIn c.K f=true
section
variable {c:Cx}{sc:Scope}{lv:Nat}
theorem jf1{n x:Str}{np apos pos:Pos}{es:List Expr}{fs:List MEx}{Ca:Addr}{f:Value}{g:List MV→List MV→MEx}(h0:CE c sc lv (.Name n np) (fi (.ref Ca)))(hst:jgj c Ca x f)(hg:FOp c lv f [] g)(h:CEs c sc lv es fs)
  (hc:∀env:Env,∃pl,eval (.Call (.Attribute (.Name n np) x apos) es [] pos) env=(do
   let ov ←eval (.Name n np) env
   standAt apos.atName
   let (f,first) ←holding [ov] (getMethod ov x pl)
   callWith pos f first (backTo pos (starEach es env)) (backToKw pos (keywordEach [] env)))) :
  CE c sc lv (.Call (.Attribute (.Name n np) x apos) es [] pos) (bF g fs []):=by
 intro env A W Kp σ s Q E he hE hA I q
 refine Zx (hc env) fun pl hc=>?_
 obtain⟨hgg,⟨mc,p,rest,hr,hf,hp⟩,hv,hkp⟩:=hst
 refine methodCall_KW (pl:=pl) (h0.use (Q:=fun v σ'=>v=.raw (.ref Ca)∧σ'=σ) he hE hA I ⟨rfl,rfl⟩ fun W1 y σ1 v s1 le1 I1 r1 zp1=>?_) hc
 refine Za zp1 fun h1 h2=>?_;subst h1 h2
 rw[r1.of_raw]
 refine method_cls I1.inv.KIn hgg ?_
 refine cls_bind I1.inv.KIn hr hf (wpAny_call (sm_get (s:={ s1 with toks:=s1.toks+1 }) (I1.tok _).inv.KIn hp (handed_on hv ?_)))
 have I2:=I1.tok (s1.toks+1)
 refine callWith_of (P:=fun h=>c.K.In h) (keywords:=[]) (by rw[(h.plainArgs pos env).1];rfl) (fun hh X=>keeps_K hkp hh X) ?_
 refine h.evalArgs he hE hA I2 q fun W2 vs xs σ2 s2 le2 I3 r2 q2=>⟨I3.inv.KIn,?_⟩
 exact qa6 (hg.call (ks:=[]) (ys:=[]) hE hA I3 r2 .nil rfl q2) (fun _ _ z=>z.le (le1.trans le2)) fun _ _ z=>z
noncomputable def jfS(C n:Nat)(g:List MV→List MV→MEx)(a:MEx)(fs:List MEx):MEx:=fun σ Q=>a σ fun x σ1=>∃t es,x=.tag t∧σ1.H t=some (.inst C es)∧es.lookup n=none∧cr fs σ1 fun xs σ2=>g xs [] σ2 Q
theorem jf0{o:Expr}{x:Str}{apos pos:Pos}{es:List Expr}{fs:List MEx}{a:MEx}{f:Value}{g:List MV→List MV→MEx}(C n:Nat)(hn:c.S n=x)(h0:CE c sc lv o a)(hst:jfJ c C x f)(hg:FOp c lv f [] g)(h:CEs c sc lv es fs)
  (hc:∀env:Env,∃pl,eval (.Call (.Attribute o x apos) es [] pos) env=(do
   let ov ←eval o env
   standAt apos.atName
   let (f,first) ←holding [ov] (getMethod ov x pl)
   callWith pos f first (backTo pos (starEach es env)) (backToKw pos (keywordEach [] env)))) :
  CE c sc lv (.Call (.Attribute o x apos) es [] pos) (jfS C n g a fs):=by
 subst hn
 intro env A W Kp σ s Q E he hE hA I q
 refine Zx (hc env) fun pl hc=>?_
 obtain⟨⟨cd,p,rest,hcd,hdict,hcp,hf,hsp,htk,hty,hp⟩,hv,hkp⟩:=hst
 refine methodCall_KW (pl:=pl) (h0.use he hE hA I q fun W1 y σ1 v s1 le1 I1 r1 zp2=>?_) hc
 refine cG zp2 fun t es' hy ht zq1=>?_;obtain⟨hl,q1⟩:=zq1;subst hy
 refine dh (jci I1.inv r1 ht) fun a' d kvs od zq1 zq2=>?_;obtain rfl:=zq1;refine Zaa zq2 fun ha ho X=>?_
 have Fc:=c.cls_facts X.C4
 have e1:=X.look (c.S n)
 have e2:=X.kv.none hl
 rw[e2] at e1
 have hfo:findObj c.K (c.cls C) (some od) (c.S n)=some (.bind (.builtin "staticmethod.__get__") (.ref p)):=by
  unfold findObj
  rw[hcd,hf]
  simp only[Option.bind_some]
  rw[hsp]
  simp only[Option.bind_some]
  rw[htk]
  simp only[Option.bind_some]
  unfold PySem.W.ownOf
  rw[hdict]
  simp only[if_true]
  rw[e1]
  simp only[Option.bind_some]
  rw[hcp]
  rfl
 refine method_usual (r:=some (.ref p)) I1.inv.KIn X.inst Fc.ga Fc.gat hf (by simpa using hty) ?_
 refine get_bind I1.inv.KIn X.inst Fc.ga hfo Fc.gat (wpAny_call (sm_get (s:={ s1 with toks:=s1.toks+1 }) (I1.tok _).inv.KIn hp (handed_on hv ?_)))
 have I2:=I1.tok (s1.toks+1)
 refine callWith_of (P:=fun h=>c.K.In h) (keywords:=[]) (by rw[(h.plainArgs pos env).1];rfl) (fun hh X=>keeps_K hkp hh X) ?_
 refine h.evalArgs he hE hA I2 q1 fun W2 vs xs σ2 s2 le2 I3 r2 q2=>⟨I3.inv.KIn,?_⟩
 exact qa6 (hg.call (ks:=[]) (ys:=[]) hE hA I3 r2 .nil rfl q2) (fun _ _ z=>z.le (le1.trans le2)) fun _ _ z=>z
end
end
section
noncomputable def jct(t:MT)(b:MS):Nat→MS
 |0=>fun _ _=>False
 |n+1=>fun σ Q=>t σ fun r σ1=>match r with
  |false=>Q .next σ1
  |true=>b σ1 fun f σ2=>match f with
   |.next=>jct t b n σ2 Q
   |.cont=>jct t b n σ2 Q
   |.brk=>Q .next σ2
   |.ret v=>Q (.ret v) σ2
noncomputable def jcX(t:MT)(b:MS):MS:=fun σ Q=>∃n,jct t b n σ Q
section
variable {c:Cx}{sc:Scope}{lv:Nat}
theorem jg3{e:Expr}{body:List Stmt}{pos:Pos}{t:MT}{b:MS}(ht:CT c sc lv e t)(hb:CSs c sc lv body b):CS c sc lv (.While e body [] pos) (jcX t b):=by
 intro env A W Kp σ s Q E he hE hA I zp1;refine Zx zp1 fun n q=>?_
 refine wpAny_While (codeAny_whileLoop (fun n s'=>∃W' σ',W.le W'∧InvF c W' Kp env σ' s'∧jct t b n σ' Q) ?_ n ⟨W,σ,.refl W,I,q⟩)
 intro n s' zp2;refine cG zp2 fun W' σ' le' I' q'=>?_
 cases n with
 |zero=>exact q'.elim
 |succ n=>
  refine ht.use he hE hA I' q' fun W1 σ1 r s1 le1 I1 q1=>?_
  cases r with
  |false=>
   rw[if_neg (by decide)]
   exact wpAny_execs_nil ⟨W1,_,σ1,le'.trans le1,I1,.next,q1⟩
  |true=>
   rw[if_pos rfl]
   refine qa6 (hb env A W1 Kp σ1 s1 _ _ he hE hA I1 q1) (fun f s2 z0=>z0.ex fun W2 g σ2 le2 I2 r2 q2=>?_) fun _ _ z=>z
   cases r2 with
   |next=>exact⟨n,Nat.lt_succ_self _,W2,σ2,(le'.trans le1).trans le2,I2,q2⟩
   |cont=>exact⟨n,Nat.lt_succ_self _,W2,σ2,(le'.trans le1).trans le2,I2,q2⟩
   |brk=>exact⟨W2,_,σ2,(le'.trans le1).trans le2,I2,.next,q2⟩
   |ret r=>exact⟨W2,_,σ2,(le'.trans le1).trans le2,I2,.ret r,q2⟩
end
noncomputable abbrev MX:=AS→(aH→AS→Prop)→(AS→Prop)→Prop
noncomputable def PX(c:Cx)(Ch:Addr)(W:Wd)(Kp:aJ)(env:Env)(X:AS→Prop)(e:Value)(s':Shared):Prop:=
 ∃W' σ' h0 ea vs,e=.ref ea∧W.le W'∧InvF c W' Kp env σ' { s' with heap:=h0 }∧Heap.MadeExcOf h0 s'.heap ea (.ref Ch) vs∧X σ'
theorem PX.le{c:Cx}{Ch:Addr}{W W':Wd}{Kp:aJ}{env:Env}{X:AS→Prop}{e:Value}{s:Shared}(le:W.le W')(x:PX c Ch W' Kp env X e s):PX c Ch W Kp env X e s:=by
 refine Zxx x fun W'' σ zq1=>?_;refine eH zq1 fun h0 ea vs a b d=>?_;exact⟨W'',σ,h0,ea,vs,a,le.trans b,d⟩
noncomputable def CX(c:Cx)(Ch:Addr)(sc:Scope)(lv:Nat)(st:Stmt)(g:MX):Prop:=
 ∀(env:Env)(A:Around)(W:Wd)(Kp:aJ)(σ:AS)(s:Shared)(Q:aH→AS→Prop)(X:AS→Prop)(E:Value→Shared→Prop),
  env.scope=sc→EOK env→AOK c lv A Kp env→InvF c W Kp env σ s→(∀e s',PX c Ch W Kp env X e s'→E e s')→g σ Q X→wpAny c.M A (exec st env) (PS c W Kp env Q) E s
noncomputable def CXs(c:Cx)(Ch:Addr)(sc:Scope)(lv:Nat)(sts:List Stmt)(g:MX):Prop:=
 ∀(env:Env)(A:Around)(W:Wd)(Kp:aJ)(σ:AS)(s:Shared)(Q:aH→AS→Prop)(X:AS→Prop)(E:Value→Shared→Prop),
  env.scope=sc→EOK env→AOK c lv A Kp env→InvF c W Kp env σ s→(∀e s',PX c Ch W Kp env X e s'→E e s')→g σ Q X→wpAny c.M A (execs sts env) (PS c W Kp env Q) E s
noncomputable def CXo(c:Cx)(Ch:Addr)(sc:Scope)(lv:Nat)(st:Stmt)(g:MX):Prop:=
 ∀(env:Env)(A:Around)(W:Wd)(Kp:aJ)(σ:AS)(s:Shared)(Q:aH→AS→Prop)(X:AS→Prop)(E:Value→Shared→Prop),
  env.scope=sc→EOK env→AOK c lv A Kp env→InvF c W Kp env σ s→PassesOwn c.M A env E→(∀e s',PX c Ch W Kp env X e s'→E e s')→g σ Q X→wpAny c.M A (exec st env) (PS c W Kp env Q) E s
noncomputable def CXos(c:Cx)(Ch:Addr)(sc:Scope)(lv:Nat)(sts:List Stmt)(g:MX):Prop:=
 ∀(env:Env)(A:Around)(W:Wd)(Kp:aJ)(σ:AS)(s:Shared)(Q:aH→AS→Prop)(X:AS→Prop)(E:Value→Shared→Prop),
  env.scope=sc→EOK env→AOK c lv A Kp env→InvF c W Kp env σ s→PassesOwn c.M A env E→(∀e s',PX c Ch W Kp env X e s'→E e s')→g σ Q X→wpAny c.M A (execs sts env) (PS c W Kp env Q) E s
noncomputable def xS(f:MS):MX:=fun σ Q X=>f σ Q
noncomputable def fg(a b:MX):MX:=fun σ Q X=>a σ (fun f σ1=>match f with|.next=>b σ1 Q X|.brk=>Q .brk σ1|.cont=>Q .cont σ1|.ret v=>Q (.ret v) σ1) X
noncomputable def xIf(t:MT)(a b:MX):MX:=fun σ Q X=>t σ fun r σ1=>match r with|true=>a σ1 Q X|false=>b σ1 Q X
noncomputable def jfk(f:MEx):MX:=fun σ Q X=>f σ fun v σ1=>X σ1
noncomputable def jdp(t:MT)(b:MX):Nat→MX
 |0=>fun _ _ _=>False
 |n+1=>fun σ Q X=>t σ fun r σ1=>match r with
  |false=>Q .next σ1
  |true=>b σ1 (fun f σ2=>match f with
   |.next=>jdp t b n σ2 Q X
   |.cont=>jdp t b n σ2 Q X
   |.brk=>Q .next σ2
   |.ret v=>Q (.ret v) σ2) X
noncomputable def jir(t:MT)(b:MX):MX:=fun σ Q X=>∃n,jdp t b n σ Q X
section
variable {c:Cx}{Ch:Addr}{sc:Scope}{lv:Nat}
theorem CX_S{st:Stmt}{g:MS}(h:CS c sc lv st g):CX c Ch sc lv st (xS g):=fun env A W Kp σ s Q X E he hE hA I _ q=>h env A W Kp σ s Q E he hE hA I q
theorem jfj{sts:List Stmt}{g:MS}(h:CSs c sc lv sts g):CXs c Ch sc lv sts (xS g):=fun env A W Kp σ s Q X E he hE hA I _ q=>h env A W Kp σ s Q E he hE hA I q
theorem CXo_S{st:Stmt}{g:MS}(h:CS c sc lv st g):CXo c Ch sc lv st (xS g):=fun env A W Kp σ s Q X E he hE hA I _ _ q=>h env A W Kp σ s Q E he hE hA I q
theorem je9{st:Stmt}{rest:List Stmt}{a b:MX}(h:CX c Ch sc lv st a)(t:CXs c Ch sc lv rest b):CXs c Ch sc lv (st::rest) (fg a b):=by
 intro env A W Kp σ s Q X E he hE hA I hX q
 refine wpAny_execs_cons (qa6 (h env A W Kp σ s _ X E he hE hA I hX q) (fun f s1 z0=>z0.ex fun W1 g σ1 le1 I1 r1 q1=>?_) fun _ _ z=>z)
 cases r1 with
 |next=>exact qa6 (t env A W1 Kp σ1 s1 Q X E he hE hA I1 (fun e s' z=>hX e s' (z.le le1)) q1) (fun _ _ z=>z.le le1) fun _ _ z=>z
 |brk=>exact⟨W1,_,σ1,le1,I1,.brk,q1⟩
 |cont=>exact⟨W1,_,σ1,le1,I1,.cont,q1⟩
 |ret h=>exact⟨W1,_,σ1,le1,I1,.ret h,q1⟩
theorem jhP{st:Stmt}{a:MX}(h:CX c Ch sc lv st a):CXs c Ch sc lv [st] a:=by
 intro env A W Kp σ s Q X E he hE hA I hX q
 refine wpAny_execs_cons (qa6 (h env A W Kp σ s _ X E he hE hA I hX q) (fun f s1 z0=>z0.ex fun W1 g σ1 le1 I1 r1 q1=>?_) fun _ _ z=>z)
 cases r1 with
 |next=>exact wpAny_execs_nil ⟨W1,_,σ1,le1,I1,.next,q1⟩
 |brk=>exact⟨W1,_,σ1,le1,I1,.brk,q1⟩
 |cont=>exact⟨W1,_,σ1,le1,I1,.cont,q1⟩
 |ret h=>exact⟨W1,_,σ1,le1,I1,.ret h,q1⟩
theorem jgk{st:Stmt}{rest:List Stmt}{a b:MX}(h:CXo c Ch sc lv st a)(t:CXos c Ch sc lv rest b):CXos c Ch sc lv (st::rest) (fg a b):=by
 intro env A W Kp σ s Q X E he hE hA I hP hX q
 refine wpAny_execs_cons (qa6 (h env A W Kp σ s _ X E he hE hA I hP hX q) (fun f s1 z0=>z0.ex fun W1 g σ1 le1 I1 r1 q1=>?_) fun _ _ z=>z)
 cases r1 with
 |next=>exact qa6 (t env A W1 Kp σ1 s1 Q X E he hE hA I1 hP (fun e s' z=>hX e s' (z.le le1)) q1) (fun _ _ z=>z.le le1) fun _ _ z=>z
 |brk=>exact⟨W1,_,σ1,le1,I1,.brk,q1⟩
 |cont=>exact⟨W1,_,σ1,le1,I1,.cont,q1⟩
 |ret h=>exact⟨W1,_,σ1,le1,I1,.ret h,q1⟩
theorem jjZ:CXos c Ch sc lv [] (xS aE):=fun env A W Kp σ s Q X E he hE hA I _ _ q=>wpAny_execs_nil ⟨W,_,σ,.refl W,I,.next,q⟩
theorem jh1{e:Expr}{b1 b2:List Stmt}{t:MT}{a b:MX}{pos:Pos}(h:CT c sc lv e t)(h1:CXs c Ch sc lv b1 a)(h2:CXs c Ch sc lv b2 b):CX c Ch sc lv (.If e b1 b2 pos) (xIf t a b):=by
 intro env A W Kp σ s Q X E he hE hA I hX q
 refine wpAny_If (h.use he hE hA I q fun W1 σ1 r s1 le1 I1 q1=>?_)
 cases r
 ·exact qa6 (h2 env A W1 Kp σ1 s1 Q X E he hE hA I1 (fun e s' z=>hX e s' (z.le le1)) q1) (fun _ _ z=>z.le le1) fun _ _ z=>z
 ·exact qa6 (h1 env A W1 Kp σ1 s1 Q X E he hE hA I1 (fun e s' z=>hX e s' (z.le le1)) q1) (fun _ _ z=>z.le le1) fun _ _ z=>z
theorem ji6{e:Expr}{body:List Stmt}{pos:Pos}{t:MT}{b:MX}(ht:CT c sc lv e t)(hb:CXs c Ch sc lv body b):CXo c Ch sc lv (.While e body [] pos) (jir t b):=by
 intro env A W Kp σ s Q X E he hE hA I hP hX zp3;refine Zx zp3 fun n q=>?_
 refine wpAny_While (codeAny_whileLoop (fun n s'=>∃W' σ',W.le W'∧InvF c W' Kp env σ' s'∧jdp t b n σ' Q X) ?_ n ⟨W,σ,.refl W,I,q⟩)
 intro n s' zp4;refine cG zp4 fun W' σ' le' I' q'=>?_
 cases n with
 |zero=>exact q'.elim
 |succ n=>
  refine ht.use he hE hA I' q' fun W1 σ1 r s1 le1 I1 q1=>?_
  cases r with
  |false=>
   rw[if_neg (by decide)]
   exact wpAny_execs_nil ⟨W1,_,σ1,le'.trans le1,I1,.next,q1⟩
  |true=>
   rw[if_pos rfl]
   refine qa6 (hb env A W1 Kp σ1 s1 _ X _ he hE hA I1 (fun e s' z=>hP e s' (hX e s' (z.le (le'.trans le1)))) q1) (fun f s2 z0=>z0.ex fun W2 g σ2 le2 I2 r2 q2=>?_) fun _ _ z=>z
   cases r2 with
   |next=>exact⟨n,Nat.lt_succ_self _,W2,σ2,(le'.trans le1).trans le2,I2,q2⟩
   |cont=>exact⟨n,Nat.lt_succ_self _,W2,σ2,(le'.trans le1).trans le2,I2,q2⟩
   |brk=>exact⟨W2,_,σ2,(le'.trans le1).trans le2,I2,.next,q2⟩
   |ret r=>exact⟨W2,_,σ2,(le'.trans le1).trans le2,I2,.ret r,q2⟩
theorem jj0{x:Str}{np cpos pos:Pos}{e0:Expr}{f:MEx}{bm:List Value}{newId B initId:String}(O:OwnCls x Ch bm newId c.mg c.B)(FB:ExcBaseFacts B newId initId bm)(h0:CE c sc lv (.Name x np) (fi (.ref Ch)))(h:CE c sc lv e0 f)
  (hs:∀env,starEach [e0] env=(false,eval e0 env)::starEach [] env:=by intro _;rfl):CX c Ch sc lv (.Raise (some (.Call (.Name x np) [e0] [] cpos)) none pos) (jfk f):=by
 intro env A W Kp σ s Q X E he hE hA I hX q
 refine jdj O.obj fun tl N nm q' bs hdct sn sub zq1=>?_;refine jdj zq1 fun ab col dd k0 k1 k2 k3 k5 zq1=>?_;refine fq zq1 fun mN hC hN hni T=>?_
 refine wpAny_Raise_call_subT (C:=Ch) (nm:=nm) (q:=q') (N:=N) (bs:=bs) (bm:=tl) (hdct:=hdct) (sn:=sn) (sub:=sub) (ab:=ab) (col:=col) (dd:=dd) (k0:=k0) (k1:=k1) (k2:=k2) (k3:=k3) (k5:=k5)
  FB (mN:=mN) (T.hasType FB.hasBase) hA.handled (by rw[hs];rfl) hni ?_
 refine h0.use (Q:=fun v σ'=>v=.raw (.ref Ch)∧σ'=σ) he hE hA I ⟨rfl,rfl⟩ fun W1 y σ1 v s1 le1 I1 r1 zp5=>?_
 refine Za zp5 fun h1 h2=>?_;subst h1 h2
 refine⟨r1.of_raw,jc9 (hs env) (h.use he hE hA I1 q fun W2 y2 σ2 v2 s2 le2 I2 r2 q2=>?_)⟩
 refine⟨rfl,by show 1≤sizeLine;rw[sizeLine_eq];exact qb5 _ _,I2.inv.keeps _ _ hC,hN.keeps I2.inv.keeps,T.keeps I2.inv.keeps,fun h' e hm=>hX _ _ ⟨W2,σ2,s2.heap,e,_,rfl,le1.trans le2,I2,hm,q2⟩⟩
end
end
section
section
variable {c:Cx}{Ch:Addr}{sc:Scope}{lv:Nat}{W W':Wd}{Kp:aJ}{env:Env}{σ:AS}{s:Shared}{A:Around}
theorem InvF.slots{h'':Heap}{tk:Nat}(I:InvF c W Kp env σ s)(Ls:List Addr)(hL:∀b∈Ls,W.own b=none∧W.F b=none∧c.B.get? b=none∧∀o f,Kp b=some (o,f)→f=true)
  (k1:∀b o,b∉Ls→s.heap.get? b=some o→h''.get? b=some o)(k2:∀b∈Ls,∀o,s.heap.get? b=some o→∃o',h''.get? b=some o'∧UpS o o'):InvF c W Kp env σ { s with heap:=h'',toks:=tk }:=by
 have up:∀b o,s.heap.get? b=some o→∃o',h''.get? b=some o'∧UpS o o':=fun b o e=>by
  by_cases hb:b∈Ls
  ·exact k2 b hb o e
  ·exact⟨o,k1 b o hb e,.refl o⟩
 refine⟨⟨I.inv.base,fun a o e=>?_,fun a o e=>k1 a o (fun hm=>by rw[(hL a hm).2.1] at e;exact Xns e) (I.inv.frz a o e),I.inv.kpF,fun t o e=>?_,I.inv.dom,fun a t e=>?_,I.inv.kpOwn,I.inv.fOwn,I.inv.os,I.inv.gens,I.inv.emp,fun a o e=>k1 a o (fun hm=>by rw[(hL a hm).2.2.1] at e;exact Xns e) (I.inv.keepB a o e),I.inv.tab⟩,?_⟩
 ·refine Zxa (I.inv.kept a o e) fun o' g q=>?_
  by_cases hb:a∈Ls
  ·refine Zxa (k2 a hb o' g) fun o2 g2 q2=>?_
   obtain⟨o,f⟩:=o
   have hf:=(hL a hb).2.2.2 o f e
   subst hf
   exact⟨o2,g2,q.1.trans q2,fun z=>Xtf z⟩
  ·exact⟨o',k1 a o' hb g,q⟩
 ·exact(I.inv.objs t o e).frame (.refl W) fun b ob ow g=>k1 b ob (fun hm=>by rw[(hL b hm).1] at ow;exact Xns ow) g
 ·refine Zx (I.inv.old a t e) fun o g=>?_
  exact⟨o,k1 a o (fun hm=>by rw[(hL a hm).1] at e;exact Xns e) g⟩
 ·exact I.fm.moveS (.refl W) (fun b hb=>⟨(I.fm.out b hb).1,(I.fm.out b hb).2.1⟩) fun b o _ g=>up b o g
theorem jek{h:Heap}{as:List Addr}:∀{fr:List Env},(∀e∈fr,e.scope.kind≠.module∧∃L o,e.frame=some L∧h.get? L=some o∧∀vs,o.data≠.fields vs)→(∀e∈fr,∀a,e.frame=some a→a∈as)→h.FunFrames (hideAll h as) fr
 |[],_,_=>trivial
 |e::fr,hx,hin=>by
  refine jiG (hx e qa4) fun h1 L o h2 h3 h4=>?_
  exact⟨h1,⟨L,o,h2,hideAll_none _ (hin e qa4 L h2),h3,h4⟩,jek (fun e' he=>hx e' (qa2 _ he)) fun e' he=>hin e' (qa2 _ he)⟩
noncomputable def PXC(c:Cx)(Ch:Addr)(A:Around)(W:Wd)(Kp:aJ)(env:Env)(m:List (Nat×MV))(X:AS→Prop)(e:Value)(s':Shared):Prop:=
 ∃W' σ' ea base a0 fr,e=.ref ea∧W.le W'∧X σ'∧σ'.m=m∧A.frames=some fr∧Heap.FlyingW base fr ea (.ref Ch) a0 s'.heap∧∀h'' tk,base.StaysIn h''→s'.heap.UpToSlots h''→InvF c W' Kp env σ' { s' with heap:=h'',toks:=tk }
noncomputable def PCX(c:Cx)(Ch:Addr)(A:Around)(W:Wd)(Kp:aJ)(env:Env)(m:List (Nat×MV))(Q:MV→AS→Prop)(X:AS→Prop)(r:Result)(s':Shared):Prop:=match r with
 |.ok (.ret v)=>PE c W Kp env Q v s'
 |.ok _=>False
 |.error e=>PXC c Ch A W Kp env m X e s'
noncomputable abbrev MEX:=List MV→List MV→AS→(MV→AS→Prop)→(AS→Prop)→Prop
noncomputable def FOpX(c:Cx)(Ch:Addr)(lv:Nat)(f:Value)(kn:List Str)(g:MEX):Prop:=
 ∀(env:Env)(A:Around)(W:Wd)(Kp:aJ)(σ:AS)(s:Shared)(Q:MV→AS→Prop)(X:AS→Prop)(vs ks:List Value)(xs ys:List MV),EOK env→AOK c lv A Kp env→InvF c W Kp env σ s→VRs c.S W vs xs→VRs c.S W ks ys→ys.length=kn.length→g xs ys σ Q X→
  codeAny c.M A (.call f ⟨vs,kn.zip ks⟩) (PCX c Ch A W Kp env σ.m Q X) s
noncomputable def xFun(n:Nat)(ps:List Nat)(bm:List MV→List MV→List MV)(body:MX):MEX:=fun xs ys σ Q X=>
 xs.length=n∧body ⟨σ.H,σ.nx,ps.zip (bm xs ys)⟩ (fun fl σ'=>Q (ez fl) ⟨σ'.H,σ'.nx,σ.m⟩) fun σ'=>X ⟨σ'.H,σ'.nx,σ.m⟩
theorem jjX{f:Addr}{kn:List Str}{n:Nat}{ps:List Nat}{bm:List MV→List MV→List MV}{name qual:Str}{params:Arguments}{sts:List Stmt}{sc:Scope}{dV kV doc pm cdv ct oc:Value}{an od:Option Addr}{osl:Array (Option Value)}{body:MX}
  (ho:c.K.lookup f=some ⟨oc,od,.func (fnX name qual params sts sc [] dV kV doc pm an cdv ct),osl⟩)(hcd:codeIn c.K cdv qual=true)
  (hb:Binds c (fnX name qual params sts sc [] dV kV doc pm an cdv ct) n kn ps bm)(hsc:jcf sc=true)(hps:psOK c sc ps)(h:CXos c Ch sc lv sts body) :
  FOpX c Ch (lv+1) (.ref f) kn (xFun n ps bm body):=by
 refine jb4 hsc ?_;clear hsc;intro hk hco hgen hfree
 intro env A W Kp σ s Q X vs ks xs ys hE hA I hv hks hkl zp1;refine Za zp1 fun hn q=>?_
 refine Zxa (hb.go W s vs ks xs ys I.inv.KIn I.inv.emp hv hks hn hkl) fun us hbt hus=>?_
 refine codeAny_call_function (fd:=fnX name qual params sts sc [] dV kV doc pm an cdv ct) (body:=sts) (by have:=hA.depth;show A.depth<1000;exact NB this rfl) (I.inv.KIn _ _ ho) rfl hco hgen rfl (codeRec_of I.inv.KIn hcd) (hbt _ _ _ _ ?_)
 refine wpAny_newFunctionEnv_cells hk (fun p hp=>?_) fun env' he s1 x=>?_
 ·refine Zxa (jaz hp) fun y hy e=>?_
  rw[e]
  exact(hps y hy).imp id fun z=>⟨z,cellsFrom_some _ _ _ (.inl z)⟩
 refine⟨I.inv.lim.keeps x.toInCall.keep,codeAny_func ?_⟩
 refine bt x.done fun h₁ tk zq1 hkeep=>?_;obtain rfl:=zq1
 have hfree':∀y,env'.kindOf (c.S y)≠some .free:=fun y=>by rw[he];exact jaL hfree _
 have hcells':∀y,env'.kindOf (c.S y)=some .cell→∃b,env'.cells.lookup (c.S y)=some b:=fun y hy=>by
  rw[he] at hy ⊢
  exact Option.isSome_iff_exists.mp (cellsFrom_some _ _ _ (.inl hy))
 have I1:InvF c W (KpX c env Kp s.heap) env' ⟨σ.H,σ.nx,ps.zip (bm xs ys)⟩ { s with heap:=h₁,toks:=tk }:=
  ⟨I.enter.grown fun b o _ e=>hkeep b o e,Fm.fresh I x hb.nd hus hfree' hcells'⟩
 have hfrm:env'.frame=some env'.locals:=by rw[he];rfl
 have hkind:env'.scope.kind=.function:=by rw[he];exact hk
 have hA':=hA.deeper (env':=env') I hfrm hkind x.toInCall.fresh
 have hE':EOK env':=by rw[he];exact⟨hk,rfl,rfl,hgen,hco⟩
 have hsc':env'.scope=sc:=by rw[he];rfl
 refine Zxa hA.frames fun fr hfr hh=>?_
 refine Zxa hA'.frames fun fr' hfr' hh'=>?_
 have efr:fr'=env'::fr:=by
  have:(A.deeper env').frames=some (env'::fr):=Around.frames_deeper hfr
  rw[this] at hfr';exact(qa1 hfr').symm
 subst efr
 refine qa6 (h _ _ W _ _ _ _ (fun σ'=>X ⟨σ'.H,σ'.nx,σ.m⟩) _ hsc' hE' hA' I1 PassesOwn.leaving (fun e s2 z=>?_) q) (fun fl s2 z0=>z0.ex fun W2 g σ2 le2 I2 r2 q2=>?_) fun _ _ z=>z
 ·refine Zxx z fun W2 σ2 zq1=>?_;refine bZ zq1 fun h0 ea args zq1 zq2=>?_;obtain rfl:=zq1;refine eS zq2 fun le2 I2 made hx=>?_
  have hin:∀e∈(env'::fr),∀b,e.frame=some b→b∈(env'::fr).filterMap (·.frame):=fun e he b hb=>List.mem_filterMap.mpr ⟨e,he,hb⟩
  have hobj:∀e∈(env'::fr),e.scope.kind≠.module∧∃L o,e.frame=some L∧h0.get? L=some o∧∀vs,o.data≠.fields vs:=fun e he=>by
   refine jez (hh' e he) fun a1 L a2 a3 a4=>?_
   refine⟨a1,L,?_⟩
   rcases a4 with rfl|⟨o,p,nf⟩
   ·refine dR (I2.fm.obj (b:=env'.locals) (.inl rfl)) fun o g _ nf=>?_
    exact⟨o,a2,g,nf⟩
   ·refine Zxa (I2.inv.kept L _ p) fun o' g q'=>?_
    exact⟨o',a2,g,fun vs z=>nf vs (q'.1.data.1.symm.trans z)⟩
  have I3:InvF c W2 Kp env ⟨σ2.H,σ2.nx,σ.m⟩ { s2 with heap:=h0 }:=I.back le2 I2.inv
  refine wpAny_leaves_madeW (base:=hideAll h0 ((env'::fr).filterMap (·.frame))) (Around.frames_deeper hfr) hfrm (fun b o e=>of_hideAll _ e) (jek hobj hin) made fun h' t x1 x2 x3 x4=>?_
  refine⟨W2,⟨σ2.H,σ2.nx,σ.m⟩,ea,_,.ref t,fr,rfl,le2,hx,rfl,hfr,x1,fun h'' tk' st up=>?_⟩
  refine I3.slots (tk:=tk') ((env'::fr).filterMap (·.frame)) (fun b hb=>?_) (fun b o hb e=>st b o (hideAll_get _ e hb)) fun b hb o e=>?_
  ·refine Zxa (List.mem_filterMap.mp hb) fun e he hf=>?_
   rcases List.mem_cons.mp he with rfl|he
   ·rw[hfrm] at hf;cases hf
    refine Zaa (I2.fm.out e.locals (.inl rfl)) fun o1 o2 o3=>?_
    have nf:Kp e.locals=none:=by
     cases q':Kp e.locals with
     |none=>rfl
     |some o'=>rw[I.kpx q'] at o3;exact Xsn o3
    refine⟨o1,o2,?_,fun o f z=>by rw[nf] at z;exact Xns z⟩
    cases q':c.B.get? e.locals with
    |none=>rfl
    |some o'=>rw[I.inv.base _ _ q'] at nf;exact Xsn nf
   ·refine jez (hh e he) fun _ L a2 a3 a4=>?_
    rw[a2] at hf;cases hf
    rcases a4 with rfl|⟨o,p,_⟩
    ·refine Zaa (I3.fm.out env.locals (.inl rfl)) fun o1 o2 o3=>?_
     exact⟨o1,o2,a3,fun o f z=>by rw[o3] at z;exact Xns z⟩
    ·refine⟨I3.inv.kpOwn _ _ p,I3.inv.kpF _ _ p a3,a3,fun o' f z=>?_⟩
     rw[p] at z;cases z;rfl
  ·refine Zxa (List.mem_filterMap.mp hb) fun e' he hf=>?_
   refine jiG (hobj e' he) fun _ L o' a2 a3 nf=>?_
   rw[a2] at hf;cases hf
   have e:h0.get? b=some o:=e
   rw[e] at a3;cases a3
   refine Zx (x4 b o (made.keeps _ _ e) nf) fun sl g1=>?_
   refine Zx (up b _ g1 nf) fun sl2 g2=>?_
   exact⟨_,g2,⟨sl2,rfl⟩⟩
 ·refine⟨W2,ez g,⟨σ2.H,σ2.nx,σ.m⟩,le2,I.back le2 I2.inv,?_,q2⟩
  cases r2 with
  |next=>exact .none
  |brk=>exact .none
  |cont=>exact .none
  |ret r=>exact r
end
end
section
noncomputable def CSF(c:Cx)(sc:Scope)(lv:Nat)(st:Stmt)(g:MS):Prop:=
 ∀(env:Env)(A:Around)(W:Wd)(Kp:aJ)(σ:AS)(s:Shared)(Q:aH→AS→Prop)(E:Value→Shared→Prop)(outer:List Env),
  env.scope=sc→EOK env→AOK c lv A Kp env→A.frames=some (env::outer)→env.frame=some env.locals→InvF c W Kp env σ s→g σ Q→wpAny c.M A (exec st env) (PS c W Kp env Q) E s
noncomputable def CSsF(c:Cx)(sc:Scope)(lv:Nat)(sts:List Stmt)(g:MS):Prop:=
 ∀(env:Env)(A:Around)(W:Wd)(Kp:aJ)(σ:AS)(s:Shared)(Q:aH→AS→Prop)(E:Value→Shared→Prop)(outer:List Env),
  env.scope=sc→EOK env→AOK c lv A Kp env→A.frames=some (env::outer)→env.frame=some env.locals→InvF c W Kp env σ s→g σ Q→wpAny c.M A (execs sts env) (PS c W Kp env Q) E s
section
variable {c:Cx}{Ch:Addr}{sc:Scope}{lv:Nat}
theorem ji8{st:Stmt}{rest:List Stmt}{a b:MS}(h:CSF c sc lv st a)(t:CSs c sc lv rest b):CSsF c sc lv (st::rest) (ao a b):=by
 intro env A W Kp σ s Q E outer he hE hA hF hf I q
 refine wpAny_execs_cons (qa6 (h env A W Kp σ s _ E outer he hE hA hF hf I q) (fun f s1 z0=>z0.ex fun W1 g σ1 le1 I1 r1 q1=>?_) fun _ _ z=>z)
 cases r1 with
 |next=>exact qa6 (t env A W1 Kp σ1 s1 Q E he hE hA I1 q1) (fun _ _ z=>z.le le1) fun _ _ z=>z
 |brk=>exact⟨W1,_,σ1,le1,I1,.brk,q1⟩
 |cont=>exact⟨W1,_,σ1,le1,I1,.cont,q1⟩
 |ret h=>exact⟨W1,_,σ1,le1,I1,.ret h,q1⟩
theorem jjW{f:Addr}{kn:List Str}{n:Nat}{ps:List Nat}{bm:List MV→List MV→List MV}{name qual:Str}{params:Arguments}{sts:List Stmt}{sc:Scope}{dV kV doc pm cdv ct oc:Value}{an od:Option Addr}{osl:Array (Option Value)}{body:MS}
  (ho:c.K.lookup f=some ⟨oc,od,.func (fnX name qual params sts sc [] dV kV doc pm an cdv ct),osl⟩)(hcd:codeIn c.K cdv qual=true)
  (hb:Binds c (fnX name qual params sts sc [] dV kV doc pm an cdv ct) n kn ps bm)(hsc:jcf sc=true)(hps:psOK c sc ps)(h:CSsF c sc lv sts body) :
  FOp c (lv+1) (.ref f) kn (cD n ps bm body):=by
 refine jb4 hsc ?_;clear hsc;intro hk hco hgen hfree
 intro env A W Kp σ s Q E vs ks xs ys hE hA I hv hks hkl zp1;refine Za zp1 fun hn q=>?_
 refine Zxa (hb.go W s vs ks xs ys I.inv.KIn I.inv.emp hv hks hn hkl) fun us hbt hus=>?_
 refine codeAny_call_function (fd:=fnX name qual params sts sc [] dV kV doc pm an cdv ct) (body:=sts) (by have:=hA.depth;show A.depth<1000;exact NB this rfl) (I.inv.KIn _ _ ho) rfl hco hgen rfl (codeRec_of I.inv.KIn hcd) (hbt _ _ _ _ ?_)
 refine wpAny_newFunctionEnv_cells hk (fun p hp=>?_) fun env' he s1 x=>?_
 ·refine Zxa (jaz hp) fun y hy e=>?_
  rw[e]
  exact(hps y hy).imp id fun z=>⟨z,cellsFrom_some _ _ _ (.inl z)⟩
 refine⟨I.inv.lim.keeps x.toInCall.keep,codeAny_func ?_⟩
 refine bt x.done fun h₁ tk zq1 hkeep=>?_;obtain rfl:=zq1
 have hfree':∀y,env'.kindOf (c.S y)≠some .free:=fun y=>by rw[he];exact jaL hfree _
 have hcells':∀y,env'.kindOf (c.S y)=some .cell→∃b,env'.cells.lookup (c.S y)=some b:=fun y hy=>by
  rw[he] at hy ⊢
  exact Option.isSome_iff_exists.mp (cellsFrom_some _ _ _ (.inl hy))
 have I1:InvF c W (KpX c env Kp s.heap) env' ⟨σ.H,σ.nx,ps.zip (bm xs ys)⟩ { s with heap:=h₁,toks:=tk }:=
  ⟨I.enter.grown fun b o _ e=>hkeep b o e,Fm.fresh I x hb.nd hus hfree' hcells'⟩
 have hfrm:env'.frame=some env'.locals:=by rw[he];rfl
 have hkind:env'.scope.kind=.function:=by rw[he];exact hk
 have hA':=hA.deeper (env':=env') I hfrm hkind x.toInCall.fresh
 have hE':EOK env':=by rw[he];exact⟨hk,rfl,rfl,hgen,hco⟩
 have hsc':env'.scope=sc:=by rw[he];rfl
 refine Zxa hA.frames fun fr hfr _=>?_
 refine qa6 (h _ _ W _ _ _ _ _ fr hsc' hE' hA' (Around.frames_deeper hfr) hfrm I1 q) (fun fl s2 z0=>z0.ex fun W2 g σ2 le2 I2 r2 q2=>?_) fun _ _ z=>z
 refine⟨W2,ez g,⟨σ2.H,σ2.nx,σ.m⟩,le2,I.back le2 I2.inv,?_,q2⟩
 cases r2 with
 |next=>exact .none
 |brk=>exact .none
 |cont=>exact .none
 |ret r=>exact r
theorem jil{env:Env}{A:Around}{W:Wd}{Kp:aJ}{σ:AS}{s:Shared}{Q:MV→AS→Prop}{X:AS→Prop}{E:Value→Shared→Prop}{o:Expr}{x:Str}{apos pos:Pos}{es:List Expr}{a:MEx}{fs:List MEx}{g:MEX}(C n:Nat)(hn:c.S n=x)(hm:n∈jch C)(hg:FOpX c Ch lv (.ref (c.fn ((C+1)*1000+n))) [] g)
  (h0:CE c sc lv o a)(h:CEs c sc lv es fs)(he:env.scope=sc)(hE:EOK env)(hA:AOK c lv A Kp env)(I:InvF c W Kp env σ s)
  (hc:∃pl,eval (.Call (.Attribute o x apos) es [] pos) env=(do
   let ov ←eval o env
   standAt apos.atName
   let (f,first) ←holding [ov] (getMethod ov x pl)
   callWith pos f first (backTo pos (starEach es env)) (backToKw pos (keywordEach [] env))))
  (q:a σ fun x σ1=>∃t es,x=.tag t∧σ1.H t=some (.inst C es)∧es.lookup n=none∧cr fs σ1 fun xs σ2=>σ2.m=σ.m∧g (x::xs) [] σ2 Q X)(hX:∀e s',PXC c Ch A W Kp env σ.m X e s'→E e s') :
  wpAny c.M A (eval (.Call (.Attribute o x apos) es [] pos) env) (PE c W Kp env Q) E s:=by
 subst hn
 refine Zx hc fun pl hc=>?_
 refine methodCall_KW (pl:=pl) (h0.use he hE hA I q fun W1 y σ1 v s1 le1 I1 r1 zp2=>?_) hc
 refine cG zp2 fun t es' hy ht zq1=>?_;obtain⟨hl,q1⟩:=zq1;subst hy
 refine dh (jci I1.inv r1 ht) fun a' d kvs od zq1 zq2=>?_;obtain rfl:=zq1;refine Zaa zq2 fun ha ho Xi=>?_
 have Fc:=c.cls_facts Xi.C4
 have hmg:=c.hmeth C n hm
 unfold jc4 at hmg
 simp only[Bool.and_eq_true,beq_iff_eq] at hmg
 refine Za hmg fun zq1 m3=>?_;refine Za zq1 fun m1 m2=>?_
 refine method_fn I1.inv.KIn Xi.inst Fc.ga Fc.gat m1 m3 ?_ ?_
 ·show(lookIn (c.S n) od).map _=_
  have e1:=Xi.look (c.S n)
  have e2:=Xi.kv.none hl
  rw[e1,e2];rfl
 ·have hkp:keepIn c.K (.ref (c.fn ((C+1)*1000+n)))=true:=by
   unfold fnIn at m2;unfold keepIn
   dsimp only
   split at m2
   ·rename_i q;rw[q]
   ·exact Xft m2
  refine callWith_of (P:=fun h=>c.K.In h) (keywords:=[]) (by rw[(h.plainArgs pos env).1];rfl) (fun hh X=>keeps_K hkp hh X) ?_
  refine h.evalArgs he hE hA I1 q1 fun W2 vs xs σ2 s2 le2 I2 r2 zp3=>?_
  refine Za zp3 fun hm2 q2=>?_;refine⟨I2.inv.KIn,?_⟩;refine wpAny_call (codeAny_mono (hg env A W2 Kp σ2 s2 Q X (.ref a'::vs) [] (.tag t::xs) [] hE hA I2 (.cons (r1.mono le2) r2) .nil rfl q2) fun r s' z=>?_)
  cases r with
  |ok fl=>
   cases fl with
   |ret v=>exact PE.le (le1.trans le2) z
   |next=>exact z
   |brk=>exact z
   |cont=>exact z
  |error e=>
   refine jbG z fun W3 σ3 ea base a0 fr h1 zq1=>?_;refine eS zq1 fun h2 h3 h4 h5=>?_
   exact hX e s' ⟨W3,σ3,ea,base,a0,fr,h1,(le1.trans le2).trans h2,h3,h4.trans hm2,h5⟩
noncomputable def sTry(C n x hs:Nat)(a:MEx)(fs:List MEx)(g:MEX):MS:=fun σ Q=>a σ fun u σ1=>∃t es,u=.tag t∧σ1.H t=some (.inst C es)∧es.lookup n=none∧cr fs σ1 fun xs σ2=>σ2.m=σ.m∧g (u::xs) [] σ2 (fun v σ3=>Q .next { σ3 with m:=ar σ3.m x v }) fun σ3=>Q (.ret (.tup [.str hs,.none])) σ3
theorem jkz{nx hx o_x:Str}{np hp apos cpos spos hpos rpos tpos pos p1 p2:Pos}{o:Expr}{es:List Expr}{a:MEx}{fs:List MEx}{g:MEX}{sv:Str}{k1 k2 k3:Nat}{bm:List Value}{newId B initId:String}(C n x hs:Nat)(hn:c.S n=o_x)(hxn:c.S x=nx)(hsn:c.S hs=sv)
  (hk:sc.names.lookup nx=some .local)(hm:n∈jch C)(hg:FOpX c Ch lv (.ref (c.fn ((C+1)*1000+n))) [] g)(h0:CE c sc lv o a)(h:CEs c sc lv es fs)
  (O:OwnCls hx Ch bm newId c.mg c.B)(hbase:bm.contains (.type "BaseException")=true)(hgl:sc.names.lookup hx=some .globalImplicit)(hd:(hx == ("__debug__" : Str))=false)
  (hc:∀env:Env,∃pl,eval (.Call (.Attribute o o_x apos) es [] cpos) env=(do
   let ov ←eval o env
   standAt apos.atName
   let (f,first) ←holding [ov] (getMethod ov o_x pl)
   callWith cpos f first (backTo cpos (starEach es env)) (backToKw cpos (keywordEach [] env)))) :
  CSF c sc lv (.Try [.Assign [.Name nx np] (.Call (.Attribute o o_x apos) es [] cpos) spos] [.ExceptHandler (some (.Name hx hp)) none [.Return (some (.Tuple [.Constant (.str sv) k1 p1,.Constant .none k2 p2] k3 tpos)) rpos] hpos] [] [] pos) (sTry C n x hs a fs g):=by
 subst hxn hsn
 intro env A W Kp σ s Q E outer he hE hA hF hf I q
 refine wpAny_Try_except ?_
 refine wpAny_execs_cons (qa6 (Q:=PS c W Kp env fun f σ'=>match f with|.next=>Q .next σ'|_=>False) ?_ (fun f s1 z0=>z0.ex fun W1 gf σ1 le1 I1 r1 q1=>?_) fun _ _ z=>z)
 ·refine wpAny_Assign_Name (qa6 (jil (X:=fun σ3=>Q (.ret (.tup [.str hs,.none])) σ3) (Q:=fun v σ3=>Q .next { σ3 with m:=ar σ3.m x v }) C n hn hm hg h0 h he hE hA I (hc env) q ?_) (fun v s1 z0=>z0.ex fun W1 mv σ1 le1 I1 r1 q1=>?_) fun _ _ z=>z) rfl
  rotate_left
  ·exact jbF hE I1 r1 (.inl (by subst he;exact hk)) fun s' I'=>⟨W1,_,_,le1,I',.next,q1⟩
  ·intro e s1 zp4;refine jbG zp4 fun W1 σ1 ea base a0 fr zq1 zq2=>?_;obtain rfl:=zq1;obtain⟨le1,q1,em,hfr,hfl,clo⟩:=zq2
   rw[hF] at hfr;obtain rfl:=qa1 hfr
   refine wpAny_looks_onW hF hf hfl fun h₄ hheld₄ up₄=>?_
   refine wpAny_landsW hheld₄ fun h₅ hfl₅ up₅=>?_
   have I5:=clo h₅ s1.toks hfl₅.1 (up₄.trans up₅)
   refine Zxa hfl₅.there fun ob hob hobc=>?_
   refine wpAny_handleBy_cons (codeAny_handlers_test ?_) (by intro q;cases q)
   refine Name_function_global hE.kind (by unfold Env.kindOf;rw[he];exact hgl) (loadGlobal_global (mg:=c.mg) (by rw[hE.globals];exact I5.inv.glob) O.bound ?_) hd
   refine jdj O.obj fun tl N nm q' bs hdct sn sub zq1=>?_;refine jdj zq1 fun ab col dd k0 k1' k2' k3' k5 zq1=>?_;refine fq zq1 fun mN hC hN hni T=>?_
   refine wpAny_excMatches_sub_self (I5.inv.keeps _ _ hC) hob hobc (T.hasType hbase) (codeAny_handlers_suite ?_)
   refine lands_againW hfl₅ fun h₆ hfl₆ up₆=>?_
   have I6:=clo h₆ s1.toks hfl₆.1 ((up₄.trans up₅).trans up₆)
   refine wpAny_execs_cons (wpAny_Return_some (Tuple_ (spliced_more (wpAny_mkText (spliced_more (qa8 (spliced_none ?_)))))))
   refine wpAny_newTuple ?_ (by rw[sizeLine_eq];exact Nlt rfl)
   refine cS (PE.pushT (n:=0) (tk:=s1.toks+1) (Q:=fun v σ'=>v=.tup [.str hs,.none]∧σ'=σ1) (vs:=[.str (c.S hs) s1.toks,.none]) (xs:=[.str hs,.none]) I6 (.cons (.str hs _) (.cons .none .nil)) ⟨(Nle rfl),rfl,rfl⟩) fun W7 mv σ7 le7 I7 r7 q7=>?_
   refine Za q7 fun zq1 zq2=>?_;obtain rfl:=zq1;obtain rfl:=zq2
   exact⟨W7,_,σ7,le1.trans le7,I7,.ret r7,q1⟩
 ·cases r1 with
  |next=>exact wpAny_execs_nil (wpAny_execs_nil ⟨W1,_,σ1,le1,I1,.next,q1⟩)
  |brk=>exact q1.elim
  |cont=>exact q1.elim
  |ret h=>exact q1.elim
end
end
section
theorem jbu{α:Type}{x:Nat}:∀{l r:List (Nat×α)},(l++r).lookup x=(l.lookup x).or (r.lookup x)
 |[],r=>by simp
 |(n,v)::l,r=>by
  rw[List.cons_append,List.lookup_cons,List.lookup_cons]
  cases e:x == n with
  |true=>rfl
  |false=>exact jbu
theorem jfB{α:Type}{x:Nat}{v:α}:∀{l:List (Nat×α)},l.lookup x=some v→(x,v)∈l
 |[],h=>Xns h
 |(n,u)::l,h=>by
  rw[List.lookup_cons] at h
  cases e:x == n with
  |true=>rw[e] at h;obtain rfl:=qa1 h;rw[eq_of_beq e];exact qa4
  |false=>rw[e] at h;exact qa2 _ (jfB h)
theorem jbv{x:Str}:∀{l r:List (Str×Value)},(l++r).lookup x=(l.lookup x).or (r.lookup x)
 |[],r=>by simp
 |(n,v)::l,r=>by
  rw[List.cons_append,List.lookup_cons,List.lookup_cons]
  cases e:x == n with
  |true=>rfl
  |false=>exact jbv
theorem jdl{S:Nat→Str}{x:Nat}(inj:∀i j,S i=S j→i=j):∀{ps:List Nat}{vs:List Value},x∉ps→(cP S ps vs).reverse.lookup (S x)=none
 |[],_,_=>rfl
 |_::_,[],_=>rfl
 |p::ps,v::vs,h=>by
  show(((S p,v)::cP S ps vs).reverse).lookup (S x)=none
  rw[List.reverse_cons,jbv,jdl inj fun hm=>h (qa2 _ hm)]
  have e:(S x == S p)=false:=beq_eq_false_iff_ne.mpr fun q=>h (by rw[inj _ _ q];exact qa4)
  rw[List.lookup_cons,e];rfl
theorem jim(c:Cx){W:Wd}{x:Nat}{v:MV}{ps:List Nat}{vs:List Value}{xs:List MV}(nd:ps.Nodup)(hv:VRs c.S W vs xs):(ps.zip xs).lookup x=some v→∃u,(cP c.S ps vs).reverse.lookup (c.S x)=some u∧VR c.S W u v:=by
 induction hv generalizing ps with
 |nil=>intro h;cases ps<;>exact Xns h
 |@cons v' y vs xs r rs ih=>
  intro h
  cases ps with
  |nil=>exact Xns h
  |cons p ps=>
   refine Za (List.nodup_cons.mp nd) fun h1 h2=>?_
   show ∃u,(((c.S p,v')::cP c.S ps vs).reverse).lookup (c.S x)=some u∧_
   rw[List.reverse_cons,jbv]
   by_cases e:x=p
   ·subst e
    simp at h;subst h
    refine⟨v',?_,r⟩
    rw[jdl c.inj h1]
    simp
   ·rw[List.zip_cons_cons,List.lookup_cons,beq_eq_false_iff_ne.mpr e] at h
    refine Zxa (ih h2 h) fun u hu hr=>?_
    exact⟨u,by rw[hu];rfl,hr⟩
theorem Binds.pos{c:Cx}{fd:FuncData}{n:Nat}{ps:List Nat}(nd:ps.Nodup)(h:∀vs:List Value,vs.length=n→bindArgs fd ⟨vs,[]⟩=pure (cP c.S ps vs)):Binds c fd n [] ps fun xs _=>xs:=
 ⟨nd,fun W s vs ks xs ys _ _ hv _ hn _=>⟨vs,.of_eq (h vs (by rw[hv.length];exact hn)),hv⟩⟩
structure Clo(c:Cx)(W:Wd)(env:Env)(f:Addr)(name:Str)(params:Arguments)(sts:List Stmt)(sc:Scope):Prop where
 made:∃qual doc pm c' ctv oc vs t,W.F f=some (fnMade name qual params sts sc (eV env sc.names) doc pm c' ctv)∧W.F c'=some oc∧oc.data=.fields vs∧vs[1]?=some (.str qual t)
theorem Clo.mono{c:Cx}{W W':Wd}{env:Env}{f:Addr}{name:Str}{params:Arguments}{sts:List Stmt}{sc:Scope}(x:Clo c W env f name params sts sc)(le:W.le W'):Clo c W' env f name params sts sc:=by
 obtain⟨qual,doc,pm,c',ctv,oc,vs,t,h1,h2,h3,h4⟩:=x
 exact⟨qual,doc,pm,c',ctv,oc,vs,t,le.F _ _ h1,le.F _ _ h2,h3,h4⟩
noncomputable def mClo(n:Nat)(ps fs:List Nat)(body:MS):List MV→MEx:=fun xs σ Q=>
 xs.length=n∧body ⟨σ.H,σ.nx,ps.zip xs++db fs σ.m⟩ fun fl σ'=>Q (ez fl) ⟨σ'.H,σ'.nx,σ.m⟩
section
variable {c:Cx}{W:Wd}{Kp:aJ}{env:Env}{σ:AS}{s:Shared}{lv:Nat}{A:Around}
theorem jjP{f:Addr}{name:Str}{params:Arguments}{sts:List Stmt}{sc:Scope}{n:Nat}{ps fs:List Nat}{body:MS}{vs:List Value}{xs:List MV}{Q:MV→AS→Prop}{E:Value→Shared→Prop}
  (X:Clo c W env f name params sts sc)(hE:EOK env)(hA:AOK c (lv+1) A Kp env)(I:InvF c W Kp env σ s)(hv:VRs c.S W vs xs)(ok:CompOK c env.scope sc fs)
  (hb:∀qual cl doc pm cdv ct,Binds c (fnX name qual params sts sc cl .none .none doc pm none cdv ct) n [] ps fun xs _=>xs)(hps:∀p∈ps,sc.names.lookup (c.S p)=some .local)
  (h:CSs c sc lv sts body)(q:mClo n ps fs body xs σ Q):wpAny c.M A (PySem.call (.ref f) vs) (PE c W Kp env Q) E s:=by
 obtain⟨qual,doc,pm,c',ctv,oc,cvs,t,hf,hc,hcd,hcv⟩:=X
 refine Za q fun hn q=>?_
 have B:=hb qual (eV env sc.names) doc pm (.ref c') ctv
 refine Zxa (B.go W s vs [] xs [] I.inv.KIn I.inv.emp hv .nil hn rfl) fun us hbt hus=>?_
 refine wpAny_call (codeAny_mono (R:=PC c W Kp env Q E) ?_ fun r s' z=>by
  cases r with
  |ok fl=>cases fl<;>exact z
  |error e=>exact z)
 refine codeAny_call_def (fd:=fnX name qual params sts sc (eV env sc.names) .none .none doc pm none (.ref c') ctv) (by have:=hA.depth;show A.depth<1000;exact NB this rfl) (I.inv.frz _ _ hf) rfl I.inv.lim ⟨c',oc,cvs,t,rfl,I.inv.frz _ _ hc,hcd,hcv⟩ rfl hbt ok.nocell (fun p hp=>?_) (fun h₁ hns hk₁=>?_) ok.co ok.gen ok.kind
 ·refine Zxa (jaz hp) fun y hy e=>?_
  rw[e];exact hps y hy
 generalize henv:callEnv (fnX name qual params sts sc (eV env sc.names) .none .none doc pm none (.ref c') ctv) s.heap.objs.size f=env'
 have e1:env'.scope=sc:=by rw[←henv];rfl
 have e2:env'.locals=s.heap.objs.size:=by rw[←henv];rfl
 have e3:env'.cells=eV env sc.names:=by rw[←henv];rfl
 have e4:env'.frame=some env'.locals:=by rw[←henv];rfl
 have hkd:∀x,env'.kindOf x=sc.names.lookup x:=fun x=>by rw[←henv];rfl
 have hE':EOK env':=by rw[←henv];exact⟨ok.kind,rfl,rfl,ok.gen,ok.co⟩
 have nocell:∀x,env'.kindOf x≠some .cell:=fun x e=>by
  rw[hkd] at e;exact ok.nocell _ (mem_of_lookup e) rfl
 have onlyfa:∀b,FA c env' b→b=s.heap.objs.size:=fun b hb=>by
  rcases hb with rfl|⟨x,hx,_⟩
  ·exact e2
  ·exact absurd hx (nocell _)
 have outer:∀n∈fs,∃b o,env.cells.lookup (c.S n)=some b∧KpX c env Kp s.heap b=some o:=fun n hn=>by
  rcases ok.out n hn with e|e
  ·refine jfq (I.fm.own n e) fun b u p o g _=>?_
   exact⟨b,(o,true),p,by rw[jfs (.inr ⟨n,e,p⟩),g];rfl⟩
  ·refine bt (I.fm.free n e) fun b o p g=>?_
   exact⟨b,o,p,I.kpx g⟩
 have inFs:∀x,env'.kindOf (c.S x)=some .free→x∈fs:=fun x e=>by
  rw[hkd] at e
  refine Zxa (ok.all _ (mem_of_lookup e) rfl) fun n hn e'=>?_
  rw[←c.inj _ _ e'];exact hn
 have F':Fm c W (KpX c env Kp s.heap) env' (ps.zip xs++db fs σ.m) h₁:=by
  refine⟨fun b hb=>?_,⟨_,by rw[e2];exact hns,fun x v hx hk=>?_⟩,fun x v hx hk=>?_,fun x hk=>absurd hk (nocell _),fun x y b hk=>absurd hk (nocell _),fun x hk=>?_⟩
  ·rw[onlyfa b hb]
   refine⟨I.inv.fresh_own (qa9 _),I.inv.fresh_F (qa9 _),?_⟩
   rw[jds fun hf=>absurd (I.fm.lt hf) (Nat.lt_irrefl _)]
   exact I.inv.fresh_kp (qa9 _)
  ·rw[jbu] at hx
   cases hz:(ps.zip xs).lookup x with
   |some v'=>
    rw[hz] at hx;obtain rfl:=qa1 hx
    exact jim c B.nd hus hz
   |none=>
    rw[hz] at hx
    rw[Option.none_or,jbb] at hx
    split at hx
    ·rename_i hm
     have:=ok.fr x hm
     rw[hkd,this] at hk;cases hk
    ·exact Xns hx
  ·rcases hk with hk|hk
   ·exact absurd hk (nocell _)
   ·have hm:=inFs x hk
    rw[jbu] at hx
    have hz:(ps.zip xs).lookup x=none:=by
     cases hz:(ps.zip xs).lookup x with
     |none=>rfl
     |some v'=>
      have:=hps x (by exact(List.of_mem_zip (jfB hz)).1)
      rw[hkd,this] at hk;cases hk
    rw[hz,Option.none_or,jbb,if_pos hm] at hx
    refine cG (I.fm.cell x v hx (ok.out x hm)) fun b u p zq1 r=>?_;refine Zxa zq1 fun o g hd=>?_
    refine⟨b,u,?_,⟨o,hk₁ _ _ g,hd⟩,r⟩
    rw[e3]
    exact jdB (by rw[hkd] at hk;exact mem_of_lookup hk) p
  ·refine bt (outer x (inFs x hk)) fun b o p g=>?_
   refine⟨b,o,?_,g⟩
   rw[e3]
   exact jdB (by rw[hkd] at hk;exact mem_of_lookup hk) p
 have I1:InvF c W (KpX c env Kp s.heap) env' ⟨σ.H,σ.nx,ps.zip xs++db fs σ.m⟩ { s with heap:=h₁,toks:=s.toks+(cP c.S ps us).length }:=
  ⟨I.enter.grown fun b o _ e=>hk₁ b o e,F'⟩
 have hA':=hA.deeper (env':=env') I e4 (by rw[e1];exact ok.kind) (by rw[e2];exact qa9 _)
 refine qa6 (h env' _ W _ _ _ _ _ e1 hE' hA' I1 q) (fun fl s2 z0=>z0.ex fun W2 g σ2 le2 I2 r2 q2=>?_) fun _ _ z=>z
 refine⟨W2,ez g,⟨σ2.H,σ2.nx,σ.m⟩,le2,I.back le2 I2.inv,?_,q2⟩
 cases r2 with
 |next=>exact .none
 |brk=>exact .none
 |cont=>exact .none
 |ret r=>exact r
theorem wp_def{name:Str}{params:Arguments}{sts:List Stmt}{sc:Scope}{pos:Pos}{x:Nat}{fs:List Nat}{t0:Tag}{cc P:Addr}{ps:Array Value}{Q:Flow→Shared→Prop}{E:Value→Shared→Prop}
  (hE:EOK env)(I:InvF c W Kp env σ s)(hn:c.S x=name)(hk:env.kindOf (c.S x)=some .local)(hcode:env.code=.ref cc)(C:CodeHd c.B cc P)(hH:σ.H t0=some (.obj (tabObj ps) P))(ht:TriplesOk ps.toList)(hnf:codeAmong pos ps.toList=none)
  (hgP:mainGlobals≠P)(hbP:∀h:Heap,(∀b o,c.B.get? b=some o→h.get? b=some o)→h.BuiltinsAt c.mg P)(ok:CompOK c env.scope sc fs)(hd0:params.defaults=[])(hk0:params.kw_defaults=[])(ha:annTrees params none env=[])
  (k:∀W' f c' s',W.le W'→Clo c W' env f name params sts sc→InvF c W' Kp env ⟨ay σ.H t0 (.obj (tabObj (ps++#[rawInt pos.line,rawInt pos.col,.ref c'])) P),σ.nx,ar σ.m x (.raw (.ref f))⟩ s'→Q .next s') :
  wpAny c.M A (exec (.FunctionDef name params sts [] none [] sc none name pos) env) Q E s:=by
 refine Zaa (I.inv.objs _ _ hH) fun hρ how hP=>?_
 have cells:∀y∈sc.names,y.2=.free→∃a,env.cells.lookup y.1=some a:=fun y hy e=>by
  refine Zxa (ok.all y hy e) fun n hn e'=>?_
  rw[←e']
  rcases ok.out n hn with q|q
  ·refine bt (I.fm.own n q) fun b u p _=>?_;exact⟨b,p⟩
  ·refine bt (I.fm.free n q) fun b o p _=>?_;exact⟨b,p⟩
 refine nestDef_K hd0 hk0 ha (makeFunction_K (mg:=c.mg) (jcC cells) hE.globals I.inv.glob hcode (C.keeps I.inv.keepB) hP ht hnf hgP (hbP _ I.inv.keepB) fun c' ctv doc h' tk hx hge hlt hrec htb=>?_)
 refine jbO hrec fun c₂ oc cvs t e2 hoc zq1=>?_;refine Za zq1 fun hcd hcv=>?_
 cases e2
 generalize hfo:fnMade name (qualnameIn env name name) params sts sc (eV env sc.names) doc ((c.mg "__name__").getD .none) c' ctv=fo
 have keep:∀b ob,b≠P→s.heap.get? b=some ob→(h'.push fo).get? b=some ob:=fun b ob hb e=>qb2 _ (hx b ob hb e)
 have gP:(h'.push fo).get? P=some (tabObj (ps++#[rawInt pos.line,rawInt pos.col,.ref c'])):=qb2 _ htb
 have I1:Inv c W Kp (ay σ.H t0 (.obj (tabObj (ps++#[rawInt pos.line,rawInt pos.col,.ref c'])) P)) σ.nx { s with heap:=h'.push fo,toks:=tk }:=I.inv.changedE hH how keep ⟨hρ,how,gP⟩ ⟨_,gP⟩ (by intro _ _ e;cases e;exact⟨_,rfl⟩)
 have hP':∀b,FA c env b∨(Kp b).isSome=true→b≠P:=fun b hb e=>by
  subst e
  rcases hb with hb|hb
  ·rw[(I.fm.out _ hb).1] at how;exact Xns how
  ·refine Zx (Option.isSome_iff_exists.mp hb) fun o e=>?_
   rw[I.inv.kpOwn _ _ e] at how;exact Xns how
 have gc:(h'.push fo).get? c'=some oc:=qb2 _ hoc
 have gf:(h'.push fo).get? h'.objs.size=some fo:=Heap.get?_push_size _ (by rw[←hfo];rfl)
 have hszf:s.heap.objs.size≤h'.objs.size:=qb1 hge (Nat.le_of_lt hlt)
 have I2:=I1.adoptF (a:=c') (o:=oc) ⟨I.inv.fresh_own hge,I.inv.fresh_F hge,I.inv.fresh_kp hge⟩ gc
 have nF:(W.freeze c' oc).F h'.objs.size=none:=by
  show(if h'.objs.size=c' then _ else _)=_
  rw[if_neg (qb4 hlt)];exact I.inv.fresh_F hszf
 have I3:=I2.adoptF (a:=h'.objs.size) (o:=fo) ⟨I.inv.fresh_own hszf,nF,I.inv.fresh_kp hszf⟩ gf
 have le:W.le ((W.freeze c' oc).freeze h'.objs.size fo):=(Wd.le_freeze (I.inv.fresh_F hge)).trans (Wd.le_freeze nF)
 have IF:InvF c ((W.freeze c' oc).freeze h'.objs.size fo) Kp env ⟨ay σ.H t0 (.obj (tabObj (ps++#[rawInt pos.line,rawInt pos.col,.ref c'])) P),σ.nx,σ.m⟩ { s with heap:=h'.push fo,toks:=tk }:=by
  refine⟨I3,I.fm.move le (fun b hb=>⟨(I.fm.out b hb).1,?_⟩) fun b o hb e=>keep b o (hP' b hb) e⟩
  have hlb:=I.fm.lt hb
  show(if b=h'.objs.size then _ else(if b=c' then _ else W.F b))=none
  rw[if_neg (qa7 (Nat.lt_of_lt_of_le hlb hszf)),if_neg (qa7 (Nat.lt_of_lt_of_le hlb hge))]
  exact(I.fm.out b hb).2.1
 subst hn
 refine jbF hE IF (.raw _) (.inl hk) fun s' I'=>k _ _ _ s' le ⟨_,doc,(c.mg "__name__").getD .none,c',ctv,oc,cvs,t,?_,?_,hcd,hcv⟩ I'
 ·show(if h'.objs.size=h'.objs.size then _ else _)=_
  rw[if_pos rfl,hfo]
 ·show(if c'=h'.objs.size then _ else(if c'=c' then _ else _))=_
  rw[if_neg (qa7 hlt),if_pos rfl]
end
noncomputable def CSe(c:Cx)(env:Env)(W0:Wd)(Kp:aJ)(lv:Nat)(st:Stmt)(g:MS):Prop:=
 ∀(A:Around)(W:Wd)(σ:AS)(s:Shared)(Q:aH→AS→Prop)(E:Value→Shared→Prop),W0.le W→EOK env→AOK c lv A Kp env→InvF c W Kp env σ s→g σ Q→wpAny c.M A (exec st env) (PS c W Kp env Q) E s
noncomputable def CSes(c:Cx)(env:Env)(W0:Wd)(Kp:aJ)(lv:Nat)(sts:List Stmt)(g:MS):Prop:=
 ∀(A:Around)(W:Wd)(σ:AS)(s:Shared)(Q:aH→AS→Prop)(E:Value→Shared→Prop),W0.le W→EOK env→AOK c lv A Kp env→InvF c W Kp env σ s→g σ Q→wpAny c.M A (execs sts env) (PS c W Kp env Q) E s
section
variable {c:Cx}{W0:Wd}{Kp:aJ}{env:Env}{lv:Nat}{sc:Scope}
theorem CS.e{st:Stmt}{g:MS}(h:CS c sc lv st g)(he:env.scope=sc):CSe c env W0 Kp lv st g:=fun A W σ s Q E _ hE hA I q=>h env A W Kp σ s Q E he hE hA I q
theorem CSs.e{sts:List Stmt}{g:MS}(h:CSs c sc lv sts g)(he:env.scope=sc):CSes c env W0 Kp lv sts g:=fun A W σ s Q E _ hE hA I q=>h env A W Kp σ s Q E he hE hA I q
theorem jbU{st:Stmt}{rest:List Stmt}{a b:MS}(h:CSe c env W0 Kp lv st a)(t:CSes c env W0 Kp lv rest b):CSes c env W0 Kp lv (st::rest) (ao a b):=by
 intro A W σ s Q E le hE hA I q
 refine wpAny_execs_cons (qa6 (h A W σ s _ E le hE hA I q) (fun f s1 z0=>z0.ex fun W1 g σ1 le1 I1 r1 q1=>?_) fun _ _ z=>z)
 cases r1 with
 |next=>exact qa6 (t A W1 σ1 s1 Q E (le.trans le1) hE hA I1 q1) (fun _ _ z=>z.le le1) fun _ _ z=>z
 |brk=>exact⟨W1,_,σ1,le1,I1,.brk,q1⟩
 |cont=>exact⟨W1,_,σ1,le1,I1,.cont,q1⟩
 |ret h=>exact⟨W1,_,σ1,le1,I1,.ret h,q1⟩
theorem CSe_if{e:Expr}{b1 b2:List Stmt}{t:MT}{a b:MS}{pos:Pos}(he:env.scope=sc)(h:CT c sc lv e t)(h1:CSes c env W0 Kp lv b1 a)(h2:CSes c env W0 Kp lv b2 b):CSe c env W0 Kp lv (.If e b1 b2 pos) (sIf t a b):=by
 intro A W σ s Q E le hE hA I q
 refine wpAny_If (h.use he hE hA I q fun W1 σ1 r s1 le1 I1 q1=>?_)
 cases r
 ·exact qa6 (h2 A W1 σ1 s1 Q E (le.trans le1) hE hA I1 q1) (fun _ _ z=>z.le le1) fun _ _ z=>z
 ·exact qa6 (h1 A W1 σ1 s1 Q E (le.trans le1) hE hA I1 q1) (fun _ _ z=>z.le le1) fun _ _ z=>z
theorem ji'{e:Expr}{body:List Stmt}{pos:Pos}{t:MT}{b:MS}(he:env.scope=sc)(ht:CT c sc lv e t)(hb:CSes c env W0 Kp lv body b):CSe c env W0 Kp lv (.While e body [] pos) (jcX t b):=by
 intro A W σ s Q E le hE hA I zp1;refine Zx zp1 fun n q=>?_
 refine wpAny_While (codeAny_whileLoop (fun n s'=>∃W' σ',W.le W'∧InvF c W' Kp env σ' s'∧jct t b n σ' Q) ?_ n ⟨W,σ,.refl W,I,q⟩)
 intro n s' zp2;refine cG zp2 fun W' σ' le' I' q'=>?_
 cases n with
 |zero=>exact q'.elim
 |succ n=>
  refine ht.use he hE hA I' q' fun W1 σ1 r s1 le1 I1 q1=>?_
  cases r with
  |false=>
   rw[if_neg (by decide)]
   exact wpAny_execs_nil ⟨W1,_,σ1,le'.trans le1,I1,.next,q1⟩
  |true=>
   rw[if_pos rfl]
   refine qa6 (hb A W1 σ1 s1 _ _ ((le.trans le').trans le1) hE hA I1 q1) (fun f s2 z0=>z0.ex fun W2 g σ2 le2 I2 r2 q2=>?_) fun _ _ z=>z
   cases r2 with
   |next=>exact⟨n,Nat.lt_succ_self _,W2,σ2,(le'.trans le1).trans le2,I2,q2⟩
   |cont=>exact⟨n,Nat.lt_succ_self _,W2,σ2,(le'.trans le1).trans le2,I2,q2⟩
   |brk=>exact⟨W2,_,σ2,(le'.trans le1).trans le2,I2,.next,q2⟩
   |ret r=>exact⟨W2,_,σ2,(le'.trans le1).trans le2,I2,.ret r,q2⟩
noncomputable def jdK(y:Nat)(f:Addr)(g:List MV→MEx)(fs:List MEx):MEx:=fun σ Q=>σ.m.lookup y=some (.raw (.ref f))∧cr fs σ fun xs σ1=>g xs σ1 Q
theorem jio{n fnm:Str}{np fp pos pos':Pos}{es:List Expr}{fes:List MEx}(x y:Nat)(hx:c.S x=n)(hy:c.S y=fnm){f:Addr}{name:Str}{params:Arguments}{sts:List Stmt}{sc1:Scope}{k:Nat}{ps fs:List Nat}{body:MS}
  (he:env.scope=sc)(X:Clo c W0 env f name params sts sc1)(hk:sc.names.lookup n=some .local)(hky:sc.names.lookup fnm=some .local)(hd:(fnm == ("__debug__" : Str))=false)(hc:(fnm == ("__classdict__" : Str))=false)(ok:CompOK c sc sc1 fs)
  (hb:∀qual cl doc pm cdv ct,Binds c (fnX name qual params sts sc1 cl .none .none doc pm none cdv ct) k [] ps fun xs _=>xs)(hps:∀p∈ps,sc1.names.lookup (c.S p)=some .local)
  (h:CSs c sc1 lv sts body)(ha:CEs c sc (lv+1) es fes)(hs:∀env,swapsWith (.Call (.Name fnm fp) es [] pos') (some (.Name n np)) pos.line env=pure false:=by intro _;rfl) :
  CSe c env W0 Kp (lv+1) (.Assign [.Name n np] (.Call (.Name fnm fp) es [] pos') pos) (aL x (jdK y f (mClo k ps fs body) fes)):=by
 subst he
 intro A W σ s Q E le hE hA I zp3;refine Za zp3 fun hl q=>?_
 refine wpAny_Assign_Name (wpAny_Call_NameR ((jiK (c:=c) (sc:=env.scope) (lv:=lv+1) y hy (.inl hky) hd hc).use (Q:=fun v σ'=>v=.raw (.ref f)∧σ'=σ) rfl hE hA I ⟨_,hl,rfl,rfl⟩ fun W1 z σ1 v s1 le1 I1 r1 zp4=>?_)) (hs env)
 refine Za zp4 fun h1 h2=>?_;subst h1 h2
 rw[r1.of_raw]
 have X1:∀W',W1.le W'→∀{s':Shared}{σ':AS},InvF c W' Kp env σ' s'→FnAt f s'.heap:=fun W' le' s' σ' I'=>by
  refine Zxx ((X.mono (le.trans (le1.trans le'))).made) fun qual doc zq1=>?_;refine jbG zq1 fun pm c' ctv oc vs t h1 _=>?_
  exact⟨_,_,_,_,I'.inv.frz _ _ h1⟩
 refine callWith_of (P:=FnAt f) (by rw[(ha.plainArgs pos' env).1];rfl) keeps_F ?_
 refine ha.evalArgs rfl hE hA I1 q fun W2 vs xs σ2 s2 le2 I2 r2 q2=>⟨X1 W2 le2 I2,?_⟩
 refine qa6 (jjP (X.mono (le.trans (le1.trans le2))) hE hA I2 r2 ok hb hps h q2) (fun v s3 z0=>z0.ex fun W3 mv σ3 le3 I3 r3 q3=>?_) fun _ _ z=>z
 subst hx
 exact jbF hE I3 r3 (.inl hk) fun s' I'=>⟨W3,_,_,(le1.trans le2).trans le3,I',.next,q3⟩
end
noncomputable def CSsG(c:Cx)(sc:Scope)(lv:Nat)(cdv:Value)(sts:List Stmt)(g:MS):Prop:=
 ∀(env:Env)(A:Around)(W:Wd)(Kp:aJ)(σ:AS)(s:Shared)(Q:aH→AS→Prop)(E:Value→Shared→Prop),
  env.scope=sc→EOK env→env.code=cdv→AOK c lv A Kp env→InvF c W Kp env σ s→g σ Q→wpAny c.M A (execs sts env) (PS c W Kp env Q) E s
noncomputable def sDef(t0:Tag)(x:Nat)(P:Addr)(pos:Pos)(rest:Addr→MS):MS:=fun σ Q=>∃ps,σ.H t0=some (.obj (tabObj ps) P)∧TriplesOk ps.toList∧codeAmong pos ps.toList=none∧
 ∀f c',rest f ⟨ay σ.H t0 (.obj (tabObj (ps++#[rawInt pos.line,rawInt pos.col,.ref c'])) P),σ.nx,ar σ.m x (.raw (.ref f))⟩ Q
section
variable {c:Cx}{sc:Scope}{lv:Nat}
theorem ji7{st:Stmt}{rest:List Stmt}{a b:MS}{cdv:Value}(h:CS c sc lv st a)(t:CSsG c sc lv cdv rest b):CSsG c sc lv cdv (st::rest) (ao a b):=by
 intro env A W Kp σ s Q E he hE hc hA I q
 refine wpAny_execs_cons (qa6 (h env A W Kp σ s _ E he hE hA I q) (fun f s1 z0=>z0.ex fun W1 g σ1 le1 I1 r1 q1=>?_) fun _ _ z=>z)
 cases r1 with
 |next=>exact qa6 (t env A W1 Kp σ1 s1 Q E he hE hc hA I1 q1) (fun _ _ z=>z.le le1) fun _ _ z=>z
 |brk=>exact⟨W1,_,σ1,le1,I1,.brk,q1⟩
 |cont=>exact⟨W1,_,σ1,le1,I1,.cont,q1⟩
 |ret h=>exact⟨W1,_,σ1,le1,I1,.ret h,q1⟩
theorem jj1{name:Str}{params:Arguments}{sts:List Stmt}{sc1:Scope}{pos:Pos}{rest:List Stmt}{x:Nat}{fs:List Nat}{t0:Tag}{cc P:Addr}{b:Addr→MS}
  (hn:c.S x=name)(hk:sc.names.lookup name=some .local)(C:CodeHd c.B cc P)(hgP:mainGlobals≠P)(hb:∀h:Heap,(∀b o,c.B.get? b=some o→h.get? b=some o)→h.BuiltinsAt c.mg P)
  (ok:CompOK c sc sc1 fs)(hd0:params.defaults=[])(hk0:params.kw_defaults=[])(ha:∀env,annTrees params none env=[])
  (h:∀f env W0 Kp,Clo c W0 env f name params sts sc1→env.scope=sc→CSes c env W0 Kp lv rest (b f)):CSsG c sc lv (.ref cc) (.FunctionDef name params sts [] none [] sc1 none name pos::rest) (sDef t0 x P pos b):=by
 intro env A W Kp σ s Q E he hE hc hA I zp5;refine fq zp5 fun ps hH ht hnf q=>?_
 subst he
 refine wpAny_execs_cons (wp_def hE I hn (by rw[hn];exact hk) hc C hH ht hnf hgP hb ok hd0 hk0 (ha env) fun W1 f c' s1 le1 X I1=>?_)
 exact qa6 (h f env W1 Kp X rfl A W1 _ s1 Q E (.refl W1) hE hA I1 (q f c')) (fun _ _ z=>z.le le1) fun _ _ z=>z
theorem jjV{f:Addr}{kn:List Str}{n:Nat}{ps:List Nat}{bm:List MV→List MV→List MV}{name qual:Str}{params:Arguments}{sts:List Stmt}{sc:Scope}{dV kV doc pm cdv ct oc:Value}{an od:Option Addr}{osl:Array (Option Value)}{body:MS}
  (ho:c.K.lookup f=some ⟨oc,od,.func (fnX name qual params sts sc [] dV kV doc pm an cdv ct),osl⟩)(hcd:codeIn c.K cdv qual=true)
  (hb:Binds c (fnX name qual params sts sc [] dV kV doc pm an cdv ct) n kn ps bm)(hsc:jcf sc=true)(hps:psOK c sc ps)(h:CSsG c sc lv cdv sts body) :
  FOp c (lv+1) (.ref f) kn (cD n ps bm body):=by
 refine jb4 hsc ?_;clear hsc;intro hk hco hgen hfree
 intro env A W Kp σ s Q E vs ks xs ys hE hA I hv hks hkl zp6;refine Za zp6 fun hn q=>?_
 refine Zxa (hb.go W s vs ks xs ys I.inv.KIn I.inv.emp hv hks hn hkl) fun us hbt hus=>?_
 refine codeAny_call_function (fd:=fnX name qual params sts sc [] dV kV doc pm an cdv ct) (body:=sts) (by have:=hA.depth;show A.depth<1000;exact NB this rfl) (I.inv.KIn _ _ ho) rfl hco hgen rfl (codeRec_of I.inv.KIn hcd) (hbt _ _ _ _ ?_)
 refine wpAny_newFunctionEnv_cells hk (fun p hp=>?_) fun env' he s1 x=>?_
 ·refine Zxa (jaz hp) fun y hy e=>?_
  rw[e]
  exact(hps y hy).imp id fun z=>⟨z,cellsFrom_some _ _ _ (.inl z)⟩
 refine⟨I.inv.lim.keeps x.toInCall.keep,codeAny_func ?_⟩
 refine bt x.done fun h₁ tk zq1 hkeep=>?_;obtain rfl:=zq1
 have hfree':∀y,env'.kindOf (c.S y)≠some .free:=fun y=>by rw[he];exact jaL hfree _
 have hcells':∀y,env'.kindOf (c.S y)=some .cell→∃b,env'.cells.lookup (c.S y)=some b:=fun y hy=>by
  rw[he] at hy ⊢
  exact Option.isSome_iff_exists.mp (cellsFrom_some _ _ _ (.inl hy))
 have I1:InvF c W (KpX c env Kp s.heap) env' ⟨σ.H,σ.nx,ps.zip (bm xs ys)⟩ { s with heap:=h₁,toks:=tk }:=
  ⟨I.enter.grown fun b o _ e=>hkeep b o e,Fm.fresh I x hb.nd hus hfree' hcells'⟩
 have hfrm:env'.frame=some env'.locals:=by rw[he];rfl
 have hkind:env'.scope.kind=.function:=by rw[he];exact hk
 have hA':=hA.deeper (env':=env') I hfrm hkind x.toInCall.fresh
 have hE':EOK env':=by rw[he];exact⟨hk,rfl,rfl,hgen,hco⟩
 refine qa6 (h _ _ W _ _ _ _ _ (by rw[he];rfl) hE' (by rw[he];rfl) hA' I1 q) (fun fl s2 z0=>z0.ex fun W2 g σ2 le2 I2 r2 q2=>?_) fun _ _ z=>z
 refine⟨W2,ez g,⟨σ2.H,σ2.nx,σ.m⟩,le2,I.back le2 I2.inv,?_,q2⟩
 cases r2 with
 |next=>exact .none
 |brk=>exact .none
 |cont=>exact .none
 |ret r=>exact r
end
end
section
theorem bL{c:Cx}:([]:List Nat).map c.S=[]:=rfl
theorem jkk{c:Cx}{f:Nat}{fs:List Nat}{n:Str}{ns:List Str}(h:c.S f=n)(t:fs.map c.S=ns):(f::fs).map c.S=n::ns:=by rw[List.map_cons,h,t]
noncomputable def jhY(sc scope:Scope)(ns:List Str):Bool:=
 (scope.kind matches .function)&&!scope.isGenerator&&!scope.isCoroutine&&scope.names.all (fun x=>!(x.2 == .cell))&&scope.names.all (fun x=>!(x.2 == .local)||scope.names.lookup x.1 == some .local)&&
 ns.all (fun n=>scope.names.lookup n == some .free)&&scope.names.all (fun x=>!(x.2 == .free)||ns.contains x.1)&&ns.all fun n=>sc.names.lookup n == some .cell||sc.names.lookup n == some .free
theorem CompOK.of{c:Cx}{sc scope:Scope}{fs:List Nat}{ns:List Str}(h:fs.map c.S=ns)(hb:jhY sc scope ns=true):CompOK c sc scope fs:=by
 subst h
 unfold jhY at hb
 simp only[Bool.and_eq_true,Bool.not_eq_true',List.all_eq_true,Bool.or_eq_true,List.mem_map,beq_iff_eq,beq_eq_false_iff_ne,List.contains_iff_mem] at hb
 refine Za hb ?_;clear hb;intro zq1 h8;refine Za zq1 ?_;clear zq1;intro zq1 h7;obtain⟨⟨⟨⟨⟨h1,h2⟩,h3⟩,h4⟩,h5⟩,h6⟩:=zq1
 refine⟨?_,h2,h3,h4,fun x hx e=>(h5 x hx).resolve_left fun q=>q e,fun n hn=>h6 _ ⟨n,hn,rfl⟩,fun x hx e=>?_,fun n hn=>h8 _ ⟨n,hn,rfl⟩⟩
 ·generalize scope.kind=k at h1
  cases k<;>first|rfl|exact Xft h1
 ·rcases h7 x hx with q|q
  ·exact absurd e q
  ·exact q
theorem psL.of{c:Cx}{sc:Scope}{ps:List Nat}{ns:List Str}(h:ps.map c.S=ns)(hb:(ns.all fun n=>sc.names.lookup n == some .local)=true):∀p∈ps,sc.names.lookup (c.S p)=some .local:=by
 subst h
 intro p hp
 simp only[List.all_eq_true,List.mem_map,beq_iff_eq] at hb
 exact hb _ ⟨p,hp,rfl⟩
theorem jaP{α:Type}{l:List α}{n:Nat}(h:l.length=n+1):∃a t,l=a::t∧t.length=n:=by
 cases l with
 |nil=>cases h
 |cons a t=>exact⟨a,t,rfl,Nat.succ.inj h⟩
section
variable {α β:Type}{R:α→β→Prop}{vs:List α}{xs:List β}
theorem All2.l0(h:All2 R vs xs)(e:xs.length=0):vs=[]∧xs=[]:=by
 cases h with
 |nil=>exact⟨rfl,rfl⟩
 |cons _ _=>cases e
theorem All2.ls{n:Nat}(h:All2 R vs xs)(e:xs.length=n+1):∃a x vt xt,vs=a::vt∧xs=x::xt∧R a x∧All2 R vt xt∧xt.length=n:=by
 cases h with
 |nil=>cases e
 |cons r t=>exact⟨_,_,_,_,rfl,rfl,r,t,Nat.succ.inj e⟩
theorem All2.l1(h:All2 R vs xs)(e:xs.length=1):∃a x,vs=[a]∧xs=[x]∧R a x:=by
 refine dh (h.ls e) fun a x vt xt zq1 zq2=>?_;obtain rfl:=zq1;refine Za zq2 ?_;clear zq2;intro zq1 zq2;obtain rfl:=zq1;refine Zaa zq2 ?_;clear zq2;intro r t e
 refine Za (t.l0 e) fun zq1 zq2=>?_;obtain rfl:=zq1;obtain rfl:=zq2
 exact⟨a,x,rfl,rfl,r⟩
theorem All2.l2(h:All2 R vs xs)(e:xs.length=2):∃a b x y,vs=[a,b]∧xs=[x,y]∧R a x∧R b y:=by
 refine dh (h.ls e) fun a x vt xt zq1 zq2=>?_;obtain rfl:=zq1;refine Za zq2 ?_;clear zq2;intro zq1 zq2;obtain rfl:=zq1;refine Zaa zq2 ?_;clear zq2;intro r t e
 refine bt (t.l1 e) fun b y zq1 zq2=>?_;obtain rfl:=zq1;refine Za zq2 ?_;clear zq2;intro zq1 q;obtain rfl:=zq1
 exact⟨_,_,_,_,rfl,rfl,r,q⟩
theorem All2.l3(h:All2 R vs xs)(e:xs.length=3):∃a b d x y z,vs=[a,b,d]∧xs=[x,y,z]∧R a x∧R b y∧R d z:=by
 refine dh (h.ls e) fun a x vt xt zq1 zq2=>?_;obtain rfl:=zq1;refine Za zq2 ?_;clear zq2;intro zq1 zq2;obtain rfl:=zq1;refine Zaa zq2 ?_;clear zq2;intro r t e
 refine dh (t.l2 e) fun b d y z zq1 zq2=>?_;obtain rfl:=zq1;refine Za zq2 ?_;clear zq2;intro zq1 q;obtain rfl:=zq1
 exact⟨_,_,_,_,_,_,rfl,rfl,r,q⟩
end
section
variable {c:Cx}{fd:FuncData}{ps:List Nat}{ns:List Str}
theorem Binds.p0(h:bindArgs fd ⟨[],[]⟩=pure []):Binds c fd 0 [] [] fun xs _=>xs:=
 .pos .nil fun vs hv=>by cases vs with
  |nil=>exact h
  |cons=>cases hv
theorem Binds.p1(nd:ps.Nodup)(hs:ps.map c.S=ns)(h:∀a,bindArgs fd ⟨[a],[]⟩=pure (ns.zip [a])):Binds c fd 1 [] ps fun xs _=>xs:=
 .pos nd fun vs hv=>by
  unfold cP;rw[hs]
  refine bt (jaP hv) fun a t zq1 h0=>?_;obtain rfl:=zq1
  cases List.length_eq_zero_iff.mp h0
  exact h a
theorem Binds.p2(nd:ps.Nodup)(hs:ps.map c.S=ns)(h:∀a b,bindArgs fd ⟨[a,b],[]⟩=pure (ns.zip [a,b])):Binds c fd 2 [] ps fun xs _=>xs:=
 .pos nd fun vs hv=>by
  unfold cP;rw[hs]
  refine bt (jaP hv) fun a t zq1 h0=>?_;obtain rfl:=zq1
  refine bt (jaP h0) fun b t zq1 h1=>?_;obtain rfl:=zq1
  cases List.length_eq_zero_iff.mp h1
  exact h a b
theorem Binds.p3(nd:ps.Nodup)(hs:ps.map c.S=ns)(h:∀a b d,bindArgs fd ⟨[a,b,d],[]⟩=pure (ns.zip [a,b,d])):Binds c fd 3 [] ps fun xs _=>xs:=
 .pos nd fun vs hv=>by
  unfold cP;rw[hs]
  refine bt (jaP hv) fun a t zq1 h0=>?_;obtain rfl:=zq1
  refine bt (jaP h0) fun b t zq1 h1=>?_;obtain rfl:=zq1
  refine bt (jaP h1) fun d t zq1 h2=>?_;obtain rfl:=zq1
  cases List.length_eq_zero_iff.mp h2
  exact h a b d
theorem Binds.p4(nd:ps.Nodup)(hs:ps.map c.S=ns)(h:∀a b d e,bindArgs fd ⟨[a,b,d,e],[]⟩=pure (ns.zip [a,b,d,e])):Binds c fd 4 [] ps fun xs _=>xs:=
 .pos nd fun vs hv=>by
  unfold cP;rw[hs]
  refine bt (jaP hv) fun a t zq1 h0=>?_;obtain rfl:=zq1
  refine bt (jaP h0) fun b t zq1 h1=>?_;obtain rfl:=zq1
  refine bt (jaP h1) fun d t zq1 h2=>?_;obtain rfl:=zq1
  refine bt (jaP h2) fun e t zq1 h3=>?_;obtain rfl:=zq1
  cases List.length_eq_zero_iff.mp h3
  exact h a b d e
end
theorem jj2{c:Cx}{sc:Scope}{lv:Nat}{n:Str}{pos:Pos}{a:Addr}{vs:List Value}{k:Nat}{xs:List MV}(hk:sc.names.lookup n=some .globalImplicit)(hg:nsIn c.K mainGlobals n=some (some (.ref a)))(hd:(n == ("__debug__" : Str))=false)(ho:c.K.lookup a=some (bS vs k))
  (hv:∀W,VRs c.S W vs xs)(hl:xs.length≤100000):CE c sc lv (.Name n pos) (ah (.lst xs)):=by
 intro env A W Kp σ s Q E he hE hA I q
 subst he
 refine Name_function_global hE.kind hk (loadGlobal_global (mg:=c.mg) (by rw[hE.globals];exact I.inv.glob) (mg_of c.X c.G hg) ?_) hd
 exact PE.here I (.lst (I.inv.emp _ _ (c.X _ _ ho) rfl) (hv W) hl) q
end
theorem Fm.fresh0{c:Cx}{W:Wd}{Kp:aJ}{H:Tag→Option MObj}{nx:Nat}{s s':Shared}{env':Env}{ps:List Nat}{vs:List Value}{xs:List MV}(I:Inv c W Kp H nx s)(x:InCallC s env'.locals (bindL env'.kindOf (cP c.S ps vs) fun _=>none) env'.cells (bindC env'.kindOf (cP c.S ps vs) fun _=>none) s')
  (nd:ps.Nodup)(hv:VRs c.S W vs xs)(hnf:∀x,env'.kindOf (c.S x)≠some .free)(hcell:∀x,env'.kindOf (c.S x)=some .cell→∃b,env'.cells.lookup (c.S x)=some b) :
  Fm c W Kp env' (ps.zip xs) s'.heap:=by
 have hlo:∀b,FA c env' b→s.heap.objs.size≤b:=fun b hb=>by
  rcases hb with rfl|⟨n,_,hl⟩
  ·exact x.toInCall.fresh
  ·exact qb1 x.toInCall.fresh (Nat.le_of_lt (x.above _ _ (mem_of_lookup hl)))
 refine⟨fun b hb=>⟨I.fresh_own (hlo b hb),I.fresh_F (hlo b hb),I.fresh_kp (hlo b hb)⟩,⟨_,x.toInCall.ns,fun n v h hk=>jg0 c nd hv h hk⟩,fun n v h hk=>?_,fun n hk=>?_,fun n n' b hn hn' hl hl'=>?_,fun n hn=>absurd hn (hnf n)⟩
 ·rcases hk with hk|hk
  ·refine Zx (hcell n hk) fun b hl=>?_
   refine Zxa (jg1 c nd hv (mm:=fun _=>none) h hk) fun u hu r=>?_
   exact⟨b,u,hl,by rw[←hu];exact x.cell _ _ hl,r⟩
  ·exact absurd hk (hnf n)
 ·refine Zx (hcell n hk) fun b hl=>?_
  exact⟨b,_,hl,x.cell _ _ hl⟩
 ·exact c.inj _ _ (name_of_addr x.apart (mem_of_lookup hl) (mem_of_lookup hl'))
noncomputable def PTop(c:Cx)(W:Wd)(Kp:aJ)(Q:MV→AS→Prop)(r:Result)(s':Shared):Prop:=match r with
 |.ok (.ret v)=>∃W' y σ',W.le W'∧Inv c W' Kp σ'.H σ'.nx s'∧VR c.S W' v y∧Q y σ'
 |_=>False
noncomputable def FTop(c:Cx)(f:Value)(kn:List Str)(g:List MV→List MV→MEx):Prop:=
 ∀(W:Wd)(Kp:aJ)(H:Tag→Option MObj)(nx:Nat)(s:Shared)(Q:MV→AS→Prop)(vs ks:List Value)(xs ys:List MV),Inv c W Kp H nx s→VRs c.S W vs xs→VRs c.S W ks ys→ys.length=kn.length→g xs ys ⟨H,nx,[]⟩ Q→
  codeAny c.M callerA (.call f ⟨vs,kn.zip ks⟩) (PTop c W Kp Q) s
theorem jjU{c:Cx}{f:Addr}{kn:List Str}{n:Nat}{ps:List Nat}{bm:List MV→List MV→List MV}{name qual:Str}{params:Arguments}{sts:List Stmt}{sc:Scope}{dV kV doc pm cdv ct oc:Value}{an od:Option Addr}{osl:Array (Option Value)}{body:MS}
  (ho:c.K.lookup f=some ⟨oc,od,.func (fnX name qual params sts sc [] dV kV doc pm an cdv ct),osl⟩)(hcd:codeIn c.K cdv qual=true)
  (hb:Binds c (fnX name qual params sts sc [] dV kV doc pm an cdv ct) n kn ps bm)(hsc:jcf sc=true)(hps:psOK c sc ps)(h:CSs c sc 7 sts body) :
  FTop c (.ref f) kn (cD n ps bm body):=by
 refine jb4 hsc ?_;clear hsc;intro hk hco hgen hfree
 intro W Kp H nx s Q vs ks xs ys I hv hks hkl zp1;refine Za zp1 fun hn q=>?_
 refine Zxa (hb.go W s vs ks xs ys I.KIn I.emp hv hks hn hkl) fun us hbt hus=>?_
 refine codeAny_call_function (fd:=fnX name qual params sts sc [] dV kV doc pm an cdv ct) (body:=sts) (by decide) (I.KIn _ _ ho) rfl hco hgen rfl (codeRec_of I.KIn hcd) (hbt _ _ _ _ ?_)
 refine wpAny_newFunctionEnv_cells hk (fun p hp=>?_) fun env' he s1 x=>?_
 ·refine Zxa (jaz hp) fun y hy e=>?_
  rw[e]
  exact(hps y hy).imp id fun z=>⟨z,cellsFrom_some _ _ _ (.inl z)⟩
 subst he
 refine⟨I.lim.keeps x.toInCall.keep,codeAny_func ?_⟩
 refine bt x.done fun h₁ tk zq1 hkeep=>?_;obtain rfl:=zq1
 have I1:InvF c W Kp (newEnv sc s.heap.objs.size mainGlobals (cellsFrom (s.heap.objs.size+1) sc.names []) (qual++".<locals>.") (some f) cdv none builtinsNs) ⟨H,nx,ps.zip (bm xs ys)⟩ { s with heap:=h₁,toks:=tk }:=
  ⟨I.grown fun b o _ e=>hkeep b o e,Fm.fresh0 I x hb.nd hus (fun y=>jaL hfree _) fun y hy=>Option.isSome_iff_exists.mp (cellsFrom_some _ _ _ (.inl hy))⟩
 refine qa6 (h _ _ W _ _ _ _ _ rfl ⟨hk,rfl,rfl,hgen,hco⟩ ⟨(by decide:1+300+1+8*7<900),(by decide:4+3+40*7<9000),rfl,_,rfl,fun e he=>?_⟩ I1 q) (fun fl s2 z0=>z0.ex fun W2 g σ2 le2 I2 r2 q2=>?_) fun _ _ z=>z
 ·cases List.mem_singleton.mp he
  refine⟨by show sc.kind≠_;rw[hk];decide,_,rfl,?_,.inl rfl⟩
  show c.B.get? s.heap.objs.size=none
  cases z:c.B.get? s.heap.objs.size with
  |none=>rfl
  |some o=>exact absurd (Heap.lt_size (I.keeps _ _ z)) (Nat.lt_irrefl _)
 refine⟨W2,ez g,⟨σ2.H,σ2.nx,[]⟩,le2,I2.inv,?_,q2⟩
 cases r2 with
 |next=>exact .none
 |brk=>exact .none
 |cont=>exact .none
 |ret r=>exact r
section
noncomputable def cF:List MV:=(List.range 8).map .str
noncomputable def eT(m n:Nat):Option Bool:=if (m == 44||m == 45)&&decide (n<8) then some false else none
noncomputable def nth{α:Type}:List α→Nat→Option α
 |[],_=>none
 |a::_,0=>some a
 |_::l,n+1=>nth l n
noncomputable def jhT(i j:Nat):Option Stmt:=match nth PySem.Challenge.pw_ac0010_01.main.body i with
 |some (.ClassDef _ _ _ b _ _ _ _ _ _ _)=>nth b (j - 1)
 |r=>r
noncomputable def stF{α:Type}(s:Option Stmt)(k:Str→Arguments→List Stmt→Scope→α)(d:α):α:=match s with
 |some (.FunctionDef name params body _ _ _ sc _ _ _)=>k name params body sc
 |_=>d
noncomputable def fnOK(K:Frag)(e:Nat×Nat×Nat×String×Value×Nat):Prop:=stF (jhT e.2.1 e.2.2.1) (fun name params body sc=>∃(oc:Value)(od:Option Addr)(osl:Array (Option Value))(doc pm:Value)(an:Option Addr)(ct:Value),
   K.lookup e.1=some ⟨oc,od,.func (fnX name (Str.ofString e.2.2.2.1) params body sc [] e.2.2.2.2.1 .none doc pm an (.ref e.2.2.2.2.2) ct),osl⟩∧codeIn K (.ref e.2.2.2.2.2) (Str.ofString e.2.2.2.1)=true) False
noncomputable def fnL:List (Nat×Nat×Nat×String×Value×Nat):=[(179,9,7,"Task._expand_calc_dep",.none,178),(165,9,5,"Task._expand_file_dep",.none,164),(172,9,6,"Task._expand_task_dep",.none,171),(144,9,2,"Task._init_deps",.none,143),(151,9,3,"Task._init_targets",.none,150),(158,9,4,"Task._init_uptodate",.none,157),(137,9,1,"Task.__init__",.ref 130,136),(310,14,2,"TaskControl._check_dep_names",.none,309),(327,14,4,"TaskControl.add_implicit_task_dep",.none,326),(317,14,3,"TaskControl.set_implicit_deps",.none,316),(303,14,1,"TaskControl.__init__",.none,302),(201,9,10,"Task.init_options",.ref 194,200),(344,14,6,"TaskControl._process_filter",.none,343),(351,14,7,"TaskControl._filter_tasks",.none,350),(358,14,8,"TaskControl.process",.none,357),(414,16,1,"TaskDispatcher.__init__",.none,413),(365,14,9,"TaskControl.task_dispatcher",.none,364),(541,28,0,"_law_dispatcher",.none,540),(498,21,0,"_law_is_run",.none,497),(531,26,0,"_law_ends",.none,530),(510,23,0,"_law_free",.none,509),(386,15,1,"ExecNode.__init__",.none,385),(421,16,2,"TaskDispatcher._gen_node",.none,420),(428,16,3,"TaskDispatcher._add_ready",.none,427),(393,15,2,"ExecNode.parent_status",.none,392),(436,16,4,"TaskDispatcher._node_add_wait_run",.ref 429,435),(443,16,5,"TaskDispatcher._add_task",.none,442),(450,16,6,"TaskDispatcher._get_next_node",.none,449),(457,16,7,"TaskDispatcher._update_waiting",.none,456),(471,16,9,"TaskDispatcher.send",.none,470),(524,25,0,"_law_given",.none,523),(505,22,0,"_law_reach",.none,504),(486,19,0,"_law_kinds",.none,485),(491,20,0,"_law_row",.none,490),(536,27,0,"_law_told_right",.none,535),(517,24,0,"_law_waits",.none,516),(546,29,0,"law",.none,545)]
noncomputable def glL:List (Nat×Option Value):=[(75,none),(90,none),(91,none),(112,(some (.ref 223))),(119,(some (.ref 368))),(136,(some (.ref 474))),(147,none),(155,none),(159,(some (.ref 396))),(184,none),(187,(some (.ref 65))),(188,(some (.ref 486))),(189,(some (.ref 491))),(195,none),(196,(some (.ref 498))),(198,(some (.ref 505))),(202,(some (.ref 510))),(204,(some (.ref 517))),(205,(some (.ref 524))),(207,(some (.ref 531))),(209,(some (.ref 536))),(213,none),(215,(some (.ref 541))),(230,none)]
noncomputable def kpL:List Nat:=[486,491,498,505,510,517,524,531,536,541]
noncomputable def tpL:List (Nat×List Value):=[(124,[]),(125,[]),(127,[]),(128,[]),(130,[.ref 124,.ref 125,.ref 126,.ref 127,.ref 128,.ref 129,.none,.bool false,.none]),(194,[.none]),(429,[.bool false])]
structure HC(c:Cx):Prop where
 own:OwnCls (Str.ofString "HoldOn") 65 [.type "Exception",.type "BaseException",.type "object"] "Exception.__new__" c.mg c.B
 codeHd:CodeHd c.B 343 339
 bm:∀h:Heap,(∀b o,c.B.get? b=some o→h.get? b=some o)→h.BuiltinsAt c.mg 339
 star:∀m n b,eT m n=some b→(!(Builtin.Str.occurrences (c.S n) (c.S m) 0 (c.S n).length 1).isEmpty)=b
 gl:∀i {s v},nm i=some s→glL.lookup i=some v→nsIn c.K mainGlobals s=some v
 kp:∀f,kpL.contains f=true→keepIn c.K (.ref f)=true
 kc:∀C,C<4→keepIn c.K (.ref (c.cls C))=true
 tp:∀a l,tpL.lookup a=some l→c.K.lookup a=some (eP l 0)
 fns:∀(i:Nat) e,nth fnL i=some e→fnOK c.K e
 ln:∃a vs k,nsIn c.K mainGlobals (Str.ofString "_law_names")=some (some (.ref a))∧c.K.lookup a=some (bS vs k)∧∀W,VRs c.S W vs cF
 st_add_implicit_task_dep:jgj c 368 (Str.ofString "add_implicit_task_dep") (.ref 327)
 sti_set_implicit_deps:jfJ c 1 (Str.ofString "set_implicit_deps") (.ref 317)
theorem HC.cls{c:Cx}(hc:HC c):c.cls=fA:=rfl
theorem HC.fn{c:Cx}(hc:HC c):c.fn=fnT:=rfl
theorem Cx.s(c:Cx)(n:Nat){x:Str}(h:nm n=some x):c.S n=x:=c.hS n x h
theorem mC{c:Cx}(f:Nat){n:Str}(h:nm f=some n){fs:List Nat}{ns:List Str}(t:fs.map c.S=ns):(f::fs).map c.S=n::ns:=jkk (c.s f h) t
section
variable {c:Cx}{sc:Scope}{lv:Nat}
noncomputable def locOK(sc:Scope)(n:Str):Bool:=(sc.names.lookup n == some .local||sc.names.lookup n == some .cell||sc.names.lookup n == some .free)&&!(n == ("__debug__" : Str))&&!(n == ("__classdict__" : Str))
theorem CL{n:Str}{pos:Pos}(x:Nat)(hx:nm x=some n)(hl:locOK sc n=true):CE c sc lv (.Name n pos) (ac x):=by
 unfold locOK at hl
 simp only[Bool.and_eq_true,Bool.or_eq_true,beq_iff_eq,Bool.not_eq_true'] at hl
 exact jiK x (c.s x hx) (by rcases hl.1.1 with(h|h)|h;exact .inl h;exact .inr (.inl h);exact .inr (.inr h)) hl.1.2 hl.2
theorem bH{n:Str}{k:Nat}{pos:Pos}(x:Nat)(hx:nm x=some n):CE c sc lv (.Constant (.str n) k pos) (ah (.str x)):=CE_str x (c.s x hx)
noncomputable def stOK(sc:Scope)(n:Str):Bool:=sc.names.lookup n == some .local||sc.names.lookup n == some .cell
theorem stO{n:Str}(h:stOK sc n=true):sc.names.lookup n=some .local∨sc.names.lookup n=some .cell:=by
 unfold stOK at h
 simpa using h
theorem SL{n:Str}{np pos:Pos}{e:Expr}{f:MEx}(x:Nat)(hx:nm x=some n)(hk:stOK sc n=true)(h:CE c sc lv e f)
  (hs:∀env,env.scope=sc→EOK env→swapsWith e (some (.Name n np)) pos.line env=pure false:=by intro _ _ _;rfl):CS c sc lv (.Assign [.Name n np] e pos) (aL x f):=jiI x (c.s x hx) (stO hk) h hs
noncomputable def psN(sc:Scope)(ps:List Nat):Bool:=ps.all fun p=>match nm p with
 |some n=>stOK sc n
 |none=>false
theorem psOK.n{ps:List Nat}(h:psN sc ps=true):psOK c sc ps:=fun p hp=>by
 have:=List.all_eq_true.mp h p hp
 cases e:nm p with
 |none=>rw[e] at this;exact Xft this
 |some n=>rw[e] at this;rw[c.s p e];exact stO this
theorem CompOK.n{scope:Scope}{fs:List Nat}(h:(fs.all (fun f=>(nm f).isSome)&&jhY sc scope (fs.filterMap nm))=true):CompOK c sc scope fs:=by
 rw[Bool.and_eq_true] at h
 refine CompOK.of ?_ h.2
 have h1:=h.1
 clear h
 induction fs with
 |nil=>rfl
 |cons f fs ih=>
  rw[List.all_cons,Bool.and_eq_true] at h1
  refine Zx (Option.isSome_iff_exists.mp h1.1) fun x hx=>?_
  rw[List.map_cons,List.filterMap_cons,hx,ih h1.2,c.s f hx]
theorem HC.lnm(hc:HC c){n:Str}{pos:Pos}(hk:sc.names.lookup n=some .globalImplicit)(hn:n=Str.ofString "_law_names"):CE c sc lv (.Name n pos) (ah (.lst cF)):=by
 refine eH hc.ln fun a vs k h1 h2 h3=>?_
 subst hn
 exact jj2 hk h1 rfl h2 h3 (by decide)
end
set_option maxHeartbeats 2000000
noncomputable def jdd:MS:=(cN (bq (ac 52)) (aG 97) (sIf (aA fe (ac 97) (aq (ac 61) 52)) (aI (aV 1 bg (aq (ac 61) 52) [(ac 97)])) aE))
noncomputable def jaI:List MV→List MV→MEx:=cD 2 [61,52] (fun xs _=>xs) jdd
theorem jdc{c:Cx}(hc:HC c):FOp c 1 (.ref (c.fn 1087)) [] jaI:=by
 rw[hc.fn];refine aX (hc.fns 0 _ rfl) fun oc od osl doc pm an ct ho hcd=>?_;refine bJ ho hcd (.p2 (by decide) (mC 61 rfl (mC 52 rfl bL)) (fun _ _=>rfl)) rfl (psOK.n rfl) ?_
 exact(aw (cn (bE 97 (c.s 97 rfl) rfl (CL 52 rfl rfl)) (aw (bd (aK ja1 (CL 97 rfl rfl) (ax 52 (c.s 52 rfl) (CL 61 rfl rfl) (fun _=>rfl))) (aw (bb (bA (id:="list.append") 1 (by decide) F.slot_list_append rfl bT (ax 52 (c.s 52 rfl) (CL 61 rfl rfl) (fun _=>rfl)) (.cons (CL 97 rfl rfl) .nil) (fun _=>⟨_,rfl⟩)))) aO))))
noncomputable def jbt:MS:=(cN (bq (ac 51)) (aG 97) (sIf (mTr (aW jgD [(ac 97),fi (.type "str")])) (sIf (aA fe (ac 97) (aq (ac 61) 51)) (aI (aV 1 bg (aq (ac 61) 51) [(ac 97)])) aE) dm))
noncomputable def jbr:List MV→List MV→MEx:=cD 2 [61,51] (fun xs _=>xs) jbt
theorem jdb{c:Cx}(hc:HC c):FOp c 1 (.ref (c.fn 1085)) [] jbr:=by
 rw[hc.fn];refine aX (hc.fns 1 _ rfl) fun oc od osl doc pm an ct ho hcd=>?_;refine bJ ho hcd (.p2 (by decide) (mC 61 rfl (mC 51 rfl bL)) (fun _ _=>rfl)) rfl (psOK.n rfl) ?_
 exact(aw (cn (bE 97 (c.s 97 rfl) rfl (CL 51 rfl rfl)) (aw (bd (bP (bv (aR rfl (hc.gl 90 rfl rfl) rfl (by decide) rfl) rfl jgm (.cons (CL 97 rfl rfl) (.cons (aR rfl (hc.gl 91 rfl rfl) rfl (by decide) rfl) .nil)))) (aw (bd (aK ja1 (CL 97 rfl rfl) (ax 51 (c.s 51 rfl) (CL 61 rfl rfl) (fun _=>rfl))) (aw (bb (bA (id:="list.append") 1 (by decide) F.slot_list_append rfl bT (ax 51 (c.s 51 rfl) (CL 61 rfl rfl) (fun _=>rfl)) (.cons (CL 97 rfl rfl) .nil) (fun _=>⟨_,rfl⟩)))) aO)) cW))))
noncomputable def jbs:MS:=(cN (bq (ac 50)) (aG 97) (sIf (aA (jcY eT) (ah (.str 45)) (ac 97)) (aI (aV 1 bg (aq (ac 61) 84) [(ac 97)])) (aI (aV 1 bg (aq (ac 61) 50) [(ac 97)]))))
noncomputable def jaH:List MV→List MV→MEx:=cD 2 [61,50] (fun xs _=>xs) jbs
theorem jda{c:Cx}(hc:HC c):FOp c 1 (.ref (c.fn 1086)) [] jaH:=by
 rw[hc.fn];refine aX (hc.fns 2 _ rfl) fun oc od osl doc pm an ct ho hcd=>?_;refine bJ ho hcd (.p2 (by decide) (mC 61 rfl (mC 50 rfl bL)) (fun _ _=>rfl)) rfl (psOK.n rfl) ?_
 exact(aw (cn (bE 97 (c.s 97 rfl) rfl (CL 50 rfl rfl)) (aw (bd (aK (jef eT hc.star) (bH 45 rfl) (CL 97 rfl rfl)) (aw (bb (bA (id:="list.append") 1 (by decide) F.slot_list_append rfl bT (ax 84 (c.s 84 rfl) (CL 61 rfl rfl) (fun _=>rfl)) (.cons (CL 97 rfl rfl) .nil) (fun _=>⟨_,rfl⟩)))) (aw (bb (bA (id:="list.append") 1 (by decide) F.slot_list_append rfl bT (ax 50 (c.s 50 rfl) (CL 61 rfl rfl) (fun _=>rfl)) (.cons (CL 97 rfl rfl) .nil) (fun _=>⟨_,rfl⟩))))))))
noncomputable def jcG:MS:=(ao (aT (ac 61) 83 (ah .none)) (ao (aT (ac 61) 51 (bc [])) (ao (aI (bx 0 85 jbr (ac 61) [(ac 51)] [])) (ao (aT (ac 61) 50 (bc [])) (ao (aT (ac 61) 84 (bc [])) (ao (sIf (mTr (ac 50)) (aI (bx 0 86 jaH (ac 61) [(ac 50)] [])) aE) (ao (aT (ac 61) 52 (bc [])) (sIf (mTr (ac 52)) (aI (bx 0 87 jaI (ac 61) [(ac 52)] [])) aE))))))))
noncomputable def jbx:List MV→List MV→MEx:=cD 4 [61,51,50,52] (fun xs _=>xs) jcG
theorem jeQ{c:Cx}(hc:HC c):FOp c 2 (.ref (c.fn 1076)) [] jbx:=by
 rw[hc.fn];refine aX (hc.fns 3 _ rfl) fun oc od osl doc pm an ct ho hcd=>?_;refine bJ ho hcd (.p4 (by decide) (mC 61 rfl (mC 51 rfl (mC 50 rfl (mC 52 rfl bL)))) (fun _ _ _ _=>rfl)) rfl (psOK.n rfl) ?_
 exact(am (aQ 83 (c.s 83 rfl) (CL 61 rfl rfl) bN) (am (aQ 51 (c.s 51 rfl) (CL 61 rfl rfl) (bB .nil)) (am (bb (bY 0 85 (c.s 85 rfl) (by decide) ((jdb hc).mono (by decide)) (CL 61 rfl rfl) (.cons (CL 51 rfl rfl) .nil) .nil (fun _=>⟨_,rfl⟩))) (am (aQ 50 (c.s 50 rfl) (CL 61 rfl rfl) (bB .nil)) (am (aQ 84 (c.s 84 rfl) (CL 61 rfl rfl) (bB .nil)) (am (bd (bP (CL 50 rfl rfl)) (aw (bb (bY 0 86 (c.s 86 rfl) (by decide) ((jda hc).mono (by decide)) (CL 61 rfl rfl) (.cons (CL 50 rfl rfl) .nil) .nil (fun _=>⟨_,rfl⟩)))) aO) (am (aQ 52 (c.s 52 rfl) (CL 61 rfl rfl) (bB .nil)) (aw (bd (bP (CL 52 rfl rfl)) (aw (bb (bY 0 87 (c.s 87 rfl) (by decide) ((jdc hc).mono (by decide)) (CL 61 rfl rfl) (.cons (CL 52 rfl rfl) .nil) .nil (fun _=>⟨_,rfl⟩)))) aO)))))))))
noncomputable def jb5:MS:=(ao (aL 64 (bc [])) (ao (cN (bq (ac 88)) (aG 89) (sIf (mTr (aW jgD [(ac 89),fi (.type "str")])) (aI (aV 1 bg (ac 64) [(ac 89)])) dm)) (bD (ac 64))))
noncomputable def ja5:List MV→List MV→MEx:=cD 2 [61,88] (fun xs _=>xs) jb5
theorem jdW{c:Cx}(hc:HC c):FOp c 1 (.ref (c.fn 1078)) [] ja5:=by
 rw[hc.fn];refine aX (hc.fns 4 _ rfl) fun oc od osl doc pm an ct ho hcd=>?_;refine bJ ho hcd (.p2 (by decide) (mC 61 rfl (mC 88 rfl bL)) (fun _ _=>rfl)) rfl (psOK.n rfl) ?_
 exact(am (SL 64 rfl rfl (bB .nil)) (am (cn (bE 89 (c.s 89 rfl) rfl (CL 88 rfl rfl)) (aw (bd (bP (bv (aR rfl (hc.gl 90 rfl rfl) rfl (by decide) rfl) rfl jgm (.cons (CL 89 rfl rfl) (.cons (aR rfl (hc.gl 91 rfl rfl) rfl (by decide) rfl) .nil)))) (aw (bb (bA (id:="list.append") 1 (by decide) F.slot_list_append rfl bT (CL 64 rfl rfl) (.cons (CL 89 rfl rfl) .nil) (fun _=>⟨_,rfl⟩)))) cW))) (aw (cg (CL 64 rfl rfl)))))
noncomputable def jbV:MS:=(ao (aL 53 (bc [])) (ao (cN (bq (ac 88)) (aG 93) dm) (bD (ac 53))))
noncomputable def jaV:List MV→List MV→MEx:=cD 2 [61,88] (fun xs _=>xs) jbV
theorem jdE{c:Cx}(hc:HC c):FOp c 1 (.ref (c.fn 1077)) [] jaV:=by
 rw[hc.fn];refine aX (hc.fns 5 _ rfl) fun oc od osl doc pm an ct ho hcd=>?_;refine bJ ho hcd (.p2 (by decide) (mC 61 rfl (mC 88 rfl bL)) (fun _ _=>rfl)) rfl (psOK.n rfl) ?_
 exact(am (SL 53 rfl rfl (bB .nil)) (am (cn (bE 93 (c.s 93 rfl) rfl (CL 88 rfl rfl)) cW) (aw (cg (CL 53 rfl rfl)))))
noncomputable def jaM:MS:=(ao (aL 68 (mOrV (ac 68) jbB)) (ao (sIf (aA (jcY eT) (ah (.str 44)) (ac 62)) dm aE) (ao (aT (ac 61) 62 (ac 62)) (ao (aT (ac 61) 69 (ah .none)) (ao (aT (ac 61) 70 (aW jcq [(ac 65)])) (ao (sIf (aA isN (ac 63) (ah .none)) (aT (ac 61) 63 (bc [])) (aT (ac 61) 63 (aW jcq [(c6 (ac 63) none none none)]))) (ao (aI (bx 0 76 jbx (ac 61) [(ac 51),(ac 50),(ac 52)] [])) (ao (aL 53 (mIf (mTr (ac 53)) (ac 53) (bc []))) (ao (aT (ac 61) 68 (ac 68)) (ao (sIf (mTr (aq (ac 61) 68)) dm aE) (ao (aT (ac 61) 71 (bc [])) (ao (aT (ac 61) 53 (bx 0 77 jaV (ac 61) [(ac 53)] [])) (ao (aT (ac 61) 64 (bx 0 78 ja5 (ac 61) [(ac 64)] [])) (ao (aT (ac 61) 66 (ac 66)) (ao (aT (ac 61) 67 (ac 67)) (ao (aT (ac 61) 72 (ah .none)) (ao (aT (ac 61) 73 jbB) (aT (ac 61) 74 (ah (.bool false))))))))))))))))))))
noncomputable def jaj:List MV→List MV→MEx:=cD 3 [61,62,63,51,64,50,53,52,65,66,67,68] (fun xs ys=>[(xs.getD 0 .none),(xs.getD 1 .none),(xs.getD 2 .none),.tup [],.tup [],(ys.getD 0 .none),.tup [],.tup [],(ys.getD 1 .none),.none,.bool false,.none]) jaM
theorem jb6{c:Cx}(hc:HC c):FOp c 3 (.ref (c.fn 1060)) [Str.ofString "task_dep",Str.ofString "setup"] jaj:=by
 rw[hc.fn];refine aX (hc.fns 6 _ rfl) fun oc od osl doc pm an ct ho hcd=>?_;refine bJ ho hcd (by
  refine⟨by decide,fun W s vs ks xs ys X emp hv hk hn hl=>?_⟩
  refine jbG (hv.l3 hn) fun a b d x y z zq1 zq2=>?_;obtain rfl:=zq1;refine Za zq2 ?_;clear zq2;intro zq1 zq2;obtain rfl:=zq1;refine Zaa zq2 ?_;clear zq2;intro ra rb rd
  refine dh (hk.l2 hl) fun k0 k1 y0 y1 zq1 zq2=>?_;obtain rfl:=zq1;refine Za zq2 ?_;clear zq2;intro zq1 zq2;obtain rfl:=zq1;refine Za zq2 ?_;clear zq2;intro r0 r1
  refine⟨[a,b,d,.ref 124,.ref 125,k0,.ref 127,.ref 128,k1,.none,.bool false,.none],?_,(.cons ra (.cons rb (.cons rd (.cons (.tup (emp 124 _ (c.X _ _ (hc.tp 124 _ rfl)) rfl) .nil (by decide)) (.cons (.tup (emp 125 _ (c.X _ _ (hc.tp 125 _ rfl)) rfl) .nil (by decide)) (.cons r0 (.cons (.tup (emp 127 _ (c.X _ _ (hc.tp 127 _ rfl)) rfl) .nil (by decide)) (.cons (.tup (emp 128 _ (c.X _ _ (hc.tp 128 _ rfl)) rfl) .nil (by decide)) (.cons r1 (.cons .none (.cons (.bool _) (.cons .none .nil))))))))))))⟩
  unfold cP;rw[(mC 61 rfl (mC 62 rfl (mC 63 rfl (mC 51 rfl (mC 64 rfl (mC 50 rfl (mC 53 rfl (mC 52 rfl (mC 65 rfl (mC 66 rfl (mC 67 rfl (mC 68 rfl bL))))))))))))]
  exact binds_K X rfl (hc.tp 130 _ rfl) rfl rfl rfl) rfl (psOK.n rfl) ?_
 exact(am (SL 68 rfl rfl (CE_or (CL 68 rfl rfl) jbj)) (am (bd (aK (jef eT hc.star) (bH 44 rfl) (CL 62 rfl rfl)) cW aO) (am (aQ 62 (c.s 62 rfl) (CL 61 rfl rfl) (CL 62 rfl rfl)) (am (aQ 69 (c.s 69 rfl) (CL 61 rfl rfl) bN) (am (aQ 70 (c.s 70 rfl) (CL 61 rfl rfl) (bv (aR rfl (hc.gl 75 rfl rfl) rfl (by decide) rfl) rfl jco (.cons (CL 65 rfl rfl) .nil))) (am (bd (aK jbP (CL 63 rfl rfl) bN) (aw (aQ 63 (c.s 63 rfl) (CL 61 rfl rfl) (bB .nil))) (aw (aQ 63 (c.s 63 rfl) (CL 61 rfl rfl) (bv (aR rfl (hc.gl 75 rfl rfl) rfl (by decide) rfl) rfl jco (.cons (dL (CL 63 rfl rfl) .none .none .none ⟨_,fun _ _=>rfl⟩) .nil))))) (am (bb (bY 0 76 (c.s 76 rfl) (by decide) ((jeQ hc).mono (by decide)) (CL 61 rfl rfl) (.cons (CL 51 rfl rfl) (.cons (CL 50 rfl rfl) (.cons (CL 52 rfl rfl) .nil))) .nil (fun _=>⟨_,rfl⟩))) (am (SL 53 rfl rfl (jaQ (bP (CL 53 rfl rfl)) (CL 53 rfl rfl) (bB .nil))) (am (aQ 68 (c.s 68 rfl) (CL 61 rfl rfl) (CL 68 rfl rfl)) (am (bd (bP (ax 68 (c.s 68 rfl) (CL 61 rfl rfl) (fun _=>rfl))) cW aO) (am (aQ 71 (c.s 71 rfl) (CL 61 rfl rfl) (bB .nil)) (am (aQ 53 (c.s 53 rfl) (CL 61 rfl rfl) (bY 0 77 (c.s 77 rfl) (by decide) ((jdE hc).mono (by decide)) (CL 61 rfl rfl) (.cons (CL 53 rfl rfl) .nil) .nil (fun _=>⟨_,rfl⟩))) (am (aQ 64 (c.s 64 rfl) (CL 61 rfl rfl) (bY 0 78 (c.s 78 rfl) (by decide) ((jdW hc).mono (by decide)) (CL 61 rfl rfl) (.cons (CL 64 rfl rfl) .nil) .nil (fun _=>⟨_,rfl⟩))) (am (aQ 66 (c.s 66 rfl) (CL 61 rfl rfl) (CL 66 rfl rfl)) (am (aQ 67 (c.s 67 rfl) (CL 61 rfl rfl) (CL 67 rfl rfl)) (am (aQ 72 (c.s 72 rfl) (CL 61 rfl rfl) bN) (am (aQ 73 (c.s 73 rfl) (CL 61 rfl rfl) jbj) (aw (aQ 74 (c.s 74 rfl) (CL 61 rfl rfl) eM)))))))))))))))))))
noncomputable def jaN:MS:=(cN (jeD (aV 2 (jgu false) (aq (ac 61) 105) [])) (aG 42) (ao (cN (bq (aq (ac 42) 50)) (aG 97) (sIf (aA fe (ac 97) (aq (ac 61) 105)) dm aE)) (cN (bq (aq (ac 42) 70)) (aG 115) (sIf (aA fe (ac 115) (aq (ac 61) 105)) dm aE))))
noncomputable def jan:List MV→List MV→MEx:=cD 1 [61] (fun xs _=>xs) jaN
theorem jb7{c:Cx}(hc:HC c):FOp c 1 (.ref (c.fn 2109)) [] jan:=by
 rw[hc.fn];refine aX (hc.fns 7 _ rfl) fun oc od osl doc pm an ct ho hcd=>?_;refine bJ ho hcd (.p1 (by decide) (mC 61 rfl bL) (fun _=>rfl)) rfl (psOK.n rfl) ?_
 exact(aw (cn (jgl 42 (c.s 42 rfl) rfl (bA (id:="dict.values") 2 (by decide) F.slot_dict_values rfl jdV (ax 105 (c.s 105 rfl) (CL 61 rfl rfl) (fun _=>rfl)) .nil (fun _=>⟨_,rfl⟩))) (am (cn (bE 97 (c.s 97 rfl) rfl (ax 50 (c.s 50 rfl) (CL 42 rfl rfl) (fun _=>rfl))) (aw (bd (aK ja1 (CL 97 rfl rfl) (ax 105 (c.s 105 rfl) (CL 61 rfl rfl) (fun _=>rfl))) cW aO))) (aw (cn (bE 115 (c.s 115 rfl) rfl (ax 70 (c.s 70 rfl) (CL 42 rfl rfl) (fun _=>rfl))) (aw (bd (aK ja1 (CL 115 rfl rfl) (ax 105 (c.s 105 rfl) (CL 61 rfl rfl) (fun _=>rfl))) cW aO)))))))
noncomputable def jay:MS:=(cN (bq (ac 120)) (aG 97) (sIf (cu (aA inM (ac 97) (ac 64)) (cu (aA fe (aF (ac 64) (ac 97)) (aq (ac 42) 50)) ck)) (aI (aV 1 bg (aq (ac 42) 50) [(aF (ac 64) (ac 97))])) aE))
noncomputable def jaw:List MV→List MV→MEx:=cD 3 [64,42,120] (fun xs _=>xs) jay
theorem jbq{c:Cx}(hc:HC c):FOp c 1 (.ref 327) [] jaw:=by
 refine aX (hc.fns 8 _ rfl) fun oc od osl doc pm an ct ho hcd=>?_;refine bJ ho hcd (.p3 (by decide) (mC 64 rfl (mC 42 rfl (mC 120 rfl bL))) (fun _ _ _=>rfl)) rfl (psOK.n rfl) ?_
 exact(aw (cn (bE 97 (c.s 97 rfl) rfl (CL 120 rfl rfl)) (aw (bd (cT (.consA rfl (aK ds (CL 97 rfl rfl) (CL 64 rfl rfl)) (.consA rfl (aK ja1 (aZ (CL 64 rfl rfl) (CL 97 rfl rfl)) (ax 50 (c.s 50 rfl) (CL 42 rfl rfl) (fun _=>rfl))) (.nilA rfl)))) (aw (bb (bA (id:="list.append") 1 (by decide) F.slot_list_append rfl bT (ax 50 (c.s 50 rfl) (CL 42 rfl rfl) (fun _=>rfl)) (.cons (aZ (CL 64 rfl rfl) (CL 97 rfl rfl)) .nil) (fun _=>⟨_,rfl⟩)))) aO))))
noncomputable def jaG:MS:=(ao (cN (bq (ac 104)) (aG 42) (cN (bq (aq (ac 42) 64)) (aG 89) (ao (sIf (aA inM (ac 89) (ac 64)) dm aE) (dv (ac 64) (ac 89) (aq (ac 42) 62))))) (cN (bq (ac 104)) (aG 42) (aI (bF jaw [(ac 64),(ac 42),(aq (ac 42) 51)] []))))
noncomputable def jam:List MV→List MV→MEx:=cD 2 [64,104] (fun xs _=>xs) jaG
theorem jbZ{c:Cx}(hc:HC c):FOp c 2 (.ref 317) [] jam:=by
 refine aX (hc.fns 9 _ rfl) fun oc od osl doc pm an ct ho hcd=>?_;refine bJ ho hcd (.p2 (by decide) (mC 64 rfl (mC 104 rfl bL)) (fun _ _=>rfl)) rfl (psOK.n rfl) ?_
 exact(am (cn (bE 42 (c.s 42 rfl) rfl (CL 104 rfl rfl)) (aw (cn (bE 89 (c.s 89 rfl) rfl (ax 64 (c.s 64 rfl) (CL 42 rfl rfl) (fun _=>rfl))) (am (bd (aK ds (CL 89 rfl rfl) (CL 64 rfl rfl)) cW aO) (aw (jba (CL 64 rfl rfl) (CL 89 rfl rfl) (ax 62 (c.s 62 rfl) (CL 42 rfl rfl) (fun _=>rfl)))))))) (aw (cn (bE 42 (c.s 42 rfl) rfl (CL 104 rfl rfl)) (aw (bb (jf1 (c9 rfl (hc.gl 119 rfl rfl) rfl) hc.st_add_implicit_task_dep ((jbq hc).mono (by decide)) (.cons (CL 64 rfl rfl) (.cons (CL 42 rfl rfl) (.cons (ax 51 (c.s 51 rfl) (CL 42 rfl rfl) (fun _=>rfl)) .nil))) (fun _=>⟨_,rfl⟩)))))))
noncomputable def jbD:MS:=(ao (aT (ac 61) 105 jbB) (ao (aT (ac 61) 64 jbB) (ao (aT (ac 61) 106 (bc [])) (ao (aT (ac 61) 107 (ah .none)) (ao (cN (bq (ac 104)) (aG 42) (ao (sIf (eU (mTr (aW (jgE 0) [(ac 42),fi (.ref (fA 0))]))) dm aE) (ao (sIf (aA inM (aq (ac 42) 62) (aq (ac 61) 105)) dm aE) (ao (dv (aq (ac 61) 105) (aq (ac 42) 62) (ac 42)) (aI (aV 1 bg (aq (ac 61) 106) [(aq (ac 42) 62)])))))) (ao (cN (jeD (aV 2 (jgu false) (aq (ac 61) 105) [])) (aG 42) (cN (bq (aq (ac 42) 84)) (aG 108) dm)) (ao (aI (bx 1 109 jan (ac 61) [] [])) (aI (jfS 1 110 jam (ac 61) [(aq (ac 61) 64),(ac 104)])))))))))
noncomputable def jai:List MV→List MV→MEx:=cD 2 [61,104] (fun xs _=>xs) jbD
theorem jdo{c:Cx}(hc:HC c):FOp c 3 (.ref (c.fn 2060)) [] jai:=by
 rw[hc.fn];refine aX (hc.fns 10 _ rfl) fun oc od osl doc pm an ct ho hcd=>?_;refine bJ ho hcd (.p2 (by decide) (mC 61 rfl (mC 104 rfl bL)) (fun _ _=>rfl)) rfl (psOK.n rfl) ?_
 exact(am (aQ 105 (c.s 105 rfl) (CL 61 rfl rfl) jbj) (am (aQ 64 (c.s 64 rfl) (CL 61 rfl rfl) jbj) (am (aQ 106 (c.s 106 rfl) (CL 61 rfl rfl) (bB .nil)) (am (aQ 107 (c.s 107 rfl) (CL 61 rfl rfl) bN) (am (cn (bE 42 (c.s 42 rfl) rfl (CL 104 rfl rfl)) (am (bd (jdt (bP (bv (aR rfl (hc.gl 90 rfl rfl) rfl (by decide) rfl) rfl (jja 0) (.cons (CL 42 rfl rfl) (.cons (by exact(c9 rfl (hc.gl 112 rfl rfl) rfl)) .nil))))) cW aO) (am (bd (aK ds (ax 62 (c.s 62 rfl) (CL 42 rfl rfl) (fun _=>rfl)) (ax 105 (c.s 105 rfl) (CL 61 rfl rfl) (fun _=>rfl))) cW aO) (am (jba (ax 105 (c.s 105 rfl) (CL 61 rfl rfl) (fun _=>rfl)) (ax 62 (c.s 62 rfl) (CL 42 rfl rfl) (fun _=>rfl)) (CL 42 rfl rfl)) (aw (bb (bA (id:="list.append") 1 (by decide) F.slot_list_append rfl bT (ax 106 (c.s 106 rfl) (CL 61 rfl rfl) (fun _=>rfl)) (.cons (ax 62 (c.s 62 rfl) (CL 42 rfl rfl) (fun _=>rfl)) .nil) (fun _=>⟨_,rfl⟩)))))))) (am (cn (jgl 42 (c.s 42 rfl) rfl (bA (id:="dict.values") 2 (by decide) F.slot_dict_values rfl jdV (ax 105 (c.s 105 rfl) (CL 61 rfl rfl) (fun _=>rfl)) .nil (fun _=>⟨_,rfl⟩))) (aw (cn (bE 108 (c.s 108 rfl) rfl (ax 84 (c.s 84 rfl) (CL 42 rfl rfl) (fun _=>rfl))) cW))) (am (bb (bY 1 109 (c.s 109 rfl) (by decide) ((jb7 hc).mono (by decide)) (CL 61 rfl rfl) .nil .nil (fun _=>⟨_,rfl⟩))) (aw (bb (jf0 1 110 (c.s 110 rfl) (CL 61 rfl rfl) hc.sti_set_implicit_deps ((jbZ hc).mono (by decide)) (.cons (ax 64 (c.s 64 rfl) (CL 61 rfl rfl) (fun _=>rfl)) (.cons (CL 104 rfl rfl) .nil)) (fun _=>⟨_,rfl⟩)))))))))))
noncomputable def jb':MS:=(sIf (aA isN (aq (ac 61) 69) (ah .none)) (ao (aT (ac 61) 69 jbB) (bD (ac 103))) aE)
noncomputable def jaE:List MV→List MV→MEx:=cD 2 [61,103] (fun xs _=>[(xs.getD 0 .none),(xs.getD 1 .none)]) jb'
theorem jd5{c:Cx}(hc:HC c):FOp c 1 (.ref (c.fn 1102)) [] jaE:=by
 rw[hc.fn];refine aX (hc.fns 11 _ rfl) fun oc od osl doc pm an ct ho hcd=>?_;refine bJ ho hcd (by
  refine⟨by decide,fun W s vs ks xs ys X emp hv hk hn hl=>?_⟩
  refine dh (hv.l2 hn) fun a b x y zq1 zq2=>?_;obtain rfl:=zq1;refine Za zq2 ?_;clear zq2;intro zq1 zq2;obtain rfl:=zq1;refine Za zq2 ?_;clear zq2;intro ra rb
  refine⟨[a,b],?_,.cons ra (.cons rb .nil)⟩
  unfold cP;rw[(mC 61 rfl (mC 103 rfl bL))]
  exact binds_K X rfl (hc.tp 194 _ rfl) rfl rfl rfl) rfl (psOK.n rfl) ?_
 exact(aw (bd (aK jbP (ax 69 (c.s 69 rfl) (CL 61 rfl rfl) (fun _=>rfl)) bN) (am (aQ 69 (c.s 69 rfl) (CL 61 rfl rfl) jbj) (aw (cg (CL 103 rfl rfl)))) aO))
noncomputable def jaS:MS:=(ao (aL 124 (bc [])) (sDef (9,0) 122 339 ⟨259,8,264,22⟩ fun fa=>(ao (aL 125 (c6 (ac 123) none none none)) (ao (jcX (mTr (ac 125)) (ao (aL 126 (aV 1 popM (ac 125) [(ah (.int 0))])) (ao (sIf (aA (jcY eT) (ah (.str 45)) (ac 126)) dm (ao (aL 125 (jdK 122 fa (mClo 2 [125,126] [124,61] (ao (aI (aV 1 bg (ac 124) [(ac 126)])) (ao (sIf (aA inM (ac 126) (aq (ac 61) 105)) (ao (aL 127 (aF (aq (ac 61) 105) (ac 126))) (aL 125 (bx 0 102 jaE (ac 127) [(ac 125)] []))) aE) (bD (ac 125))))) [(ac 125),(ac 126)])) aE)) aE))) (ao (bD (ac 124)) aE)))))
noncomputable def jaq:List MV→List MV→MEx:=cD 2 [61,123] (fun xs _=>xs) jaS
theorem jb9{c:Cx}(hc:HC c):FOp c 3 (.ref (c.fn 2121)) [] jaq:=by
 rw[hc.fn];refine aX (hc.fns 12 _ rfl) fun oc od osl doc pm an ct ho hcd=>?_;refine jjV ho hcd (.p2 (by decide) (mC 61 rfl (mC 123 rfl bL)) (fun _ _=>rfl)) rfl (psOK.n rfl) ?_
 exact(ji7 (SL 124 rfl rfl (bB .nil)) (jj1 (c.s 122 rfl) rfl hc.codeHd (by decide) hc.bm (CompOK.n (fs:=[124,61]) rfl) rfl rfl (fun _=>rfl) (fun fa e W0 Kp XX he=>(jbU (CS.e (SL 125 rfl rfl (dL (CL 123 rfl rfl) .none .none .none ⟨_,fun _ _=>rfl⟩)) he) (jbU (ji' he (bP (CL 125 rfl rfl)) (jbU (CS.e (SL 126 rfl rfl (bA (id:="list.pop") 1 (by decide) F.slot_list_pop rfl jeK (CL 125 rfl rfl) (.cons aP .nil) (fun _=>⟨_,rfl⟩))) he) (jbU (CSe_if he (aK (jef eT hc.star) (bH 45 rfl) (CL 126 rfl rfl)) (CSs.e cW he) (jbU (jio 125 122 (c.s 125 rfl) (c.s 122 rfl) he XX rfl rfl rfl rfl (CompOK.n (fs:=[124,61]) rfl) (fun _ _ _ _ _ _=>.p2 (by decide) (mC 125 rfl (mC 126 rfl bL)) (fun _ _=>rfl)) (psL.of (mC 125 rfl (mC 126 rfl bL)) rfl) (am (bb (bA (id:="list.append") 1 (by decide) F.slot_list_append rfl bT (CL 124 rfl rfl) (.cons (CL 126 rfl rfl) .nil) (fun _=>⟨_,rfl⟩))) (am (bd (aK ds (CL 126 rfl rfl) (ax 105 (c.s 105 rfl) (CL 61 rfl rfl) (fun _=>rfl))) (am (SL 127 rfl rfl (aZ (ax 105 (c.s 105 rfl) (CL 61 rfl rfl) (fun _=>rfl)) (CL 126 rfl rfl))) (aw (SL 125 rfl rfl (bY 0 102 (c.s 102 rfl) (by decide) ((jd5 hc).mono (by decide)) (CL 127 rfl rfl) (.cons (CL 125 rfl rfl) .nil) .nil (fun _=>⟨_,rfl⟩))))) aO) (aw (cg (CL 125 rfl rfl))))) (.cons (CL 125 rfl rfl) (.cons (CL 126 rfl rfl) .nil))) (CSs.e aO he))) (CSs.e aO he)))) (jbU (CS.e (cg (CL 124 rfl rfl)) he) (CSs.e aO he)))))))
noncomputable def ja0:MS:=(ao (aL 131 (bc [])) (ao (aL 124 (bx 1 121 jaq (ac 61) [(ac 123)] [])) (ao (cN (bq (ac 124)) (aG 132) (ao (sIf (aA inM (ac 132) (aq (ac 61) 105)) (ao (aI (aV 1 bg (ac 131) [(ac 132)])) eO) aE) (ao (sIf (aA inM (ac 132) (aq (ac 61) 64)) (ao (aI (aV 1 bg (ac 131) [(aF (aq (ac 61) 64) (ac 132))])) eO) aE) dm))) (bD (ac 131)))))
noncomputable def jat:List MV→List MV→MEx:=cD 2 [61,123] (fun xs _=>xs) ja0
theorem jcA{c:Cx}(hc:HC c):FOp c 4 (.ref (c.fn 2130)) [] jat:=by
 rw[hc.fn];refine aX (hc.fns 13 _ rfl) fun oc od osl doc pm an ct ho hcd=>?_;refine bJ ho hcd (.p2 (by decide) (mC 61 rfl (mC 123 rfl bL)) (fun _ _=>rfl)) rfl (psOK.n rfl) ?_
 exact(am (SL 131 rfl rfl (bB .nil)) (am (SL 124 rfl rfl (bY 1 121 (c.s 121 rfl) (by decide) ((jb9 hc).mono (by decide)) (CL 61 rfl rfl) (.cons (CL 123 rfl rfl) .nil) .nil (fun _=>⟨_,rfl⟩))) (am (cn (bE 132 (c.s 132 rfl) rfl (CL 124 rfl rfl)) (am (bd (aK ds (CL 132 rfl rfl) (ax 105 (c.s 105 rfl) (CL 61 rfl rfl) (fun _=>rfl))) (am (bb (bA (id:="list.append") 1 (by decide) F.slot_list_append rfl bT (CL 131 rfl rfl) (.cons (CL 132 rfl rfl) .nil) (fun _=>⟨_,rfl⟩))) (aw jdD)) aO) (am (bd (aK ds (CL 132 rfl rfl) (ax 64 (c.s 64 rfl) (CL 61 rfl rfl) (fun _=>rfl))) (am (bb (bA (id:="list.append") 1 (by decide) F.slot_list_append rfl bT (CL 131 rfl rfl) (.cons (aZ (ax 64 (c.s 64 rfl) (CL 61 rfl rfl) (fun _=>rfl)) (CL 132 rfl rfl)) .nil) (fun _=>⟨_,rfl⟩))) (aw jdD)) aO) cW))) (aw (cg (CL 131 rfl rfl))))))
noncomputable def jbX:MS:=(sIf (aA isNN (ac 123) (ah .none)) (aT (ac 61) 107 (bx 1 130 jat (ac 61) [(ac 123)] [])) (aT (ac 61) 107 (aq (ac 61) 106)))
noncomputable def jau:List MV→List MV→MEx:=cD 2 [61,123] (fun xs _=>xs) jbX
theorem jdG{c:Cx}(hc:HC c):FOp c 5 (.ref (c.fn 2134)) [] jau:=by
 rw[hc.fn];refine aX (hc.fns 14 _ rfl) fun oc od osl doc pm an ct ho hcd=>?_;refine bJ ho hcd (.p2 (by decide) (mC 61 rfl (mC 123 rfl bL)) (fun _ _=>rfl)) rfl (psOK.n rfl) ?_
 exact(aw (bd (aK jdR (CL 123 rfl rfl) bN) (aw (aQ 107 (c.s 107 rfl) (CL 61 rfl rfl) (bY 1 130 (c.s 130 rfl) (by decide) ((jcA hc).mono (by decide)) (CL 61 rfl rfl) (.cons (CL 123 rfl rfl) .nil) .nil (fun _=>⟨_,rfl⟩)))) (aw (aQ 107 (c.s 107 rfl) (CL 61 rfl rfl) (ax 106 (c.s 106 rfl) (CL 61 rfl rfl) (fun _=>rfl))))))
noncomputable def jbf:MS:=(ao (aT (ac 61) 105 (ac 105)) (ao (aT (ac 61) 64 (ac 64)) (ao (aT (ac 61) 107 (ac 107)) (ao (aT (ac 61) 150 jbB) (ao (aT (ac 61) 151 jbB) (ao (aT (ac 61) 152 (bc [])) (ao (aT (ac 61) 153 (mRev (ac 107))) (aT (ac 61) 154 (ah .none)))))))))
noncomputable def jaA:List MV→List MV→MEx:=cD 4 [61,105,64,107] (fun xs _=>xs) jbf
theorem jcR{c:Cx}(hc:HC c):FOp c 1 (.ref (c.fn 4060)) [] jaA:=by
 rw[hc.fn];refine aX (hc.fns 15 _ rfl) fun oc od osl doc pm an ct ho hcd=>?_;refine bJ ho hcd (.p4 (by decide) (mC 61 rfl (mC 105 rfl (mC 64 rfl (mC 107 rfl bL)))) (fun _ _ _ _=>rfl)) rfl (psOK.n rfl) ?_
 exact(am (aQ 105 (c.s 105 rfl) (CL 61 rfl rfl) (CL 105 rfl rfl)) (am (aQ 64 (c.s 64 rfl) (CL 61 rfl rfl) (CL 64 rfl rfl)) (am (aQ 107 (c.s 107 rfl) (CL 61 rfl rfl) (CL 107 rfl rfl)) (am (aQ 150 (c.s 150 rfl) (CL 61 rfl rfl) jbj) (am (aQ 151 (c.s 151 rfl) (CL 61 rfl rfl) jbj) (am (aQ 152 (c.s 152 rfl) (CL 61 rfl rfl) (bB .nil)) (am (aQ 153 (c.s 153 rfl) (CL 61 rfl rfl) (jip (aR rfl (hc.gl 75 rfl rfl) rfl (by decide) rfl) (aR rfl (hc.gl 155 rfl rfl) rfl (by decide) rfl) (CL 107 rfl rfl))) (aw (aQ 154 (c.s 154 rfl) (CL 61 rfl rfl) bN)))))))))
noncomputable def jaR:MS:=(ao (jbp (aA isNN (aq (ac 61) 107) (ah .none))) (bD (bF (mNew 3 jaA) [(aq (ac 61) 105),(aq (ac 61) 64),(aq (ac 61) 107)] [])))
noncomputable def jak:List MV→List MV→MEx:=cD 1 [61] (fun xs _=>xs) jaR
theorem jb8{c:Cx}(hc:HC c):FOp c 3 (.ref (c.fn 2135)) [] jak:=by
 rw[hc.fn];refine aX (hc.fns 16 _ rfl) fun oc od osl doc pm an ct ho hcd=>?_;refine bJ ho hcd (.p1 (by decide) (mC 61 rfl bL) (fun _=>rfl)) rfl (psOK.n rfl) ?_
 exact(am (jee (aK jdR (ax 107 (c.s 107 rfl) (CL 61 rfl rfl) (fun _=>rfl)) bN)) (aw (cg (dq (by rw[hc.cls];exact(c9 rfl (hc.gl 136 rfl rfl) rfl)) (hc.kc 3 (by decide)) ((jeI 3 (by decide) (by decide) (c.s 60 rfl) (jcR hc)).mono (by decide)) (.cons (ax 105 (c.s 105 rfl) (CL 61 rfl rfl) (fun _=>rfl)) (.cons (ax 64 (c.s 64 rfl) (CL 61 rfl rfl) (fun _=>rfl)) (.cons (ax 107 (c.s 107 rfl) (CL 61 rfl rfl) (fun _=>rfl)) .nil))) .nil))))
noncomputable def jcF:MS:=(ao (aL 105 (bc [])) (ao (cN (eA (aW dW [(aW dE [(ac 199)])])) (aG 191) (ao (aL 192 (cK [] (bq (aF (aF (ac 199) (ac 191)) (ah (.int 0)))) (aG 194) ck (aF (ah (.lst cF)) (ac 194)))) (aI (aV 1 bg (ac 105) [(bF (mNew 0 jaj) [(aF (ah (.lst cF)) (ac 191)),(bc [])] [(ac 192),(cK [] (bq (aF (aF (ac 199) (ac 191)) (ah (.int 1)))) (aG 194) ck (aF (ah (.lst cF)) (ac 194)))])])))) (ao (aL 218 (bK dH (bK dQ (ac 216) (ah (.int 2))) (aW dE [(ac 199)]))) (ao (aL 105 (mCat (c6 (ac 105) (some (ac 218)) none none) (c6 (ac 105) none (some (ac 218)) none))) (ao (aL 219 (bF (mNew 1 jai) [(mIf (aA eqF (bK dH (ac 216) (ah (.int 2))) (ah (.int 1))) (c6 (ac 105) none none (some (mNeg (ah (.int 1))))) (ac 105))] [])) (ao (aI (bx 1 134 jau (ac 219) [(mIf (aA isN (ac 217) (ah .none)) (ah .none) (cK [] (bq (ac 217)) (aG 191) ck (aF (ah (.lst cF)) (ac 191))))] [])) (bD (bx 1 135 jak (ac 219) [] []))))))))
noncomputable def jbw:List MV→List MV→MEx:=cD 3 [199,216,217] (fun xs _=>xs) jcF
theorem jeP{c:Cx}(hc:HC c):FOp c 6 (.ref 541) [] jbw:=by
 refine aX (hc.fns 17 _ rfl) fun oc od osl doc pm an ct ho hcd=>?_;refine bJ ho hcd (.p3 (by decide) (mC 199 rfl (mC 216 rfl (mC 217 rfl bL))) (fun _ _ _=>rfl)) rfl (psOK.n rfl) ?_
 exact(am (SL 105 rfl rfl (bB .nil)) (am (cn (jbi 191 (c.s 191 rfl) rfl (bv (aR rfl (hc.gl 195 rfl rfl) rfl (by decide) rfl) rfl jaK (.cons (bv (aR rfl (hc.gl 184 rfl rfl) rfl (by decide) rfl) rfl ef (.cons (CL 199 rfl rfl) .nil)) .nil))) (am (ja4 192 (c.s 192 rfl) rfl (CompOK.n (fs:=[]) rfl) (bE 194 (c.s 194 rfl) rfl (aZ (aZ (CL 199 rfl rfl) (CL 191 rfl rfl)) aP)) jck (aZ (hc.lnm rfl rfl) (CL 194 rfl rfl)) (fun e h=>by cases e;simp only at h;subst h;rfl)) (aw (bb (bA (id:="list.append") 1 (by decide) F.slot_list_append rfl bT (CL 105 rfl rfl) (.cons (dq (by rw[hc.cls];exact(c9 rfl (hc.gl 112 rfl rfl) rfl)) (hc.kc 0 (by decide)) ((jeI 0 (by decide) (by decide) (c.s 60 rfl) (jb6 hc)).mono (by decide)) (.cons (aZ (hc.lnm rfl rfl) (CL 191 rfl rfl)) (.cons (bB .nil) .nil)) (.cons (CL 192 rfl rfl) (.cons (jcl (CompOK.n (fs:=[]) rfl) (bE 194 (c.s 194 rfl) rfl (aZ (aZ (CL 199 rfl rfl) (CL 191 rfl rfl)) aP)) jck (aZ (hc.lnm rfl rfl) (CL 194 rfl rfl))) .nil))) .nil) (fun _=>⟨_,rfl⟩)))))) (am (SL 218 rfl rfl (eR (eL (CL 216 rfl rfl) aP) (bv (aR rfl (hc.gl 184 rfl rfl) rfl (by decide) rfl) rfl ef (.cons (CL 199 rfl rfl) .nil)))) (am (SL 105 rfl rfl (jgK (dL (CL 105 rfl rfl) (.some (CL 218 rfl rfl)) .none .none ⟨_,fun _ _=>rfl⟩) (dL (CL 105 rfl rfl) .none (.some (CL 218 rfl rfl)) .none ⟨_,fun _ _=>rfl⟩))) (am (SL 219 rfl rfl (dq (by rw[hc.cls];exact(c9 rfl (hc.gl 119 rfl rfl) rfl)) (hc.kc 1 (by decide)) ((jeI 1 (by decide) (by decide) (c.s 60 rfl) (jdo hc)).mono (by decide)) (.cons (jaQ (aK ca (eR (CL 216 rfl rfl) aP) aP) (dL (CL 105 rfl rfl) .none .none (.some (jgJ aP)) ⟨_,fun _ _=>rfl⟩) (CL 105 rfl rfl)) .nil) .nil)) (am (bb (bY 1 134 (c.s 134 rfl) (by decide) ((jdG hc).mono (by decide)) (CL 219 rfl rfl) (.cons (jaQ (aK jbP (CL 217 rfl rfl) bN) bN (jcl (CompOK.n (fs:=[]) rfl) (bE 191 (c.s 191 rfl) rfl (CL 217 rfl rfl)) jck (aZ (hc.lnm rfl rfl) (CL 191 rfl rfl)))) .nil) .nil (fun _=>⟨_,rfl⟩))) (aw (cg (bY 1 135 (c.s 135 rfl) (by decide) ((jb8 hc).mono (by decide)) (CL 219 rfl rfl) .nil .nil (fun _=>⟨_,rfl⟩))))))))))
noncomputable def jd2:MS:=(bD (mB (aA inM (aF (ac 197) (ah (.int 2))) (dg [(ah (.str 30)),(ah (.str 33))]))))
noncomputable def jaJ:List MV→List MV→MEx:=cD 1 [197] (fun xs _=>xs) jd2
theorem jdY{c:Cx}(hc:HC c):FOp c 1 (.ref 498) [] jaJ:=by
 refine aX (hc.fns 18 _ rfl) fun oc od osl doc pm an ct ho hcd=>?_;refine bJ ho hcd (.p1 (by decide) (mC 197 rfl bL) (fun _=>rfl)) rfl (psOK.n rfl) ?_
 exact(aw (cg (jc2 ds (aZ (CL 197 rfl rfl) aP) (d6 (.cons (bH 30 rfl) (.cons (bH 33 rfl) .nil))))))
noncomputable def je0:MS:=(ao (aL 208 (aF (aF (ac 199) (ac 191)) (ah (.int 2)))) (ao (sIf (cu (aA eqF (aF (ac 200) (ac 191)) (ah (.str 22))) (cu (aA neL (aF (aF (ac 199) (ac 191)) (ah (.int 1))) (bc [])) (cu (mTr (bF jaJ [(aF (ac 199) (ac 191))] [])) ck))) (ao (aT (ac 154) 143 (ah (.str 36))) (ao (dv (ac 200) (ac 191) (ah (.str 24))) (bD (ah .none)))) aE) (ao (dv (ac 200) (ac 191) (ah (.str 25))) (aT (ac 154) 143 (aV 2 getM (jhU [((ah (.str 30)),(ah (.str 35))),((ah (.str 33)),(ah (.str 32)))]) [(ac 208),(ac 208)])))))
noncomputable def jbc:List MV→List MV→MEx:=cD 4 [199,200,191,154] (fun xs _=>xs) je0
theorem jhp{c:Cx}(hc:HC c):FOp c 2 (.ref 531) [] jbc:=by
 refine aX (hc.fns 19 _ rfl) fun oc od osl doc pm an ct ho hcd=>?_;refine bJ ho hcd (.p4 (by decide) (mC 199 rfl (mC 200 rfl (mC 191 rfl (mC 154 rfl bL)))) (fun _ _ _ _=>rfl)) rfl (psOK.n rfl) ?_
 exact(am (SL 208 rfl rfl (aZ (aZ (CL 199 rfl rfl) (CL 191 rfl rfl)) aP)) (am (bd (cT (.consA rfl (aK ca (aZ (CL 200 rfl rfl) (CL 191 rfl rfl)) (bH 22 rfl)) (.consA rfl (aK jcV (aZ (aZ (CL 199 rfl rfl) (CL 191 rfl rfl)) aP) (bB .nil)) (.consA rfl (bP (dq (c9 rfl (hc.gl 196 rfl rfl) rfl) (hc.kp 498 rfl) ((jdY hc).mono (by decide)) (.cons (aZ (CL 199 rfl rfl) (CL 191 rfl rfl)) .nil) .nil)) (.nilA rfl))))) (am (aQ 143 (c.s 143 rfl) (CL 154 rfl rfl) (bH 36 rfl)) (am (jba (CL 200 rfl rfl) (CL 191 rfl rfl) (bH 24 rfl)) (aw jfW))) aO) (am (jba (CL 200 rfl rfl) (CL 191 rfl rfl) (bH 25 rfl)) (aw (aQ 143 (c.s 143 rfl) (CL 154 rfl rfl) (bA (id:="dict.get") 2 (by decide) F.slot_dict_get rfl jhR (jkA (.cons (bH 30 rfl) (bH 35 rfl) (.cons (bH 33 rfl) (bH 32 rfl) .nil)) (by simp) (by simp)) (.cons (CL 208 rfl rfl) (.cons (CL 208 rfl rfl) .nil)) (fun _=>⟨_,rfl⟩)))))))
noncomputable def jeZ:MS:=(ao (aL 203 (bc [])) (ao (cN (eA (aW dW [(aW dE [(ac 199)])])) (aG 191) (ao (aL 201 (ah .none)) (ao (sIf (aA eqF (aF (ac 200) (ac 191)) (ah (.str 21))) (aL 201 (aF (aF (ac 199) (ac 191)) (ah (.int 0)))) aE) (ao (sIf (aA eqF (aF (ac 200) (ac 191)) (ah (.str 24))) (aL 201 (aF (aF (ac 199) (ac 191)) (ah (.int 1)))) aE) (sIf (cu (aA isNN (ac 201) (ah .none)) (cu (aA eqL (cK [200] (bq (ac 201)) (aG 194) (aA neG (aF (ac 200) (ac 194)) (ah (.str 25))) (ac 194)) (bc [])) ck)) (aI (aV 1 bg (ac 203) [(ac 191)])) aE))))) (bD (ac 203))))
noncomputable def jaB:List MV→List MV→MEx:=cD 2 [199,200] (fun xs _=>xs) jeZ
theorem jho{c:Cx}(hc:HC c):FOp c 1 (.ref 510) [] jaB:=by
 refine aX (hc.fns 20 _ rfl) fun oc od osl doc pm an ct ho hcd=>?_;refine bJ ho hcd (.p2 (by decide) (mC 199 rfl (mC 200 rfl bL)) (fun _ _=>rfl)) rfl (psOK.n rfl) ?_
 exact(am (SL 203 rfl rfl (bB .nil)) (am (cn (jbi 191 (c.s 191 rfl) rfl (bv (aR rfl (hc.gl 195 rfl rfl) rfl (by decide) rfl) rfl jaK (.cons (bv (aR rfl (hc.gl 184 rfl rfl) rfl (by decide) rfl) rfl ef (.cons (CL 199 rfl rfl) .nil)) .nil))) (am (SL 201 rfl rfl bN) (am (bd (aK ca (aZ (CL 200 rfl rfl) (CL 191 rfl rfl)) (bH 21 rfl)) (aw (SL 201 rfl rfl (aZ (aZ (CL 199 rfl rfl) (CL 191 rfl rfl)) aP))) aO) (am (bd (aK ca (aZ (CL 200 rfl rfl) (CL 191 rfl rfl)) (bH 24 rfl)) (aw (SL 201 rfl rfl (aZ (aZ (CL 199 rfl rfl) (CL 191 rfl rfl)) aP))) aO) (aw (bd (cT (.consA rfl (aK jdR (CL 201 rfl rfl) bN) (.consA rfl (aK jcW (jcl (CompOK.n (fs:=[200]) rfl) (bE 194 (c.s 194 rfl) rfl (CL 201 rfl rfl)) (jcj (aK jeJ (aZ (CL 200 rfl rfl) (CL 194 rfl rfl)) (bH 25 rfl))) (CL 194 rfl rfl)) (bB .nil)) (.nilA rfl)))) (aw (bb (bA (id:="list.append") 1 (by decide) F.slot_list_append rfl bT (CL 203 rfl rfl) (.cons (CL 191 rfl rfl) .nil) (fun _=>⟨_,rfl⟩)))) aO)))))) (aw (cg (CL 203 rfl rfl)))))
noncomputable def jca:MS:=(ao (aT (ac 61) 42 (ac 42)) (ao (aT (ac 61) 50 (c6 (aq (ac 42) 50) none none none)) (ao (aT (ac 61) 52 (c6 (aq (ac 42) 52) none none none)) (ao (aT (ac 61) 138 (bc [])) (ao (sIf (mTr (ac 137)) (aI (aV 1 jeH (aq (ac 61) 138) [(aq (ac 137) 138)])) aE) (ao (aI (aV 1 bg (aq (ac 61) 138) [(aq (ac 42) 62)])) (ao (aT (ac 61) 139 (ah (.bool false))) (ao (aT (ac 61) 140 (aW jgv [])) (ao (aT (ac 61) 141 (aW jgv [])) (ao (aT (ac 61) 142 jbB) (ao (aT (ac 61) 143 (ah .none)) (ao (aT (ac 61) 144 (bc [])) (ao (aT (ac 61) 145 (bc [])) (aT (ac 61) 146 (ah (.int 0))))))))))))))))
noncomputable def jbe:List MV→List MV→MEx:=cD 3 [61,42,137] (fun xs _=>xs) jca
theorem jd6{c:Cx}(hc:HC c):FOp c 1 (.ref (c.fn 3060)) [] jbe:=by
 rw[hc.fn];refine aX (hc.fns 21 _ rfl) fun oc od osl doc pm an ct ho hcd=>?_;refine bJ ho hcd (.p3 (by decide) (mC 61 rfl (mC 42 rfl (mC 137 rfl bL))) (fun _ _ _=>rfl)) rfl (psOK.n rfl) ?_
 exact(am (aQ 42 (c.s 42 rfl) (CL 61 rfl rfl) (CL 42 rfl rfl)) (am (aQ 50 (c.s 50 rfl) (CL 61 rfl rfl) (dL (ax 50 (c.s 50 rfl) (CL 42 rfl rfl) (fun _=>rfl)) .none .none .none ⟨_,fun _ _=>rfl⟩)) (am (aQ 52 (c.s 52 rfl) (CL 61 rfl rfl) (dL (ax 52 (c.s 52 rfl) (CL 42 rfl rfl) (fun _=>rfl)) .none .none .none ⟨_,fun _ _=>rfl⟩)) (am (aQ 138 (c.s 138 rfl) (CL 61 rfl rfl) (bB .nil)) (am (bd (bP (CL 137 rfl rfl)) (aw (bb (bA (id:="list.extend") 1 (by decide) F.slot_list_extend rfl jiq (ax 138 (c.s 138 rfl) (CL 61 rfl rfl) (fun _=>rfl)) (.cons (ax 138 (c.s 138 rfl) (CL 137 rfl rfl) (fun _=>rfl)) .nil) (fun _=>⟨_,rfl⟩)))) aO) (am (bb (bA (id:="list.append") 1 (by decide) F.slot_list_append rfl bT (ax 138 (c.s 138 rfl) (CL 61 rfl rfl) (fun _=>rfl)) (.cons (ax 62 (c.s 62 rfl) (CL 42 rfl rfl) (fun _=>rfl)) .nil) (fun _=>⟨_,rfl⟩))) (am (aQ 139 (c.s 139 rfl) (CL 61 rfl rfl) eM) (am (aQ 140 (c.s 140 rfl) (CL 61 rfl rfl) (bv (aR rfl (hc.gl 147 rfl rfl) rfl (by decide) rfl) rfl jg5 .nil)) (am (aQ 141 (c.s 141 rfl) (CL 61 rfl rfl) (bv (aR rfl (hc.gl 147 rfl rfl) rfl (by decide) rfl) rfl jg5 .nil)) (am (aQ 142 (c.s 142 rfl) (CL 61 rfl rfl) jbj) (am (aQ 143 (c.s 143 rfl) (CL 61 rfl rfl) bN) (am (aQ 144 (c.s 144 rfl) (CL 61 rfl rfl) (bB .nil)) (am (aQ 145 (c.s 145 rfl) (CL 61 rfl rfl) (bB .nil)) (aw (aQ 146 (c.s 146 rfl) (CL 61 rfl rfl) aP)))))))))))))))
noncomputable def ja8:MS:=(ao (aL 154 (aV 2 getM (aq (ac 61) 150) [(ac 129),(ah .none)])) (ao (sIf (aA isN (ac 154) (ah .none)) (ao (aL 154 (bF (mNew 2 jbe) [(aF (aq (ac 61) 105) (ac 129)),(ac 137)] [])) (ao (dv (aq (ac 61) 150) (ac 129) (ac 154)) (bD (ac 154)))) aE) (ao (sIf (cu (mTr (ac 137)) (cu (aA inM (ac 129) (aq (ac 137) 138)) ck)) dm aE) (bD (ah .none)))))
noncomputable def jag:List MV→List MV→MEx:=cD 3 [61,137,129] (fun xs _=>xs) ja8
theorem ja7{c:Cx}(hc:HC c):FOp c 3 (.ref (c.fn 4156)) [] jag:=by
 rw[hc.fn];refine aX (hc.fns 22 _ rfl) fun oc od osl doc pm an ct ho hcd=>?_;refine bJ ho hcd (.p3 (by decide) (mC 61 rfl (mC 137 rfl (mC 129 rfl bL))) (fun _ _ _=>rfl)) rfl (psOK.n rfl) ?_
 exact(am (SL 154 rfl rfl (bA (id:="dict.get") 2 (by decide) F.slot_dict_get rfl jhR (ax 150 (c.s 150 rfl) (CL 61 rfl rfl) (fun _=>rfl)) (.cons (CL 129 rfl rfl) (.cons bN .nil)) (fun _=>⟨_,rfl⟩))) (am (bd (aK jbP (CL 154 rfl rfl) bN) (am (SL 154 rfl rfl (dq (by rw[hc.cls];exact(c9 rfl (hc.gl 159 rfl rfl) rfl)) (hc.kc 2 (by decide)) ((jeI 2 (by decide) (by decide) (c.s 60 rfl) (jd6 hc)).mono (by decide)) (.cons (aZ (ax 105 (c.s 105 rfl) (CL 61 rfl rfl) (fun _=>rfl)) (CL 129 rfl rfl)) (.cons (CL 137 rfl rfl) .nil)) .nil)) (am (jba (ax 150 (c.s 150 rfl) (CL 61 rfl rfl) (fun _=>rfl)) (CL 129 rfl rfl) (CL 154 rfl rfl)) (aw (cg (CL 154 rfl rfl))))) aO) (am (bd (cT (.consA rfl (bP (CL 137 rfl rfl)) (.consA rfl (aK ds (CL 129 rfl rfl) (ax 138 (c.s 138 rfl) (CL 137 rfl rfl) (fun _=>rfl))) (.nilA rfl)))) cW aO) (aw (cg bN)))))
noncomputable def jaZ:MS:=(ao (aL 163 (bx 3 156 jag (ac 61) [(ac 137),(ac 129)] [])) (sIf (aA isNN (ac 163) (ah .none)) (aI (aV 1 bg (aq (ac 61) 152) [(ac 163)])) aE))
noncomputable def jaa:List MV→List MV→MEx:=cD 3 [61,137,129] (fun xs _=>xs) jaZ
theorem jas{c:Cx}(hc:HC c):FOp c 4 (.ref (c.fn 4162)) [] jaa:=by
 rw[hc.fn];refine aX (hc.fns 23 _ rfl) fun oc od osl doc pm an ct ho hcd=>?_;refine bJ ho hcd (.p3 (by decide) (mC 61 rfl (mC 137 rfl (mC 129 rfl bL))) (fun _ _ _=>rfl)) rfl (psOK.n rfl) ?_
 exact(am (SL 163 rfl rfl (bY 3 156 (c.s 156 rfl) (by decide) ((ja7 hc).mono (by decide)) (CL 61 rfl rfl) (.cons (CL 137 rfl rfl) (.cons (CL 129 rfl rfl) .nil)) .nil (fun _=>⟨_,rfl⟩))) (aw (bd (aK jdR (CL 163 rfl rfl) bN) (aw (bb (bA (id:="list.append") 1 (by decide) F.slot_list_append rfl bT (ax 152 (c.s 152 rfl) (CL 61 rfl rfl) (fun _=>rfl)) (.cons (CL 163 rfl rfl) .nil) (fun _=>⟨_,rfl⟩)))) aO)))
noncomputable def jbo:MS:=(sIf (aA eqF (aq (ac 149) 143) (ah (.str 32))) (aI (aV 1 bg (aq (ac 61) 144) [(ac 149)])) (sIf (aA eqF (aq (ac 149) 143) (ah (.str 34))) (aI (aV 1 bg (aq (ac 61) 145) [(ac 149)])) aE))
noncomputable def jac:List MV→List MV→MEx:=cD 2 [61,149] (fun xs _=>xs) jbo
theorem jaD{c:Cx}(hc:HC c):FOp c 1 (.ref (c.fn 3148)) [] jac:=by
 rw[hc.fn];refine aX (hc.fns 24 _ rfl) fun oc od osl doc pm an ct ho hcd=>?_;refine bJ ho hcd (.p2 (by decide) (mC 61 rfl (mC 149 rfl bL)) (fun _ _=>rfl)) rfl (psOK.n rfl) ?_
 exact(aw (bd (aK ca (ax 143 (c.s 143 rfl) (CL 149 rfl rfl) (fun _=>rfl)) (bH 32 rfl)) (aw (bb (bA (id:="list.append") 1 (by decide) F.slot_list_append rfl bT (ax 144 (c.s 144 rfl) (CL 61 rfl rfl) (fun _=>rfl)) (.cons (CL 149 rfl rfl) .nil) (fun _=>⟨_,rfl⟩)))) (aw (bd (aK ca (ax 143 (c.s 143 rfl) (CL 149 rfl rfl) (fun _=>rfl)) (bH 34 rfl)) (aw (bb (bA (id:="list.append") 1 (by decide) F.slot_list_append rfl bT (ax 145 (c.s 145 rfl) (CL 61 rfl rfl) (fun _=>rfl)) (.cons (CL 149 rfl rfl) .nil) (fun _=>⟨_,rfl⟩)))) aO))))
noncomputable def jax:MS:=(ao (aL 166 (bc [])) (ao (cN (bq (ac 104)) (aG 62) (ao (aL 167 (aF (aq (ac 61) 150) (ac 62))) (sIf (mOr (eU (mTr (ac 167))) (mOr (aA inM (aq (ac 167) 143) (dg [(ah .none),(ah (.str 36))])) cy)) (sIf (aA fe (ac 62) (ac 166)) (aI (aV 1 bg (ac 166) [(ac 62)])) aE) (ao (aI (bx 2 148 jac (ac 154) [(ac 167)] [])) (sIf (mTr (ac 165)) dm aE))))) (ao (cN (bq (ac 166)) (aG 62) (dv (aq (aF (aq (ac 61) 150) (ac 62)) 142) (aq (aq (ac 154) 42) 62) (ac 154))) (sIf (mTr (ac 165)) (aI (aV 3 jdu (aq (ac 154) 141) [(ac 166)])) (aI (aV 3 jdu (aq (ac 154) 140) [(ac 166)]))))))
noncomputable def jab:List MV→List MV→MEx:=cD 3 [61,154,104,165] (fun xs ys=>[(xs.getD 0 .none),(xs.getD 1 .none),(xs.getD 2 .none),.bool false]) jax
theorem jav{c:Cx}(hc:HC c):FOp c 2 (.ref (c.fn 4164)) [] jab:=by
 rw[hc.fn];refine aX (hc.fns 25 _ rfl) fun oc od osl doc pm an ct ho hcd=>?_;refine bJ ho hcd (by
  refine⟨by decide,fun W s vs ks xs ys X emp hv hk hn hl=>?_⟩
  refine jbG (hv.l3 hn) fun a b d x y z zq1 zq2=>?_;obtain rfl:=zq1;refine Za zq2 ?_;clear zq2;intro zq1 zq2;obtain rfl:=zq1;refine Zaa zq2 ?_;clear zq2;intro ra rb rd
  refine⟨[a,b,d,.bool false],?_,.cons ra (.cons rb (.cons rd (.cons (.bool _) .nil)))⟩
  unfold cP;rw[(mC 61 rfl (mC 154 rfl (mC 104 rfl (mC 165 rfl bL))))]
  exact binds_K X rfl (hc.tp 429 _ rfl) rfl rfl rfl) rfl (psOK.n rfl) ?_
 exact(am (SL 166 rfl rfl (bB .nil)) (am (cn (bE 62 (c.s 62 rfl) rfl (CL 104 rfl rfl)) (am (SL 167 rfl rfl (aZ (ax 150 (c.s 150 rfl) (CL 61 rfl rfl) (fun _=>rfl)) (CL 62 rfl rfl))) (aw (bd (cT (.consO rfl (jdt (bP (CL 167 rfl rfl))) (.consO rfl (aK ds (ax 143 (c.s 143 rfl) (CL 167 rfl rfl) (fun _=>rfl)) (d6 (.cons bN (.cons (bH 36 rfl) .nil)))) (.nilO rfl)))) (aw (bd (aK ja1 (CL 62 rfl rfl) (CL 166 rfl rfl)) (aw (bb (bA (id:="list.append") 1 (by decide) F.slot_list_append rfl bT (CL 166 rfl rfl) (.cons (CL 62 rfl rfl) .nil) (fun _=>⟨_,rfl⟩)))) aO)) (am (bb (bY 2 148 (c.s 148 rfl) (by decide) ((jaD hc).mono (by decide)) (CL 154 rfl rfl) (.cons (CL 167 rfl rfl) .nil) .nil (fun _=>⟨_,rfl⟩))) (aw (bd (bP (CL 165 rfl rfl)) cW aO))))))) (am (cn (bE 62 (c.s 62 rfl) rfl (CL 166 rfl rfl)) (aw (jba (ax 142 (c.s 142 rfl) (aZ (ax 150 (c.s 150 rfl) (CL 61 rfl rfl) (fun _=>rfl)) (CL 62 rfl rfl)) (fun _=>rfl)) (ax 62 (c.s 62 rfl) (ax 42 (c.s 42 rfl) (CL 154 rfl rfl) (fun _=>rfl)) (fun _=>rfl)) (CL 154 rfl rfl)))) (aw (bd (bP (CL 165 rfl rfl)) (aw (bb (bA (id:="set.update") 3 (by decide) F.slot_set_update rfl jcP (ax 141 (c.s 141 rfl) (CL 154 rfl rfl) (fun _=>rfl)) (.cons (CL 166 rfl rfl) .nil) (fun _=>⟨_,rfl⟩)))) (aw (bb (bA (id:="set.update") 3 (by decide) F.slot_set_update rfl jcP (ax 140 (c.s 140 rfl) (CL 154 rfl rfl) (fun _=>rfl)) (.cons (CL 166 rfl rfl) .nil) (fun _=>⟨_,rfl⟩)))))))))
noncomputable def jao:MS:=(ao (aL 166 (bc [])) (ao (cN (bq (ac 104)) (aG 62) (ao (aL 167 (aF (aq (ac 61) 150) (ac 62))) (sIf (mOr (eU (mTr (ac 167))) (mOr (aA inM (aq (ac 167) 143) (dg [(ah .none),(ah (.str 36))])) cy)) (sIf (aA fe (ac 62) (ac 166)) (aI (aV 1 bg (ac 166) [(ac 62)])) aE) (ao (aI (bx 2 148 jac (ac 154) [(ac 167)] [])) (sIf (mTr (ac 165)) dm aE))))) (ao (cN (bq (ac 166)) (aG 62) (dv (aq (aF (aq (ac 61) 150) (ac 62)) 142) (aq (aq (ac 154) 42) 62) (ac 154))) (sIf (mTr (ac 165)) (aI (aV 3 jdu (aq (ac 154) 141) [(ac 166)])) (aI (aV 3 jdu (aq (ac 154) 140) [(ac 166)]))))))
noncomputable def jad:List MV→List MV→MEx:=cD 3 [61,154,104,165] (fun xs ys=>[(xs.getD 0 .none),(xs.getD 1 .none),(xs.getD 2 .none),(ys.getD 0 .none)]) jao
theorem ja6{c:Cx}(hc:HC c):FOp c 2 (.ref (c.fn 4164)) [Str.ofString "calc"] jad:=by
 rw[hc.fn];refine aX (hc.fns 25 _ rfl) fun oc od osl doc pm an ct ho hcd=>?_;refine bJ ho hcd (by
  refine⟨by decide,fun W s vs ks xs ys X emp hv hk hn hl=>?_⟩
  refine jbG (hv.l3 hn) fun a b d x y z zq1 zq2=>?_;obtain rfl:=zq1;refine Za zq2 ?_;clear zq2;intro zq1 zq2;obtain rfl:=zq1;refine Zaa zq2 ?_;clear zq2;intro ra rb rd
  refine bt (hk.l1 hl) fun k0 y0 zq1 zq2=>?_;obtain rfl:=zq1;refine Za zq2 ?_;clear zq2;intro zq1 r0;obtain rfl:=zq1
  refine⟨[a,b,d,k0],?_,.cons ra (.cons rb (.cons rd (.cons r0 .nil)))⟩
  unfold cP;rw[(mC 61 rfl (mC 154 rfl (mC 104 rfl (mC 165 rfl bL))))]
  exact binds_K X rfl (hc.tp 429 _ rfl) rfl rfl rfl) rfl (psOK.n rfl) ?_
 exact(am (SL 166 rfl rfl (bB .nil)) (am (cn (bE 62 (c.s 62 rfl) rfl (CL 104 rfl rfl)) (am (SL 167 rfl rfl (aZ (ax 150 (c.s 150 rfl) (CL 61 rfl rfl) (fun _=>rfl)) (CL 62 rfl rfl))) (aw (bd (cT (.consO rfl (jdt (bP (CL 167 rfl rfl))) (.consO rfl (aK ds (ax 143 (c.s 143 rfl) (CL 167 rfl rfl) (fun _=>rfl)) (d6 (.cons bN (.cons (bH 36 rfl) .nil)))) (.nilO rfl)))) (aw (bd (aK ja1 (CL 62 rfl rfl) (CL 166 rfl rfl)) (aw (bb (bA (id:="list.append") 1 (by decide) F.slot_list_append rfl bT (CL 166 rfl rfl) (.cons (CL 62 rfl rfl) .nil) (fun _=>⟨_,rfl⟩)))) aO)) (am (bb (bY 2 148 (c.s 148 rfl) (by decide) ((jaD hc).mono (by decide)) (CL 154 rfl rfl) (.cons (CL 167 rfl rfl) .nil) .nil (fun _=>⟨_,rfl⟩))) (aw (bd (bP (CL 165 rfl rfl)) cW aO))))))) (am (cn (bE 62 (c.s 62 rfl) rfl (CL 166 rfl rfl)) (aw (jba (ax 142 (c.s 142 rfl) (aZ (ax 150 (c.s 150 rfl) (CL 61 rfl rfl) (fun _=>rfl)) (CL 62 rfl rfl)) (fun _=>rfl)) (ax 62 (c.s 62 rfl) (ax 42 (c.s 42 rfl) (CL 154 rfl rfl) (fun _=>rfl)) (fun _=>rfl)) (CL 154 rfl rfl)))) (aw (bd (bP (CL 165 rfl rfl)) (aw (bb (bA (id:="set.update") 3 (by decide) F.slot_set_update rfl jcP (ax 141 (c.s 141 rfl) (CL 154 rfl rfl) (fun _=>rfl)) (.cons (CL 166 rfl rfl) .nil) (fun _=>⟨_,rfl⟩)))) (aw (bb (bA (id:="set.update") 3 (by decide) F.slot_set_update rfl jcP (ax 140 (c.s 140 rfl) (CL 154 rfl rfl) (fun _=>rfl)) (.cons (CL 166 rfl rfl) .nil) (fun _=>⟨_,rfl⟩)))))))))
noncomputable def ja9:MS:=(ao (aL 171 (aq (ac 154) 42)) (ao (jcX (aA eqF (aq (ac 154) 146) (ah (.int 0))) (ao (aL 172 (aq (ac 154) 52)) (ao (aT (ac 154) 52 (bc [])) (ao (aL 173 (c6 (aq (ac 154) 50) none none none)) (ao (aT (ac 154) 50 (bc [])) (ao (cN (bq (ac 172)) (aG 52) (aI (bx 3 162 jaa (ac 61) [(ac 154),(ac 52)] []))) (ao (aI (bx 3 164 jad (ac 61) [(ac 154),(ac 172)] [(ah (.bool true))])) (ao (cN (bq (ac 173)) (aG 50) (aI (bx 3 162 jaa (ac 61) [(ac 154),(ac 50)] []))) (ao (aI (bx 3 164 jab (ac 61) [(ac 154),(ac 173)] [])) (sIf (mOr (mTr (aq (ac 154) 52)) (mOr (mTr (aq (ac 154) 50)) cy)) eO (sIf (mOr (mTr (aq (ac 154) 140)) (mOr (mTr (aq (ac 154) 141)) cy)) (bD (ah (.str 43))) (ao (aT (ac 154) 146 (ah (.int 1))) (bD (ah (.str 42))))))))))))))) (ao (sIf (mTr (aq (ac 171) 70)) (ao (sIf (aA eqF (aq (ac 154) 146) (ah (.int 1))) (ao (aT (ac 154) 146 (ah (.int 2))) (sIf (aA isN (aq (ac 154) 143) (ah .none)) (ao (aT (ac 154) 139 (ah (.bool true))) (bD (ah (.str 43)))) aE)) aE) (ao (sIf (cu (aA eqF (aq (ac 154) 146) (ah (.int 2))) (cu (aA eqF (aq (ac 154) 143) (ah (.str 36))) ck)) (ao (cN (bq (aq (ac 171) 70)) (aG 115) (aI (bx 3 162 jaa (ac 61) [(ac 154),(ac 115)] []))) (ao (aI (bx 3 164 jab (ac 61) [(ac 154),(aq (ac 171) 70)] [])) (ao (aT (ac 154) 146 (ah (.int 3))) (sIf (mTr (aq (ac 154) 140)) (bD (ah (.str 43))) aE)))) aE) (sIf (aA eqF (aq (ac 154) 146) (ah (.int 3))) (ao (aT (ac 154) 146 (ah (.int 4))) (bD (ah (.str 42)))) aE))) aE) (bD (ah .none)))))
noncomputable def jah:List MV→List MV→MEx:=cD 2 [61,154] (fun xs _=>xs) ja9
theorem jcD{c:Cx}(hc:HC c):FOp c 5 (.ref (c.fn 4170)) [] jah:=by
 rw[hc.fn];refine aX (hc.fns 26 _ rfl) fun oc od osl doc pm an ct ho hcd=>?_;refine bJ ho hcd (.p2 (by decide) (mC 61 rfl (mC 154 rfl bL)) (fun _ _=>rfl)) rfl (psOK.n rfl) ?_
 exact(am (SL 171 rfl rfl (ax 42 (c.s 42 rfl) (CL 154 rfl rfl) (fun _=>rfl))) (am (jg3 (aK ca (ax 146 (c.s 146 rfl) (CL 154 rfl rfl) (fun _=>rfl)) aP) (am (SL 172 rfl rfl (ax 52 (c.s 52 rfl) (CL 154 rfl rfl) (fun _=>rfl))) (am (aQ 52 (c.s 52 rfl) (CL 154 rfl rfl) (bB .nil)) (am (SL 173 rfl rfl (dL (ax 50 (c.s 50 rfl) (CL 154 rfl rfl) (fun _=>rfl)) .none .none .none ⟨_,fun _ _=>rfl⟩)) (am (aQ 50 (c.s 50 rfl) (CL 154 rfl rfl) (bB .nil)) (am (cn (bE 52 (c.s 52 rfl) rfl (CL 172 rfl rfl)) (aw (bb (bY 3 162 (c.s 162 rfl) (by decide) ((jas hc).mono (by decide)) (CL 61 rfl rfl) (.cons (CL 154 rfl rfl) (.cons (CL 52 rfl rfl) .nil)) .nil (fun _=>⟨_,rfl⟩))))) (am (bb (bY 3 164 (c.s 164 rfl) (by decide) ((ja6 hc).mono (by decide)) (CL 61 rfl rfl) (.cons (CL 154 rfl rfl) (.cons (CL 172 rfl rfl) .nil)) (.cons eM .nil) (fun _=>⟨_,rfl⟩))) (am (cn (bE 50 (c.s 50 rfl) rfl (CL 173 rfl rfl)) (aw (bb (bY 3 162 (c.s 162 rfl) (by decide) ((jas hc).mono (by decide)) (CL 61 rfl rfl) (.cons (CL 154 rfl rfl) (.cons (CL 50 rfl rfl) .nil)) .nil (fun _=>⟨_,rfl⟩))))) (am (bb (bY 3 164 (c.s 164 rfl) (by decide) ((jav hc).mono (by decide)) (CL 61 rfl rfl) (.cons (CL 154 rfl rfl) (.cons (CL 173 rfl rfl) .nil)) .nil (fun _=>⟨_,rfl⟩))) (aw (bd (cT (.consO rfl (bP (ax 52 (c.s 52 rfl) (CL 154 rfl rfl) (fun _=>rfl))) (.consO rfl (bP (ax 50 (c.s 50 rfl) (CL 154 rfl rfl) (fun _=>rfl))) (.nilO rfl)))) (aw jdD) (aw (bd (cT (.consO rfl (bP (ax 140 (c.s 140 rfl) (CL 154 rfl rfl) (fun _=>rfl))) (.consO rfl (bP (ax 141 (c.s 141 rfl) (CL 154 rfl rfl) (fun _=>rfl))) (.nilO rfl)))) (aw (cg (bH 43 rfl))) (am (aQ 146 (c.s 146 rfl) (CL 154 rfl rfl) aP) (aw (cg (bH 42 rfl))))))))))))))))) (am (bd (bP (ax 70 (c.s 70 rfl) (CL 171 rfl rfl) (fun _=>rfl))) (am (bd (aK ca (ax 146 (c.s 146 rfl) (CL 154 rfl rfl) (fun _=>rfl)) aP) (am (aQ 146 (c.s 146 rfl) (CL 154 rfl rfl) aP) (aw (bd (aK jbP (ax 143 (c.s 143 rfl) (CL 154 rfl rfl) (fun _=>rfl)) bN) (am (aQ 139 (c.s 139 rfl) (CL 154 rfl rfl) eM) (aw (cg (bH 43 rfl)))) aO))) aO) (am (bd (cT (.consA rfl (aK ca (ax 146 (c.s 146 rfl) (CL 154 rfl rfl) (fun _=>rfl)) aP) (.consA rfl (aK ca (ax 143 (c.s 143 rfl) (CL 154 rfl rfl) (fun _=>rfl)) (bH 36 rfl)) (.nilA rfl)))) (am (cn (bE 115 (c.s 115 rfl) rfl (ax 70 (c.s 70 rfl) (CL 171 rfl rfl) (fun _=>rfl))) (aw (bb (bY 3 162 (c.s 162 rfl) (by decide) ((jas hc).mono (by decide)) (CL 61 rfl rfl) (.cons (CL 154 rfl rfl) (.cons (CL 115 rfl rfl) .nil)) .nil (fun _=>⟨_,rfl⟩))))) (am (bb (bY 3 164 (c.s 164 rfl) (by decide) ((jav hc).mono (by decide)) (CL 61 rfl rfl) (.cons (CL 154 rfl rfl) (.cons (ax 70 (c.s 70 rfl) (CL 171 rfl rfl) (fun _=>rfl)) .nil)) .nil (fun _=>⟨_,rfl⟩))) (am (aQ 146 (c.s 146 rfl) (CL 154 rfl rfl) aP) (aw (bd (bP (ax 140 (c.s 140 rfl) (CL 154 rfl rfl) (fun _=>rfl))) (aw (cg (bH 43 rfl))) aO))))) aO) (aw (bd (aK ca (ax 146 (c.s 146 rfl) (CL 154 rfl rfl) (fun _=>rfl)) aP) (am (aQ 146 (c.s 146 rfl) (CL 154 rfl rfl) aP) (aw (cg (bH 42 rfl)))) aO)))) aO) (aw (cg bN)))))
noncomputable def jaF:MS:=(ao (sIf (mTr (ac 152)) (bD (aV 1 popM (ac 152) [(ah (.int 0))])) aE) (ao (jcX (mTr (ac 153)) (ao (aL 129 (aV 1 popM (ac 153) [])) (ao (aL 154 (bx 3 156 jag (ac 61) [(ah .none),(ac 129)] [])) (sIf (mTr (ac 154)) (bD (ac 154)) aE)))) (bD (ah .none))))
noncomputable def jae:List MV→List MV→MEx:=cD 3 [61,152,153] (fun xs _=>xs) jaF
theorem jbY{c:Cx}(hc:HC c):FOp c 4 (.ref (c.fn 4174)) [] jae:=by
 rw[hc.fn];refine aX (hc.fns 27 _ rfl) fun oc od osl doc pm an ct ho hcd=>?_;refine bJ ho hcd (.p3 (by decide) (mC 61 rfl (mC 152 rfl (mC 153 rfl bL))) (fun _ _ _=>rfl)) rfl (psOK.n rfl) ?_
 exact(am (bd (bP (CL 152 rfl rfl)) (aw (cg (bA (id:="list.pop") 1 (by decide) F.slot_list_pop rfl jeK (CL 152 rfl rfl) (.cons aP .nil) (fun _=>⟨_,rfl⟩)))) aO) (am (jg3 (bP (CL 153 rfl rfl)) (am (SL 129 rfl rfl (bA (id:="list.pop") 1 (by decide) F.slot_list_pop rfl jeK (CL 153 rfl rfl) .nil (fun _=>⟨_,rfl⟩))) (am (SL 154 rfl rfl (bY 3 156 (c.s 156 rfl) (by decide) ((ja7 hc).mono (by decide)) (CL 61 rfl rfl) (.cons bN (.cons (CL 129 rfl rfl) .nil)) .nil (fun _=>⟨_,rfl⟩))) (aw (bd (bP (CL 154 rfl rfl)) (aw (cg (CL 154 rfl rfl))) aO))))) (aw (cg bN))))
noncomputable def jal:MS:=(ao (sIf (aA isN (ac 176) (ah .none)) (bD (ah .none)) aE) (ao (aL 154 (ac 176)) (ao (sIf (mTr (aq (ac 154) 139)) (ao (aI (aV 1 bg (aq (ac 61) 152) [(ac 154)])) (ao (sDel (aq (ac 61) 151) (aq (aq (ac 154) 42) 62)) (aT (ac 154) 139 (ah (.bool false))))) aE) (ao (sIf (aA eqF (aq (ac 154) 143) (ah (.str 36))) (bD (ah .none)) aE) (cN (bq (aW jcq [(aV 2 (jgu false) (aq (ac 154) 142) [])])) (aG 177) (ao (aI (bx 2 148 jac (ac 177) [(ac 154)] [])) (ao (aL 129 (aq (aq (ac 154) 42) 62)) (ao (sIf (aA inM (ac 129) (aq (ac 177) 140)) (ao (aI (aV 3 jbM (aq (ac 177) 140) [(ac 129)])) (aL 178 (jfe (mOrV (aq (ac 177) 140) (aq (ac 177) 141))))) (ao (jbp (aA inM (ac 129) (aq (ac 177) 141))) (ao (aI (aV 3 jbM (aq (ac 177) 141) [(ac 129)])) (ao (aL 178 (ah (.bool true))) dm)))) (sIf (cu (mTr (ac 178)) (cu (aA inM (aq (aq (ac 177) 42) 62) (aq (ac 61) 151)) ck)) (ao (aI (aV 1 bg (aq (ac 61) 152) [(ac 177)])) (sDel (aq (ac 61) 151) (aq (aq (ac 177) 42) 62))) aE)))))))))
noncomputable def jaf:List MV→List MV→MEx:=cD 2 [61,176] (fun xs _=>xs) jal
theorem jbJ{c:Cx}(hc:HC c):FOp c 2 (.ref (c.fn 4175)) [] jaf:=by
 rw[hc.fn];refine aX (hc.fns 28 _ rfl) fun oc od osl doc pm an ct ho hcd=>?_;refine bJ ho hcd (.p2 (by decide) (mC 61 rfl (mC 176 rfl bL)) (fun _ _=>rfl)) rfl (psOK.n rfl) ?_
 exact(am (bd (aK jbP (CL 176 rfl rfl) bN) (aw jfW) aO) (am (SL 154 rfl rfl (CL 176 rfl rfl)) (am (bd (bP (ax 139 (c.s 139 rfl) (CL 154 rfl rfl) (fun _=>rfl))) (am (bb (bA (id:="list.append") 1 (by decide) F.slot_list_append rfl bT (ax 152 (c.s 152 rfl) (CL 61 rfl rfl) (fun _=>rfl)) (.cons (CL 154 rfl rfl) .nil) (fun _=>⟨_,rfl⟩))) (am (jiJ (ax 151 (c.s 151 rfl) (CL 61 rfl rfl) (fun _=>rfl)) (ax 62 (c.s 62 rfl) (ax 42 (c.s 42 rfl) (CL 154 rfl rfl) (fun _=>rfl)) (fun _=>rfl))) (aw (aQ 139 (c.s 139 rfl) (CL 154 rfl rfl) eM)))) aO) (am (bd (aK ca (ax 143 (c.s 143 rfl) (CL 154 rfl rfl) (fun _=>rfl)) (bH 36 rfl)) (aw jfW) aO) (aw (cn (bE 177 (c.s 177 rfl) rfl (bv (aR rfl (hc.gl 75 rfl rfl) rfl (by decide) rfl) rfl jco (.cons (bA (id:="dict.values") 2 (by decide) F.slot_dict_values rfl jdV (ax 142 (c.s 142 rfl) (CL 154 rfl rfl) (fun _=>rfl)) .nil (fun _=>⟨_,rfl⟩)) .nil))) (am (bb (bY 2 148 (c.s 148 rfl) (by decide) ((jaD hc).mono (by decide)) (CL 177 rfl rfl) (.cons (CL 154 rfl rfl) .nil) .nil (fun _=>⟨_,rfl⟩))) (am (SL 129 rfl rfl (ax 62 (c.s 62 rfl) (ax 42 (c.s 42 rfl) (CL 154 rfl rfl) (fun _=>rfl)) (fun _=>rfl))) (am (bd (aK ds (CL 129 rfl rfl) (ax 140 (c.s 140 rfl) (CL 177 rfl rfl) (fun _=>rfl))) (am (bb (bA (id:="set.remove") 3 (by decide) F.slot_set_remove rfl jfK (ax 140 (c.s 140 rfl) (CL 177 rfl rfl) (fun _=>rfl)) (.cons (CL 129 rfl rfl) .nil) (fun _=>⟨_,rfl⟩))) (aw (SL 178 rfl rfl (CE_not (CE_or (ax 140 (c.s 140 rfl) (CL 177 rfl rfl) (fun _=>rfl)) (ax 141 (c.s 141 rfl) (CL 177 rfl rfl) (fun _=>rfl))))))) (am (jee (aK ds (CL 129 rfl rfl) (ax 141 (c.s 141 rfl) (CL 177 rfl rfl) (fun _=>rfl)))) (am (bb (bA (id:="set.remove") 3 (by decide) F.slot_set_remove rfl jfK (ax 141 (c.s 141 rfl) (CL 177 rfl rfl) (fun _=>rfl)) (.cons (CL 129 rfl rfl) .nil) (fun _=>⟨_,rfl⟩))) (am (SL 178 rfl rfl eM) cW)))) (aw (bd (cT (.consA rfl (bP (CL 178 rfl rfl)) (.consA rfl (aK ds (ax 62 (c.s 62 rfl) (ax 42 (c.s 42 rfl) (CL 177 rfl rfl) (fun _=>rfl)) (fun _=>rfl)) (ax 151 (c.s 151 rfl) (CL 61 rfl rfl) (fun _=>rfl))) (.nilA rfl)))) (am (bb (bA (id:="list.append") 1 (by decide) F.slot_list_append rfl bT (ax 152 (c.s 152 rfl) (CL 61 rfl rfl) (fun _=>rfl)) (.cons (CL 177 rfl rfl) .nil) (fun _=>⟨_,rfl⟩))) (aw (jiJ (ax 151 (c.s 151 rfl) (CL 61 rfl rfl) (fun _=>rfl)) (ax 62 (c.s 62 rfl) (ax 42 (c.s 42 rfl) (CL 177 rfl rfl) (fun _=>rfl)) (fun _=>rfl))))) aO)))))))))))
noncomputable def jbW:MX:=(fg (xS (aI (bx 3 175 jaf (ac 61) [(ac 176)] []))) (fg (jir (mTr (ah (.bool true))) (fg (xIf (eU (mTr (aq (ac 61) 154))) (fg (xS (aT (ac 61) 154 (bx 3 174 jae (ac 61) [(aq (ac 61) 152),(aq (ac 61) 153)] []))) (xIf (eU (mTr (aq (ac 61) 154))) (fg (xIf (mTr (aq (ac 61) 151)) (jfk (ah (.str 40))) (xS aE)) (xS (bD (ah .none)))) (xS aE))) (xS aE)) (xS (ao (aL 186 (bx 3 170 jah (ac 61) [(aq (ac 61) 154)] [])) (ao (sIf (aA isN (ac 186) (ah .none)) (ao (aT (ac 61) 154 (ah .none)) eO) aE) (ao (sIf (aA eqF (ac 186) (ah (.str 42))) (bD (aq (ac 61) 154)) aE) (ao (jbp (aA eqF (ac 186) (ah (.str 43)))) (ao (dv (aq (ac 61) 151) (aq (aq (aq (ac 61) 154) 42) 62) (aq (ac 61) 154)) (aT (ac 61) 154 (ah .none)))))))))) (xS aE)))
noncomputable def jaW:MEX:=xFun 2 [61,176] (fun xs _=>xs) jbW
theorem jdF{c:Cx}(hc:HC c):FOpX c 65 6 (.ref (c.fn 4185)) [] jaW:=by
 rw[hc.fn];refine aX (hc.fns 29 _ rfl) fun oc od osl doc pm an ct ho hcd=>?_;refine jjX ho hcd (.p2 (by decide) (mC 61 rfl (mC 176 rfl bL)) (fun _ _=>rfl)) rfl (psOK.n rfl) ?_
 exact(jgk (CXo_S (bb (bY 3 175 (c.s 175 rfl) (by decide) ((jbJ hc).mono (by decide)) (CL 61 rfl rfl) (.cons (CL 176 rfl rfl) .nil) .nil (fun _=>⟨_,rfl⟩)))) (jgk (ji6 (bP eM) (je9 (jh1 (jdt (bP (ax 154 (c.s 154 rfl) (CL 61 rfl rfl) (fun _=>rfl)))) (je9 (CX_S (aQ 154 (c.s 154 rfl) (CL 61 rfl rfl) (bY 3 174 (c.s 174 rfl) (by decide) ((jbY hc).mono (by decide)) (CL 61 rfl rfl) (.cons (ax 152 (c.s 152 rfl) (CL 61 rfl rfl) (fun _=>rfl)) (.cons (ax 153 (c.s 153 rfl) (CL 61 rfl rfl) (fun _=>rfl)) .nil)) .nil (fun _=>⟨_,rfl⟩)))) (jhP (jh1 (jdt (bP (ax 154 (c.s 154 rfl) (CL 61 rfl rfl) (fun _=>rfl)))) (je9 (jh1 (bP (ax 151 (c.s 151 rfl) (CL 61 rfl rfl) (fun _=>rfl))) (jhP (jj0 hc.own F.excBase_Exception (c9 rfl (hc.gl 187 rfl rfl) rfl) (bH 40 rfl))) (jfj aO)) (jfj (aw (cg bN)))) (jfj aO)))) (jfj aO)) (jfj (am (SL 186 rfl rfl (bY 3 170 (c.s 170 rfl) (by decide) ((jcD hc).mono (by decide)) (CL 61 rfl rfl) (.cons (ax 154 (c.s 154 rfl) (CL 61 rfl rfl) (fun _=>rfl)) .nil) .nil (fun _=>⟨_,rfl⟩))) (am (bd (aK jbP (CL 186 rfl rfl) bN) (am (aQ 154 (c.s 154 rfl) (CL 61 rfl rfl) bN) (aw jdD)) aO) (am (bd (aK ca (CL 186 rfl rfl) (bH 42 rfl)) (aw (cg (ax 154 (c.s 154 rfl) (CL 61 rfl rfl) (fun _=>rfl)))) aO) (am (jee (aK ca (CL 186 rfl rfl) (bH 43 rfl))) (am (jba (ax 151 (c.s 151 rfl) (CL 61 rfl rfl) (fun _=>rfl)) (ax 62 (c.s 62 rfl) (ax 42 (c.s 42 rfl) (ax 154 (c.s 154 rfl) (CL 61 rfl rfl) (fun _=>rfl)) (fun _=>rfl)) (fun _=>rfl)) (ax 154 (c.s 154 rfl) (CL 61 rfl rfl) (fun _=>rfl))) (aw (aQ 154 (c.s 154 rfl) (CL 61 rfl rfl) bN)))))))))) jjZ))
noncomputable def jes:MS:=(ao (sTry 3 185 154 40 (ac 206) [(ac 25)] jaW) (bD (mIf (aA isN (ac 154) (ah .none)) (dg [(ah (.str 41)),(ah .none)]) (dg [(ah (.str 42)),(ac 154)]))))
noncomputable def jaU:List MV→List MV→MEx:=cD 2 [206,25] (fun xs _=>xs) jes
theorem jhd{c:Cx}(hc:HC c):FOp c 7 (.ref 524) [] jaU:=by
 refine aX (hc.fns 30 _ rfl) fun oc od osl doc pm an ct ho hcd=>?_;refine jjW ho hcd (.p2 (by decide) (mC 206 rfl (mC 25 rfl bL)) (fun _ _=>rfl)) rfl (psOK.n rfl) ?_
 exact(ji8 (jkz (B:="") (initId:="") 3 185 154 40 (c.s 185 rfl) (c.s 154 rfl) (c.s 40 rfl) rfl (by decide) (jdF hc) (CL 206 rfl rfl) (.cons (CL 25 rfl rfl) .nil) hc.own rfl rfl rfl (fun _=>⟨_,rfl⟩)) (aw (cg (jaQ (aK jbP (CL 154 rfl rfl) bN) (d6 (.cons (bH 41 rfl) (.cons bN .nil))) (d6 (.cons (bH 42 rfl) (.cons (CL 154 rfl rfl) .nil)))))))
noncomputable def jeq:MS:=(cN (bq (c6 (aW jcq [(aW dW [(aW dE [(ac 199)])])]) none none (some (mNeg (ah (.int 1)))))) (aG 191) (ao (aL 201 (bc [])) (ao (sIf (aA neG (aF (ac 200) (ac 191)) (ah (.str 20))) (aL 201 (aW jcq [(aF (aF (ac 199) (ac 191)) (ah (.int 0)))])) aE) (ao (sIf (mOr (aA inM (aF (ac 200) (ac 191)) (dg [(ah (.str 24)),(ah (.str 23))])) (mOr (cu (aA eqF (aF (ac 200) (ac 191)) (ah (.str 25))) (cu (mTr (bF jaJ [(aF (ac 199) (ac 191))] [])) ck)) cy)) (aL 201 (mCat (ac 201) (aF (aF (ac 199) (ac 191)) (ah (.int 1))))) aE) (cN (bq (ac 201)) (aG 194) (sIf (aA eqF (aF (ac 200) (ac 194)) (ah (.str 20))) (dv (ac 200) (ac 194) (ah (.str 21))) aE))))))
noncomputable def jaT:List MV→List MV→MEx:=cD 2 [199,200] (fun xs _=>xs) jeq
theorem jhb{c:Cx}(hc:HC c):FOp c 2 (.ref 505) [] jaT:=by
 refine aX (hc.fns 31 _ rfl) fun oc od osl doc pm an ct ho hcd=>?_;refine bJ ho hcd (.p2 (by decide) (mC 199 rfl (mC 200 rfl bL)) (fun _ _=>rfl)) rfl (psOK.n rfl) ?_
 exact(aw (cn (bE 191 (c.s 191 rfl) rfl (dL (bv (aR rfl (hc.gl 75 rfl rfl) rfl (by decide) rfl) rfl jco (.cons (bv (aR rfl (hc.gl 195 rfl rfl) rfl (by decide) rfl) rfl jaK (.cons (bv (aR rfl (hc.gl 184 rfl rfl) rfl (by decide) rfl) rfl ef (.cons (CL 199 rfl rfl) .nil)) .nil)) .nil)) .none .none (.some (jgJ aP)) ⟨_,fun _ _=>rfl⟩)) (am (SL 201 rfl rfl (bB .nil)) (am (bd (aK jeJ (aZ (CL 200 rfl rfl) (CL 191 rfl rfl)) (bH 20 rfl)) (aw (SL 201 rfl rfl (bv (aR rfl (hc.gl 75 rfl rfl) rfl (by decide) rfl) rfl jco (.cons (aZ (aZ (CL 199 rfl rfl) (CL 191 rfl rfl)) aP) .nil)))) aO) (am (bd (cT (.consO rfl (aK ds (aZ (CL 200 rfl rfl) (CL 191 rfl rfl)) (d6 (.cons (bH 24 rfl) (.cons (bH 23 rfl) .nil)))) (.consO rfl (cT (.consA rfl (aK ca (aZ (CL 200 rfl rfl) (CL 191 rfl rfl)) (bH 25 rfl)) (.consA rfl (bP (dq (c9 rfl (hc.gl 196 rfl rfl) rfl) (hc.kp 498 rfl) ((jdY hc).mono (by decide)) (.cons (aZ (CL 199 rfl rfl) (CL 191 rfl rfl)) .nil) .nil)) (.nilA rfl)))) (.nilO rfl)))) (aw (SL 201 rfl rfl (jgK (CL 201 rfl rfl) (aZ (aZ (CL 199 rfl rfl) (CL 191 rfl rfl)) aP)))) aO) (aw (cn (bE 194 (c.s 194 rfl) rfl (CL 201 rfl rfl)) (aw (bd (aK ca (aZ (CL 200 rfl rfl) (CL 194 rfl rfl)) (bH 20 rfl)) (aw (jba (CL 200 rfl rfl) (CL 194 rfl rfl) (bH 21 rfl))) aO)))))))))
noncomputable def jer:MS:=(bD (bc [(ah (.str 30)),(ah (.str 30)),(ah (.str 30)),(ah (.str 31)),(ah (.str 32)),(ah (.str 33)),(ah (.str 34)),(ah (.str 30))]))
noncomputable def jem:List MV→List MV→MEx:=cD 0 [] (fun xs _=>xs) jer
theorem jhc{c:Cx}(hc:HC c):FOp c 1 (.ref 486) [] jem:=by
 refine aX (hc.fns 32 _ rfl) fun oc od osl doc pm an ct ho hcd=>?_;refine bJ ho hcd (.p0 rfl) rfl (psOK.n rfl) ?_
 exact(aw (cg (bB (.cons (bH 30 rfl) (.cons (bH 30 rfl) (.cons (bH 30 rfl) (.cons (bH 31 rfl) (.cons (bH 32 rfl) (.cons (bH 33 rfl) (.cons (bH 34 rfl) (.cons (bH 30 rfl) .nil)))))))))))
noncomputable def jfI:MS:=(ao (aL 192 (cK [190] (eA (aW dW [(ac 191)])) (aG 194) (aA eqF (bK dH (bK dQ (ac 190) (bK fPow (ah (.int 3)) (ac 194))) (ah (.int 3))) (ah (.int 1))) (ac 194))) (ao (aL 193 (cK [190] (eA (aW dW [(ac 191)])) (aG 194) (cu (aA eqF (bK dH (bK dQ (ac 190) (bK fPow (ah (.int 3)) (ac 194))) (ah (.int 3))) (ah (.int 2))) (cu (aA eqF (bK dH (bK dQ (ac 190) (ah (.int 6561))) (ah (.int 2))) (ah (.int 1))) ck)) (ac 194))) (bD (dg [(ac 192),(ac 193),(aF (bF jem [] []) (bK dH (bK dQ (ac 190) (ah (.int 13122))) (ah (.int 8))))]))))
noncomputable def jcO:List MV→List MV→MEx:=cD 2 [190,191] (fun xs _=>xs) jfI
theorem jib{c:Cx}(hc:HC c):FOp c 2 (.ref 491) [] jcO:=by
 refine aX (hc.fns 33 _ rfl) fun oc od osl doc pm an ct ho hcd=>?_;refine bJ ho hcd (.p2 (by decide) (mC 190 rfl (mC 191 rfl bL)) (fun _ _=>rfl)) rfl (psOK.n rfl) ?_
 exact(am (ja4 192 (c.s 192 rfl) rfl (CompOK.n (fs:=[190]) rfl) (jbi 194 (c.s 194 rfl) rfl (bv (aR rfl (hc.gl 195 rfl rfl) rfl (by decide) rfl) rfl jaK (.cons (CL 191 rfl rfl) .nil))) (jcj (aK ca (eR (eL (CL 190 rfl rfl) (jgI aP (CL 194 rfl rfl))) aP) aP)) (CL 194 rfl rfl) (fun e h=>by cases e;simp only at h;subst h;rfl)) (am (ja4 193 (c.s 193 rfl) rfl (CompOK.n (fs:=[190]) rfl) (jbi 194 (c.s 194 rfl) rfl (bv (aR rfl (hc.gl 195 rfl rfl) rfl (by decide) rfl) rfl jaK (.cons (CL 191 rfl rfl) .nil))) (jcj (cT (.consA rfl (aK ca (eR (eL (CL 190 rfl rfl) (jgI aP (CL 194 rfl rfl))) aP) aP) (.consA rfl (aK ca (eR (eL (CL 190 rfl rfl) aP) aP) aP) (.nilA rfl))))) (CL 194 rfl rfl) (fun e h=>by cases e;simp only at h;subst h;rfl)) (aw (cg (d6 (.cons (CL 192 rfl rfl) (.cons (CL 193 rfl rfl) (.cons (aZ (dq (c9 rfl (hc.gl 188 rfl rfl) rfl) (hc.kp 486 rfl) ((jhc hc).mono (by decide)) .nil .nil) (eR (eL (CL 190 rfl rfl) aP) aP)) .nil))))))))
noncomputable def jcE:MS:=(ao (aL 201 (aW jcq [(aF (aF (ac 199) (ac 191)) (ah (.int 0)))])) (ao (sIf (aA eqF (aF (ac 200) (ac 191)) (ah (.str 24))) (aL 201 (mCat (ac 201) (aF (aF (ac 199) (ac 191)) (ah (.int 1))))) aE) (ao (aL 210 (cK [199] (bq (ac 201)) (aG 194) (aA inM (aF (aF (ac 199) (ac 194)) (ah (.int 2))) (dg [(ah (.str 32)),(ah (.str 33))])) (aF (ah (.lst cF)) (ac 194)))) (ao (aL 211 (cK [199] (bq (ac 201)) (aG 194) (aA eqF (aF (aF (ac 199) (ac 194)) (ah (.int 2))) (ah (.str 34))) (aF (ah (.lst cF)) (ac 194)))) (ao (sIf (aA neL (aW jce [(cK [] (bq (aq (ac 154) 144)) (aG 214) ck (aq (aq (ac 214) 42) 62))]) (aW jce [(ac 210)])) (bD (ah (.bool false))) aE) (bD (mB (aA eqL (aW jce [(cK [] (bq (aq (ac 154) 145)) (aG 214) ck (aq (aq (ac 214) 42) 62))]) (aW jce [(ac 211)])))))))))
noncomputable def jap:List MV→List MV→MEx:=cD 4 [199,200,191,154] (fun xs _=>xs) jcE
theorem jeO{c:Cx}(hc:HC c):FOp c 1 (.ref 536) [] jap:=by
 refine aX (hc.fns 34 _ rfl) fun oc od osl doc pm an ct ho hcd=>?_;refine bJ ho hcd (.p4 (by decide) (mC 199 rfl (mC 200 rfl (mC 191 rfl (mC 154 rfl bL)))) (fun _ _ _ _=>rfl)) rfl (psOK.n rfl) ?_
 exact(am (SL 201 rfl rfl (bv (aR rfl (hc.gl 75 rfl rfl) rfl (by decide) rfl) rfl jco (.cons (aZ (aZ (CL 199 rfl rfl) (CL 191 rfl rfl)) aP) .nil))) (am (bd (aK ca (aZ (CL 200 rfl rfl) (CL 191 rfl rfl)) (bH 24 rfl)) (aw (SL 201 rfl rfl (jgK (CL 201 rfl rfl) (aZ (aZ (CL 199 rfl rfl) (CL 191 rfl rfl)) aP)))) aO) (am (ja4 210 (c.s 210 rfl) rfl (CompOK.n (fs:=[199]) rfl) (bE 194 (c.s 194 rfl) rfl (CL 201 rfl rfl)) (jcj (aK ds (aZ (aZ (CL 199 rfl rfl) (CL 194 rfl rfl)) aP) (d6 (.cons (bH 32 rfl) (.cons (bH 33 rfl) .nil))))) (aZ (hc.lnm rfl rfl) (CL 194 rfl rfl)) (fun e h=>by cases e;simp only at h;subst h;rfl)) (am (ja4 211 (c.s 211 rfl) rfl (CompOK.n (fs:=[199]) rfl) (bE 194 (c.s 194 rfl) rfl (CL 201 rfl rfl)) (jcj (aK ca (aZ (aZ (CL 199 rfl rfl) (CL 194 rfl rfl)) aP) (bH 34 rfl))) (aZ (hc.lnm rfl rfl) (CL 194 rfl rfl)) (fun e h=>by cases e;simp only at h;subst h;rfl)) (am (bd (aK jcV (bv (aR rfl (hc.gl 213 rfl rfl) rfl (by decide) rfl) rfl jcQ (.cons (jcl (CompOK.n (fs:=[]) rfl) (bE 214 (c.s 214 rfl) rfl (ax 144 (c.s 144 rfl) (CL 154 rfl rfl) (fun _=>rfl))) jck (ax 62 (c.s 62 rfl) (ax 42 (c.s 42 rfl) (CL 214 rfl rfl) (fun _=>rfl)) (fun _=>rfl))) .nil)) (bv (aR rfl (hc.gl 213 rfl rfl) rfl (by decide) rfl) rfl jcQ (.cons (CL 210 rfl rfl) .nil))) (aw (cg eM)) aO) (aw (cg (jc2 jcW (bv (aR rfl (hc.gl 213 rfl rfl) rfl (by decide) rfl) rfl jcQ (.cons (jcl (CompOK.n (fs:=[]) rfl) (bE 214 (c.s 214 rfl) rfl (ax 145 (c.s 145 rfl) (CL 154 rfl rfl) (fun _=>rfl))) jck (ax 62 (c.s 62 rfl) (ax 42 (c.s 42 rfl) (CL 214 rfl rfl) (fun _=>rfl)) (fun _=>rfl))) .nil)) (bv (aR rfl (hc.gl 213 rfl rfl) rfl (by decide) rfl) rfl jcQ (.cons (CL 211 rfl rfl) .nil))))))))))
noncomputable def jep:MS:=(ao (aL 203 (bc [])) (ao (cN (eA (aW dW [(aW dE [(ac 199)])])) (aG 191) (sIf (mOr (aA inM (aF (ac 200) (ac 191)) (dg [(ah (.str 21)),(ah (.str 24))])) (mOr (cu (aA eqF (aF (ac 200) (ac 191)) (ah (.str 22))) (cu (aA neL (aF (aF (ac 199) (ac 191)) (ah (.int 1))) (bc [])) ck)) cy)) (aI (aV 1 bg (ac 203) [(ac 191)])) aE)) (bD (ac 203))))
noncomputable def jaC:List MV→List MV→MEx:=cD 2 [199,200] (fun xs _=>xs) jep
theorem jha{c:Cx}(hc:HC c):FOp c 1 (.ref 517) [] jaC:=by
 refine aX (hc.fns 35 _ rfl) fun oc od osl doc pm an ct ho hcd=>?_;refine bJ ho hcd (.p2 (by decide) (mC 199 rfl (mC 200 rfl bL)) (fun _ _=>rfl)) rfl (psOK.n rfl) ?_
 exact(am (SL 203 rfl rfl (bB .nil)) (am (cn (jbi 191 (c.s 191 rfl) rfl (bv (aR rfl (hc.gl 195 rfl rfl) rfl (by decide) rfl) rfl jaK (.cons (bv (aR rfl (hc.gl 184 rfl rfl) rfl (by decide) rfl) rfl ef (.cons (CL 199 rfl rfl) .nil)) .nil))) (aw (bd (cT (.consO rfl (aK ds (aZ (CL 200 rfl rfl) (CL 191 rfl rfl)) (d6 (.cons (bH 21 rfl) (.cons (bH 24 rfl) .nil)))) (.consO rfl (cT (.consA rfl (aK ca (aZ (CL 200 rfl rfl) (CL 191 rfl rfl)) (bH 22 rfl)) (.consA rfl (aK jcV (aZ (aZ (CL 199 rfl rfl) (CL 191 rfl rfl)) aP) (bB .nil)) (.nilA rfl)))) (.nilO rfl)))) (aw (bb (bA (id:="list.append") 1 (by decide) F.slot_list_append rfl bT (CL 203 rfl rfl) (.cons (CL 191 rfl rfl) .nil) (fun _=>⟨_,rfl⟩)))) aO))) (aw (cg (CL 203 rfl rfl)))))
noncomputable def b_law:MS:=(ao (aL 216 (mIf (mTr (ac 221)) (aF (ac 221) (ah (.int 0))) (ah (.int 0)))) (ao (aL 199 (cK [] (jeE (mIf (aA gtI (aW dE [(ac 221)]) (ah (.int 2))) (c6 (ac 221) (some (ah (.int 1))) (some (ah (.int 9))) none) (bc [(ah (.int 0)),(ah (.int 1)),(ah (.int 6566)),(ah (.int 6576))]))) (jb0 191 190) ck (bF jcO [(ac 190),(ac 191)] []))) (ao (aL 222 (mIf (aA gtI (aW dE [(ac 221)]) (ah (.int 9))) (c6 (ac 221) (some (ah (.int 9))) none none) (bc [(ac 216),(bK fAdd (bK dQ (ac 216) (ah (.int 3))) (ah (.int 1)))]))) (ao (aL 223 (bK fAdd (ah (.int 1)) (bK dH (bK dQ (ac 216) (ah (.int 8))) (ah (.int 4))))) (ao (aL 217 (cK [216] (eA (aW dW [(aW dE [(ac 199)])])) (aG 191) (aA eqF (bK dH (bK dQ (bK dQ (ac 216) (ah (.int 32))) (bK fPow (ah (.int 2)) (ac 191))) (ah (.int 2))) (ah (.int 1))) (ac 191))) (ao (aL 200 (cK [217] (eA (aW dW [(aW dE [(ac 199)])])) (aG 191) ck (mIf (mOr (aA eqL (ac 217) (bc [])) (mOr (aA inM (ac 191) (ac 217)) cy)) (ah (.str 21)) (ah (.str 20))))) (ao (sIf (aA eqF (bK dH (bK dQ (ac 216) (ah (.int 8192))) (ah (.int 2))) (ah (.int 1))) (aL 217 (c6 (ac 217) none none (some (mNeg (ah (.int 1)))))) aE) (ao (aL 206 (bF jbw [(ac 199),(ac 216),(mIf (aA eqL (ac 217) (bc [])) (ah .none) (ac 217))] [])) (ao (aL 224 (bc [])) (ao (aL 225 (ah (.bool false))) (ao (cN (eA (aW dW [(ah (.int 80))])) (aG 218) (ao (aL 226 (bK fAdd (aF (ac 222) (bK dH (ac 218) (aW dE [(ac 222)]))) (ac 218))) (ao (aL 154 (ah .none)) (ao (sIf (cu (aA neL (ac 224) (bc [])) (cu (mOr (mTr (ac 225)) (mOr (aA eqF (aW dE [(ac 224)]) (ac 223)) (mOr (aA eqF (bK dH (ac 226) (ah (.int 3))) (ah (.int 0))) cy))) ck)) (ao (jbz [191,154] (aV 1 popM (ac 224) [(bK dH (bK dQ (ac 226) (ah (.int 3))) (aW dE [(ac 224)]))])) (aI (bF jbc [(ac 199),(ac 200),(ac 191),(ac 154)] []))) (sIf (mTr (ac 225)) sBrk aE)) (ao (aI (bF jaT [(ac 199),(ac 200)] [])) (ao (jbz [228,26] (bF jaU [(ac 206),(ac 154)] [])) (ao (aL 227 (bF jaB [(ac 199),(ac 200)] [])) (ao (aL 225 (mB (aA neG (ac 228) (ah (.str 42))))) (ao (sIf (mTr (ac 225)) (ao (sIf (mOr (aA neL (ac 227) (bc [])) (mOr (aA neG (mB (aA eqF (ac 228) (ah (.str 40)))) (mB (aA neL (bF jaC [(ac 199),(ac 200)] []) (bc [])))) cy)) (bD (ah (.bool false))) aE) eO) aE) (ao (aL 191 (aV 1 jdq (ah (.lst cF)) [(aq (aq (ac 26) 42) 62)])) (ao (sIf (mOr (aA fe (ac 191) (ac 227)) (mOr (eU (mTr (bF jap [(ac 199),(ac 200),(ac 191),(ac 26)] []))) cy)) (bD (ah (.bool false))) aE) (ao (dv (ac 200) (ac 191) (mIf (aA eqF (aF (ac 200) (ac 191)) (ah (.str 24))) (ah (.str 23)) (ah (.str 22)))) (aI (aV 1 bg (ac 224) [(dg [(ac 191),(ac 26)])])))))))))))))) (bD (jgw (mB (aA eqL (ac 224) (bc []))) (mB (aA eqL (cK [] (bq (ac 200)) (aG 214) (aA fe (ac 214) (dg [(ah (.str 20)),(ah (.str 25))])) (ac 214)) (bc []))))))))))))))))
noncomputable def f_law:List MV→List MV→MEx:=cD 1 [221] (fun xs _=>xs) b_law
theorem p_law{c:Cx}(hc:HC c):FTop c  (.ref 546) [] f_law:=by
 refine aX (hc.fns 36 _ rfl) fun oc od osl doc pm an ct ho hcd=>?_;refine jjU ho hcd (.p1 (by decide) (mC 221 rfl bL) (fun _=>rfl)) rfl (psOK.n rfl) ?_
 exact(am (SL 216 rfl rfl (jaQ (bP (CL 221 rfl rfl)) (aZ (CL 221 rfl rfl) aP) aP)) (am (ja4 199 (c.s 199 rfl) rfl (CompOK.n (fs:=[]) rfl) (ji9 191 190 (c.s 191 rfl) (c.s 190 rfl) rfl rfl (aR rfl (hc.gl 230 rfl rfl) rfl (by decide) rfl) (jaQ (aK jhQ (bv (aR rfl (hc.gl 184 rfl rfl) rfl (by decide) rfl) rfl ef (.cons (CL 221 rfl rfl) .nil)) aP) (dL (CL 221 rfl rfl) (.some aP) (.some aP) .none ⟨_,fun _ _=>rfl⟩) (bB (.cons aP (.cons aP (.cons aP (.cons aP .nil))))))) jck (dq (c9 rfl (hc.gl 189 rfl rfl) rfl) (hc.kp 491 rfl) ((jib hc).mono (by decide)) (.cons (CL 190 rfl rfl) (.cons (CL 191 rfl rfl) .nil)) .nil) (fun e h=>by cases e;simp only at h;subst h;rfl)) (am (SL 222 rfl rfl (jaQ (aK jhQ (bv (aR rfl (hc.gl 184 rfl rfl) rfl (by decide) rfl) rfl ef (.cons (CL 221 rfl rfl) .nil)) aP) (dL (CL 221 rfl rfl) (.some aP) .none .none ⟨_,fun _ _=>rfl⟩) (bB (.cons (CL 216 rfl rfl) (.cons (jgL (eL (CL 216 rfl rfl) aP) aP) .nil))))) (am (SL 223 rfl rfl (jgL aP (eR (eL (CL 216 rfl rfl) aP) aP))) (am (jiI 217 (c.s 217 rfl) (stO rfl) (jcl (CompOK.n (fs:=[216]) rfl) (jbi 191 (c.s 191 rfl) rfl (bv (aR rfl (hc.gl 195 rfl rfl) rfl (by decide) rfl) rfl jaK (.cons (bv (aR rfl (hc.gl 184 rfl rfl) rfl (by decide) rfl) rfl ef (.cons (CL 199 rfl rfl) .nil)) .nil))) (jcj (aK ca (eR (eL (eL (CL 216 rfl rfl) aP) (jgI aP (CL 191 rfl rfl))) aP) aP)) (CL 191 rfl rfl)) (fun e h _=>by cases e;simp only at h;subst h;rfl)) (am (ja4 200 (c.s 200 rfl) rfl (CompOK.n (fs:=[217]) rfl) (jbi 191 (c.s 191 rfl) rfl (bv (aR rfl (hc.gl 195 rfl rfl) rfl (by decide) rfl) rfl jaK (.cons (bv (aR rfl (hc.gl 184 rfl rfl) rfl (by decide) rfl) rfl ef (.cons (CL 199 rfl rfl) .nil)) .nil))) jck (jaQ (cT (.consO rfl (aK jcW (CL 217 rfl rfl) (bB .nil)) (.consO rfl (aK ds (CL 191 rfl rfl) (CL 217 rfl rfl)) (.nilO rfl)))) (bH 21 rfl) (bH 20 rfl)) (fun e h=>by cases e;simp only at h;subst h;rfl)) (am (bd (aK ca (eR (eL (CL 216 rfl rfl) aP) aP) aP) (aw (SL 217 rfl rfl (dL (CL 217 rfl rfl) .none .none (.some (jgJ aP)) ⟨_,fun _ _=>rfl⟩))) aO) (am (SL 206 rfl rfl (dq (c9 rfl (hc.gl 215 rfl rfl) rfl) (hc.kp 541 rfl) ((jeP hc).mono (by decide)) (.cons (CL 199 rfl rfl) (.cons (CL 216 rfl rfl) (.cons (jaQ (aK jcW (CL 217 rfl rfl) (bB .nil)) bN (CL 217 rfl rfl)) .nil))) .nil)) (am (SL 224 rfl rfl (bB .nil)) (am (SL 225 rfl rfl eM) (am (cn (jbi 218 (c.s 218 rfl) rfl (bv (aR rfl (hc.gl 195 rfl rfl) rfl (by decide) rfl) rfl jaK (.cons aP .nil))) (am (SL 226 rfl rfl (jgL (aZ (CL 222 rfl rfl) (eR (CL 218 rfl rfl) (bv (aR rfl (hc.gl 184 rfl rfl) rfl (by decide) rfl) rfl ef (.cons (CL 222 rfl rfl) .nil)))) (CL 218 rfl rfl))) (am (SL 154 rfl rfl bN) (am (bd (cT (.consA rfl (aK jcV (CL 224 rfl rfl) (bB .nil)) (.consA rfl (cT (.consO rfl (bP (CL 225 rfl rfl)) (.consO rfl (aK ca (bv (aR rfl (hc.gl 184 rfl rfl) rfl (by decide) rfl) rfl ef (.cons (CL 224 rfl rfl) .nil)) (CL 223 rfl rfl)) (.consO rfl (aK ca (eR (CL 226 rfl rfl) aP) aP) (.nilO rfl))))) (.nilA rfl)))) (am (jg4 (.cons 191 (c.s 191 rfl) (stO rfl) (.cons 154 (c.s 154 rfl) (stO rfl) .nil)) (bA (id:="list.pop") 1 (by decide) F.slot_list_pop rfl jeK (CL 224 rfl rfl) (.cons (eR (eL (CL 226 rfl rfl) aP) (bv (aR rfl (hc.gl 184 rfl rfl) rfl (by decide) rfl) rfl ef (.cons (CL 224 rfl rfl) .nil))) .nil) (fun _=>⟨_,rfl⟩))) (aw (bb (dq (c9 rfl (hc.gl 207 rfl rfl) rfl) (hc.kp 531 rfl) ((jhp hc).mono (by decide)) (.cons (CL 199 rfl rfl) (.cons (CL 200 rfl rfl) (.cons (CL 191 rfl rfl) (.cons (CL 154 rfl rfl) .nil)))) .nil)))) (aw (bd (bP (CL 225 rfl rfl)) (aw CS_brk) aO))) (am (bb (dq (c9 rfl (hc.gl 198 rfl rfl) rfl) (hc.kp 505 rfl) ((jhb hc).mono (by decide)) (.cons (CL 199 rfl rfl) (.cons (CL 200 rfl rfl) .nil)) .nil)) (am (jg4 (.cons 228 (c.s 228 rfl) (stO rfl) (.cons 26 (c.s 26 rfl) (stO rfl) .nil)) (dq (c9 rfl (hc.gl 205 rfl rfl) rfl) (hc.kp 524 rfl) ((jhd hc).mono (by decide)) (.cons (CL 206 rfl rfl) (.cons (CL 154 rfl rfl) .nil)) .nil)) (am (SL 227 rfl rfl (dq (c9 rfl (hc.gl 202 rfl rfl) rfl) (hc.kp 510 rfl) ((jho hc).mono (by decide)) (.cons (CL 199 rfl rfl) (.cons (CL 200 rfl rfl) .nil)) .nil)) (am (SL 225 rfl rfl (jc2 jeJ (CL 228 rfl rfl) (bH 42 rfl))) (am (bd (bP (CL 225 rfl rfl)) (am (bd (cT (.consO rfl (aK jcV (CL 227 rfl rfl) (bB .nil)) (.consO rfl (aK jeJ (jc2 ca (CL 228 rfl rfl) (bH 40 rfl)) (jc2 jcV (dq (c9 rfl (hc.gl 204 rfl rfl) rfl) (hc.kp 517 rfl) ((jha hc).mono (by decide)) (.cons (CL 199 rfl rfl) (.cons (CL 200 rfl rfl) .nil)) .nil) (bB .nil))) (.nilO rfl)))) (aw (cg eM)) aO) (aw jdD)) aO) (am (SL 191 rfl rfl (bA (id:="list.index") 1 (by decide) F.slot_list_index rfl jjb (hc.lnm rfl rfl) (.cons (ax 62 (c.s 62 rfl) (ax 42 (c.s 42 rfl) (CL 26 rfl rfl) (fun _=>rfl)) (fun _=>rfl)) .nil) (fun _=>⟨_,rfl⟩))) (am (bd (cT (.consO rfl (aK ja1 (CL 191 rfl rfl) (CL 227 rfl rfl)) (.consO rfl (jdt (bP (dq (c9 rfl (hc.gl 209 rfl rfl) rfl) (hc.kp 536 rfl) ((jeO hc).mono (by decide)) (.cons (CL 199 rfl rfl) (.cons (CL 200 rfl rfl) (.cons (CL 191 rfl rfl) (.cons (CL 26 rfl rfl) .nil)))) .nil))) (.nilO rfl)))) (aw (cg eM)) aO) (am (jba (CL 200 rfl rfl) (CL 191 rfl rfl) (jaQ (aK ca (aZ (CL 200 rfl rfl) (CL 191 rfl rfl)) (bH 24 rfl)) (bH 23 rfl) (bH 22 rfl))) (aw (bb (bA (id:="list.append") 1 (by decide) F.slot_list_append rfl bT (CL 224 rfl rfl) (.cons (d6 (.cons (CL 191 rfl rfl) (.cons (CL 26 rfl rfl) .nil))) .nil) (fun _=>⟨_,rfl⟩)))))))))))))))) (aw (cg (CE_and (jc2 jcW (CL 224 rfl rfl) (bB .nil)) (jc2 jcW (jcl (CompOK.n (fs:=[]) rfl) (bE 214 (c.s 214 rfl) rfl (CL 200 rfl rfl)) (jcj (aK ja1 (CL 214 rfl rfl) (d6 (.cons (bH 20 rfl) (.cons (bH 25 rfl) .nil))))) (CL 214 rfl rfl)) (bB .nil))))))))))))))))
end
section
inductive RS where
 |none|run|succ|fail|upd|ign
 deriving DecidableEq
noncomputable def RS.mv:RS→MV
 |.none=>.none|.run=>.str 36|.succ=>.str 35|.fail=>.str 32|.upd=>.str 31|.ign=>.str 34
structure Nd where
 td:List Nat
 anc:List Nat
 ws:Bool
 wr:List Nat
 wm:List Nat
 rs:RS
 bad:List Nat
 ign:List Nat
 ph:Nat
structure TT where
 n:Nat
 needs:Nat→List Nat
 setups:Nat→List Nat
structure St where
 nd:Nat→Option Nd
 ord:List Nat
 wait:List Nat
 ready:List Nat
 ttr:List Nat
 cur:Option Nat
noncomputable def ndT(k:Nat):MV:=.tag (10,k)
noncomputable def ndA(k:Nat)(d:Nd):List (Nat×MV):=
 [(42,.tag (1,k)),(50,.lst (d.td.map .str)),(52,.lst []),(138,.tag (11,k)),(139,.bool d.ws),(140,.tag (12,k)),(141,.tag (13,k)),(142,.tag (14,k)),(143,d.rs.mv),(144,.tag (15,k)),(145,.tag (16,k)),(146,.int d.ph)]
structure NodeAt(H:Tag→Option MObj)(k:Nat)(d:Nd):Prop where
 obj:H (10,k)=some (.inst 2 (ndA k d))
 anc:H (11,k)=some (.list (d.anc.map .str))
 wr:H (12,k)=some (.set d.wr)
 wc:H (13,k)=some (.set [])
 wm:∃eo,H (14,k)=some (.dict (d.wm.map fun j=>(j,ndT j)) eo)
 bad:H (15,k)=some (.list (d.bad.map ndT))
 ign:H (16,k)=some (.list (d.ign.map ndT))
noncomputable def fz(c:Option Nat):MV:=match c with
 |some k=>ndT k
 |none=>.none
structure R(T:TT)(st:St)(H:Tag→Option MObj)(nx:Nat):Prop where
 task:∀k,k<T.n→∃es,H (1,k)=some (.inst 0 es)∧es.lookup 62=some (.str k)∧es.lookup 50=some (.tag (3,k))∧es.lookup 52=some (.lst [])∧es.lookup 70=some (.lst ((T.setups k).map .str))
 tdep:∀k,k<T.n→H (3,k)=some (.list ((T.needs k).map .str))
 node:∀k d,st.nd k=some d→NodeAt H k d
 nonode:∀k,st.nd k=none→∀g,10≤g→g≤16→H (g,k)=none
 disp:∃v,H (20,0)=some (.inst 3 [(105,.tag (21,1)),(64,.tag (21,2)),(107,v),(150,.tag (20,1)),(151,.tag (20,2)),(152,.tag (20,3)),(153,.tag (20,4)),(154,fz st.cur)])
 nodes:∃eo,H (20,1)=some (.dict (st.ord.map fun j=>(j,ndT j)) eo)
 wait:∃eo,H (20,2)=some (.dict (st.wait.map fun j=>(j,ndT j)) eo)
 ready:H (20,3)=some (.list (st.ready.map ndT))
 ttr:H (20,4)=some (.list (st.ttr.map .str))
 tasks:∃es eo,H (21,1)=some (.dict es eo)∧∀k,k<T.n→es.lookup k=some (.tag (1,k))
 tmp:∀i,nx≤i→H (0,i)=none
noncomputable def Low(H H':Tag→Option MObj)(nx:Nat):Prop:=∀i,i<nx→H' (0,i)=H (0,i)
theorem Low.refl(H:Tag→Option MObj)(nx:Nat):Low H H nx:=fun _ _=>rfl
theorem Low.trans{H H' H'':Tag→Option MObj}{nx nx':Nat}(x:Low H H' nx)(y:Low H' H'' nx')(h:nx≤nx'):Low H H'' nx:=fun i hi=>(y i (Nat.lt_of_lt_of_le hi h)).trans (x i hi)
noncomputable def St.setNd(st:St)(k:Nat)(d:Nd):St:={ st with nd:=fun j=>if j=k then some d else st.nd j }
theorem gne{a b i j:Nat}(h:a≠b):((a,i):Nat×Nat)≠(b,j):=fun e=>h (Prod.mk.inj e).1
theorem ine{a b i j:Nat}(h:i≠j):((a,i):Nat×Nat)≠(b,j):=fun e=>h (Prod.mk.inj e).2
section
variable {T:TT}{st:St}{H H':Tag→Option MObj}{nx:Nat}{k:Nat}{d d':Nd}
theorem NodeAt.keep(x:NodeAt H k d)(h:∀g,10≤g→g≤16→H' (g,k)=H (g,k)):NodeAt H' k d:=
 ⟨(h 10 (qa9 _) (qb5 _ _)).trans x.obj,(h 11 (Nat.le_succ _) (qb5 _ _)).trans x.anc,(h 12 (qb5 _ _) (qb5 _ _)).trans x.wr,(h 13 (qb5 _ _) (qb5 _ _)).trans x.wc,by refine Zx x.wm fun eo e=>?_;exact⟨eo,(h 14 (qb5 _ _) (qb5 _ _)).trans e⟩,
  (h 15 (qb5 _ _) (Nat.le_succ _)).trans x.bad,(h 16 (qb5 _ _) (qa9 _)).trans x.ign⟩
theorem R.setNd(r:R T st H nx)(e:st.nd k=some d)(h:∀g i,i≠k∨g<10∨16<g→H' (g,i)=H (g,i))(x:NodeAt H' k d'):R T (st.setNd k d') H' nx:=by
 have lo:∀g i,g<10∨16<g→H' (g,i)=H (g,i):=fun g i hg=>h g i (.inr hg)
 refine⟨fun j hj=>?_,fun j hj=>(lo 3 j (.inl (qb5 _ _))).trans (r.tdep j hj),fun j dj hd=>?_,fun j hd g h1 h2=>?_,?_,?_,?_,(lo _ _ (.inr (qb5 _ _))).trans r.ready,(lo _ _ (.inr (qb5 _ _))).trans r.ttr,?_,fun i hi=>(lo 0 i (.inl (qb5 _ _))).trans (r.tmp i hi)⟩
 ·refine Zxa (r.task j hj) fun es e1 e2=>?_;exact⟨es,(lo 1 j (.inl (qb5 _ _))).trans e1,e2⟩
 ·unfold St.setNd at hd
  dsimp only at hd
  by_cases q:j=k
  ·subst q;rw[if_pos rfl] at hd;obtain rfl:=qa1 hd;exact x
  ·rw[if_neg q] at hd;exact(r.node j dj hd).keep fun g _ _=>h g j (.inl q)
 ·unfold St.setNd at hd
  dsimp only at hd
  by_cases q:j=k
  ·subst q;rw[if_pos rfl] at hd;exact Xsn hd
  ·rw[if_neg q] at hd;exact(h g j (.inl q)).trans (r.nonode j hd g h1 h2)
 ·refine Zx r.disp fun v e1=>?_;exact⟨v,(lo _ _ (.inr (qb5 _ _))).trans e1⟩
 ·refine Zx r.nodes fun v e1=>?_;exact⟨v,(lo _ _ (.inr (qb5 _ _))).trans e1⟩
 ·refine Zx r.wait fun v e1=>?_;exact⟨v,(lo _ _ (.inr (qb5 _ _))).trans e1⟩
 ·refine bt r.tasks fun es eo e1 e2=>?_;exact⟨es,eo,(lo _ _ (.inr (qb5 _ _))).trans e1,e2⟩
theorem cj{g i:Nat}{o:MObj}(h:g≠0):Low H (ay H (g,i) o) nx:=fun j _=>af (gne (Ne.symm h))
theorem aB{t:Tag}{o:MObj}:ay H t o t=some o:=by unfold ay;rw[if_pos rfl]
theorem R.ndObj(r:R T st H nx)(e:st.nd k=some d){es:List (Nat×MV)}(he:es=ndA k d')(h1:d'.anc=d.anc)(h2:d'.wr=d.wr)(h3:d'.wm=d.wm)(h4:d'.bad=d.bad)(h5:d'.ign=d.ign):R T (st.setNd k d') (ay H (10,k) (.inst 2 es)) nx:=by
 subst he
 have x:=r.node k d e
 refine r.setNd e (fun g i hg=>af fun q=>?_) ⟨aB,?_,?_,?_,?_,?_,?_⟩
 ·refine Za (Prod.mk.inj q) fun zq1 zq2=>?_;obtain rfl:=zq1;obtain rfl:=zq2
  rcases hg with hg|hg|hg
  ·exact hg rfl
  ·exact Nk0 (a:=0) 11 10 hg rfl
  ·exact Nk0 (a:=0) 17 10 hg rfl
 all_goals first|rw[af gd]|skip
 ·rw[h1];exact x.anc
 ·rw[h2];exact x.wr
 ·exact x.wc
 ·refine Zx x.wm fun eo e=>?_;refine⟨eo,?_⟩;rw[h3];exact e
 ·rw[h4];exact x.bad
 ·rw[h5];exact x.ign
theorem R.ndAny(r:R T st H nx)(e:st.nd k=some d){g:Nat}{o:MObj}(hg:10<g∧g≤16)(ho:ndA k d'=ndA k d)(x:NodeAt (ay H (g,k) o) k d'):R T (st.setNd k d') (ay H (g,k) o) nx:=
 r.setNd e (fun g' i hg'=>af fun q=>by
  refine Za (Prod.mk.inj q) fun zq1 zq2=>?_;obtain rfl:=zq1;obtain rfl:=zq2
  rcases hg' with hg'|hg'|hg'
  ·exact hg' rfl
  ·exact Nk3 11 0 1 10 hg.1 hg' rfl
  ·exact Nk3 0 16 17 0 hg.2 hg' rfl) x
theorem R.ndBad(r:R T st H nx)(e:st.nd k=some d){b:List Nat}{xs:List MV}(hx:xs=b.map ndT):R T (st.setNd k { d with bad:=b }) (ay H (15,k) (.list xs)) nx:=by
 subst hx
 have x:=r.node k d e
 exact r.ndAny e ⟨by decide,by decide⟩ rfl ⟨(af gd).trans x.obj,(af gd).trans x.anc,(af gd).trans x.wr,(af gd).trans x.wc,by refine Zx x.wm fun eo e=>?_;exact⟨eo,(af gd).trans e⟩,aB,(af gd).trans x.ign⟩
theorem R.ndIgn(r:R T st H nx)(e:st.nd k=some d){b:List Nat}{xs:List MV}(hx:xs=b.map ndT):R T (st.setNd k { d with ign:=b }) (ay H (16,k) (.list xs)) nx:=by
 subst hx
 have x:=r.node k d e
 exact r.ndAny e ⟨by decide,by decide⟩ rfl ⟨(af gd).trans x.obj,(af gd).trans x.anc,(af gd).trans x.wr,(af gd).trans x.wc,by refine Zx x.wm fun eo e=>?_;exact⟨eo,(af gd).trans e⟩,(af gd).trans x.bad,aB⟩
theorem R.ndWr(r:R T st H nx)(e:st.nd k=some d){b:List Nat}:R T (st.setNd k { d with wr:=b }) (ay H (12,k) (.set b)) nx:=by
 have x:=r.node k d e
 exact r.ndAny e ⟨by decide,by decide⟩ rfl ⟨(af gd).trans x.obj,(af gd).trans x.anc,aB,(af gd).trans x.wc,by refine Zx x.wm fun eo e=>?_;exact⟨eo,(af gd).trans e⟩,(af gd).trans x.bad,(af gd).trans x.ign⟩
theorem R.ndWm(r:R T st H nx)(e:st.nd k=some d){b:List Nat}{es:List (Nat×MV)}{eo:Option Obj}(hx:es=b.map fun j=>(j,ndT j)):R T (st.setNd k { d with wm:=b }) (ay H (14,k) (.dict es eo)) nx:=by
 subst hx
 have x:=r.node k d e
 exact r.ndAny e ⟨by decide,by decide⟩ rfl ⟨(af gd).trans x.obj,(af gd).trans x.anc,(af gd).trans x.wr,(af gd).trans x.wc,⟨eo,aB⟩,(af gd).trans x.bad,(af gd).trans x.ign⟩
end
end
section
noncomputable def RS.note(r:RS)(j:Nat)(d:Nd):Nd:=match r with
 |.fail=>{ d with bad:=d.bad++[j] }
 |.ign=>{ d with ign:=d.ign++[j] }
 |.none=>d
 |.run=>d
 |.succ=>d
 |.upd=>d
section
variable {c:Cx}{T:TT}{st:St}{H H':Tag→Option MObj}{nx:Nat}{m:List (Nat×MV)}{k j:Nat}{d dj:Nd}{Q:MV→AS→Prop}
theorem St.setNd_self{st:St}{k:Nat}{d:Nd}(e:st.nd k=some d):st.setNd k d=st:=by
 unfold St.setNd
 have:(fun j=>if j=k then some d else st.nd j)=st.nd:=funext fun j=>by
  split
  ·rename_i h;rw[h,e]
  ·rfl
 rw[this]
theorem jc'(r:R T st H nx)(ek:st.nd k=some d)(ej:st.nd j=some dj)(hb:d.bad.length<1000)(hi:d.ign.length<1000)
  (q:∀H',R T (st.setNd k (dj.rs.note j d)) H' nx→Low H H' nx→Q .none ⟨H',nx,m⟩):jac [ndT k,ndT j] [] ⟨H,nx,m⟩ Q:=by
 have xk:=r.node k d ek
 have xj:=r.node j dj ej
 refine⟨rfl,?_⟩
 unfold jbo
 have rd:∀(P:MV→AS→Prop),P dj.rs.mv ⟨H,nx,[(61,ndT k),(149,ndT j)]⟩→aq (ac 149) 143 ⟨H,nx,[(61,ndT k),(149,ndT j)]⟩ P:=fun P h=>
  ⟨ndT j,rfl,(10,j),2,ndA j dj,dj.rs.mv,rfl,xj.obj,by decide,rfl,by cases dj.rs<;>rfl,h⟩
 have ap:∀(g n:Nat)(xs:List MV)(P:aH→AS→Prop),n∈d9 2→(ndA k d).lookup n=some (.tag (g,k))→H (g,k)=some (.list xs)→xs.length<1000→P .next ⟨ay H (g,k) (.list (xs++[ndT j])),nx,[(61,ndT k),(149,ndT j)]⟩→
   aI (aV 1 bg (aq (ac 61) n) [ac 149]) ⟨H,nx,[(61,ndT k),(149,ndT j)]⟩ P:=fun g n xs P hn hl hg hlen h=>
  ⟨ndT k,rfl,(10,k),2,ndA k d,.tag (g,k),rfl,xk.obj,hn,hl,rfl,by simp only[cM,hg],ndT j,rfl,(g,k),xs,ndT j,rfl,hg,hlen,rfl,h⟩
 refine rd _ ?_
 cases hrs:dj.rs with
 |fail=>
  refine⟨true,rfl,?_⟩
  refine ap 15 144 (d.bad.map ndT) _ (by decide) rfl xk.bad (by simpa using hb) ?_
  refine q _ ?_ (cj (by decide))
  rw[hrs]
  exact r.ndBad ek (by simp)
 |ign=>
  refine⟨false,rfl,?_⟩
  refine rd _ ?_
  rw[hrs]
  refine⟨true,rfl,?_⟩
  refine ap 16 145 (d.ign.map ndT) _ (by decide) rfl xk.ign (by simpa using hi) ?_
  refine q _ ?_ (cj (by decide))
  rw[hrs]
  exact r.ndIgn ek (by simp)
 |_=>
  refine⟨false,rfl,?_⟩
  refine rd _ ?_
  rw[hrs]
  refine⟨false,rfl,?_⟩
  refine q _ ?_ (.refl _ _)
  rw[hrs]
  show R T (st.setNd k d) H nx
  rw[St.setNd_self ek];exact r
end
end
section
section
variable {c:Cx}{T:TT}{st:St}{H H':Tag→Option MObj}{nx:Nat}{m:List (Nat×MV)}{k j:Nat}{d dj:Nd}{Q:MV→AS→Prop}{P:aH→AS→Prop}
theorem du{t:Tag}{a b:MObj}:ay (ay H t a) t b=ay H t b:=funext fun u=>by unfold ay;split<;>rfl
theorem jf9{t u:Tag}{a b:MObj}(h:t≠u):ay (ay H t a) u b=ay (ay H u b) t a:=funext fun v=>by
 unfold ay
 by_cases h1:v=u
 ·rw[if_pos h1]
  by_cases h2:v=t
  ·exact absurd (h2.symm.trans h1) h
  ·rw[if_neg h2,if_pos h1]
 ·rw[if_neg h1]
  by_cases h2:v=t
  ·rw[if_pos h2,if_pos h2]
  ·rw[if_neg h2,if_neg h2,if_neg h1]
theorem hN{g g' i j:Nat}{o:MObj}{x:Option MObj}(h:H (g,i)=x)(hg:g≠g':=by decide):ay H (g',j) o (g,i)=x:=(af (gne hg)).trans h
theorem aY{x n:Nat}{t:Tag}{C:Nat}{es:List (Nat×MV)}{v:MV}{P:MV→AS→Prop}(hx:m.lookup x=some (.tag t))(hH:H t=some (.inst C es))(hn:n∈d9 C)(hl:es.lookup n=some v)(ho:okV v=true)(h:P v ⟨H,nx,m⟩):aq (ac x) n ⟨H,nx,m⟩ P:=
 ⟨.tag t,hx,t,C,es,v,rfl,hH,hn,hl,ho,h⟩
noncomputable abbrev kSeq(b:MS)(P:aH→AS→Prop):aH→AS→Prop:=fun f σ1=>match f with
 |.next=>b σ1 P
 |.brk=>P .brk σ1
 |.cont=>P .cont σ1
 |.ret v=>P (.ret v) σ1
noncomputable abbrev kLet(x:Nat)(P:aH→AS→Prop):MV→AS→Prop:=fun v zp2=>by obtain⟨H,nx,m⟩:=zp2;exact P .next ⟨H,nx,ar m x v⟩
noncomputable abbrev kAttr(n:Nat)(P:MV→AS→Prop):MV→AS→Prop:=fun v σ1=>getA v n σ1 P
noncomputable abbrev kIf(a b:MS)(P:aH→AS→Prop):Bool→AS→Prop:=fun r σ1=>match r with
 |true=>a σ1 P
 |false=>b σ1 P
noncomputable abbrev kExpr(P:aH→AS→Prop):MV→AS→Prop:=fun v σ1=>v=.none∧P .next σ1
noncomputable abbrev kRet(P:aH→AS→Prop):MV→AS→Prop:=fun v σ1=>P (.ret v) σ1
noncomputable abbrev kCmp(g:MV→MV→MT)(b:MEx)(P:Bool→AS→Prop):MV→AS→Prop:=fun x σ1=>b σ1 fun y σ2=>g x y σ2 P
noncomputable abbrev kArg(fs:List MEx)(P:List MV→AS→Prop):MV→AS→Prop:=fun v σ1=>cr fs σ1 fun vs σ2=>P (v::vs) σ2
noncomputable abbrev kSetA(n:Nat)(o:MEx)(P:aH→AS→Prop):MV→AS→Prop:=fun v σ1=>o σ1 fun u σ2=>setA u n v σ2 fun σ3=>P .next σ3
noncomputable abbrev kTr(P:Bool→AS→Prop):MV→AS→Prop:=fun v σ1=>∃b,bX σ1.H v=some b∧P b σ1
noncomputable abbrev kCallF(g:List MV→List MV→MEx)(kfs:List MEx)(P:MV→AS→Prop):List MV→AS→Prop:=fun xs σ1=>cr kfs σ1 fun ys σ2=>g xs ys σ2 P
noncomputable abbrev kSub(i:MEx)(P:MV→AS→Prop):MV→AS→Prop:=fun v σ1=>i σ1 fun w σ2=>getI v w σ2 P
noncomputable abbrev kSetI(o i:MEx)(P:aH→AS→Prop):MV→AS→Prop:=fun v σ1=>o σ1 fun u σ2=>i σ2 fun w σ3=>setI u w v σ3 fun σ4=>P .next σ4
noncomputable abbrev kAnd(b:MT)(P:Bool→AS→Prop):Bool→AS→Prop:=fun x σ1=>match x with
 |true=>b σ1 P
 |false=>P false σ1
noncomputable abbrev kOr(b:MT)(P:Bool→AS→Prop):Bool→AS→Prop:=fun x σ1=>match x with
 |true=>P true σ1
 |false=>b σ1 P
noncomputable abbrev kNot(P:Bool→AS→Prop):Bool→AS→Prop:=fun b σ1=>P (!b) σ1
noncomputable abbrev kMeth(k:Nat)(g:List MV→MEx)(fs:List MEx)(P:MV→AS→Prop):MV→AS→Prop:=fun x σ1=>cM σ1.H x=k∧cr fs σ1 fun xs σ2=>g (x::xs) σ2 P
noncomputable abbrev kList(P:MV→AS→Prop):List MV→AS→Prop:=fun xs σ1=>newL xs σ1 P
noncomputable abbrev kCallB(g:List MV→MEx)(P:MV→AS→Prop):List MV→AS→Prop:=fun xs σ1=>g xs σ1 P
noncomputable abbrev kIfx(a b:MEx)(P:MV→AS→Prop):Bool→AS→Prop:=fun r σ1=>match r with
 |true=>a σ1 P
 |false=>b σ1 P
noncomputable abbrev kB(P:MV→AS→Prop):Bool→AS→Prop:=fun b σ1=>P (.bool b) σ1
noncomputable abbrev kBin(f:Int→Int→Option Int)(b:MEx)(Q:MV→AS→Prop):MV→AS→Prop:=fun x σ1=>b σ1 fun y σ2=>∃i j r,x=.int i∧y=.int j∧f i j=some r∧Q (.int r) σ2
noncomputable abbrev kPart(P:Option Int→AS→Prop):MV→AS→Prop:=fun v σ1=>∃i,v=.int i∧P (some i) σ1
noncomputable abbrev kAndV(g:MEx)(P:MV→AS→Prop):MV→AS→Prop:=fun v σ1=>∃b,bX σ1.H v=some b∧match b with
 |true=>g σ1 P
 |false=>P v σ1
noncomputable abbrev kOrV(g:MEx)(P:MV→AS→Prop):MV→AS→Prop:=fun v σ1=>∃b,bX σ1.H v=some b∧match b with
 |true=>P v σ1
 |false=>g σ1 P
noncomputable abbrev kNotV(P:MV→AS→Prop):MV→AS→Prop:=fun v σ1=>∃b,bX σ1.H v=some b∧P (.bool (!b)) σ1
noncomputable abbrev kFor(s:MV→AS→AS)(b:MS)(P:aH→AS→Prop):List MV→((Tag→Option MObj)→Prop)→AS→Prop:=fun xs g σ1=>dJ g s b xs σ1 P
noncomputable abbrev jkn(Q:List MV→((Tag→Option MObj)→Prop)→AS→Prop):MV→AS→Prop:=fun v σ1=>∃xs,cv σ1.H v=some xs∧Q xs (fun H=>cv H v=some xs) σ1
theorem av{a b:MS}{σ:AS}{P:aH→AS→Prop}(h:a σ (kSeq b P)):ao a b σ P:=h
theorem bf{o f:MEx}{n:Nat}{σ:AS}{P:aH→AS→Prop}(h:f σ (kSetA n o P)):aT o n f σ P:=h
theorem jfo{a:MEx}{n:Nat}{σ:AS}{P:MV→AS→Prop}(h:a σ (kAttr n P)):aq a n σ P:=h
theorem cf{f:MEx}{σ:AS}{P:aH→AS→Prop}(h:f σ (kExpr P)):aI f σ P:=h
theorem bp{t:MT}{a b:MS}{σ:AS}{P:aH→AS→Prop}(h:t σ (kIf a b P)):sIf t a b σ P:=h
theorem bn{x:Nat}{f:MEx}{σ:AS}{P:aH→AS→Prop}(h:f σ (kLet x P)):aL x f σ P:=h
theorem cC{f:MEx}{σ:AS}{P:aH→AS→Prop}(h:f σ (kRet P)):bD f σ P:=h
theorem cB{f:MEx}{σ:AS}{P:Bool→AS→Prop}(h:f σ (kTr P)):mTr f σ P:=h
theorem aS{g:MV→MV→MT}{a b:MEx}{σ:AS}{P:Bool→AS→Prop}(h:a σ (kCmp g b P)):aA g a b σ P:=h
theorem cH{k:Nat}{g:List MV→MEx}{a:MEx}{fs:List MEx}{σ:AS}{P:MV→AS→Prop}(h:a σ (kMeth k g fs P)):aV k g a fs σ P:=h
theorem bO{fs:List MEx}{σ:AS}{P:MV→AS→Prop}(h:cr fs σ (kList P)):bc fs σ P:=h
theorem au{σ:AS}{P:List MV→AS→Prop}(h:P [] σ):cr [] σ P:=h
theorem aC{f:MEx}{fs:List MEx}{σ:AS}{P:List MV→AS→Prop}(h:f σ (kArg fs P)):cr (f::fs) σ P:=h
theorem az{v:MV}{σ:AS}{P:MV→AS→Prop}(h:P v σ):ah v σ P:=h
theorem dK{t:Tag}{ys:List MV}{y:MV}{P:MV→AS→Prop}(hH:H t=some (.list ys))(hl:ys.length<1000)(h:P .none ⟨ay H t (.list (ys++[y])),nx,m⟩):bg [.tag t,y] ⟨H,nx,m⟩ P:=⟨t,ys,y,rfl,hH,hl,h⟩
theorem ag{x:Nat}{v:MV}{P:MV→AS→Prop}(hx:m.lookup x=some v)(h:P v ⟨H,nx,m⟩):ac x ⟨H,nx,m⟩ P:=⟨v,hx,h⟩
theorem bU{n:Nat}{t:Tag}{C:Nat}{es:List (Nat×MV)}{v:MV}{P:AS→Prop}(hH:H t=some (.inst C es))(hn:n∈d9 C)(hl:es.length<1000)(h:P ⟨ay H t (.inst C (ar es n v)),nx,m⟩):setA (.tag t) n v ⟨H,nx,m⟩ P:=
 ⟨t,C,es,rfl,hH,hn,hl,h⟩
theorem cZ{n:Nat}{t:Tag}{C:Nat}{es:List (Nat×MV)}{v:MV}{P:AS→Prop}(hn:n∈d9 C)(hl:es.length<1000)(h:P ⟨ay H t (.inst C (ar es n v)),nx,m⟩):setA (.tag t) n v ⟨ay H t (.inst C es),nx,m⟩ P:=
 ⟨t,C,es,rfl,dB ..,hn,hl,by rw[du];exact h⟩
theorem jdJ{a:MEx}{P:MV→AS→Prop}{v:MV}{xs:List MV}(hl:bV H v=some xs)(hx:xs.length≤100000)(h:P (.lst xs) ⟨H,nx,m⟩)(ha:∀A:MV→AS→Prop,A v ⟨H,nx,m⟩→a ⟨H,nx,m⟩ A):c6 a none none none ⟨H,nx,m⟩ P:=
 ha _ ⟨xs,xs,hl,rfl,hx,.inl h⟩
theorem jcb{g i:Nat}{xs:List MV}{P:MV→AS→Prop}(hf:H (g,i)=none)(h0:g≠0)(hx:xs.length≤100000)(h:P (.tag (g,i)) ⟨ay H (g,i) (.list xs),nx,m⟩):newL xs ⟨H,nx,m⟩ P:=
 ⟨hx,.inr ⟨(g,i),⟨hf,.inl h0⟩,by
  have e:cw nx (g,i)=nx:=if_neg h0
  show P (.tag (g,i)) ⟨ay H (g,i) (.list xs),cw nx (g,i),m⟩
  rw[e];exact h⟩⟩
theorem jjj{t:Tag}{ys zs:List MV}{y:MV}{P:MV→AS→Prop}(hH:H t=some (.list ys))(hy:bV H y=some zs)(hl:ys.length+zs.length≤1000)(h:P .none ⟨ay H t (.list (ys++zs)),nx,m⟩):jeH [.tag t,y] ⟨H,nx,m⟩ P:=⟨t,ys,y,zs,rfl,hH,hy,hl,h⟩
theorem jit{g i:Nat}{P:MV→AS→Prop}(hf:H (g,i)=none)(h0:g≠0)(h:P (.tag (g,i)) ⟨ay H (g,i) (.set []),nx,m⟩):aW jgv [] ⟨H,nx,m⟩ P:=
 ⟨rfl,(g,i),⟨hf,.inl h0⟩,by
  have e:cw nx (g,i)=nx:=if_neg h0
  show P (.tag (g,i)) ⟨ay H (g,i) (.set []),cw nx (g,i),m⟩
  rw[e];exact h⟩
theorem jbK{g i:Nat}{P:MV→AS→Prop}(hf:H (g,i)=none)(h0:g≠0)(h:P (.tag (g,i)) ⟨ay H (g,i) (.dict []),nx,m⟩):jbB ⟨H,nx,m⟩ P:=
 ⟨(g,i),⟨hf,.inl h0⟩,by
  have e:cw nx (g,i)=nx:=if_neg h0
  show P (.tag (g,i)) ⟨ay H (g,i) (.dict []),cw nx (g,i),m⟩
  rw[e];exact h⟩
noncomputable def ini(k:Nat)(p:List Nat)(T:TT):Nd:=⟨T.needs k,p++[k],false,[],[],.none,[],[],0⟩
noncomputable def ParOK(H:Tag→Option MObj)(p:Option (Nat×Nd)):Prop:=match p with
 |none=>True
 |some (j,dj)=>NodeAt H j dj
noncomputable def parV(p:Option (Nat×Nd)):MV:=match p with
 |none=>.none
 |some (j,_)=>ndT j
noncomputable def parA(p:Option (Nat×Nd)):List Nat:=match p with
 |none=>[]
 |some (_,dj)=>dj.anc
set_option maxHeartbeats 1000000 in
theorem jfc{p:Option (Nat×Nd)}{es:List (Nat×MV)}(h10:H (10,k)=some (.inst 2 []))(fr:∀g,11≤g→g≤16→H (g,k)=none)(hp:ParOK H p)(hpk:∀j dj,p=some (j,dj)→j≠k)
  (ht:H (1,k)=some (.inst 0 es))(t1:es.lookup 62=some (.str k))(t2:es.lookup 50=some (.tag (3,k)))(t3:es.lookup 52=some (.lst []))(h3:H (3,k)=some (.list ((T.needs k).map .str)))(hn:(T.needs k).length≤1000)(ha:(parA p).length<999)
  (q:∀H',(∀g i,i≠k∨g<10∨16<g→H' (g,i)=H (g,i))→NodeAt H' k (ini k (parA p) T)→Q .none ⟨H',nx,m⟩) :
  jbe [.tag (10,k),.tag (1,k),parV p] [] ⟨H,nx,m⟩ Q:=by
 refine⟨rfl,?_⟩
 unfold jca
 show ao _ _ ⟨H,nx,[(61,.tag (10,k)),(42,.tag (1,k)),(137,parV p)]⟩ _
 refine av (bf ?_)
 refine ag rfl ?_
 refine ag rfl ?_
 refine bU h10 (by decide) (by simp[ar]) ?_
 refine av (bf ?_)
 refine jdJ (v:=.tag (3,k)) (bh (hN h3)) (by simp;exact Nk1 0 1000 0 100000 hn rfl) ?_ fun A hA=>aY rfl (hN ht) (by decide) t2 rfl hA
 refine ag rfl ?_
 refine cZ (by decide) (Nle rfl) ?_
 refine av (bf ?_)
 refine jdJ (v:=.lst []) rfl (by decide) ?_ fun A hA=>aY rfl (hN ht) (by decide) t3 rfl hA
 refine ag rfl ?_
 refine cZ (by decide) (Nle rfl) ?_
 refine av (bf (bO (au ?_)))
 refine jcb (g:=11) (i:=k) (hN (fr 11 (by decide) (by decide))) (by decide) (by decide) ?_
 refine ag rfl ?_
 refine bU (hN aB) (by decide) (Nle rfl) ?_
 rw[jf9 gd,du]
 refine av ?_
 have key:∀(o:MObj)(P:aH→AS→Prop),(∃es,o=.inst 2 es∧es.lookup 138=some (.tag (11,k)))→P .next ⟨ay (ay H (10,k) o) (11,k) (.list ((parA p).map .str)),nx,[(61,.tag (10,k)),(42,.tag (1,k)),(137,parV p)]⟩→
   sIf (mTr (ac 137)) (aI (aV 1 jeH (aq (ac 61) 138) [aq (ac 137) 138])) aE ⟨ay (ay H (10,k) o) (11,k) (.list []),nx,[(61,.tag (10,k)),(42,.tag (1,k)),(137,parV p)]⟩ P:=by
  intro o P zp3 h;refine Zxa zp3 fun es' zq1 hl=>?_;obtain rfl:=zq1
  cases p with
  |none=>exact bp (cB (ag rfl ⟨false,rfl,h⟩))
  |some pq=>
   obtain⟨j,dj⟩:=pq
   have hj:=hpk j dj rfl
   have n10:ay (ay H (10,k) (.inst 2 es')) (11,k) (.list []) (10,j)=some (.inst 2 (ndA j dj)):=by rw[af gd,af (ine hj)];exact hp.obj
   have n11:ay (ay H (10,k) (.inst 2 es')) (11,k) (.list []) (11,j)=some (.list (dj.anc.map .str)):=by rw[af (ine hj),af gd];exact hp.anc
   refine bp (cB (ag rfl ⟨true,?_,?_⟩))
   ·show bX _ (.tag (10,j))=_
    simp only[bX,n10]
   refine cf (cH ?_)
   refine aY (t:=(10,k)) rfl (hN aB) (by decide) hl rfl ?_
   refine⟨?_,aC ?_⟩
   ·simp only[cM,aB]
   refine aY (t:=(10,j)) rfl n10 (by decide) rfl rfl ?_
   refine au ?_
   refine jjj aB (bh n11) (by simp[parA] at ha ⊢;exact Nk1 1 999 0 1000 ha rfl) ?_
   refine⟨rfl,?_⟩
   rw[du]
   exact h
 refine key _ _ ⟨_,rfl,by rfl⟩ ?_
 refine av (cf (cH ?_))
 refine aY (t:=(10,k)) rfl (hN aB) (by decide) rfl rfl ?_
 refine⟨by simp only[cM,aB],aC ?_⟩
 refine aY (t:=(1,k)) rfl (hN (hN ht)) (by decide) t1 rfl ?_
 refine au ?_
 refine dK aB (by simp;exact Nk1 1 999 1 1000 ha rfl) ?_
 refine⟨rfl,?_⟩
 rw[du]
 refine av (bf (az ?_))
 refine ag rfl ?_
 refine bU (hN aB) (by decide) (by simp[ar]) ?_
 refine av (bf (jit (g:=12) (i:=k) (hN (hN (hN (fr 12 (by decide) (by decide))))) (by decide) ?_))
 refine ag rfl ?_
 refine bU (hN aB) (by decide) (by simp[ar]) ?_
 refine av (bf (jit (g:=13) (i:=k) (hN (hN (hN (hN (hN (fr 13 (by decide) (by decide))))))) (by decide) ?_))
 refine ag rfl ?_
 refine bU (hN aB) (by decide) (by simp[ar]) ?_
 refine av (bf (jbK (g:=14) (i:=k) (hN (hN (hN (hN (hN (hN (hN (fr 14 (by decide) (by decide))))))))) (by decide) ?_))
 refine ag rfl ?_
 refine bU (hN aB) (by decide) (by simp[ar]) ?_
 refine av (bf (az ?_))
 refine ag rfl ?_
 refine cZ (by decide) (by simp[ar]) ?_
 refine av (bf (bO (au ?_)))
 refine jcb (g:=15) (i:=k) (hN (hN (hN (hN (hN (hN (hN (hN (hN (fr 15 (by decide) (by decide))))))))))) (by decide) (by decide) ?_
 refine ag rfl ?_
 refine bU (hN aB) (by decide) (by simp[ar]) ?_
 refine av (bf (bO (au ?_)))
 refine jcb (g:=16) (i:=k) (hN (hN (hN (hN (hN (hN (hN (hN (hN (hN (hN (fr 16 (by decide) (by decide))))))))))))) (by decide) (by decide) ?_
 refine ag rfl ?_
 refine bU (hN aB) (by decide) (by simp[ar]) ?_
 refine bf (az ?_)
 refine ag rfl ?_
 refine cZ (by decide) (by simp[ar]) ?_
 refine q _ (fun g i hg=>?_) ⟨?_,?_,?_,?_,?_,?_,?_⟩
 ·have hne:∀g',10≤g'→g'≤16→((g,i):Nat×Nat)≠(g',k):=fun g' h1 h2 e=>by
   refine Za (Prod.mk.inj e) fun zq1 zq2=>?_;obtain rfl:=zq1;obtain rfl:=zq2
   rcases hg with hg|hg|hg
   ·exact hg rfl
   ·exact Nk3 10 0 1 10 h1 hg rfl
   ·exact Nk3 0 16 17 0 h2 hg rfl
  dsimp only
  simp only[af (hne 10 (by decide) (by decide)),af (hne 11 (by decide) (by decide)),af (hne 12 (by decide) (by decide)),af (hne 13 (by decide) (by decide)),af (hne 14 (by decide) (by decide)),af (hne 15 (by decide) (by decide)),af (hne 16 (by decide) (by decide))]
 ·dsimp only
  rw[aB]
  simp[ar,ndA,ini,RS.mv]
 ·show _=some (MObj.list ((parA p++[k]).map MV.str))
  rw[List.map_append]
  repeat first|exact aB|refine hN ?_
 ·repeat first|exact aB|refine hN ?_
 ·repeat first|exact aB|refine hN ?_
 ·refine⟨none,?_⟩
  repeat first|exact aB|refine hN ?_
 ·repeat first|exact aB|refine hN ?_
 ·repeat first|exact aB|refine hN ?_
end
end
section
section
variable {c:Cx}{T:TT}{st:St}{H H':Tag→Option MObj}{nx:Nat}{m:List (Nat×MV)}{k j:Nat}{d dj:Nd}{Q:MV→AS→Prop}{P:aH→AS→Prop}
theorem dA{g:List MV→List MV→MEx}{fs kfs:List MEx}{σ:AS}{P:MV→AS→Prop}(h:cr fs σ (kCallF g kfs P)):bF g fs kfs σ P:=h
theorem jex{a i:MEx}{σ:AS}{P:MV→AS→Prop}(h:a σ (kSub i P)):aF a i σ P:=h
theorem jcu{o i f:MEx}{σ:AS}{P:aH→AS→Prop}(h:f σ (kSetI o i P)):dv o i f σ P:=h
theorem dx{a b:MT}{σ:AS}{P:Bool→AS→Prop}(h:a σ (kAnd b P)):cu a b σ P:=h
theorem eN{a b:MT}{σ:AS}{P:Bool→AS→Prop}(h:a σ (kOr b P)):mOr a b σ P:=h
theorem jfg{t:MT}{σ:AS}{P:Bool→AS→Prop}(h:t σ (kNot P)):eU t σ P:=h
theorem jfE{l:List Nat}:dY (.str k) (l.map .str)=some (l.contains k):=by
 induction l with
 |nil=>rfl
 |cons a l ih=>
  show(match eG (.str a) (.str k),dY (.str k) (l.map .str) with|some b,some c=>some (b||c)|_,_=>none)=_
  rw[ih]
  show some ((a == k)||l.contains k)=_
  rw[List.contains_cons]
  congr 2
  by_cases h:a=k
  ·subst h;simp
  ·rw[beq_eq_false_iff_ne.mpr h,beq_eq_false_iff_ne.mpr (Ne.symm h)]
theorem jgd{t:Tag}{xs:List MV}(h:H t=some (.list xs)):fw H (.str k) (.tag t)=dY (.str k) xs:=by
 exact jgV (bh h)
theorem jcM{l:List Nat}:(l.map fun j=>(j,ndT j)).lookup k=if k∈l then some (ndT k) else none:=by
 induction l with
 |nil=>rfl
 |cons a l ih=>
  rw[List.map_cons,List.lookup_cons]
  by_cases h:k=a
  ·subst h;simp
  ·rw[beq_eq_false_iff_ne.mpr h,ih]
   simp[h]
theorem jgP{l:List Nat}(h:k∉l):ar (l.map fun j=>(j,ndT j)) k (ndT k)=(l++[k]).map fun j=>(j,ndT j):=by
 unfold ar
 rw[if_neg]
 ·simp
 ·simp only[List.any_map,List.any_eq_true,Function.comp,beq_iff_eq,not_exists,not_and]
  intro x hx e
  exact h (e▸hx)
theorem R.newNd(r:R T st H nx)(e:st.nd k=none){l:List Nat}{eo:Option Obj}(h:∀g i,(i≠k∨g<10∨16<g)→(g,i)≠(20,1)→H' (g,i)=H (g,i))(x:NodeAt H' k d)(ho:H' (20,1)=some (.dict (l.map fun j=>(j,ndT j)) eo)) :
  R T { st.setNd k d with ord:=l } H' nx:=by
 have lo:∀g i,g<10∨16<g→(g,i)≠(20,1)→H' (g,i)=H (g,i):=fun g i hg=>h g i (.inr hg)
 refine⟨fun j hj=>?_,fun j hj=>(lo 3 j (.inl (qb5 _ _)) gd).trans (r.tdep j hj),fun j dj hd=>?_,fun j hd g h1 h2=>?_,?_,⟨eo,ho⟩,?_,(lo _ _ (.inr (qb5 _ _)) jd).trans r.ready,(lo _ _ (.inr (qb5 _ _)) jd).trans r.ttr,?_,fun i hi=>(lo 0 i (.inl (qb5 _ _)) gd).trans (r.tmp i hi)⟩
 ·refine Zxa (r.task j hj) fun es e1 e2=>?_;exact⟨es,(lo 1 j (.inl (qb5 _ _)) gd).trans e1,e2⟩
 ·unfold St.setNd at hd
  dsimp only at hd
  by_cases q:j=k
  ·subst q;rw[if_pos rfl] at hd;obtain rfl:=qa1 hd;exact x
  ·rw[if_neg q] at hd;exact(r.node j dj hd).keep fun g _ _=>h g j (.inl q) (gne (qa7 (Nk1 0 16 1 20 (by assumption) rfl)))
 ·unfold St.setNd at hd
  dsimp only at hd
  by_cases q:j=k
  ·subst q;rw[if_pos rfl] at hd;exact Xsn hd
  ·rw[if_neg q] at hd;exact(h g j (.inl q) (gne (qa7 (Nk1 0 16 1 20 h2 rfl)))).trans (r.nonode j hd g h1 h2)
 ·refine Zx r.disp fun v e1=>?_;exact⟨v,(lo _ _ (.inr (qb5 _ _)) jd).trans e1⟩
 ·refine Zx r.wait fun v e1=>?_;exact⟨v,(lo _ _ (.inr (qb5 _ _)) jd).trans e1⟩
 ·refine bt r.tasks fun es eo e1 e2=>?_;exact⟨es,eo,(lo _ _ (.inr (qb5 _ _)) gd).trans e1,e2⟩
theorem dT{x n:Nat}{v:MV}{P:MV→AS→Prop}(r:R T st H nx)(hx:m.lookup x=some (.tag (20,0)))(hn:n∈d9 3)(hv:∀w,[(105,MV.tag (21,1)),(64,.tag (21,2)),(107,w),(150,.tag (20,1)),(151,.tag (20,2)),(152,.tag (20,3)),(153,.tag (20,4)),(154,fz st.cur)].lookup n=some v)(ho:okV v=true)
  (h:P v ⟨H,nx,m⟩):aq (ac x) n ⟨H,nx,m⟩ P:=by
 refine Zx r.disp fun w e=>?_
 exact aY hx e hn (hv w) ho h
theorem jeS{p:Option (Nat×Nd)}(r:R T st H nx)(hk:k<T.n)(hp:∀j dj,p=some (j,dj)→st.nd j=some dj∧k∉dj.anc)(hord:k∈st.ord↔st.nd k≠none)(hn:(T.needs k).length≤1000)(ha:(parA p).length<999)(ho:st.ord.length<1000)
  (q0:st.nd k≠none→Q .none ⟨H,nx,m⟩)
  (q1:st.nd k=none→∀H',R T { st.setNd k (ini k (parA p) T) with ord:=st.ord++[k] } H' nx→Low H H' nx→Q (ndT k) ⟨H',nx,m⟩) :
  jag [.tag (20,0),parV p,.str k] [] ⟨H,nx,m⟩ Q:=by
 refine⟨rfl,?_⟩
 unfold ja8
 show ao _ _ ⟨H,nx,[(61,.tag (20,0)),(137,parV p),(129,.str k)]⟩ _
 refine Zx r.nodes fun eo hnd=>?_
 refine av (bn (cH ?_))
 refine dT r rfl (by decide) (fun _=>rfl) rfl ?_
 refine⟨by simp only[cM,hnd],aC ?_⟩
 refine ag rfl ?_
 refine aC ?_
 refine az (au ?_)
 refine⟨(20,1),k,.none,_,_,rfl,hnd,?_⟩
 rw[jcM]
 by_cases hnone:st.nd k=none
 ·rw[if_neg fun h=>hord.mp h hnone]
  refine jfr (r.task k hk) fun es t1 t2 t3 t4 t5=>?_
  refine bt r.tasks fun tes teo h21 htk=>?_
  refine av (bp (aS ?_))
  refine ag rfl ?_
  refine az ?_
  refine⟨true,rfl,rfl,?_⟩
  refine av (bn (dA (aC ?_)))
  refine jex ?_
  refine dT r rfl (by decide) (fun _=>rfl) rfl ?_
  refine ag rfl ?_
  refine⟨.tag (1,k),?_,?_⟩
  ·show jcS k (H (21,1))=_;rw[h21];exact htk k hk
  refine aC ?_
  refine ag rfl ?_
  refine au ?_
  refine au ?_
  have nk:=r.nonode k hnone
  refine⟨(10,k),⟨nk 10 (by decide) (by decide),.inl (by show(10:Nat)≠0;decide)⟩,?_⟩
  have e:cw nx (10,k)=nx:=if_neg (by show(10:Nat)≠0;decide)
  dsimp only
  rw[e]
  have hpk:∀j dj,p=some (j,dj)→j≠k:=fun j dj hj e=>by
   have:=(hp j dj hj).1;rw[e,hnone] at this;exact Xns this
  refine jfc (T:=T) aB (fun g h1 h2=>hN (nk g (Nat.le_of_lt h1) h2) (qb4 h1)) ?_ hpk (hN t1) t2 t3 t4 (hN (r.tdep k hk)) hn ha fun H1 g1 x1=>?_
  ·cases hpp:p with
   |none=>trivial
   |some pq=>
    obtain⟨j,dj⟩:=pq
    exact(r.node j dj (hp j dj hpp).1).keep fun g _ _=>af (ine (hpk j dj hpp))
  refine⟨rfl,?_⟩
  refine av (jcu ?_)
  refine ag rfl ?_
  have g2:∀g i,i≠k∨g<10∨16<g→H1 (g,i)=H (g,i):=fun g i hg=>(g1 g i hg).trans (af fun q=>by
   refine Za (Prod.mk.inj q) fun zq1 zq2=>?_;obtain rfl:=zq1;obtain rfl:=zq2
   rcases hg with hg|hg|hg
   ·exact hg rfl
   ·exact Nk0 (a:=0) 11 10 hg rfl
   ·exact Nk0 (a:=0) 17 10 hg rfl)
  refine Zx r.disp fun w hdisp=>?_
  refine aY (t:=(20,0)) rfl ((g2 20 0 (.inr (.inr (qb5 _ _)))).trans hdisp) (by decide) rfl rfl ?_
  refine ag rfl ?_
  refine .inr ⟨(20,1),_,_,k,rfl,rfl,(g2 20 1 (.inr (.inr (qb5 _ _)))).trans hnd,by simpa using ho,?_⟩
  refine ag rfl ?_
  refine q1 hnone (ay H1 (20,1) (.dict (ar (st.ord.map fun j=>(j,ndT j)) k (ndT k)))) ?_ ?_
  ·refine r.newNd hnone (l:=st.ord++[k]) (eo:=none) (fun g i h1 h2=>(af h2).trans (g2 g i h1)) (x1.keep fun g h1 h2=>af (gne (qa7 (Nk1 0 16 1 20 h2 rfl)))) ?_
   show ay H1 (20,1) _ (20,1)=_
   rw[aB]
   exact congrArg (fun l=>some (MObj.dict l)) (jgP fun h=>hord.mp h hnone)
  ·intro i hi
   exact hN (g2 0 i (.inr (.inl (qb5 _ _))))
 ·rw[if_pos (hord.mpr hnone)]
  refine av (bp (aS ?_))
  refine ag rfl ?_
  refine az ?_
  refine⟨false,rfl,rfl,?_⟩
  refine av (bp (dx (cB ?_)))
  cases hpp:p with
  |none=>exact ag rfl ⟨false,rfl,q0 hnone⟩
  |some pq=>
   obtain⟨j,dj⟩:=pq
   refine Za (hp j dj hpp) fun hj hka=>?_
   have xj:=r.node j dj hj
   refine ag rfl ⟨true,?_,?_⟩
   ·show bX H (.tag (10,j))=_
    simp only[bX,xj.obj]
   refine dx (aS ?_)
   refine ag rfl ?_
   refine aY (t:=(10,j)) rfl xj.obj (by decide) rfl rfl ?_
   refine⟨false,?_,q0 hnone⟩
   rw[jgd xj.anc,jfE]
   simpa using hka
end
end
section
section
variable {c:Cx}{T:TT}{st:St}{H H':Tag→Option MObj}{nx:Nat}{m:List (Nat×MV)}{k j:Nat}{d dj:Nd}{Q:MV→AS→Prop}{P:aH→AS→Prop}
theorem cJ{C n:Nat}{g:List MV→List MV→MEx}{a:MEx}{fs kfs:List MEx}{σ:AS}{P:MV→AS→Prop}
  (h:a σ fun x σ1=>∃t es,x=.tag t∧σ1.H t=some (.inst C es)∧es.lookup n=none∧cr fs σ1 fun xs σ2=>cr kfs σ2 fun ys σ3=>g (x::xs) ys σ3 P):bx C n g a fs kfs σ P:=h
theorem R.setReady(r:R T st H nx)(l:List Nat):R T { st with ready:=l } (ay H (20,3) (.list (l.map ndT))) nx:=
 ⟨fun j hj=>by refine Zxa (r.task j hj) fun es e1 e2=>?_;exact⟨es,hN e1,e2⟩,fun j hj=>hN (r.tdep j hj),fun j dj hd=>(r.node j dj hd).keep fun g h1 h2=>af (gne (qa7 (Nk1 0 16 1 20 h2 rfl))),fun j hd g h1 h2=>(af (gne (qa7 (Nk1 0 16 1 20 h2 rfl)))).trans (r.nonode j hd g h1 h2),
  by refine Zx r.disp fun v e=>?_;exact⟨v,(af jd).trans e⟩,by refine Zx r.nodes fun v e=>?_;exact⟨v,(af jd).trans e⟩,by refine Zx r.wait fun v e=>?_;exact⟨v,(af jd).trans e⟩,aB,(af jd).trans r.ttr,
  by refine bt r.tasks fun es eo e1 e2=>?_;exact⟨es,eo,hN e1,e2⟩,fun i hi=>hN (r.tmp i hi)⟩
theorem R.setTtr(r:R T st H nx)(l:List Nat):R T { st with ttr:=l } (ay H (20,4) (.list (l.map .str))) nx:=
 ⟨fun j hj=>by refine Zxa (r.task j hj) fun es e1 e2=>?_;exact⟨es,hN e1,e2⟩,fun j hj=>hN (r.tdep j hj),fun j dj hd=>(r.node j dj hd).keep fun g h1 h2=>af (gne (qa7 (Nk1 0 16 1 20 h2 rfl))),fun j hd g h1 h2=>(af (gne (qa7 (Nk1 0 16 1 20 h2 rfl)))).trans (r.nonode j hd g h1 h2),
  by refine Zx r.disp fun v e=>?_;exact⟨v,(af jd).trans e⟩,by refine Zx r.nodes fun v e=>?_;exact⟨v,(af jd).trans e⟩,by refine Zx r.wait fun v e=>?_;exact⟨v,(af jd).trans e⟩,(af jd).trans r.ready,aB,
  by refine bt r.tasks fun es eo e1 e2=>?_;exact⟨es,eo,hN e1,e2⟩,fun i hi=>hN (r.tmp i hi)⟩
theorem R.setWait(r:R T st H nx)(l:List Nat){eo:Option Obj}{es:List (Nat×MV)}(he:es=l.map fun j=>(j,ndT j)):R T { st with wait:=l } (ay H (20,2) (.dict es eo)) nx:=by
 subst he
 exact⟨fun j hj=>by refine Zxa (r.task j hj) fun es e1 e2=>?_;exact⟨es,hN e1,e2⟩,fun j hj=>hN (r.tdep j hj),fun j dj hd=>(r.node j dj hd).keep fun g h1 h2=>af (gne (qa7 (Nk1 0 16 1 20 h2 rfl))),fun j hd g h1 h2=>(af (gne (qa7 (Nk1 0 16 1 20 h2 rfl)))).trans (r.nonode j hd g h1 h2),
  by refine Zx r.disp fun v e=>?_;exact⟨v,(af jd).trans e⟩,by refine Zx r.nodes fun v e=>?_;exact⟨v,(af jd).trans e⟩,⟨eo,aB⟩,(af jd).trans r.ready,(af jd).trans r.ttr,
  by refine bt r.tasks fun es eo e1 e2=>?_;exact⟨es,eo,hN e1,e2⟩,fun i hi=>hN (r.tmp i hi)⟩
theorem R.setCur(r:R T st H nx)(o:Option Nat){v:MV}{es:List (Nat×MV)}(he:es=[(105,.tag (21,1)),(64,.tag (21,2)),(107,v),(150,.tag (20,1)),(151,.tag (20,2)),(152,.tag (20,3)),(153,.tag (20,4)),(154,fz o)]):R T { st with cur:=o } (ay H (20,0) (.inst 3 es)) nx:=by
 subst he
 exact⟨fun j hj=>by refine Zxa (r.task j hj) fun es e1 e2=>?_;exact⟨es,hN e1,e2⟩,fun j hj=>hN (r.tdep j hj),fun j dj hd=>(r.node j dj hd).keep fun g h1 h2=>af (gne (qa7 (Nk1 0 16 1 20 h2 rfl))),fun j hd g h1 h2=>(af (gne (qa7 (Nk1 0 16 1 20 h2 rfl)))).trans (r.nonode j hd g h1 h2),
  ⟨v,aB⟩,by refine Zx r.nodes fun v e=>?_;exact⟨v,(af jd).trans e⟩,by refine Zx r.wait fun v e=>?_;exact⟨v,(af jd).trans e⟩,(af jd).trans r.ready,(af jd).trans r.ttr,
  by refine bt r.tasks fun es eo e1 e2=>?_;exact⟨es,eo,hN e1,e2⟩,fun i hi=>hN (r.tmp i hi)⟩
noncomputable def mkNd(T:TT)(st:St)(p:List Nat)(k:Nat):St:={ st.setNd k (ini k p T) with ord:=st.ord++[k] }
noncomputable def bu(T:TT)(p:List Nat)(k:Nat)(st:St):St:=match st.nd k with
 |some _=>st
 |none=>{ mkNd T st p k with ready:=st.ready++[k] }
structure GenOK(T:TT)(st:St)(p:Option (Nat×Nd))(k:Nat):Prop where
 lt:k<T.n
 par:∀j dj,p=some (j,dj)→st.nd j=some dj∧k∉dj.anc
 ord:k∈st.ord↔st.nd k≠none
 len:(T.needs k).length≤1000
 anc:(parA p).length<999
 ordl:st.ord.length<1000
theorem jg8{p:Option (Nat×Nd)}(r:R T st H nx)(g:GenOK T st p k)(hr:st.ready.length<1000)
  (q:∀H',R T (bu T (parA p) k st) H' nx→Low H H' nx→Q .none ⟨H',nx,m⟩) :
  jaa [.tag (20,0),parV p,.str k] [] ⟨H,nx,m⟩ Q:=by
 refine⟨rfl,?_⟩
 unfold jaZ
 show ao _ _ ⟨H,nx,[(61,.tag (20,0)),(137,parV p),(129,.str k)]⟩ _
 refine Zx r.disp fun w hd=>?_
 refine av (bn (cJ ?_))
 refine ag rfl ?_
 refine⟨(20,0),_,rfl,hd,rfl,?_⟩
 refine aC ?_
 refine ag rfl ?_
 refine aC ?_
 refine ag rfl ?_
 refine au (au ?_)
 refine jeS r g.lt g.par g.ord g.len g.anc g.ordl (fun h=>?_) fun h H' r' l'=>?_
 ·refine bp (aS ?_)
  refine ag rfl ?_
  refine az ?_
  refine⟨true,rfl,rfl,?_⟩
  refine q _ ?_ (.refl _ _)
  unfold bu
  split
  ·exact r
  ·rename_i e;exact absurd e h
 ·refine bp (aS ?_)
  refine ag rfl ?_
  refine az ?_
  refine⟨false,rfl,rfl,?_⟩
  refine Zx r'.disp fun w' hd'=>?_
  refine cf (cH ?_)
  refine dT r' rfl (by decide) (fun _=>rfl) rfl ?_
  refine⟨by simp only[cM,r'.ready],aC ?_⟩
  refine ag rfl ?_
  refine au ?_
  refine dK r'.ready (by simpa[St.setNd] using hr) ?_
  refine⟨rfl,?_⟩
  refine q (ay H' (20,3) (.list ((st.ready.map ndT)++[ndT k]))) ?_ ?_
  ·unfold bu
   rw[h]
   have:=r'.setReady (st.ready++[k])
   rw[List.map_append] at this
   exact this
  ·exact l'.trans (fun i hi=>hN rfl) (qa9 _)
end
end
section
structure TOK(T:TT):Prop where
 n:T.n≤8
 needs:∀k,∀j∈T.needs k,j<k
 setups:∀k,∀j∈T.setups k,j<k
 nn:∀k,(T.needs k).Nodup
 ns:∀k,(T.setups k).Nodup
 ln:∀k,(T.needs k).length≤8
 ls:∀k,(T.setups k).length≤8
structure WO(T:TT)(st:St):Prop where
 ord:∀k,k∈st.ord↔st.nd k≠none
 nodup:st.ord.Nodup
 lt:∀k∈st.ord,k<T.n
theorem bG:∀{n:Nat}{l:List Nat},l.Nodup→(∀x∈l,x<n)→l.length≤n
 |0,l,_,hb=>by
  cases l with
  |nil=>exact qa9 _
  |cons a l=>exact absurd (hb a qa4) (Nat.not_lt_zero _)
 |n+1,l,h,hb=>by
  by_cases hn:n∈l
  ·have h1:(l.erase n).Nodup:=h.erase n
   have h2:∀x∈l.erase n,x<n:=fun x hx=>by
    have hx':=(h.mem_erase_iff).mp hx
    have:=hb x hx'.2
    have:=hx'.1
    exact Nat.lt_of_le_of_ne (Nat.le_of_lt_succ (by assumption)) this
   have h3:=bG h1 h2
   rw[List.length_erase_of_mem hn] at h3
   omega
  ·have h2:∀x∈l,x<n:=fun x hx=>by
    have:=hb x hx
    have:x≠n:=fun e=>hn (e▸hx)
    exact Nat.lt_of_le_of_ne (Nat.le_of_lt_succ (by assumption)) this
   exact Nat.le_succ_of_le (bG h h2)
theorem WO.len{T:TT}{st:St}(w:WO T st)(t:TOK T):st.ord.length≤8:=qb1 (bG w.nodup w.lt) t.n
theorem WO.mk'{T:TT}{st:St}(w:WO T st){k:Nat}(hk:k<T.n)(h:st.nd k=none){p:List Nat}:WO T (mkNd T st p k):=by
 refine⟨fun j=>?_,?_,fun j hj=>?_⟩
 ·show j∈st.ord++[k]↔(if j=k then some (ini k p T) else st.nd j)≠none
  by_cases e:j=k
  ·subst e;simp
  ·rw[if_neg e,←w.ord j];simp[e]
 ·show(st.ord++[k]).Nodup
  rw[List.nodup_append]
  refine⟨w.nodup,by simp,fun a ha b hb e=>?_⟩
  rw[List.mem_singleton] at hb
  subst hb;subst e
  exact(w.ord a).mp ha h
 ·have:j∈st.ord++[k]:=hj
  rcases List.mem_append.mp this with h|h
  ·exact w.lt j h
  ·rw[List.mem_singleton.mp h];exact hk
noncomputable def bC(T:TT):Nat→St→Option Nat×St
 |0,st=>(none,st)
 |f+1,st=>match st.ttr.getLast? with
  |none=>(none,st)
  |some k=>match st.nd k with
   |some _=>bC T f { st with ttr:=st.ttr.dropLast }
   |none=>(some k,mkNd T { st with ttr:=st.ttr.dropLast } [] k)
noncomputable def bM(T:TT)(st:St):Option Nat×St:=match st.ready with
 |k::r=>(some k,{ st with ready:=r })
 |[]=>bC T (st.ttr.length+1) st
section
variable {c:Cx}{T:TT}{st:St}{H H':Tag→Option MObj}{nx:Nat}{m:List (Nat×MV)}{k j:Nat}{d dj:Nd}{Q:MV→AS→Prop}{P:aH→AS→Prop}
theorem jhI{t:MT}{b:MS}{σ:AS}{P:aH→AS→Prop}(n:Nat)(h:jct t b n σ P):jcX t b σ P:=⟨n,h⟩
theorem jfH{o:Option Nat}(r:R T st H nx)(e:∀k,o=some k→st.nd k≠none):bX H (fz o)=some o.isSome:=by
 cases o with
 |none=>rfl
 |some k=>
  cases q:st.nd k with
  |none=>exact absurd q (e k rfl)
  |some d=>
   show bX H (.tag (10,k))=_
   simp only[bX,(r.node k d q).obj];rfl
theorem jfb(r:R T st H nx)(t:TOK T)(w:WO T st)(ht:∀k∈st.ttr,k<T.n)(hr:∀k∈st.ready,st.nd k≠none)
  (q:∀H',R T (bM T st).2 H' nx→Low H H' nx→Q (fz (bM T st).1) ⟨H',nx,m⟩) :
  jae [.tag (20,0),.tag (20,3),.tag (20,4)] [] ⟨H,nx,m⟩ Q:=by
 refine⟨rfl,?_⟩
 unfold jaF
 show ao _ _ ⟨H,nx,[(61,.tag (20,0)),(152,.tag (20,3)),(153,.tag (20,4))]⟩ _
 refine av (bp (cB ?_))
 refine ag rfl ?_
 refine⟨!st.ready.isEmpty,by simp only[bX,r.ready];simp,?_⟩
 cases hrd:st.ready with
 |cons k l=>
  refine cC (cH ?_)
  refine ag rfl ?_
  refine⟨by simp only[cM,r.ready],aC ?_⟩
  refine az (au ?_)
  refine .inr ⟨(20,3),_,0,ndT k,rfl,r.ready,by decide,by rw[hrd];rfl,?_⟩
  have e:bM T st=(some k,{ st with ready:=l }):=by unfold bM;rw[hrd]
  rw[e] at q
  refine q (ay H (20,3) (.list (l.map ndT))) (r.setReady l) (cj (by decide)) |> fun z=>?_
  have e2:((st.ready.map ndT).eraseIdx (0:Int).toNat)=l.map ndT:=by rw[hrd];rfl
  dsimp only
  rw[e2];exact z
 |nil=>
  have e:bM T st=bC T (st.ttr.length+1) st:=by unfold bM;rw[hrd]
  rw[e] at q
  refine av (jhI (st.ttr.length+1) ?_)
  have loop:∀(n:Nat)(st1:St)(H1:Tag→Option MObj)(m1:List (Nat×MV)),st1.ttr.length<n→m1.lookup 61=some (.tag (20,0))→m1.lookup 153=some (.tag (20,4))→R T st1 H1 nx→WO T st1→(∀k∈st1.ttr,k<T.n)→
    (∀H' ,R T (bC T n st1).2 H' nx→Low H1 H' nx→Q (fz (bC T n st1).1) ⟨H',nx,m⟩)→
    jct (mTr (ac 153)) (ao (aL 129 (aV 1 popM (ac 153) [])) (ao (aL 154 (bx 3 156 jag (ac 61) [ah .none,ac 129] [])) (sIf (mTr (ac 154)) (bD (ac 154)) aE))) n ⟨H1,nx,m1⟩
     (fun f σ1=>match f with|.next=>bD (ah .none) σ1 (fun fl σ'=>Q (ez fl) ⟨σ'.H,σ'.nx,m⟩)|.brk=>Q (ez .brk) ⟨σ1.H,σ1.nx,m⟩|.cont=>Q (ez .cont) ⟨σ1.H,σ1.nx,m⟩|.ret v=>Q (ez (.ret v)) ⟨σ1.H,σ1.nx,m⟩):=by
   intro n
   induction n with
   |zero=>intro st1 H1 m1 hl;exact absurd hl (Nat.not_lt_zero _)
   |succ n ih=>
    intro st1 H1 m1 hl h61 h153 r1 w1 ht1 q1
    refine cB ?_
    refine ag h153 ?_
    refine⟨!st1.ttr.isEmpty,by simp only[bX,r1.ttr];simp,?_⟩
    rcases List.eq_nil_or_concat st1.ttr with hnil|⟨l,k,hlk⟩
    ·rw[hnil]
     refine cC (az ?_)
     have e:bC T (n+1) st1=(none,st1):=by unfold bC;rw[hnil];rfl
     rw[e] at q1
     exact q1 H1 r1 (.refl _ _)
    ·have hne:(!st1.ttr.isEmpty)=true:=by rw[hlk];simp
     rw[hne]
     have hkT:k<T.n:=ht1 k (by rw[hlk];simp)
     have hgl:st1.ttr.getLast?=some k:=by rw[hlk];simp
     have hdl:st1.ttr.dropLast=l:=by rw[hlk];simp
     refine av (bn (cH ?_))
     refine ag h153 ?_
     refine⟨by simp only[cM,r1.ttr],au ?_⟩
     refine .inl ⟨(20,4),_,.str k,rfl,r1.ttr,?_,?_⟩
     ·rw[hlk];simp
     have r2:=r1.setTtr l
     have e2:(st1.ttr.map MV.str).eraseIdx ((st1.ttr.map MV.str).length - 1)=l.map .str:=by
      rw[hlk];simp[List.eraseIdx_append_of_length_le]
     dsimp only
     rw[e2]
     refine Zx r2.disp fun w' hd'=>?_
     refine av (bn (cJ ?_))
     refine ag (by rw[ae,if_neg (by decide)];exact h61) ?_
     refine⟨(20,0),_,rfl,hd',rfl,?_⟩
     refine aC (az ?_)
     refine aC ?_
     refine ag (by rw[ae,if_pos rfl]) ?_
     refine au (au ?_)
     refine jeS (p:=none) r2 hkT (fun _ _ h=>Xns h) (w1.ord k) (qb1 (t.ln k) (by decide)) (by decide) (Nat.lt_of_le_of_lt (w1.len t) (by decide)) (fun h=>?_) fun h H' r' l'=>?_
     ·refine bp (cB ?_)
      refine ag (by rw[ae,if_pos rfl]) ?_
      refine⟨false,rfl,?_⟩
      refine Zx (Option.ne_none_iff_exists'.mp h) fun dk hdk=>?_
      refine ih { st1 with ttr:=l } _ _ ?_ ?_ ?_ r2 ⟨w1.ord,w1.nodup,w1.lt⟩ (fun k hk=>ht1 k (by rw[hlk];simp[hk])) fun H' r' l'=>?_
      ·have:st1.ttr.length=l.length+1:=by rw[hlk];simp
       show l.length<n
       exact Nk2 1 0 1 1 1 0 (qa3 this.symm) hl rfl
      ·rw[ae,if_neg (by decide),ae,if_neg (by decide)];exact h61
      ·rw[ae,if_neg (by decide),ae,if_neg (by decide)];exact h153
      ·have e:bC T (n+1) st1=bC T n { st1 with ttr:=l }:=by
        rw[bC,hgl]
        dsimp only
        have:st1.nd k=some dk:=hdk
        rw[this,hdl]
       rw[e] at q1
       exact q1 H' r' ((cj (by decide)).trans l' (qa9 _))
     ·refine bp (cB ?_)
      refine ag (by rw[ae,if_pos rfl]) ?_
      refine⟨true,?_,?_⟩
      ·show bX H' (.tag (10,k))=_
       have:=(r'.node k (ini k [] T) (by show(if k=k then _ else _)=_;rw[if_pos rfl];rfl)).obj
       simp only[bX,this]
      refine cC ?_
      refine ag (by rw[ae,if_pos rfl]) ?_
      have e:bC T (n+1) st1=(some k,mkNd T { st1 with ttr:=l } [] k):=by
       rw[bC,hgl]
       dsimp only
       have:st1.nd k=none:=h
       rw[this,hdl]
      rw[e] at q1
      exact q1 H' r' ((cj (by decide)).trans l' (qa9 _))
  exact loop _ st H _ (Nat.lt_succ_self _) rfl rfl r w ht q
end
end
section
noncomputable def RS.waits:RS→Bool
 |.none=>true
 |.run=>true
 |.succ=>false
 |.fail=>false
 |.upd=>false
 |.ign=>false
noncomputable def cm(st:St)(j:Nat):Bool:=match st.nd j with
 |some d=>d.rs.waits
 |none=>false
noncomputable def ci(k:Nat)(st:St)(j:Nat):St:=match st.nd j with
 |some dj=>match st.nd k with
  |some dk=>if dj.rs.waits then st else st.setNd k (dj.rs.note j dk)
  |none=>st
 |none=>st
noncomputable def cU(l:List Nat)(k:Nat):List Nat:=if k∈l then l else l++[k]
noncomputable def de(k:Nat)(st:St)(j:Nat):St:=match st.nd j with
 |some dj=>st.setNd j { dj with wm:=cU dj.wm k }
 |none=>st
noncomputable def jdg(k:Nat)(wf:List Nat)(st:St):St:=match st.nd k with
 |some dk=>st.setNd k { dk with wr:=cV dk.wr wf }
 |none=>st
noncomputable def cY(k:Nat)(l:List Nat)(st:St):St:=
 let wf:=l.filter (cm st)
 jdg k wf (wf.foldl (de k) (l.foldl (ci k) st))
section
variable {c:Cx}{T:TT}{st:St}{H H':Tag→Option MObj}{nx:Nat}{m:List (Nat×MV)}{k j:Nat}{d dj:Nd}{Q:MV→AS→Prop}{P:aH→AS→Prop}
theorem jgT{l:List Nat}:ar (l.map fun j=>(j,ndT j)) k (ndT k)=(cU l k).map fun j=>(j,ndT j):=by
 unfold cU
 by_cases h:k∈l
 ·rw[if_pos h]
  unfold ar
  rw[if_pos (by simp only[List.any_map,List.any_eq_true,Function.comp,beq_iff_eq];exact⟨k,h,rfl⟩)]
  rw[List.map_map]
  refine List.map_congr_left fun a _=>?_
  show(if (a == k)=true then(a,ndT k) else(a,ndT a))=(a,ndT a)
  split
  ·rename_i q;rw[eq_of_beq q]
  ·rfl
 ·rw[if_neg h];exact jgP h
theorem aU{i:Nat}:(st.setNd k d).nd i=if i=k then some d else st.nd i:=rfl
theorem R.tmpSet(r:R T st H nx){i nx':Nat}{o:MObj}(h:nx≤nx')(hi:i<nx'):R T st (ay H (0,i) o) nx':=
 ⟨fun j hj=>by refine Zxa (r.task j hj) fun es e1 e2=>?_;exact⟨es,hN e1,e2⟩,fun j hj=>hN (r.tdep j hj),fun j dj hd=>(r.node j dj hd).keep fun g h1 h2=>af (gne (qb4 (Nk1 10 0 1 0 h1 rfl))),fun j hd g h1 h2=>(af (gne (qb4 (Nk1 10 0 1 0 h1 rfl)))).trans (r.nonode j hd g h1 h2),
  by refine Zx r.disp fun v e=>?_;exact⟨v,hN e⟩,by refine Zx r.nodes fun v e=>?_;exact⟨v,hN e⟩,by refine Zx r.wait fun v e=>?_;exact⟨v,hN e⟩,hN r.ready,hN r.ttr,
  by refine bt r.tasks fun es eo e1 e2=>?_;exact⟨es,eo,hN e1,e2⟩,fun i' hi'=>(af (ine (qb4 (qb1 hi hi')))).trans (r.tmp i' (qb1 h hi'))⟩
theorem jaO{xs:List MV}{P:MV→AS→Prop}(hf:H (0,nx)=none)(hx:xs.length≤100000)(h:P (.tag (0,nx)) ⟨ay H (0,nx) (.list xs),nx+1,m⟩):newL xs ⟨H,nx,m⟩ P:=
 ⟨hx,.inr ⟨(0,nx),⟨hf,.inr (qa9 _)⟩,by
  have e:cw nx (0,nx)=nx+1:=by unfold cw;rw[if_pos rfl];exact Nat.max_eq_right (Nat.le_succ _)
  show P (.tag (0,nx)) ⟨ay H (0,nx) (.list xs),cw nx (0,nx),m⟩
  rw[e];exact h⟩⟩
theorem jjf{r:RS}:dY r.mv [.none,.str 36]=some r.waits:=by cases r<;>rfl
theorem jjF{r:RS}{xs:List MV}:fw H r.mv (.tup xs)=dY r.mv xs:=by cases r<;>rfl
theorem jfz(r:R T st H nx)(w:WO T st)(e:st.nd j=some dj):eW H (.tag (20,1)) (.str j)=some (ndT j):=by
 refine Zx r.nodes fun eo h=>?_
 show jcS j (H (20,1))=_
 rw[h];dsimp only[jcS];rw[jcM,if_pos ((w.ord j).mpr (by rw[e];exact Option.some_ne_none _))]
theorem okRs{r:RS}:okV r.mv=true:=by cases r<;>rfl
theorem jjd{i0:Nat}(t:TOK T):∀(l:List Nat)(st1:St)(H1:Tag→Option MObj)(wf:List Nat)(m1:List (Nat×MV))(d1:Nd),i0<nx→R T st1 H1 nx→WO T st1→H1 (0,i0)=some (.list (wf.map .str))→
  m1.lookup 61=some (.tag (20,0))→m1.lookup 154=some (ndT k)→m1.lookup 165=some (.bool false)→m1.lookup 166=some (.tag (0,i0))→st1.nd k=some d1→(∀j∈l,j≠k∧st1.nd j≠none)→l.Nodup→(∀j∈l,j∉wf)→d1.bad.length+l.length<1000→d1.ign.length+l.length<1000→wf.length+l.length<1000→
  (∀H2 m2,R T (l.foldl (ci k) st1) H2 nx→WO T (l.foldl (ci k) st1)→H2 (0,i0)=some (.list ((wf++l.filter (cm st1)).map .str))→Low H1 H2 i0→m2.lookup 61=some (.tag (20,0))→m2.lookup 154=some (ndT k)→m2.lookup 165=some (.bool false)→m2.lookup 166=some (.tag (0,i0))→P .next ⟨H2,nx,m2⟩)→
  ∀(g:(Tag→Option MObj)→Prop),(∀H,g H)→
  dJ g (aG 62) (ao (aL 167 (aF (aq (ac 61) 150) (ac 62))) (sIf (mOr (eU (mTr (ac 167))) (mOr (aA inM (aq (ac 167) 143) (dg [(ah .none),(ah (.str 36))])) cy)) (sIf (aA fe (ac 62) (ac 166)) (aI (aV 1 bg (ac 166) [(ac 62)])) aE) (ao (aI (bx 2 148 jac (ac 154) [(ac 167)] [])) (sIf (mTr (ac 165)) dm aE)))) (l.map .str) ⟨H1,nx,m1⟩ P:=by
 intro l
 induction l with
 |nil=>
  intro st1 H1 wf m1 d1 hi r w hw h61 h154 h165 h166 hk hl nd dis hb hg hlen q g hgg
  exact⟨hgg _,q H1 m1 r w (by simpa using hw) (.refl _ _) h61 h154 h165 h166⟩
 |cons j l ih=>
  intro st1 H1 wf m1 d1 hi r w hw h61 h154 h165 h166 hk hl nd dis hb hg hlen q g hgg
  refine Za (hl j qa4) fun hjk hjn=>?_
  refine Zx (Option.ne_none_iff_exists'.mp hjn) fun dj hj=>?_
  have xj:=r.node j dj hj
  refine Za (List.nodup_cons.mp nd) fun ndj ndl=>?_
  refine⟨hgg _,?_⟩
  refine av (bn (jex ?_))
  refine dT r (by rw[ae,if_neg (by decide)];exact h61) (by decide) (fun _=>rfl) rfl ?_
  refine ag (by rw[ae,if_pos rfl]) ?_
  refine⟨ndT j,jfz r w hj,?_⟩
  refine bp (eN (jfg (cB ?_)))
  refine ag (by rw[ae,if_pos rfl]) ?_
  refine⟨true,by show bX H1 (.tag (10,j))=_;simp only[bX,xj.obj],?_⟩
  refine eN (aS ?_)
  refine aY (t:=(10,j)) (by rw[ae,if_pos rfl];rfl) xj.obj (by decide) rfl okRs ?_
  refine aC (az (aC (az (au ⟨by decide,?_⟩))))
  refine⟨dj.rs.waits,by rw[jjF];exact jjf,?_⟩
  have L61:∀(a b:MV),(ar (ar m1 62 a) 167 b).lookup 61=some (.tag (20,0)):=fun a b=>by rw[ae,if_neg (by decide),ae,if_neg (by decide)];exact h61
  have L154:∀(a b:MV),(ar (ar m1 62 a) 167 b).lookup 154=some (ndT k):=fun a b=>by rw[ae,if_neg (by decide),ae,if_neg (by decide)];exact h154
  have L165:∀(a b:MV),(ar (ar m1 62 a) 167 b).lookup 165=some (.bool false):=fun a b=>by rw[ae,if_neg (by decide),ae,if_neg (by decide)];exact h165
  have L166:∀(a b:MV),(ar (ar m1 62 a) 167 b).lookup 166=some (.tag (0,i0)):=fun a b=>by rw[ae,if_neg (by decide),ae,if_neg (by decide)];exact h166
  cases hwt:dj.rs.waits with
  |true=>
   have est:ci k st1 j=st1:=by unfold ci;rw[hj,hk];dsimp only;rw[if_pos hwt]
   have ewt:cm st1 j=true:=by unfold cm;rw[hj];exact hwt
   refine bp (aS ?_)
   refine ag (by rw[ae,if_neg (by decide),ae,if_pos rfl]) ?_
   refine ag (L166 _ _) ?_
   refine⟨false,?_,?_⟩
   ·rw[jgd hw,jfE];simpa using dis j qa4
   refine cf (cH ?_)
   refine ag (L166 _ _) ?_
   refine⟨by simp only[cM,hw],aC ?_⟩
   refine ag (by rw[ae,if_neg (by decide),ae,if_pos rfl]) ?_
   refine au ?_
   refine dK hw (by simp at hlen ⊢;exact NB hlen rfl) ⟨rfl,?_⟩
   refine ih st1 _ (wf++[j]) _ d1 hi (r.tmpSet (qa9 _) hi) w ?_ (L61 _ _) (L154 _ _) (L165 _ _) (L166 _ _) hk (fun i hi=>hl i (qa2 _ hi)) ndl (fun i hi=>?_) (by simp at hb;exact Nat.le_of_lt hb) (by simp at hg;exact Nat.le_of_lt hg) (by simp at hlen ⊢;exact NA hlen) (fun H2 m2 a1 a2 a3 a4 a5 a6 a7 a8=>?_) g hgg
   ·rw[List.map_append];exact aB
   ·rw[List.mem_append,List.mem_singleton]
    rintro (z|z)
    ·exact dis i (qa2 _ hi) z
    ·subst z;exact ndj hi
   ·refine q H2 m2 ?_ ?_ ?_ (fun i hi'=>(a4 i hi').trans (af (ine (qa7 hi')))) a5 a6 a7 a8
    ·rw[List.foldl_cons,est];exact a1
    ·rw[List.foldl_cons,est];exact a2
    ·rw[a3,List.filter_cons,ewt];simp
  |false=>
   have est:ci k st1 j=st1.setNd k (dj.rs.note j d1):=by unfold ci;rw[hj,hk];dsimp only;rw[hwt];rfl
   have ewt:cm st1 j=false:=by unfold cm;rw[hj];exact hwt
   have hn1:(dj.rs.note j d1).bad.length≤d1.bad.length+1:=by cases dj.rs<;>simp[RS.note]
   have hn2:(dj.rs.note j d1).ign.length≤d1.ign.length+1:=by cases dj.rs<;>simp[RS.note]
   refine av (cf (cJ ?_))
   refine ag (L154 _ _) ?_
   refine⟨(10,k),_,rfl,(r.node k d1 hk).obj,rfl,?_⟩
   refine aC ?_
   refine ag (by rw[ae,if_pos rfl]) ?_
   refine au (au ?_)
   refine jc' r hk hj (by simp at hb;exact NB hb rfl) (by simp at hg;exact NB hg rfl) fun H' r' l'=>⟨rfl,?_⟩
   refine bp (cB ?_)
   refine ag (L165 _ _) ⟨false,rfl,?_⟩
   have w':WO T (st1.setNd k (dj.rs.note j d1)):=⟨fun i=>by
    rw[aU]
    by_cases e:i=k
    ·subst e;rw[if_pos rfl];have:=w.ord i;rw[hk] at this;exact⟨fun _=>Option.some_ne_none _,fun _=>this.mpr (Option.some_ne_none _)⟩
    ·rw[if_neg e];exact w.ord i,w.nodup,w.lt⟩
   have wsame:∀i∈l,cm (st1.setNd k (dj.rs.note j d1)) i=cm st1 i:=fun i hi=>by
    unfold cm;rw[aU,if_neg (hl i (qa2 _ hi)).1]
   refine ih (st1.setNd k (dj.rs.note j d1)) _ wf _ (dj.rs.note j d1) hi r' w' ?_ (L61 _ _) (L154 _ _) (L165 _ _) (L166 _ _) (by rw[aU,if_pos rfl]) (fun i hi=>?_) ndl (fun i hi=>dis i (qa2 _ hi)) (by simp at hb;omega) (by simp at hg;omega) (by simp at hlen ⊢;exact Nat.le_of_lt hlen) (fun H2 m2 a1 a2 a3 a4 a5 a6 a7 a8=>?_) g hgg
   ·rw[l' i0 hi];exact hw
   ·refine Za (hl i (qa2 _ hi)) fun p1 p2=>?_
    exact⟨p1,by rw[aU,if_neg p1];exact p2⟩
   ·refine q H2 m2 ?_ ?_ ?_ (fun i hi'=>(a4 i hi').trans (l' i (Nat.lt_trans hi' hi))) a5 a6 a7 a8
    ·rw[List.foldl_cons,est];exact a1
    ·rw[List.foldl_cons,est];exact a2
    ·rw[a3,List.filter_cons,ewt,List.filter_congr wsame];simp
end
end
section
section
variable {c:Cx}{T:TT}{st:St}{H H':Tag→Option MObj}{nx:Nat}{m:List (Nat×MV)}{k j:Nat}{d dj:Nd}{Q:MV→AS→Prop}{P:aH→AS→Prop}
theorem WO.setNd(w:WO T st)(e:st.nd k=some d){d':Nd}:WO T (st.setNd k d'):=⟨fun i=>by
 rw[aU]
 by_cases q:i=k
 ·subst q;rw[if_pos rfl];have:=w.ord i;rw[e] at this;exact⟨fun _=>Option.some_ne_none _,fun _=>this.mpr (Option.some_ne_none _)⟩
 ·rw[if_neg q];exact w.ord i,w.nodup,w.lt⟩
theorem cX{f:fC}{s:MV→AS→AS}{b:MS}{σ:AS}{P:aH→AS→Prop}(h:f σ (kFor s b P)):cN f s b σ P:=h
theorem bR{f:MEx}{σ:AS}{Q:List MV→((Tag→Option MObj)→Prop)→AS→Prop}(h:f σ (jkn Q)):bq f σ Q:=h
theorem jbT(r:R T st H nx)(e:st.nd k=some d)(hk:k<T.n){x:Nat}{P:MV→AS→Prop}(hx:m.lookup x=some (ndT k))(h:P (.str k) ⟨H,nx,m⟩):aq (aq (ac x) 42) 62 ⟨H,nx,m⟩ P:=by
 refine dR (r.task k hk) fun es t1 t2 _=>?_
 refine jfo (aY (t:=(10,k)) hx (r.node k d e).obj (by decide) rfl rfl ?_)
 exact⟨(1,k),0,es,.str k,rfl,t1,by decide,t2,rfl,h⟩
theorem jjc{i0:Nat}{l0:List Nat}(hk:k<T.n):∀(l:List Nat)(st1:St)(H1:Tag→Option MObj)(m1:List (Nat×MV)),i0<nx→R T st1 H1 nx→WO T st1→H1 (0,i0)=some (.list (l0.map .str))→
  m1.lookup 61=some (.tag (20,0))→m1.lookup 154=some (ndT k)→m1.lookup 165=some (.bool false)→m1.lookup 166=some (.tag (0,i0))→st1.nd k≠none→(∀j∈l,j≠k∧∃d,st1.nd j=some d∧d.wm.length<999)→l.Nodup→
  (∀H2 m2,R T (l.foldl (de k) st1) H2 nx→WO T (l.foldl (de k) st1)→H2 (0,i0)=some (.list (l0.map .str))→Low H1 H2 nx→m2.lookup 61=some (.tag (20,0))→m2.lookup 154=some (ndT k)→m2.lookup 165=some (.bool false)→m2.lookup 166=some (.tag (0,i0))→P .next ⟨H2,nx,m2⟩)→
  dJ (fun H=>cv H (.tag (0,i0))=some (l0.map .str)) (aG 62) (dv (aq (aF (aq (ac 61) 150) (ac 62)) 142) (aq (aq (ac 154) 42) 62) (ac 154)) (l.map .str) ⟨H1,nx,m1⟩ P:=by
 intro l
 induction l with
 |nil=>
  intro st1 H1 m1 hi r w hw h61 h154 h165 h166 hkn hl nd q
  exact⟨bh hw,q H1 m1 r w hw (.refl _ _) h61 h154 h165 h166⟩
 |cons j l ih=>
  intro st1 H1 m1 hi r w hw h61 h154 h165 h166 hkn hl nd q
  refine fB (hl j qa4) fun hjk dj hj hwm=>?_
  refine Za (List.nodup_cons.mp nd) fun ndj ndl=>?_
  refine Zx (Option.ne_none_iff_exists'.mp hkn) fun dk hdk=>?_
  have xj:=r.node j dj hj
  refine Zx xj.wm fun eo h14=>?_
  have L:∀(x:Nat)(v a:MV),x≠62→m1.lookup x=some v→(ar m1 62 a).lookup x=some v:=fun x v a hx h=>by rw[ae,if_neg hx];exact h
  refine⟨bh hw,?_⟩
  refine jcu ?_
  refine ag (L _ _ _ (by decide) h154) ?_
  refine jfo (jex ?_)
  refine dT r (L _ _ _ (by decide) h61) (by decide) (fun _=>rfl) rfl ?_
  refine ag (by rw[ae,if_pos rfl]) ?_
  refine⟨ndT j,jfz r w hj,?_⟩
  refine⟨(10,j),2,_,.tag (14,j),rfl,xj.obj,by decide,rfl,rfl,?_⟩
  refine jbT r hdk hk (L _ _ _ (by decide) h154) ?_
  refine .inr ⟨(14,j),_,eo,k,rfl,rfl,h14,by simp;exact Nk1 1 999 1 1000 hwm rfl,?_⟩
  have est:de k st1 j=st1.setNd j { dj with wm:=cU dj.wm k }:=by unfold de;rw[hj]
  have r2:=r.ndWm (eo:=none) hj (jgT (k:=k) (l:=dj.wm))
  refine ih _ _ _ hi r2 (w.setNd hj) (hN hw) (L _ _ _ (by decide) h61) (L _ _ _ (by decide) h154) (L _ _ _ (by decide) h165) (L _ _ _ (by decide) h166) ?_ (fun i hi=>?_) ndl fun H2 m2 a1 a2 a3 a4 a5 a6 a7 a8=>?_
  ·rw[aU,if_neg (Ne.symm hjk)];exact hkn
  ·refine fB (hl i (qa2 _ hi)) fun p1 di p2 p3=>?_
   have hij:i≠j:=fun e=>ndj (e▸hi)
   exact⟨p1,di,by rw[aU,if_neg hij];exact p2,p3⟩
  ·refine q H2 m2 ?_ ?_ a3 ((cj (by decide)).trans a4 (qa9 _)) a5 a6 a7 a8
   ·rw[List.foldl_cons,est];exact a1
   ·rw[List.foldl_cons,est];exact a2
theorem jiA{l:List Nat}:∀{st:St}{d:Nd},st.nd k=some d→(∀j∈l,j≠k)→∃d',(l.foldl (ci k) st).nd k=some d'∧d'.wr=d.wr∧d'.wm=d.wm∧d'.rs=d.rs∧d'.td=d.td∧d'.anc=d.anc∧d'.ws=d.ws∧d'.ph=d.ph∧∀i,i≠k→(l.foldl (ci k) st).nd i=st.nd i:=by
 induction l with
 |nil=>intro st d e _;exact⟨d,e,rfl,rfl,rfl,rfl,rfl,rfl,rfl,fun _ _=>rfl⟩
 |cons j l ih=>
  intro st d e hl
  rw[List.foldl_cons]
  have hjk:=hl j qa4
  cases hj:st.nd j with
  |none=>
   have est:ci k st j=st:=by unfold ci;rw[hj]
   rw[est];exact ih e fun i hi=>hl i (qa2 _ hi)
  |some dj=>
   by_cases hw:dj.rs.waits=true
   ·have est:ci k st j=st:=by unfold ci;rw[hj,e];dsimp only;rw[if_pos hw]
    rw[est];exact ih e fun i hi=>hl i (qa2 _ hi)
   ·have est:ci k st j=st.setNd k (dj.rs.note j d):=by unfold ci;rw[hj,e];dsimp only;rw[if_neg hw]
    rw[est]
    refine ja3 (ih (st:=st.setNd k (dj.rs.note j d)) (d:=dj.rs.note j d) (by rw[aU,if_pos rfl]) fun i hi=>hl i (qa2 _ hi)) fun d' a1 a2 a3 a4 a5 a6 a7 a8 a9=>?_
    have n:(dj.rs.note j d).wr=d.wr∧(dj.rs.note j d).wm=d.wm∧(dj.rs.note j d).rs=d.rs∧(dj.rs.note j d).td=d.td∧(dj.rs.note j d).anc=d.anc∧(dj.rs.note j d).ws=d.ws∧(dj.rs.note j d).ph=d.ph:=by cases dj.rs<;>exact⟨rfl,rfl,rfl,rfl,rfl,rfl,rfl⟩
    exact⟨d',a1,a2.trans n.1,a3.trans n.2.1,a4.trans n.2.2.1,a5.trans n.2.2.2.1,a6.trans n.2.2.2.2.1,a7.trans n.2.2.2.2.2.1,a8.trans n.2.2.2.2.2.2,fun i hi=>(a9 i hi).trans (by rw[aU,if_neg hi])⟩
theorem jgM{l:List Nat}:∀{st:St}{i:Nat},i∉l→(l.foldl (de k) st).nd i=st.nd i:=by
 induction l with
 |nil=>intro st i _;rfl
 |cons j l ih=>
  intro st i hi
  rw[List.foldl_cons,ih fun h=>hi (qa2 _ h)]
  unfold de
  have hij:i≠j:=fun e=>hi (by rw[e];exact qa4)
  split
  ·rw[aU,if_neg hij]
  ·rfl
theorem jeR{l:List Nat}(r:R T st H nx)(t:TOK T)(w:WO T st)(hk:k<T.n)(e:st.nd k=some d)(hl:∀j∈l,j≠k∧∃d,st.nd j=some d∧d.wm.length<999)(nd:l.Nodup)(hb:d.bad.length+l.length<800)(hg:d.ign.length+l.length<800)(hw:d.wr.length+l.length<800)
  (q:∀H' nx',nx≤nx'→R T (cY k l st) H' nx'→WO T (cY k l st)→Low H H' nx→Q .none ⟨H',nx',m⟩) :
  jab [.tag (20,0),ndT k,.lst (l.map .str)] [] ⟨H,nx,m⟩ Q:=by
 refine⟨rfl,?_⟩
 unfold jax
 show ao _ _ ⟨H,nx,[(61,.tag (20,0)),(154,ndT k),(104,.lst (l.map .str)),(165,.bool false)]⟩ _
 refine av (bn (bO (au ?_)))
 refine jaO (r.tmp nx (qa9 _)) (by decide) ?_
 have r1:=r.tmpSet (i:=nx) (nx':=nx+1) (o:=.list []) (Nat.le_succ _) (Nat.lt_succ_self _)
 refine av (cX (bR ?_))
 refine ag (v:=.lst (l.map .str)) rfl ⟨l.map .str,rfl,?_⟩
 refine jjd (k:=k) (i0:=nx) t l st _ [] _ d (Nat.lt_succ_self _) r1 w aB rfl rfl rfl rfl e (fun j hj=>⟨(hl j hj).1,by refine fB (hl j hj) fun _ d p _=>?_;rw[p];exact Option.some_ne_none _⟩) nd (fun _ _ h=>nomatch h) (Nk1 1 800 1 1000 hb rfl) (Nk1 1 800 1 1000 hg rfl) (by simp;exact NW hb rfl) (fun H2 m2 a1 a2 a3 a4 a5 a6 a7 a8=>?_) _ (fun _=>rfl)
 refine ja3 (jiA (l:=l) e fun j hj=>(hl j hj).1) fun dk n1 n2 n3 n4 n5 n6 n7 n8 n9=>?_
 rw[List.nil_append] at a3
 refine av (cX (bR ?_))
 refine ag a8 ⟨_,bh a3,?_⟩
 refine jjc (k:=k) (i0:=nx) (l0:=l.filter (cm st)) hk (l.filter (cm st)) _ H2 m2 (Nat.lt_succ_self _) a1 a2 a3 a5 a6 a7 a8 (by rw[n1];exact Option.some_ne_none _) (fun j hj=>?_) (nd.filter _) fun H3 m3 b1 b2 b3 b4 b5 b6 b7 b8=>?_
 ·refine fB (hl j (List.mem_filter.mp hj).1) fun p1 dj p2 p3=>?_
  exact⟨p1,dj,by rw[n9 j p1];exact p2,p3⟩
 refine bp (cB ?_)
 refine ag b7 ⟨false,rfl,?_⟩
 have e3:((l.filter (cm st)).foldl (de k) (l.foldl (ci k) st)).nd k=some dk:=by
  rw[jgM fun h=>(hl k (List.mem_filter.mp h).1).1 rfl];exact n1
 have xk:=b1.node k dk e3
 refine cf (cH ?_)
 refine aY (t:=(10,k)) b6 xk.obj (by decide) rfl rfl ?_
 refine⟨by simp only[cM,xk.wr],aC ?_⟩
 refine ag b8 ?_
 refine au ?_
 have hfl:(l.filter (cm st)).length≤l.length:=List.length_filter_le _ _
 refine⟨(12,k),_,dk.wr,l.filter (cm st),rfl,xk.wr,bh b3,by rw[n2];omega,⟨rfl,?_⟩⟩
 have ew:cY k l st=((l.filter (cm st)).foldl (de k) (l.foldl (ci k) st)).setNd k { dk with wr:=cV dk.wr (l.filter (cm st)) }:=by
  unfold cY jdg
  dsimp only
  rw[e3]
 refine q (ay H3 (12,k) (.set (cV dk.wr (l.filter (cm st))))) (nx+1) (Nat.le_succ _) ?_ ?_ ?_
 ·rw[ew];exact b1.ndWr e3
 ·rw[ew];exact b2.setNd e3
 ·intro i hi
  show ay H3 (12,k) _ (0,i)=_
  have z1:H3 (0,i)=H2 (0,i):=b4 i (Nat.lt_succ_of_lt hi)
  have z2:H2 (0,i)=ay H (0,nx) (.list []) (0,i):=a4 i hi
  have z3:ay H (0,nx) (.list []) (0,i)=H (0,i):=af (ine (qa7 hi))
  exact hN (z1.trans (z2.trans z3))
end
end
section
theorem jcs{T:TT}{p:List Nat}{j i:Nat}{st:St}:(bu T p j st).nd i=if i=j∧st.nd j=none then some (ini j p T) else st.nd i:=by
 unfold bu
 cases h:st.nd j with
 |some dj=>
  dsimp only
  rw[if_neg]
  intro zp1;refine Za zp1 fun _ q=>?_;exact Xsn q
 |none=>
  show(if i=j then some (ini j p T) else st.nd i)=_
  by_cases e:i=j
  ·rw[if_pos e,if_pos ⟨e,rfl⟩]
  ·rw[if_neg e,if_neg fun q=>e q.1]
theorem jgt{T:TT}{p:List Nat}{j i:Nat}{st:St}{d:Nd}(h:st.nd i=some d):(bu T p j st).nd i=some d:=by
 rw[jcs,if_neg]
 ·exact h
 ·intro zp2;refine Za zp2 fun zq1 q=>?_;obtain rfl:=zq1;rw[h] at q;exact Xsn q
theorem jht{T:TT}{p:List Nat}{j:Nat}{st:St}(w:WO T st)(hj:j<T.n):WO T (bu T p j st):=by
 unfold bu
 cases h:st.nd j with
 |some dj=>exact w
 |none=>exact⟨(w.mk' hj h (p:=p)).ord,(w.mk' hj h (p:=p)).nodup,(w.mk' hj h (p:=p)).lt⟩
theorem jhf{T:TT}{p:List Nat}{j:Nat}{st:St}:(bu T p j st).ready.length≤st.ready.length+1:=by
 unfold bu
 cases h:st.nd j with
 |some dj=>exact Nat.le_succ _
 |none=>show(st.ready++[j]).length≤_;simp
section
variable {c:Cx}{T:TT}{st:St}{H H':Tag→Option MObj}{nx:Nat}{m:List (Nat×MV)}{k j:Nat}{d dj:Nd}{Q:MV→AS→Prop}{P:aH→AS→Prop}
theorem jhM(t:TOK T){x:Nat}(hx:x≠61∧x≠154):∀(l:List Nat)(st1:St)(H1:Tag→Option MObj)(m1:List (Nat×MV)),R T st1 H1 nx→WO T st1→m1.lookup 61=some (.tag (20,0))→m1.lookup 154=some (ndT k)→st1.nd k=some d→
  (∀j∈l,j<T.n∧j∉d.anc)→d.anc.length<900→st1.ready.length+l.length<900→
  (∀H2 m2,R T (l.foldl (fun s j=>bu T d.anc j s) st1) H2 nx→WO T (l.foldl (fun s j=>bu T d.anc j s) st1)→(l.foldl (fun s j=>bu T d.anc j s) st1).nd k=some d→Low H1 H2 nx→(∀y,y≠x→m2.lookup y=m1.lookup y)→P .next ⟨H2,nx,m2⟩)→
  ∀(g:(Tag→Option MObj)→Prop),(∀H,g H)→
  dJ g (aG x) (aI (bx 3 162 jaa (ac 61) [(ac 154),(ac x)] [])) (l.map .str) ⟨H1,nx,m1⟩ P:=by
 intro l
 induction l with
 |nil=>intro st1 H1 m1 r w h61 h154 hk hl ha hr q g hg;exact⟨hg _,q H1 m1 r w hk (.refl _ _) fun _ _=>rfl⟩
 |cons j l ih=>
  intro st1 H1 m1 r w h61 h154 hk hl ha hr q g hg
  refine Za (hl j qa4) fun hj hja=>?_
  refine Zx r.disp fun v hd=>?_
  refine⟨hg _,?_⟩
  refine cf (cJ ?_)
  refine ag (by rw[ae,if_neg (Ne.symm hx.1)];exact h61) ?_
  refine⟨(20,0),_,rfl,hd,rfl,?_⟩
  refine aC ?_
  refine ag (by rw[ae,if_neg (Ne.symm hx.2)];exact h154) ?_
  refine aC ?_
  refine ag (by rw[ae,if_pos rfl]) ?_
  refine au (au ?_)
  refine jg8 (p:=some (k,d)) r ⟨hj,fun i di h=>by cases h;exact⟨hk,hja⟩,w.ord j,qb1 (t.ln j) (by decide),Nat.lt_of_lt_of_le ha (by decide),Nat.lt_of_le_of_lt (w.len t) (by decide)⟩ (by simp at hr;exact NB hr rfl) fun H' r' l'=>⟨rfl,?_⟩
  refine ih _ _ _ r' (jht w hj) (by rw[ae,if_neg (Ne.symm hx.1)];exact h61) (by rw[ae,if_neg (Ne.symm hx.2)];exact h154) (jgt hk) (fun i hi=>hl i (qa2 _ hi)) ha ?_ (fun H2 m2 a1 a2 a3 a4 a5=>?_) g hg
  ·have:=jhf (T:=T) (p:=d.anc) (j:=j) (st:=st1)
   simp at hr
   show(bu T d.anc j st1).ready.length+l.length<900
   omega
  ·exact q H2 m2 a1 a2 a3 (l'.trans a4 (qa9 _)) fun y hy=>(a5 y hy).trans (by rw[ae,if_neg hy])
end
end
section
inductive Step where
 |wait|task|none
 deriving DecidableEq
noncomputable def Step.mv:Step→MV
 |.wait=>.str 43
 |.task=>.str 42
 |.none=>.none
section
variable {c:Cx}{T:TT}{st:St}{H H':Tag→Option MObj}{nx:Nat}{m:List (Nat×MV)}{k j:Nat}{d dj:Nd}{Q:MV→AS→Prop}{P:aH→AS→Prop}
theorem R.wc(r:R T st H nx)(e:st.nd k=some d):R T st (ay H (13,k) (.set [])) nx:=by
 have:ay H (13,k) (.set [])=H:=funext fun u=>by
  unfold ay
  split
  ·rename_i q;rw[q];exact(r.node k d e).wc.symm
  ·rfl
 rw[this];exact r
theorem je'(r:R T st H nx)(e:st.nd k=some d)
  (q:∀H' nx',nx≤nx'→R T st H' nx'→Low H H' nx→Q .none ⟨H',nx',m⟩) :
  jad [.tag (20,0),ndT k,.lst []] [.bool true] ⟨H,nx,m⟩ Q:=by
 refine⟨rfl,?_⟩
 unfold jao
 show ao _ _ ⟨H,nx,[(61,.tag (20,0)),(154,ndT k),(104,.lst []),(165,.bool true)]⟩ _
 refine av (bn (bO (au ?_)))
 refine jaO (r.tmp nx (qa9 _)) (by decide) ?_
 have r1:=r.tmpSet (i:=nx) (nx':=nx+1) (o:=.list []) (Nat.le_succ _) (Nat.lt_succ_self _)
 have h0:ay H (0,nx) (.list []) (0,nx)=some (.list []):=aB
 refine av (cX (bR ?_))
 refine ag (v:=.lst []) rfl ⟨[],rfl,?_⟩
 refine⟨rfl,?_⟩
 refine av (cX (bR ?_))
 refine ag (v:=.tag (0,nx)) rfl ⟨[],bh h0,?_⟩
 refine⟨bh h0,?_⟩
 refine bp (cB ?_)
 refine ag (v:=.bool true) rfl ⟨true,rfl,?_⟩
 have xk:=r1.node k d e
 refine cf (cH ?_)
 refine aY (t:=(10,k)) rfl xk.obj (by decide) rfl rfl ?_
 refine⟨by simp only[cM,xk.wc],aC ?_⟩
 refine ag (v:=.tag (0,nx)) rfl ?_
 refine au ?_
 refine⟨(13,k),_,[],[],rfl,xk.wc,bh h0,by decide,⟨rfl,?_⟩⟩
 refine q (ay (ay H (0,nx) (.list [])) (13,k) (.set [])) (nx+1) (Nat.le_succ _) (r1.wc e) ?_
 intro i hi
 have z3:ay H (0,nx) (.list []) (0,i)=H (0,i):=af (ine (qa7 hi))
 exact hN z3
noncomputable def dX(T:TT)(k:Nat)(d:Nd)(st:St):St:=cY k d.td (d.td.foldl (fun s j=>bu T d.anc j s) (st.setNd k { d with td:=[] }))
noncomputable def eQ(k:Nat)(st:St):Step×St:=match st.nd k with
 |some d=>if d.wr.isEmpty then(.task,st.setNd k { d with ph:=1 }) else(.wait,st)
 |none=>(.none,st)
theorem jdz{T:TT}{a:List Nat}:∀{l:List Nat}{st:St}{j:Nat},(l.foldl (fun s j=>bu T a j s) st).nd j=if j∈l∧st.nd j=none then some (ini j a T) else st.nd j
 |[],st,j=>rfl
 |i::l,st,j=>by
  rw[List.foldl_cons,jdz,jcs]
  by_cases e:j=i
  ·subst e
   cases h:st.nd j with
   |none=>simp
   |some d=>simp
  ·by_cases hm:j∈l
   ·simp[e,hm]
   ·simp[e,hm]
theorem jcg(r:R T st H nx)(e:st.nd k=some d){n:Nat}(h:m.lookup 154=some (ndT k)){P:Bool→AS→Prop}(q:P (d.ph == n) ⟨H,nx,m⟩):aA eqF (aq (ac 154) 146) (ah (.int n)) ⟨H,nx,m⟩ P:=by
 refine aS ?_
 refine aY (t:=(10,k)) h (r.node k d e).obj (by decide) rfl rfl ?_
 refine az ⟨_,rfl,?_⟩
 have:((d.ph:Int) == (n:Int))=(d.ph == n):=by
  by_cases h:d.ph=n
  ·subst h;simp
  ·rw[beq_eq_false_iff_ne.mpr h,beq_eq_false_iff_ne.mpr];exact fun e=>h (Int.ofNat.inj e)
 rw[this];exact q
end
end
section
section
variable {c:Cx}{T:TT}{st:St}{H H':Tag→Option MObj}{nx:Nat}{m:List (Nat×MV)}{k j:Nat}{d dj:Nd}{Q:MV→AS→Prop}{P:aH→AS→Prop}
theorem jf3{l:List Nat}(e:st.nd k=some d)(hl:∀j∈l,j≠k):∃d',(cY k l st).nd k=some d'∧d'.wr=cV d.wr (l.filter (cm st))∧d'.wm=d.wm∧d'.rs=d.rs∧d'.td=d.td∧d'.anc=d.anc∧d'.ws=d.ws∧d'.ph=d.ph:=by
 refine ja3 (jiA (l:=l) e hl) fun dk n1 n2 n3 n4 n5 n6 n7 n8 n9=>?_
 have e3:((l.filter (cm st)).foldl (de k) (l.foldl (ci k) st)).nd k=some dk:=by
  rw[jgM fun h=>hl k (List.mem_filter.mp h).1 rfl];exact n1
 refine⟨{ dk with wr:=cV dk.wr (l.filter (cm st)) },?_,by rw[n2],n3,n4,n5,n6,n7,n8⟩
 unfold cY jdg
 dsimp only
 rw[e3]
 dsimp only
 rw[aU,if_pos rfl]
theorem jbR{t:Tag}{l:List Nat}(h:H t=some (.set l)):bX H (.tag t)=some (!l.isEmpty):=by simp only[bX,h]
theorem jiO(t:TOK T)(r:R T st H nx)(w:WO T st)(hk:k<T.n)(e:st.nd k=some d)(h61:m.lookup 61=some (.tag (20,0)))(h154:m.lookup 154=some (ndT k))
  (hl:∀j∈d.td,j<T.n∧j∉d.anc∧j≠k)(hnd:d.td.Nodup)(htd:d.td.length≤8)(hwm:∀j dj,st.nd j=some dj→dj.wm.length<900)(ha:d.anc.length<900)(hr:st.ready.length<800)(hb:d.bad.length<700)(hg:d.ign.length<700)(hw:d.wr.length<700)
  (q:∀H' nx' m',nx≤nx'→R T (eQ k (dX T k d st)).2 H' nx'→WO T (eQ k (dX T k d st)).2→Low H H' nx→P (.ret (eQ k (dX T k d st)).1.mv) ⟨H',nx',m'⟩) :
  (ao (aL 172 (aq (ac 154) 52)) (ao (aT (ac 154) 52 (bc [])) (ao (aL 173 (c6 (aq (ac 154) 50) none none none)) (ao (aT (ac 154) 50 (bc [])) (ao (cN (bq (ac 172)) (aG 52) (aI (bx 3 162 jaa (ac 61) [(ac 154),(ac 52)] []))) (ao (aI (bx 3 164 jad (ac 61) [(ac 154),(ac 172)] [(ah (.bool true))])) (ao (cN (bq (ac 173)) (aG 50) (aI (bx 3 162 jaa (ac 61) [(ac 154),(ac 50)] []))) (ao (aI (bx 3 164 jab (ac 61) [(ac 154),(ac 173)] [])) (sIf (mOr (mTr (aq (ac 154) 52)) (mOr (mTr (aq (ac 154) 50)) cy)) eO (sIf (mOr (mTr (aq (ac 154) 140)) (mOr (mTr (aq (ac 154) 141)) cy)) (bD (ah (.str 43))) (ao (aT (ac 154) 146 (ah (.int 1))) (bD (ah (.str 42)))))))))))))) ⟨H,nx,m⟩ P:=by
 have x:=r.node k d e
 refine av (bn ?_)
 refine aY (t:=(10,k)) h154 x.obj (by decide) rfl rfl ?_
 refine av (bf (bO (au ⟨by decide,.inl ?_⟩)))
 have A1:∀(y:Nat)(v:MV),y≠172→(ar m 172 v).lookup y=m.lookup y:=fun y v h=>by rw[ae,if_neg h]
 refine ag ((A1 _ _ (by decide)).trans h154) ?_
 refine bU x.obj (by decide) (Nle rfl) ?_
 have r1:R T st (ay H (10,k) (.inst 2 (ar (ndA k d) 52 (.lst [])))) nx:=by
  have:=r.ndObj (d':=d) e (es:=ar (ndA k d) 52 (.lst [])) rfl rfl rfl rfl rfl rfl
  rw[St.setNd_self e] at this;exact this
 have l1:Low H (ay H (10,k) (.inst 2 (ar (ndA k d) 52 (.lst [])))) nx:=cj (by decide)
 generalize hH1:ay H (10,k) (.inst 2 (ar (ndA k d) 52 (.lst [])))=H1 at r1 l1 ⊢
 have x1:=r1.node k d e
 refine av (bn ?_)
 refine jdJ (v:=.lst (d.td.map .str)) rfl (by simp;exact Nk1 0 8 0 100000 htd rfl) ?_ fun A hA=>aY (t:=(10,k)) ((A1 _ _ (by decide)).trans h154) x1.obj (by decide) rfl rfl hA
 refine av (bf (bO (au ⟨by decide,.inl ?_⟩)))
 have A2:∀(y:Nat)(v u:MV),y≠172→y≠173→(ar (ar m 172 v) 173 u).lookup y=m.lookup y:=fun y v u h h'=>by rw[ae,if_neg h',A1 y v h]
 refine ag ((A2 _ _ _ (by decide) (by decide)).trans h154) ?_
 refine bU x1.obj (by decide) (Nle rfl) ?_
 have r2:R T (st.setNd k { d with td:=[] }) (ay H1 (10,k) (.inst 2 (ar (ndA k d) 50 (.lst [])))) nx:=r1.ndObj e rfl rfl rfl rfl rfl rfl
 have l2:Low H (ay H1 (10,k) (.inst 2 (ar (ndA k d) 50 (.lst [])))) nx:=l1.trans (cj (by decide)) (qa9 _)
 generalize hH2:ay H1 (10,k) (.inst 2 (ar (ndA k d) 50 (.lst [])))=H2 at r2 l2 ⊢
 have e2:(st.setNd k { d with td:=[] }).nd k=some { d with td:=[] }:=by rw[aU,if_pos rfl]
 refine av (cX (bR ?_))
 refine ag (v:=.lst []) (by rw[ae,if_neg (by decide),ae,if_pos rfl]) ⟨[],rfl,rfl,?_⟩
 refine av (cf (cJ ?_))
 refine ag ((A2 _ _ _ (by decide) (by decide)).trans h61) ?_
 refine Zx r2.disp fun v hd=>?_
 refine⟨(20,0),_,rfl,hd,rfl,?_⟩
 refine aC ?_
 refine ag ((A2 _ _ _ (by decide) (by decide)).trans h154) ?_
 refine aC ?_
 refine ag (v:=.lst []) (by rw[ae,if_neg (by decide),ae,if_pos rfl]) ?_
 refine au (aC (az (au ?_)))
 refine je' r2 e2 fun H3 nx3 n3 r3 l3=>⟨rfl,?_⟩
 refine av (cX (bR ?_))
 refine ag (v:=.lst (d.td.map .str)) (by rw[ae,if_pos rfl]) ⟨_,rfl,?_⟩
 refine jhM (k:=k) (d:={ d with td:=[] }) t ⟨by decide,by decide⟩ d.td _ H3 _ r3 (w.setNd e) ((A2 _ _ _ (by decide) (by decide)).trans h61) ((A2 _ _ _ (by decide) (by decide)).trans h154) e2 (fun j hj=>⟨(hl j hj).1,(hl j hj).2.1⟩) ha (by show st.ready.length+_<_;exact ND htd hr rfl) (fun H4 m4 r4 w4 e4 l4 s4=>?_) _ (fun _=>rfl)
 have M:∀y,y≠50→y≠172→y≠173→m4.lookup y=m.lookup y:=fun y h1 h2 h3=>(s4 y h1).trans (A2 y _ _ h2 h3)
 refine Zx r4.disp fun v4 hd4=>?_
 refine av (cf (cJ ?_))
 refine ag ((M 61 (by decide) (by decide) (by decide)).trans h61) ?_
 refine⟨(20,0),_,rfl,hd4,rfl,?_⟩
 refine aC ?_
 refine ag ((M 154 (by decide) (by decide) (by decide)).trans h154) ?_
 refine aC ?_
 refine ag (v:=.lst (d.td.map .str)) ((s4 173 (by decide)).trans (by rw[ae,if_pos rfl])) ?_
 refine au (au ?_)
 refine jeR r4 t w4 hk e4 (fun j hj=>?_) hnd (by show d.bad.length+_<_;exact ND htd hb rfl) (by show d.ign.length+_<_;exact ND htd hg rfl) (by show d.wr.length+_<_;exact ND htd hw rfl) fun H5 nx5 n5 r5 w5 l5=>⟨rfl,?_⟩
 ·refine Zaa (hl j hj) fun h1 h2 h3=>?_
  refine⟨h3,?_⟩
  rw[jdz]
  cases hj':(st.setNd k { d with td:=[] }).nd j with
  |none=>rw[if_pos ⟨hj,rfl⟩];exact⟨_,rfl,by show([]:List Nat).length<999;decide⟩
  |some dj=>
   rw[if_neg (fun z=>Xsn z.2)]
   rw[aU,if_neg h3] at hj'
   exact⟨dj,rfl,Nat.lt_trans (hwm j dj hj') (by decide)⟩
 have ep:cY k d.td (d.td.foldl (fun s j=>bu T ({ d with td:=[] }:Nd).anc j s) (st.setNd k { d with td:=[] }))=dX T k d st:=rfl
 rw[ep] at r5 w5
 refine jdk (jf3 (l:=d.td) e4 fun j hj=>(hl j hj).2.2) fun d5 f1 f2 f3 f4 f5 f6 f7 f8=>?_
 rw[ep] at f1
 have x5:=r5.node k d5 f1
 have h154':=(M 154 (by decide) (by decide) (by decide)).trans h154
 have hlow:Low H H5 nx:=(l2.trans (l3.trans (l4.trans l5 (qa9 _)) n3) (qa9 _))
 refine bp (eN (cB ?_))
 refine aY (t:=(10,k)) h154' x5.obj (by decide) rfl rfl ⟨false,rfl,?_⟩
 refine eN (cB ?_)
 refine aY (t:=(10,k)) h154' x5.obj (by decide) rfl rfl ⟨false,by rw[f5];rfl,?_⟩
 refine bp (eN (cB ?_))
 refine aY (t:=(10,k)) h154' x5.obj (by decide) rfl rfl ⟨_,jbR x5.wr,?_⟩
 have ea:eQ k (dX T k d st)=if d5.wr.isEmpty then(.task,(dX T k d st).setNd k { d5 with ph:=1 }) else(.wait,dX T k d st):=by unfold eQ;rw[f1]
 rw[ea] at q
 cases hwr:d5.wr.isEmpty with
 |false=>
  rw[hwr] at q
  exact cC (az (q H5 nx5 m4 (qb1 n3 n5) r5 w5 hlow))
 |true=>
  rw[hwr] at q
  refine eN (cB ?_)
  refine aY (t:=(10,k)) h154' x5.obj (by decide) rfl rfl ⟨_,jbR x5.wc,?_⟩
  refine av (bf (az ?_))
  refine ag h154' ?_
  refine bU x5.obj (by decide) (Nle rfl) ?_
  refine cC (az ?_)
  exact q (ay H5 (10,k) (.inst 2 (ar (ndA k d5) 146 (.int 1)))) nx5 m4 (qb1 n3 n5) (r5.ndObj f1 rfl rfl rfl rfl rfl rfl) (w5.setNd f1) (hlow.trans (cj (by decide)) (qa9 _))
end
end
section
noncomputable def jbA(T:TT)(k:Nat)(d:Nd)(st:St):St:=cY k (T.setups k) ((T.setups k).foldl (fun s j=>bu T d.anc j s) st)
noncomputable def after3(k:Nat)(st:St):Step×St:=match st.nd k with
 |some d=>(.task,st.setNd k { d with ph:=4 })
 |none=>(.none,st)
noncomputable def after2(T:TT)(k:Nat)(d:Nd)(st:St):Step×St:=
 if d.rs=.run then
  match (jbA T k d st).nd k with
  |some d2=>if d2.wr.isEmpty then after3 k ((jbA T k d st).setNd k { d2 with ph:=3 }) else(.wait,(jbA T k d st).setNd k { d2 with ph:=3 })
  |none=>(.none,st)
 else(.none,st)
noncomputable def aM(T:TT)(k:Nat)(st:St):Step×St:=match st.nd k with
 |none=>(.none,st)
 |some d=>
  if d.ph=0 then eQ k (dX T k d st)
  else if (T.setups k).isEmpty then(.none,st)
  else if d.ph=1 then
   if d.rs=.none then(.wait,st.setNd k { d with ph:=2,ws:=true })
   else after2 T k { d with ph:=2 } (st.setNd k { d with ph:=2 })
  else if d.ph=2 then after2 T k d st
  else if d.ph=3 then after3 k st
  else(.none,st)
structure AddOK(T:TT)(st:St)(k:Nat)(d:Nd):Prop where
 wo:WO T st
 lt:k<T.n
 nd:st.nd k=some d
 td:∀j∈d.td,j<T.n∧j∉d.anc∧j≠k
 tdn:d.td.Nodup
 tdl:d.td.length≤8
 su:∀j∈T.setups k,j∉d.anc
 wm:∀j dj,st.nd j=some dj→dj.wm.length<900
 anc:d.anc.length<900
 ready:st.ready.length<800
 bad:d.bad.length<700
 ign:d.ign.length<700
 wr:d.wr.length<700
section
variable {c:Cx}{T:TT}{st:St}{H H':Tag→Option MObj}{nx:Nat}{m:List (Nat×MV)}{k j:Nat}{d dj:Nd}{Q:MV→AS→Prop}{P:aH→AS→Prop}
theorem jkf{r:RS}:jdy r.mv=some (decide (r=.none)):=by cases r<;>rfl
theorem rs_run{r:RS}:eG r.mv (.str 36)=some (decide (r=.run)):=by cases r<;>rfl
theorem jjw(r:R T st H nx)(e:st.nd k=some d)(h:m.lookup 154=some (ndT k)){P:Bool→AS→Prop}(q:P (decide (d.rs=.none)) ⟨H,nx,m⟩):aA isN (aq (ac 154) 143) (ah .none) ⟨H,nx,m⟩ P:=by
 refine aS ?_
 refine aY (t:=(10,k)) h (r.node k d e).obj (by decide) rfl okRs ?_
 exact az ⟨_,rfl,jkf,q⟩
theorem jgQ(r:R T st H nx)(e:st.nd k=some d)(h:m.lookup 154=some (ndT k)){P:Bool→AS→Prop}(q:P (decide (d.rs=.run)) ⟨H,nx,m⟩):aA eqF (aq (ac 154) 143) (ah (.str 36)) ⟨H,nx,m⟩ P:=by
 refine aS ?_
 refine aY (t:=(10,k)) h (r.node k d e).obj (by decide) rfl okRs ?_
 exact az ⟨_,rs_run,q⟩
theorem jdU(r:R T st H nx)(e:st.nd k=some d)(h:m.lookup 154=some (ndT k)){n:Nat}(q:R T (st.setNd k { d with ph:=n }) (ay H (10,k) (.inst 2 (ar (ndA k d) 146 (.int n)))) nx→P .next ⟨ay H (10,k) (.inst 2 (ar (ndA k d) 146 (.int n))),nx,m⟩):aT (ac 154) 146 (ah (.int n)) ⟨H,nx,m⟩ P:=by
 refine bf (az ?_)
 refine ag h ?_
 exact bU (r.node k d e).obj (by decide) (Nle rfl) (q (r.ndObj e rfl rfl rfl rfl rfl rfl))
theorem jbS{d1 d2:Nd}:(st.setNd k d1).setNd k d2=st.setNd k d2:=by
 unfold St.setNd
 dsimp only
 congr 1
 funext j
 split<;>rfl
theorem jf6(r:R T st H nx)(w:WO T st)(e:st.nd k=some d)(h:m.lookup 154=some (ndT k))(hp:d.ph=3)
  (q:∀H',R T (after3 k st).2 H' nx→WO T (after3 k st).2→Low H H' nx→P (.ret (after3 k st).1.mv) ⟨H',nx,m⟩) :
  sIf (aA eqF (aq (ac 154) 146) (ah (.int 3))) (ao (aT (ac 154) 146 (ah (.int 4))) (bD (ah (.str 42)))) aE ⟨H,nx,m⟩ P:=by
 refine bp (jcg (n:=3) r e h ?_)
 rw[hp]
 refine av (jdU (n:=4) r e h fun r'=>?_)
 refine cC (az ?_)
 have ea:after3 k st=(.task,st.setNd k { d with ph:=4 }):=by unfold after3;rw[e]
 rw[ea] at q
 exact q _ r' (w.setNd e) (cj (by decide))
theorem jiv(r:R T st H nx)(e:st.nd k=some d)(h:m.lookup 154=some (ndT k))(hp:d.ph≠3)(q:P .next ⟨H,nx,m⟩) :
  sIf (aA eqF (aq (ac 154) 146) (ah (.int 3))) (ao (aT (ac 154) 146 (ah (.int 4))) (bD (ah (.str 42)))) aE ⟨H,nx,m⟩ P:=by
 refine bp (jcg (n:=3) r e h ?_)
 rw[beq_eq_false_iff_ne.mpr hp]
 exact q
end
end
section
section
variable {c:Cx}{T:TT}{st:St}{H H':Tag→Option MObj}{nx:Nat}{m:List (Nat×MV)}{k j:Nat}{d dj:Nd}{Q:MV→AS→Prop}{P:aH→AS→Prop}
theorem jdm(r:R T st H nx)(hk:k<T.n){P:MV→AS→Prop}(h171:m.lookup 171=some (.tag (1,k)))(q:P (.lst ((T.setups k).map .str)) ⟨H,nx,m⟩):aq (ac 171) 70 ⟨H,nx,m⟩ P:=by
 refine jfr (r.task k hk) fun es t1 t2 t3 t4 t5=>?_
 exact aY (t:=(1,k)) h171 t1 (by decide) t5 rfl q
theorem jhB(t:TOK T)(r:R T st H nx)(ok:AddOK T st k d)(h61:m.lookup 61=some (.tag (20,0)))(h154:m.lookup 154=some (ndT k))(h171:m.lookup 171=some (.tag (1,k)))(hp:d.ph=2)
  (q:d.rs=.run→∀H' nx' m',nx≤nx'→R T (after2 T k d st).2 H' nx'→WO T (after2 T k d st).2→Low H H' nx→P (.ret (after2 T k d st).1.mv) ⟨H',nx',m'⟩)
  (q0:d.rs≠.run→P .next ⟨H,nx,m⟩) :
  (ao (sIf (cu (aA eqF (aq (ac 154) 146) (ah (.int 2))) (cu (aA eqF (aq (ac 154) 143) (ah (.str 36))) ck)) (ao (cN (bq (aq (ac 171) 70)) (aG 115) (aI (bx 3 162 jaa (ac 61) [(ac 154),(ac 115)] []))) (ao (aI (bx 3 164 jab (ac 61) [(ac 154),(aq (ac 171) 70)] [])) (ao (aT (ac 154) 146 (ah (.int 3))) (sIf (mTr (aq (ac 154) 140)) (bD (ah (.str 43))) aE)))) aE) (sIf (aA eqF (aq (ac 154) 146) (ah (.int 3))) (ao (aT (ac 154) 146 (ah (.int 4))) (bD (ah (.str 42)))) aE)) ⟨H,nx,m⟩ P:=by
 have e:=ok.nd
 refine av (bp (dx (jcg (n:=2) r e h154 ?_)))
 rw[hp]
 refine dx (jgQ r e h154 ?_)
 by_cases hrs:d.rs=.run
 ·rw[decide_eq_true hrs]
  have q:=q hrs
  refine av (cX (bR ?_))
  refine jdm r ok.lt h171 ⟨_,rfl,?_⟩
  refine jhM (k:=k) (d:=d) t ⟨by decide,by decide⟩ (T.setups k) st H _ r ok.wo h61 h154 e (fun j hj=>⟨Nat.lt_trans (t.setups k j hj) ok.lt,ok.su j hj⟩) ok.anc (by have:=t.ls k;have:=ok.ready;exact ND (by assumption) this rfl) (fun H4 m4 r4 w4 e4 l4 s4=>?_) _ (fun _=>rfl)
  have h61':=(s4 61 (by decide)).trans h61
  have h154':=(s4 154 (by decide)).trans h154
  have h171':=(s4 171 (by decide)).trans h171
  refine Zx r4.disp fun v4 hd4=>?_
  refine av (cf (cJ ?_))
  refine ag h61' ?_
  refine⟨(20,0),_,rfl,hd4,rfl,?_⟩
  refine aC ?_
  refine ag h154' ?_
  refine aC ?_
  refine jdm r4 ok.lt h171' ?_
  refine au (au ?_)
  have hjk:∀j∈T.setups k,j≠k:=fun j hj=>qa7 (t.setups k j hj)
  have hls:=t.ls k
  refine jeR r4 t w4 ok.lt e4 (fun j hj=>?_) (t.ns k) (by have:=ok.bad;exact ND hls this rfl) (by have:=ok.ign;exact ND hls this rfl) (by have:=ok.wr;exact ND hls this rfl) fun H5 nx5 n5 r5 w5 l5=>⟨rfl,?_⟩
  ·refine⟨hjk j hj,?_⟩
   rw[jdz]
   cases hj':st.nd j with
   |none=>rw[if_pos ⟨hj,rfl⟩];exact⟨_,rfl,by show([]:List Nat).length<999;decide⟩
   |some dj=>
    rw[if_neg (fun z=>Xsn z.2)]
    exact⟨dj,rfl,Nat.lt_trans (ok.wm j dj hj') (by decide)⟩
  have ep:cY k (T.setups k) ((T.setups k).foldl (fun s j=>bu T d.anc j s) st)=jbA T k d st:=rfl
  rw[ep] at r5 w5
  refine jdk (jf3 (l:=T.setups k) e4 hjk) fun d5 f1 f2 f3 f4 f5 f6 f7 f8=>?_
  rw[ep] at f1
  have hlow:Low H H5 nx:=l4.trans l5 (qa9 _)
  refine av (jdU (n:=3) r5 f1 h154' fun r6=>?_)
  have w6:WO T ((jbA T k d st).setNd k { d5 with ph:=3 }):=w5.setNd f1
  have e6:((jbA T k d st).setNd k { d5 with ph:=3 }).nd k=some { d5 with ph:=3 }:=by rw[aU,if_pos rfl]
  have x6:=r6.node k _ e6
  have l6:Low H (ay H5 (10,k) (.inst 2 (ar (ndA k d5) 146 (.int (3:Nat))))) nx:=hlow.trans (cj (by decide)) (qa9 _)
  refine bp (cB ?_)
  refine aY (t:=(10,k)) h154' x6.obj (by decide) rfl rfl ⟨_,jbR x6.wr,?_⟩
  have ea:after2 T k d st=if d5.wr.isEmpty then after3 k ((jbA T k d st).setNd k { d5 with ph:=3 }) else(.wait,(jbA T k d st).setNd k { d5 with ph:=3 }):=by
   unfold after2;rw[if_pos hrs,f1]
  rw[ea] at q
  cases hwr:d5.wr.isEmpty with
  |false=>
   rw[hwr] at q
   exact cC (az (q _ nx5 m4 n5 r6 w6 l6))
  |true=>
   rw[hwr] at q
   exact jf6 r6 w6 e6 h154' rfl fun H' r' w' l'=>q H' nx5 m4 n5 r' w' (l6.trans l' n5)
 ·rw[decide_eq_false hrs]
  exact jiv r e h154 (by rw[hp];decide) (q0 hrs)
end
end
section
section
variable {c:Cx}{T:TT}{st:St}{H H':Tag→Option MObj}{nx:Nat}{m:List (Nat×MV)}{k j:Nat}{d dj:Nd}{Q:MV→AS→Prop}{P:aH→AS→Prop}
theorem cz{σ:AS}{P:aH→AS→Prop}(h:P .next σ):aE σ P:=h
theorem jjH{t:MT}{b:MS}{σ:AS}{P:aH→AS→Prop}(h:t σ fun r σ1=>match r with|false=>P .next σ1|true=>b σ1 fun f σ2=>match f with|.next=>False|.cont=>False|.brk=>P .next σ2|.ret v=>P (.ret v) σ2):jcX t b σ P:=⟨1,h⟩
theorem AddOK.setPh(ok:AddOK T st k d){n:Nat}{b:Bool}:AddOK T (st.setNd k { d with ph:=n,ws:=b }) k { d with ph:=n,ws:=b }:=
 ⟨ok.wo.setNd ok.nd,ok.lt,by rw[aU,if_pos rfl],ok.td,ok.tdn,ok.tdl,ok.su,fun j dj h=>by
  rw[aU] at h
  by_cases e:j=k
  ·rw[if_pos e] at h;obtain rfl:=qa1 h;exact ok.wm k d ok.nd
  ·rw[if_neg e] at h;exact ok.wm j dj h,ok.anc,ok.ready,ok.bad,ok.ign,ok.wr⟩
theorem jhk(t:TOK T)(r:R T st H nx)(ok:AddOK T st k d)
  (q:∀H' nx',nx≤nx'→R T (aM T k st).2 H' nx'→WO T (aM T k st).2→Low H H' nx→Q (aM T k st).1.mv ⟨H',nx',m⟩) :
  jah [.tag (20,0),ndT k] [] ⟨H,nx,m⟩ Q:=by
 have e:=ok.nd
 have x:=r.node k d e
 refine⟨rfl,?_⟩
 unfold ja9
 show ao _ _ ⟨H,nx,[(61,.tag (20,0)),(154,ndT k)]⟩ _
 refine av (bn ?_)
 refine aY (t:=(10,k)) rfl x.obj (by decide) rfl rfl ?_
 refine av (jjH ?_)
 refine jcg (n:=0) r e rfl ?_
 by_cases h0:d.ph=0
 ·have ea:aM T k st=eQ k (dX T k d st):=by unfold aM;rw[e];dsimp only;rw[if_pos h0]
  rw[ea] at q
  rw[h0]
  exact jiO t r ok.wo ok.lt e rfl rfl ok.td ok.tdn ok.tdl ok.wm ok.anc ok.ready ok.bad ok.ign ok.wr fun H' nx' m' n1 r' w' l'=>q H' nx' n1 r' w' l'
 ·rw[beq_eq_false_iff_ne.mpr h0]
  refine av (bp (cB (jdm r ok.lt rfl ⟨_,rfl,?_⟩)))
  have es:((T.setups k).map MV.str).isEmpty=(T.setups k).isEmpty:=by cases T.setups k<;>rfl
  rw[es]
  cases hs:(T.setups k).isEmpty with
  |true=>
   have ea:aM T k st=(.none,st):=by unfold aM;rw[e];dsimp only;rw[if_neg h0,if_pos hs]
   rw[ea] at q
   show aE _ _
   refine cz ?_
   show bD (ah .none) _ _
   refine cC (az ?_)
   exact q H nx (qa9 _) r ok.wo (.refl _ _)
  |false=>
   have hs':¬ (T.setups k).isEmpty=true:=by rw[hs];decide
   by_cases h1:d.ph=1
   ·refine av (bp (jcg (n:=1) r e rfl ?_))
    rw[h1]
    refine av (jdU (n:=2) r e rfl fun r1=>?_)
    have ok1:AddOK T (st.setNd k { d with ph:=2 }) k { d with ph:=2 }:=ok.setPh (n:=2) (b:=d.ws)
    refine bp (jjw r1 ok1.nd rfl ?_)
    by_cases hr:d.rs=.none
    ·have ea:aM T k st=(.wait,st.setNd k { d with ph:=2,ws:=true }):=by unfold aM;rw[e];dsimp only;rw[if_neg h0,if_neg hs',if_pos h1,if_pos hr]
     rw[ea] at q
     rw[show decide (({ d with ph:=2 }:Nd).rs=.none)=true from decide_eq_true hr]
     refine av (bf (az ?_))
     refine ag rfl ?_
     refine bU (r1.node k _ ok1.nd).obj (by decide) (Nle rfl) ?_
     refine cC (az ?_)
     have r2:=r1.ndObj (d':={ d with ph:=2,ws:=true }) ok1.nd (es:=ar (ndA k { d with ph:=2 }) 139 (.bool true)) rfl rfl rfl rfl rfl rfl
     rw[jbS] at r2
     exact q _ nx (qa9 _) r2 (ok.wo.setNd e) ((cj (by decide)).trans (cj (by decide)) (qa9 _))
    ·have ea:aM T k st=after2 T k { d with ph:=2 } (st.setNd k { d with ph:=2 }):=by unfold aM;rw[e];dsimp only;rw[if_neg h0,if_neg hs',if_pos h1,if_neg hr]
     rw[ea] at q
     rw[show decide (({ d with ph:=2 }:Nd).rs=.none)=false from decide_eq_false hr]
     refine jhB t r1 ok1 rfl rfl rfl rfl (fun _ H' nx' m' n1 r' w' l'=>q H' nx' n1 r' w' ((cj (by decide)).trans l' (qa9 _))) fun hn=>?_
     have eb:after2 T k { d with ph:=2 } (st.setNd k { d with ph:=2 })=(.none,st.setNd k { d with ph:=2 }):=by unfold after2;rw[if_neg hn]
     rw[eb] at q
     show bD (ah .none) _ _
     refine cC (az ?_)
     exact q _ nx (qa9 _) r1 ok1.wo (cj (by decide))
   ·refine av (bp (jcg (n:=1) r e rfl ?_))
    rw[beq_eq_false_iff_ne.mpr h1]
    by_cases h2:d.ph=2
    ·have ea:aM T k st=after2 T k d st:=by unfold aM;rw[e];dsimp only;rw[if_neg h0,if_neg hs',if_neg h1,if_pos h2]
     rw[ea] at q
     refine jhB t r ok rfl rfl rfl h2 (fun _ H' nx' m' n1 r' w' l'=>q H' nx' n1 r' w' l') fun hn=>?_
     have eb:after2 T k d st=(.none,st):=by unfold after2;rw[if_neg hn]
     rw[eb] at q
     show bD (ah .none) _ _
     refine cC (az ?_)
     exact q _ nx (qa9 _) r ok.wo (.refl _ _)
    ·refine av (bp (dx (jcg (n:=2) r e rfl ?_)))
     rw[beq_eq_false_iff_ne.mpr h2]
     by_cases h3:d.ph=3
     ·have ea:aM T k st=after3 k st:=by unfold aM;rw[e];dsimp only;rw[if_neg h0,if_neg hs',if_neg h1,if_neg h2,if_pos h3]
      rw[ea] at q
      exact jf6 r ok.wo e rfl h3 fun H' r' w' l'=>q H' nx (qa9 _) r' w' l'
     ·have ea:aM T k st=(.none,st):=by unfold aM;rw[e];dsimp only;rw[if_neg h0,if_neg hs',if_neg h1,if_neg h2,if_neg h3]
      rw[ea] at q
      refine jiv r e rfl h3 ?_
      show bD (ah .none) _ _
      refine cC (az ?_)
      exact q H nx (qa9 _) r ok.wo (.refl _ _)
end
end
section
noncomputable def cQ(p:Nat)(st:St)(w:Nat):St:=match st.nd p,st.nd w with
 |some dp,some dw=>
  let d2:Nd:={ dp.rs.note p dw with wr:=(dp.rs.note p dw).wr.erase p }
  if d2.wr.isEmpty&&st.wait.contains w then{ st.setNd w d2 with ready:=st.ready++[w],wait:=st.wait.filter fun j=>!(j == w) } else st.setNd w d2
 |_,_=>st
noncomputable def bQ(p:Nat)(d:Nd)(st:St):St:=if d.ws then{ st.setNd p { d with ws:=false } with ready:=st.ready++[p],wait:=st.wait.filter fun j=>!(j == p) } else st
noncomputable def b9(p:Nat)(st:St):St:=match st.nd p with
 |none=>st
 |some d=>if d.rs=.run then bQ p d st else d.wm.foldl (cQ p) (bQ p d st)
section
variable {c:Cx}{T:TT}{st:St}{H H':Tag→Option MObj}{nx:Nat}{m:List (Nat×MV)}{k j:Nat}{d dj:Nd}{Q:MV→AS→Prop}{P:aH→AS→Prop}
theorem jjv{l:List Nat}:adel (l.map fun j=>(j,ndT j)) k=(l.filter fun j=>!(j == k)).map fun j=>(j,ndT j):=by
 unfold adel
 rw[List.filter_map];rfl
theorem jeh(r:R T st H nx){x:Nat}(h61:m.lookup 61=some (.tag (20,0)))(hx:m.lookup x=some (ndT k))(e:st.nd k=some d)(hk:k<T.n)(hw:k∈st.wait)(hr:st.ready.length<900)
  (q:∀H',R T { st with ready:=st.ready++[k],wait:=st.wait.filter fun j=>!(j == k) } H' nx→Low H H' nx→P .next ⟨H',nx,m⟩) :
  ao (aI (aV 1 bg (aq (ac 61) 152) [(ac x)])) (sDel (aq (ac 61) 151) (aq (aq (ac x) 42) 62)) ⟨H,nx,m⟩ P:=by
 refine av (cf (cH ?_))
 refine dT r h61 (by decide) (fun _=>rfl) rfl ?_
 refine⟨by simp only[cM,r.ready],aC ?_⟩
 refine ag hx ?_
 refine au ?_
 refine dK r.ready (by simp;exact Nk1 1 900 1 1000 hr rfl) ⟨rfl,?_⟩
 have r1:=r.setReady (st.ready++[k])
 have e1:((st.ready++[k]).map ndT)=st.ready.map ndT++[ndT k]:=List.map_append
 rw[e1] at r1
 show sDel _ _ ⟨ay H (20,3) (.list (st.ready.map ndT++[ndT k])),nx,m⟩ _
 refine Zx r1.wait fun eo hwt=>?_
 show aq (ac 61) 151 _ _
 refine dT r1 h61 (by decide) (fun _=>rfl) rfl ?_
 refine jbT r1 e hk hx ?_
 refine⟨(20,2),k,_,eo,rfl,rfl,hwt,?_,?_⟩
 ·rw[jcM,if_pos hw];rfl
 refine q (ay (ay H (20,3) (.list (st.ready.map ndT++[ndT k]))) (20,2) (.dict (adel (st.wait.map fun j=>(j,ndT j)) k))) (r1.setWait _ jjv) ?_
 exact(cj (by decide)).trans (cj (by decide)) (qa9 _)
end
end
section
section
variable {c:Cx}{T:TT}{st:St}{H H':Tag→Option MObj}{nx:Nat}{m:List (Nat×MV)}{k j p:Nat}{d dj dp:Nd}{Q:MV→AS→Prop}{P:aH→AS→Prop}
theorem jjG{t:Tag}{xs:List Nat}(h:H t=some (.set xs)):fw H (.str k) (.tag t)=some (xs.contains k):=by
 rw[jgU (show cv H (.tag t)=none by show jdM (H t)=_;rw[h];rfl),h];rfl
theorem jcy{t:Tag}{es:List (Nat×MV)}{eo:Option Obj}(h:H t=some (.dict es eo)):fw H (.str k) (.tag t)=some (es.lookup k).isSome:=by
 rw[jgU (show cv H (.tag t)=none by show jdM (H t)=_;rw[h];rfl),h];rfl
theorem jfy{r:RS}{d:Nd}:(r.note p d).wr=d.wr∧(r.note p d).wm=d.wm∧(r.note p d).rs=d.rs∧(r.note p d).td=d.td∧(r.note p d).anc=d.anc∧(r.note p d).ws=d.ws∧(r.note p d).ph=d.ph:=by cases r<;>exact⟨rfl,rfl,rfl,rfl,rfl,rfl,rfl⟩
theorem WO.upd(w:WO T st)(e:st.nd k=some d){d':Nd}{a b:List Nat}:WO T { st.setNd k d' with ready:=a,wait:=b }:=⟨(w.setNd e (d':=d')).ord,(w.setNd e (d':=d')).nodup,(w.setNd e (d':=d')).lt⟩
theorem i_notV{f:MEx}{σ:AS}{P:MV→AS→Prop}(h:f σ (kNotV P)):jfe f σ P:=h
theorem i_orV{f g:MEx}{σ:AS}{P:MV→AS→Prop}(h:f σ (kOrV g P)):mOrV f g σ P:=h
theorem jji{t:Tag}{ys:List Nat}{n:Nat}{P:MV→AS→Prop}(hH:H t=some (.set ys))(hnd:ys.Nodup)(hm:n∈ys)(h:P .none ⟨ay H t (.set (ys.erase n)),nx,m⟩):jbM [.tag t,.str n] ⟨H,nx,m⟩ P:=⟨t,n,ys,rfl,hH,hnd,hm,h⟩
theorem jjg(hp:p<T.n):∀(l:List Nat)(st1:St)(H1:Tag→Option MObj)(m1:List (Nat×MV)),R T st1 H1 nx→WO T st1→m1.lookup 61=some (.tag (20,0))→m1.lookup 154=some (ndT p)→st1.nd p=some dp→
  (∀w∈l,w≠p∧w<T.n∧∃dw,st1.nd w=some dw∧p∈dw.wr∧dw.wr.Nodup∧dw.bad.length<900∧dw.ign.length<900)→l.Nodup→st1.ready.length+l.length<900→
  (∀H2 m2,R T (l.foldl (cQ p) st1) H2 nx→WO T (l.foldl (cQ p) st1)→Low H1 H2 nx→P .next ⟨H2,nx,m2⟩)→
  ∀(g:(Tag→Option MObj)→Prop),(∀H,g H)→
  dJ g (aG 177) (ao (aI (bx 2 148 jac (ac 177) [(ac 154)] [])) (ao (aL 129 (aq (aq (ac 154) 42) 62)) (ao (sIf (aA inM (ac 129) (aq (ac 177) 140)) (ao (aI (aV 3 jbM (aq (ac 177) 140) [(ac 129)])) (aL 178 (jfe (mOrV (aq (ac 177) 140) (aq (ac 177) 141))))) (ao (jbp (aA inM (ac 129) (aq (ac 177) 141))) (ao (aI (aV 3 jbM (aq (ac 177) 141) [(ac 129)])) (ao (aL 178 (ah (.bool true))) dm)))) (sIf (cu (mTr (ac 178)) (cu (aA inM (aq (aq (ac 177) 42) 62) (aq (ac 61) 151)) ck)) (ao (aI (aV 1 bg (aq (ac 61) 152) [(ac 177)])) (sDel (aq (ac 61) 151) (aq (aq (ac 177) 42) 62))) aE)))) (l.map ndT) ⟨H1,nx,m1⟩ P:=by
 intro l
 induction l with
 |nil=>intro st1 H1 m1 r w h61 h154 hdp hl nd hr q g hg;exact⟨hg _,q H1 m1 r w (.refl _ _)⟩
 |cons w l ih=>
  intro st1 H1 m1 r wo h61 h154 hdp hl nd hr q g hg
  refine jd' (hl w qa4) fun hwp hwT dw hdw hpw zq1=>?_;refine Zaa zq1 fun hwn hwb hwi=>?_
  refine Za (List.nodup_cons.mp nd) fun nd1 nd2=>?_
  refine⟨hg _,?_⟩
  have h154':∀a:MV,(ar m1 177 a).lookup 154=some (ndT p):=fun a=>by rw[ae,if_neg (by decide)];exact h154
  have h61':∀a:MV,(ar m1 177 a).lookup 61=some (.tag (20,0)):=fun a=>by rw[ae,if_neg (by decide)];exact h61
  have h177:(ar m1 177 (ndT w)).lookup 177=some (ndT w):=by rw[ae,if_pos rfl]
  refine av (cf (cJ ?_))
  refine ag h177 ?_
  refine⟨(10,w),_,rfl,(r.node w dw hdw).obj,rfl,?_⟩
  refine aC ?_
  refine ag (h154' _) ?_
  refine au (au ?_)
  refine jc' r hdw hdp (Nk1 1 900 1 1000 hwb rfl) (Nk1 1 900 1 1000 hwi rfl) fun H2 r2 l2=>⟨rfl,?_⟩
  have nf:=jfy (p:=p) (r:=dp.rs) (d:=dw)
  have e2:(st1.setNd w (dp.rs.note p dw)).nd w=some (dp.rs.note p dw):=by rw[aU,if_pos rfl]
  have e2p:(st1.setNd w (dp.rs.note p dw)).nd p=some dp:=by rw[aU,if_neg (Ne.symm hwp)];exact hdp
  have x2:=r2.node w _ e2
  refine av (bn ?_)
  refine jbT r2 e2p hp (h154' _) ?_
  have A:∀(y:Nat)(v:MV),y≠129→(ar (ar m1 177 (ndT w)) 129 v).lookup y=(ar m1 177 (ndT w)).lookup y:=fun y v h=>by rw[ae,if_neg h]
  have h129:(ar (ar m1 177 (ndT w)) 129 (.str p)).lookup 129=some (.str p):=by rw[ae,if_pos rfl]
  refine av (bp (aS ?_))
  refine ag h129 ?_
  refine aY (t:=(10,w)) ((A 177 _ (by decide)).trans h177) x2.obj (by decide) rfl rfl ?_
  refine⟨true,?_,?_⟩
  ·rw[jjG x2.wr,nf.1];simpa using hpw
  refine av (cf (cH ?_))
  refine aY (t:=(10,w)) ((A 177 _ (by decide)).trans h177) x2.obj (by decide) rfl rfl ?_
  refine⟨by simp only[cM,x2.wr],aC ?_⟩
  refine ag h129 ?_
  refine au ?_
  refine jji x2.wr (by rw[nf.1];exact hwn) (by rw[nf.1];exact hpw) ⟨rfl,?_⟩
  have r3:=r2.ndWr (b:=(dp.rs.note p dw).wr.erase p) e2
  rw[jbS] at r3
  have l3:Low H1 (ay H2 (12,w) (.set ((dp.rs.note p dw).wr.erase p))) nx:=l2.trans (cj (by decide)) (qa9 _)
  have hd3:(st1.setNd w { dp.rs.note p dw with wr:=(dp.rs.note p dw).wr.erase p }).nd w=some { dp.rs.note p dw with wr:=(dp.rs.note p dw).wr.erase p }:=by rw[aU,if_pos rfl]
  generalize hH3:ay H2 (12,w) (.set ((dp.rs.note p dw).wr.erase p))=H3 at r3 l3 ⊢
  generalize hd2:({ dp.rs.note p dw with wr:=(dp.rs.note p dw).wr.erase p }:Nd)=d2 at r3 hd3 ⊢
  have x3:=r3.node w d2 hd3
  have w3:WO T (st1.setNd w d2):=wo.setNd hdw
  have est:cQ p st1 w=if d2.wr.isEmpty&&st1.wait.contains w then{ st1.setNd w d2 with ready:=st1.ready++[w],wait:=st1.wait.filter fun j=>!(j == w) } else st1.setNd w d2:=by
   subst hd2;unfold cQ;rw[hdp,hdw]
  have fin:∀(st4:St)(H4:Tag→Option MObj)(m4:List (Nat×MV)),cQ p st1 w=st4→R T st4 H4 nx→WO T st4→Low H1 H4 nx→m4.lookup 61=some (.tag (20,0))→m4.lookup 154=some (ndT p)→(∀i,i≠w→st4.nd i=st1.nd i)→st4.ready.length≤st1.ready.length+1→
    dJ g (aG 177) (ao (aI (bx 2 148 jac (ac 177) [(ac 154)] [])) (ao (aL 129 (aq (aq (ac 154) 42) 62)) (ao (sIf (aA inM (ac 129) (aq (ac 177) 140)) (ao (aI (aV 3 jbM (aq (ac 177) 140) [(ac 129)])) (aL 178 (jfe (mOrV (aq (ac 177) 140) (aq (ac 177) 141))))) (ao (jbp (aA inM (ac 129) (aq (ac 177) 141))) (ao (aI (aV 3 jbM (aq (ac 177) 141) [(ac 129)])) (ao (aL 178 (ah (.bool true))) dm)))) (sIf (cu (mTr (ac 178)) (cu (aA inM (aq (aq (ac 177) 42) 62) (aq (ac 61) 151)) ck)) (ao (aI (aV 1 bg (aq (ac 61) 152) [(ac 177)])) (sDel (aq (ac 61) 151) (aq (aq (ac 177) 42) 62))) aE)))) (l.map ndT) ⟨H4,nx,m4⟩ P:=by
   intro st4 H4 m4 e4 r4 w4 l4 a61 a154 hsame hlen
   refine ih st4 H4 m4 r4 w4 a61 a154 (by rw[hsame p (Ne.symm hwp)];exact hdp) (fun i hi=>?_) nd2 (by simp at hr;omega) (fun H5 m5 r5 w5 l5=>?_) g hg
   ·refine jcK (hl i (qa2 _ hi)) fun b1 b2 b3 b4 b5=>?_
    have hiw:i≠w:=fun q=>nd1 (q▸hi)
    exact⟨b1,b2,b3,by rw[hsame i hiw];exact b4,b5⟩
   ·refine q H5 m5 ?_ ?_ (l4.trans l5 (qa9 _))
    ·rw[List.foldl_cons,e4];exact r5
    ·rw[List.foldl_cons,e4];exact w5
  have B:∀(y:Nat)(v:MV),y≠129→y≠178→(ar (ar (ar m1 177 (ndT w)) 129 (.str p)) 178 v).lookup y=(ar m1 177 (ndT w)).lookup y:=fun y v h h'=>by rw[ae,if_neg h',ae,if_neg h]
  have h178:∀v:MV,(ar (ar (ar m1 177 (ndT w)) 129 (.str p)) 178 v).lookup 178=some v:=fun v=>by rw[ae,if_pos rfl]
  refine bn (i_notV (i_orV ?_))
  refine aY (t:=(10,w)) ((A 177 _ (by decide)).trans h177) x3.obj (by decide) rfl rfl ?_
  refine⟨_,jbR x3.wr,?_⟩
  cases hwr:d2.wr.isEmpty with
  |false=>
   rw[hwr] at est
   refine⟨_,jbR x3.wr,?_⟩
   rw[hwr]
   refine bp (dx (cB ?_))
   refine ag (h178 _) ⟨false,rfl,?_⟩
   exact fin (st1.setNd w d2) H3 _ est r3 w3 l3 ((B 61 _ (by decide) (by decide)).trans (h61' _)) ((B 154 _ (by decide) (by decide)).trans (h154' _)) (fun i hi=>by rw[aU,if_neg hi]) (Nat.le_succ _)
  |true=>
   rw[hwr] at est
   show aq (ac 177) 141 _ _
   refine aY (t:=(10,w)) ((A 177 _ (by decide)).trans h177) x3.obj (by decide) rfl rfl ?_
   refine⟨_,jbR x3.wc,?_⟩
   refine bp (dx (cB ?_))
   refine ag (h178 _) ⟨true,rfl,?_⟩
   refine dx (aS ?_)
   refine jbT r3 hd3 hwT ((B 177 _ (by decide) (by decide)).trans h177) ?_
   refine dT r3 ((B 61 _ (by decide) (by decide)).trans (h61' _)) (by decide) (fun _=>rfl) rfl ?_
   refine Zx r3.wait fun eo hwt=>?_
   refine⟨st1.wait.contains w,?_,?_⟩
   ·rw[jcy hwt,jcM]
    show some (if w∈st1.wait then some (ndT w) else none).isSome=_
    by_cases h:w∈st1.wait
    ·rw[if_pos h];simp[h]
    ·rw[if_neg h];simp[h]
   by_cases h:w∈st1.wait
   ·have hc:st1.wait.contains w=true:=by simp[h]
    rw[hc] at est ⊢
    refine jeh (d:=d2) r3 ((B 61 _ (by decide) (by decide)).trans (h61' _)) ((B 177 _ (by decide) (by decide)).trans h177) hd3 hwT h (by show st1.ready.length<900;simp at hr;exact NB hr rfl) fun H5 r5 l5=>?_
    exact fin _ H5 _ est r5 (wo.upd hdw) (l3.trans l5 (qa9 _)) ((B 61 _ (by decide) (by decide)).trans (h61' _)) ((B 154 _ (by decide) (by decide)).trans (h154' _)) (fun i hi=>by show(st1.setNd w d2).nd i=_;rw[aU,if_neg hi]) (by show(st1.ready++[w]).length≤_;simp)
   ·have hc:st1.wait.contains w=false:=by simp[h]
    rw[hc] at est ⊢
    exact fin (st1.setNd w d2) H3 _ est r3 w3 l3 ((B 61 _ (by decide) (by decide)).trans (h61' _)) ((B 154 _ (by decide) (by decide)).trans (h154' _)) (fun i hi=>by rw[aU,if_neg hi]) (Nat.le_succ _)
end
end
section
section
variable {c:Cx}{T:TT}{st:St}{H H':Tag→Option MObj}{nx:Nat}{m:List (Nat×MV)}{k j p:Nat}{d dj dp:Nd}{Q:MV→AS→Prop}{P:aH→AS→Prop}
theorem dF{g:List MV→MEx}{fs:List MEx}{σ:AS}{P:MV→AS→Prop}(h:cr fs σ (kCallB g P)):aW g fs σ P:=h
structure jfh(T:TT)(st:St)(p:Nat)(d:Nd):Prop where
 wo:WO T st
 lt:p<T.n
 nd:st.nd p=some d
 wait:d.ws=true→p∈st.wait
 ready:st.ready.length+d.wm.length<800
 wm:d.rs≠.run→d.wm.Nodup∧∀w∈d.wm,w≠p∧w<T.n∧∃dw,st.nd w=some dw∧p∈dw.wr∧dw.wr.Nodup∧dw.bad.length<900∧dw.ign.length<900
theorem jfX(q:Q .none ⟨H,nx,m⟩):jaf [.tag (20,0),.none] [] ⟨H,nx,m⟩ Q:=by
 refine⟨rfl,?_⟩
 unfold jal
 show ao _ _ ⟨H,nx,[(61,.tag (20,0)),(176,.none)]⟩ _
 refine av (bp (aS ?_))
 refine ag rfl ?_
 refine az ⟨true,rfl,rfl,?_⟩
 refine cC (az ?_)
 exact q
theorem jeL(r:R T st H nx)(ok:jfh T st p d)
  (q:∀H',R T (b9 p st) H' nx→WO T (b9 p st)→Low H H' nx→Q .none ⟨H',nx,m⟩):jaf [.tag (20,0),ndT p] [] ⟨H,nx,m⟩ Q:=by
 have e:=ok.nd
 refine⟨rfl,?_⟩
 unfold jal
 show ao _ _ ⟨H,nx,[(61,.tag (20,0)),(176,ndT p)]⟩ _
 refine av (bp (aS ?_))
 refine ag rfl ?_
 refine az ⟨false,rfl,rfl,?_⟩
 refine av (bn ?_)
 refine ag rfl ?_
 have x:=r.node p d e
 have key:∀(P:aH→AS→Prop),(∀H1,R T (bQ p d st) H1 nx→WO T (bQ p d st)→Low H H1 nx→(bQ p d st).nd p=some { d with ws:=false }→P .next ⟨H1,nx,[(61,.tag (20,0)),(176,ndT p),(154,ndT p)]⟩)→
   sIf (mTr (aq (ac 154) 139)) (ao (aI (aV 1 bg (aq (ac 61) 152) [(ac 154)])) (ao (sDel (aq (ac 61) 151) (aq (aq (ac 154) 42) 62)) (aT (ac 154) 139 (ah (.bool false))))) aE ⟨H,nx,[(61,.tag (20,0)),(176,ndT p),(154,ndT p)]⟩ P:=by
  intro P h
  refine bp (cB ?_)
  refine aY (t:=(10,p)) rfl x.obj (by decide) rfl rfl ?_
  refine⟨d.ws,rfl,?_⟩
  cases hws:d.ws with
  |false=>
   have es:bQ p d st=st:=by unfold bQ;rw[hws];rfl
   rw[es] at h
   have ed:({ d with ws:=false }:Nd)=d:=by rw[←hws]
   exact h H r ok.wo (.refl _ _) (by rw[ed];exact e)
  |true=>
   have es:bQ p d st={ st.setNd p { d with ws:=false } with ready:=st.ready++[p],wait:=st.wait.filter fun j=>!(j == p) }:=by unfold bQ;rw[hws];rfl
   rw[es] at h
   have hr:=ok.ready
   have two:=jeh (x:=154) (m:=[(61,.tag (20,0)),(176,ndT p),(154,ndT p)]) (P:=fun f σ=>match f with|.next=>aT (ac 154) 139 (ah (.bool false)) σ P|.brk=>P .brk σ|.cont=>P .cont σ|.ret v=>P (.ret v) σ) r rfl rfl e ok.lt (ok.wait hws) (NB hr rfl) fun H1 r1 l1=>by
    refine bf (az ?_)
    refine ag rfl ?_
    have x1:=r1.node p d e
    refine bU x1.obj (by decide) (Nle rfl) ?_
    have r2:=r1.ndObj (d':={ d with ws:=false }) e (es:=ar (ndA p d) 139 (.bool false)) rfl rfl rfl rfl rfl rfl
    exact h _ r2 (ok.wo.upd e) (l1.trans (cj (by decide)) (qa9 _)) (by show(if p=p then _ else _)=_;rw[if_pos rfl])
   exact two
 refine av ?_
 show sIf _ _ _ ⟨H,nx,[(61,.tag (20,0)),(176,ndT p),(154,ndT p)]⟩ _
 refine key _ fun H1 r1 w1 l1 e1=>?_
 refine av (bp (jgQ r1 e1 rfl ?_))
 by_cases hrs:d.rs=.run
 ·have eu:b9 p st=bQ p d st:=by unfold b9;rw[e];dsimp only;rw[if_pos hrs]
  rw[eu] at q
  rw[show decide (({ d with ws:=false }:Nd).rs=.run)=true from decide_eq_true hrs]
  refine cC (az ?_)
  exact q H1 r1 w1 l1
 ·have eu:b9 p st=d.wm.foldl (cQ p) (bQ p d st):=by unfold b9;rw[e];dsimp only;rw[if_neg hrs]
  rw[eu] at q
  rw[show decide (({ d with ws:=false }:Nd).rs=.run)=false from decide_eq_false hrs]
  refine Za (ok.wm hrs) fun hn hw=>?_
  have x1:=r1.node p _ e1
  refine Zx x1.wm fun eo h14=>?_
  refine cX (bR (dF (aC (cH ?_))))
  refine aY (t:=(10,p)) rfl x1.obj (by decide) rfl rfl ?_
  refine⟨by simp only[cM,h14],au ?_⟩
  refine⟨(14,p),_,eo,rfl,h14,?_⟩
  refine au ?_
  have hlen:d.wm.length<800:=by have:=ok.ready;exact qb1 (qb5 _ _) this
  refine⟨.view false (14,p),rfl,.inr (.inr ⟨(14,p),_,eo,rfl,h14,by simp;exact Nk1 1 800 0 100000 hlen rfl,.inl ?_⟩)⟩
  have ev:(({ d with ws:=false }:Nd).wm.map fun j=>(j,ndT j)).map (·.2)=d.wm.map ndT:=by rw[List.map_map];rfl
  rw[ev]
  refine⟨_,rfl,?_⟩
  have hsel:∀i,i≠p→(bQ p d st).nd i=st.nd i:=fun i hi=>by
   unfold bQ
   split
   ·show(st.setNd p _).nd i=_;rw[aU,if_neg hi]
   ·rfl
  have hsr:(bQ p d st).ready.length≤st.ready.length+1:=by
   unfold bQ
   split
   ·show(st.ready++[p]).length≤_;simp
   ·exact Nat.le_succ _
  refine jjg (dp:={ d with ws:=false }) ok.lt d.wm _ H1 _ r1 w1 rfl rfl e1 (fun w hw'=>?_) hn (by have:=ok.ready;omega) (fun H2 m2 r2 w2 l2=>?_) _ (fun _=>rfl)
  ·refine jcK (hw w hw') fun b1 b2 dw b3 b4=>?_
   exact⟨b1,b2,dw,by rw[hsel w b1];exact b3,b4⟩
  ·exact q H2 r2 w2 (l1.trans l2 (qa9 _))
end
end
section
inductive Res where
 |hold
 |fin
 |give (k:Nat)
noncomputable def bW(T:TT)(st:St):Option Nat×St:=match st.cur with
 |some k=>(some k,st)
 |none=>((bM T st).1,{ (bM T st).2 with cur:=(bM T st).1 })
structure jdr(T:TT)(st:St):Prop where
 wo:WO T st
 ttr:∀k∈st.ttr,k<T.n
 ready:∀k∈st.ready,st.nd k≠none
 cur:∀k,st.cur=some k→st.nd k≠none
 got:∀k,(bW T st).1=some k→(bW T st).2.cur=some k∧(bW T st).2.nd k≠none
inductive Runs(T:TT):St→Res→St→Prop
 |stop {st:St}(p:jdr T st)(h:(bW T st).1=none):Runs T st (if (bW T st).2.wait.isEmpty then .fin else .hold) (bW T st).2
 |task {st:St}{k:Nat}{d d':Nd}(p:jdr T st)(h:(bW T st).1=some k)(ok:AddOK T (bW T st).2 k d)(ha:(aM T k (bW T st).2).1=.task)(hc:(aM T k (bW T st).2).2.cur=some k)(hd:(aM T k (bW T st).2).2.nd k=some d'):Runs T st (.give k) (aM T k (bW T st).2).2
 |none {st st':St}{k:Nat}{d d':Nd}{res:Res}(p:jdr T st)(h:(bW T st).1=some k)(ok:AddOK T (bW T st).2 k d)(ha:(aM T k (bW T st).2).1=.none)(t:Runs T { (aM T k (bW T st).2).2 with cur:=none } res st'):Runs T st res st'
 |wait {st st':St}{k:Nat}{d d':Nd}{res:Res}(p:jdr T st)(h:(bW T st).1=some k)(ok:AddOK T (bW T st).2 k d)(ha:(aM T k (bW T st).2).1=.wait)(hc:(aM T k (bW T st).2).2.cur=some k)(hd:(aM T k (bW T st).2).2.nd k=some d')
   (hl:(aM T k (bW T st).2).2.wait.length<900)(t:Runs T { (aM T k (bW T st).2).2 with wait:=cU (aM T k (bW T st).2).2.wait k,cur:=none } res st'):Runs T st res st'
section
variable {c:Cx}{T:TT}{st:St}{H H':Tag→Option MObj}{nx:Nat}{m:List (Nat×MV)}{k j p:Nat}{d dj dp:Nd}{Q:MV→AS→Prop}{P:aH→AS→Prop}{X:AS→Prop}
theorem jcI{a b:MX}{σ:AS}(h:a σ (fun f σ1=>match f with|.next=>b σ1 P X|.brk=>P .brk σ1|.cont=>P .cont σ1|.ret v=>P (.ret v) σ1) X):fg a b σ P X:=h
theorem j_if{t:MT}{a b:MX}{σ:AS}(h:t σ fun r σ1=>match r with|true=>a σ1 P X|false=>b σ1 P X):xIf t a b σ P X:=h
theorem j_S{f:MS}{σ:AS}(h:f σ P):xS f σ P X:=h
theorem jeF(t:TOK T)(r:R T st H nx)(ok:jdr T st)(hm:m.lookup 61=some (.tag (20,0)))
  (q:∀H',R T (bW T st).2 H' nx→Low H H' nx→match (bW T st).1 with|some k=>P .next ⟨H',nx,m⟩|none=>if (bW T st).2.wait.isEmpty then P (.ret .none) ⟨H',nx,m⟩ else X ⟨H',nx,m⟩) :
  xIf (eU (mTr (aq (ac 61) 154))) (fg (xS (aT (ac 61) 154 (bx 3 174 jae (ac 61) [(aq (ac 61) 152),(aq (ac 61) 153)] []))) (xIf (eU (mTr (aq (ac 61) 154))) (fg (xIf (mTr (aq (ac 61) 151)) (jfk (ah (.str 40))) (xS aE)) (xS (bD (ah .none)))) (xS aE))) (xS aE) ⟨H,nx,m⟩ P X:=by
 refine j_if (jfg (cB ?_))
 refine dT (v:=fz st.cur) r hm (by decide) (fun _=>rfl) (by cases st.cur<;>rfl) ?_
 refine⟨_,jfH r ok.cur,?_⟩
 cases hc:st.cur with
 |some k=>
  have ep:bW T st=(some k,st):=by unfold bW;rw[hc]
  rw[ep] at q
  exact q H r (.refl _ _)
 |none=>
  have ep:bW T st=((bM T st).1,{ (bM T st).2 with cur:=(bM T st).1 }):=by unfold bW;rw[hc]
  have got:=ok.got
  rw[ep] at q got
  refine jcI (j_S (bf (cJ ?_)))
  refine ag hm ?_
  refine Zx r.disp fun v hd=>?_
  refine⟨(20,0),_,rfl,hd,rfl,?_⟩
  refine aC ?_
  refine dT r hm (by decide) (fun _=>rfl) rfl ?_
  refine aC ?_
  refine dT r hm (by decide) (fun _=>rfl) rfl ?_
  refine au (au ?_)
  refine jfb r t ok.wo ok.ttr ok.ready fun H1 r1 l1=>?_
  refine ag hm ?_
  refine Zx r1.disp fun v1 hd1=>?_
  refine bU hd1 (by decide) (Nle rfl) ?_
  have r2:=r1.setCur (v:=v1) (bM T st).1 (es:=ar [(105,.tag (21,1)),(64,.tag (21,2)),(107,v1),(150,.tag (20,1)),(151,.tag (20,2)),(152,.tag (20,3)),(153,.tag (20,4)),(154,fz (bM T st).2.cur)] 154 (fz (bM T st).1)) rfl
  have l2:Low H (ay H1 (20,0) (.inst 3 (ar [(105,.tag (21,1)),(64,.tag (21,2)),(107,v1),(150,.tag (20,1)),(151,.tag (20,2)),(152,.tag (20,3)),(153,.tag (20,4)),(154,fz (bM T st).2.cur)] 154 (fz (bM T st).1)))) nx:=l1.trans (cj (by decide)) (qa9 _)
  have q2:=q _ r2 l2
  refine j_if (jfg (cB ?_))
  refine dT (v:=fz (bM T st).1) r2 hm (by decide) (fun _=>rfl) (by cases (bM T st).1<;>rfl) ?_
  refine⟨_,jfH r2 fun k hk=>(got k hk).2,?_⟩
  cases hg:(bM T st).1 with
  |some k=>
   rw[hg] at q2
   exact q2
  |none=>
   rw[hg] at q2 r2
   refine Zx r2.wait fun eo hw=>?_
   refine jcI (j_if (cB ?_))
   refine dT r2 hm (by decide) (fun _=>rfl) rfl ?_
   refine⟨!(bM T st).2.wait.isEmpty,by simp only[bX,hw];simp,?_⟩
   cases hwe:(bM T st).2.wait.isEmpty with
   |true=>
    have:(if (bM T st).2.wait.isEmpty=true then P (.ret .none) ⟨_,nx,m⟩ else X ⟨_,nx,m⟩):=q2
    rw[if_pos hwe] at this
    exact this
   |false=>
    have:(if (bM T st).2.wait.isEmpty=true then P (.ret .none) ⟨_,nx,m⟩ else X ⟨_,nx,m⟩):=q2
    rw[if_neg (by rw[hwe];decide)] at this
    exact this
end
end
section
section
variable {c:Cx}{T:TT}{st:St}{H H':Tag→Option MObj}{nx:Nat}{m:List (Nat×MV)}{k j p:Nat}{d dj dp:Nd}{Q:MV→AS→Prop}{P:aH→AS→Prop}{X:AS→Prop}
theorem jgW{t:MT}{σ:AS}{P:aH→AS→Prop}(h:t σ fun r σ1=>r=true∧P .next σ1):jbp t σ P:=h
theorem jdP(r:R T st H nx)(hc:st.cur=some k){x:Nat}(hm:m.lookup x=some (.tag (20,0))){P:MV→AS→Prop}(h:P (ndT k) ⟨H,nx,m⟩):aq (ac x) 154 ⟨H,nx,m⟩ P:=
 dT r hm (by decide) (fun _=>by rw[hc];rfl) rfl h
theorem jfR(t:TOK T)(r:R T st H nx)(ok:AddOK T st k d)(hc:st.cur=some k)(hm:m.lookup 61=some (.tag (20,0)))
  (q0:(aM T k st).1=.none→∀H' nx' m',nx≤nx'→m'.lookup 61=some (.tag (20,0))→R T { (aM T k st).2 with cur:=none } H' nx'→Low H H' nx→P .cont ⟨H',nx',m'⟩)
  (q1:(aM T k st).1=.task→(aM T k st).2.cur=some k∧∀H' nx' m',nx≤nx'→R T (aM T k st).2 H' nx'→Low H H' nx→P (.ret (ndT k)) ⟨H',nx',m'⟩)
  (q2:(aM T k st).1=.wait→(aM T k st).2.cur=some k∧(∃d',(aM T k st).2.nd k=some d')∧(aM T k st).2.wait.length<900∧∀H' nx' m',nx≤nx'→m'.lookup 61=some (.tag (20,0))→R T { (aM T k st).2 with wait:=cU (aM T k st).2.wait k,cur:=none } H' nx'→Low H H' nx→P .next ⟨H',nx',m'⟩) :
  (ao (aL 186 (bx 3 170 jah (ac 61) [(aq (ac 61) 154)] [])) (ao (sIf (aA isN (ac 186) (ah .none)) (ao (aT (ac 61) 154 (ah .none)) eO) aE) (ao (sIf (aA eqF (ac 186) (ah (.str 42))) (bD (aq (ac 61) 154)) aE) (ao (jbp (aA eqF (ac 186) (ah (.str 43)))) (ao (dv (aq (ac 61) 151) (aq (aq (aq (ac 61) 154) 42) 62) (aq (ac 61) 154)) (aT (ac 61) 154 (ah .none))))))) ⟨H,nx,m⟩ P:=by
 refine Zx r.disp fun v hd=>?_
 refine av (bn (cJ ?_))
 refine ag hm ?_
 refine⟨(20,0),_,rfl,hd,rfl,?_⟩
 refine aC ?_
 refine jdP r hc hm ?_
 refine au (au ?_)
 refine jhk t r ok fun H1 nx1 n1 r1 w1 l1=>?_
 have A:∀(y:Nat)(v:MV),y≠186→(ar m 186 v).lookup y=m.lookup y:=fun y v h=>by rw[ae,if_neg h]
 have h186:∀v:MV,(ar m 186 v).lookup 186=some v:=fun v=>by rw[ae,if_pos rfl]
 have hm':∀v:MV,(ar m 186 v).lookup 61=some (.tag (20,0)):=fun v=>(A 61 v (by decide)).trans hm
 refine Zx r1.disp fun v1 hd1=>?_
 cases hs:(aM T k st).1 with
 |none=>
  refine av (bp (aS ?_))
  refine ag (h186 _) ?_
  refine az ⟨true,rfl,rfl,?_⟩
  refine av (bf (az ?_))
  refine ag (hm' _) ?_
  refine bU hd1 (by decide) (Nle rfl) ?_
  exact q0 hs _ nx1 _ n1 (hm' _) (r1.setCur none rfl) (l1.trans (cj (by decide)) n1)
 |task=>
  refine Za (q1 hs) fun hc1 q1=>?_
  refine av (bp (aS ?_))
  refine ag (h186 _) ?_
  refine az ⟨false,rfl,rfl,?_⟩
  refine av (bp (aS ?_))
  refine ag (h186 _) ?_
  refine az ⟨true,rfl,?_⟩
  refine cC ?_
  refine jdP r1 hc1 (hm' _) ?_
  exact q1 H1 nx1 _ n1 r1 l1
 |wait=>
  refine eS (q2 hs) fun hc1 zq1 hlen q2=>?_;refine Zx zq1 fun d' hd'=>?_
  refine av (bp (aS ?_))
  refine ag (h186 _) ?_
  refine az ⟨false,rfl,rfl,?_⟩
  refine av (bp (aS ?_))
  refine ag (h186 _) ?_
  refine az ⟨false,rfl,?_⟩
  refine av (jgW (aS ?_))
  refine ag (h186 _) ?_
  refine az ⟨true,rfl,rfl,?_⟩
  refine av (jcu ?_)
  refine jdP r1 hc1 (hm' _) ?_
  refine dT r1 (hm' _) (by decide) (fun _=>rfl) rfl ?_
  refine dR (r1.task k ok.lt) fun es t1 t2 _=>?_
  refine jfo (jfo ?_)
  refine jdP r1 hc1 (hm' _) ?_
  refine⟨(10,k),2,_,.tag (1,k),rfl,(r1.node k d' hd').obj,by decide,rfl,rfl,?_⟩
  refine⟨(1,k),0,es,.str k,rfl,t1,by decide,t2,rfl,?_⟩
  refine Zx r1.wait fun eo hw=>?_
  refine .inr ⟨(20,2),_,eo,k,rfl,rfl,hw,by simp;exact Nk1 1 900 1 1000 hlen rfl,?_⟩
  have r2:=r1.setWait (eo:=none) (cU (aM T k st).2.wait k) (jgT (k:=k) (l:=(aM T k st).2.wait))
  refine Zx r2.disp fun v2 hd2=>?_
  refine bf (az ?_)
  refine ag (hm' _) ?_
  refine bU hd2 (by decide) (Nle rfl) ?_
  exact q2 _ nx1 _ n1 (hm' _) (r2.setCur none rfl) ((l1.trans (cj (by decide)) n1).trans (cj (by decide)) (qa9 _))
end
end
section
section
variable {c:Cx}{T:TT}{st st':St}{H H':Tag→Option MObj}{nx:Nat}{m:List (Nat×MV)}{k j p:Nat}{d dj dp:Nd}{res:Res}{Q:MV→AS→Prop}{P:aH→AS→Prop}{X:AS→Prop}
noncomputable def Told(P:aH→AS→Prop)(X:AS→Prop)(res:Res)(σ:AS):Prop:=match res with
 |.hold=>X σ
 |.fin=>P (.ret .none) σ
 |.give k=>P (.ret (ndT k)) σ
theorem jiP(t:TOK T)(h:Runs T st res st'):∃n,∀(H:Tag→Option MObj)(nx:Nat)(m:List (Nat×MV))(P:aH→AS→Prop)(X:AS→Prop),R T st H nx→m.lookup 61=some (.tag (20,0))→
  (∀H' nx' m',nx≤nx'→R T st' H' nx'→Low H H' nx→Told P X res ⟨H',nx',m'⟩)→
  jdp (mTr (ah (.bool true))) (fg (xIf (eU (mTr (aq (ac 61) 154))) (fg (xS (aT (ac 61) 154 (bx 3 174 jae (ac 61) [(aq (ac 61) 152),(aq (ac 61) 153)] []))) (xIf (eU (mTr (aq (ac 61) 154))) (fg (xIf (mTr (aq (ac 61) 151)) (jfk (ah (.str 40))) (xS aE)) (xS (bD (ah .none)))) (xS aE))) (xS aE)) (xS (ao (aL 186 (bx 3 170 jah (ac 61) [(aq (ac 61) 154)] [])) (ao (sIf (aA isN (ac 186) (ah .none)) (ao (aT (ac 61) 154 (ah .none)) eO) aE) (ao (sIf (aA eqF (ac 186) (ah (.str 42))) (bD (aq (ac 61) 154)) aE) (ao (jbp (aA eqF (ac 186) (ah (.str 43)))) (ao (dv (aq (ac 61) 151) (aq (aq (aq (ac 61) 154) 42) 62) (aq (ac 61) 154)) (aT (ac 61) 154 (ah .none))))))))) n ⟨H,nx,m⟩ P X:=by
 induction h with
 |stop p h=>
  refine⟨1,fun H nx m P X r hm q=>?_⟩
  refine cB (az ⟨true,rfl,?_⟩)
  refine jcI (jeF t r p hm fun H1 r1 l1=>?_)
  rw[h]
  have q:=q H1 nx m (qa9 _) r1 l1
  dsimp only
  split
  ·rename_i hw;rw[if_pos hw] at q;exact q
  ·rename_i hw;rw[if_neg hw] at q;exact q
 |task p h ok ha hc hd=>
  refine⟨1,fun H nx m P X r hm q=>?_⟩
  refine cB (az ⟨true,rfl,?_⟩)
  refine jcI (jeF t r p hm fun H1 r1 l1=>?_)
  rw[h]
  refine j_S (jfR t r1 ok (p.got _ h).1 hm (fun e=>by rw[ha] at e;exact Step.noConfusion e) (fun _=>⟨hc,fun H2 nx2 m2 n2 r2 l2=>?_⟩) fun e=>by rw[ha] at e;exact Step.noConfusion e)
  exact q H2 nx2 m2 n2 r2 (l1.trans l2 (qa9 _))
 |none p h ok ha _ ih=>
  refine Zx ih fun n ih=>?_
  refine⟨n+1,fun H nx m P X r hm q=>?_⟩
  refine cB (az ⟨true,rfl,?_⟩)
  refine jcI (jeF t r p hm fun H1 r1 l1=>?_)
  rw[h]
  refine j_S (jfR t r1 ok (p.got _ h).1 hm (fun _ H2 nx2 m2 n2 hm2 r2 l2=>?_) (fun e=>by rw[ha] at e;exact Step.noConfusion e) fun e=>by rw[ha] at e;exact Step.noConfusion e)
  exact ih H2 nx2 m2 P X r2 hm2 fun H3 nx3 m3 n3 r3 l3=>q H3 nx3 m3 (qb1 n2 n3) r3 ((l1.trans l2 (qa9 _)).trans l3 n2)
 |wait p h ok ha hc hd hl _ ih=>
  refine Zx ih fun n ih=>?_
  refine⟨n+1,fun H nx m P X r hm q=>?_⟩
  refine cB (az ⟨true,rfl,?_⟩)
  refine jcI (jeF t r p hm fun H1 r1 l1=>?_)
  rw[h]
  refine j_S (jfR t r1 ok (p.got _ h).1 hm (fun e=>by rw[ha] at e;exact Step.noConfusion e) (fun e=>by rw[ha] at e;exact Step.noConfusion e) fun _=>⟨hc,⟨_,hd⟩,hl,fun H2 nx2 m2 n2 hm2 r2 l2=>?_⟩)
  exact ih H2 nx2 m2 P X r2 hm2 fun H3 nx3 m3 n3 r3 l3=>q H3 nx3 m3 (qb1 n2 n3) r3 ((l1.trans l2 (qa9 _)).trans l3 n2)
end
end
section
noncomputable def jew(p:Option Nat):MV:=match p with
 |some k=>ndT k
 |none=>.none
noncomputable def jcw(p:Option Nat)(st:St):St:=match p with
 |some k=>b9 k st
 |none=>st
noncomputable def jgG(T:TT)(st:St)(p:Option Nat):Prop:=match p with
 |some k=>∃d,jfh T st k d
 |none=>True
section
variable {c:Cx}{T:TT}{st st':St}{H H':Tag→Option MObj}{nx:Nat}{m:List (Nat×MV)}{k j:Nat}{d dj dp:Nd}{res:Res}{Q:MV→AS→Prop}{P:aH→AS→Prop}{X:AS→Prop}
noncomputable def jhZ(Q:MV→AS→Prop)(X:AS→Prop)(res:Res)(σ:AS):Prop:=match res with
 |.hold=>X σ
 |.fin=>Q .none σ
 |.give k=>Q (ndT k) σ
theorem jkb{p:Option Nat}(t:TOK T)(r:R T st H nx)(ok:jgG T st p)(h:Runs T (jcw p st) res st')
  (q:∀H' nx',nx≤nx'→R T st' H' nx'→Low H H' nx→jhZ Q X res ⟨H',nx',m⟩):jaW [.tag (20,0),jew p] [] ⟨H,nx,m⟩ Q X:=by
 refine⟨rfl,?_⟩
 unfold jbW
 show fg _ _ ⟨H,nx,[(61,.tag (20,0)),(176,jew p)]⟩ _ _
 refine Zx (jiP t h) fun n hn=>?_
 refine jcI (j_S (cf (cJ ?_)))
 refine Zx r.disp fun v hd=>?_
 refine ag rfl ?_
 refine⟨(20,0),_,rfl,hd,rfl,?_⟩
 refine aC ?_
 refine ag rfl ?_
 refine au (au ?_)
 have rest:∀(H1:Tag→Option MObj)(A:aH→AS→Prop)(B:AS→Prop),R T (jcw p st) H1 nx→Low H H1 nx→(∀σ,(∃H' nx',σ.H=H'∧σ.nx=nx'∧nx≤nx'∧R T st' H' nx'∧Low H H' nx)→Told A B res σ)→
   ∃n,jdp _ _ n ⟨H1,nx,[(61,.tag (20,0)),(176,jew p)]⟩ A B:=fun H1 A B r1 l1 hq=>⟨n,hn H1 nx _ A B r1 rfl fun H' nx' m' n1 r' l'=>hq _ ⟨H',nx',rfl,rfl,n1,r',l1.trans l' (qa9 _)⟩⟩
 have told:∀σ:AS,(∃H' nx',σ.H=H'∧σ.nx=nx'∧nx≤nx'∧R T st' H' nx'∧Low H H' nx)→Told (fun f σ1=>match f with|.next=>xS aE σ1 (fun fl σ'=>Q (ez fl) ⟨σ'.H,σ'.nx,m⟩) (fun σ'=>X ⟨σ'.H,σ'.nx,m⟩)|.brk=>Q (ez .brk) ⟨σ1.H,σ1.nx,m⟩|.cont=>Q (ez .cont) ⟨σ1.H,σ1.nx,m⟩|.ret v=>Q (ez (.ret v)) ⟨σ1.H,σ1.nx,m⟩) (fun σ'=>X ⟨σ'.H,σ'.nx,m⟩) res σ:=by
  rintro ⟨H2,nx2,m2⟩ ⟨H',nx',rfl,rfl,n1,r',l'⟩
  have:=q _ _ n1 r' l'
  cases res<;>exact this
 cases p with
 |none=>
  refine jfX ⟨rfl,?_⟩
  refine jcI ?_
  exact rest H _ _ r (.refl _ _) told
 |some p=>
  refine Zx ok fun d ok=>?_
  refine jeL r ok fun H1 r1 w1 l1=>⟨rfl,?_⟩
  refine jcI ?_
  exact rest H1 _ _ r1 l1 told
noncomputable def resV(r:Res):MV:=match r with
 |.hold=>.tup [.str 40,.none]
 |.fin=>.tup [.str 41,.none]
 |.give k=>.tup [.str 42,ndT k]
theorem i_try{C n x hs:Nat}{a:MEx}{fs:List MEx}{g:MEX}{σ:AS}{Q:aH→AS→Prop}(h:a σ fun u σ1=>∃t es,u=.tag t∧σ1.H t=some (.inst C es)∧es.lookup n=none∧cr fs σ1 fun xs σ2=>σ2.m=σ.m∧g (u::xs) [] σ2 (fun v σ3=>Q .next { σ3 with m:=ar σ3.m x v }) fun σ3=>Q (.ret (.tup [.str hs,.none])) σ3):sTry C n x hs a fs g σ Q:=h
theorem fj{t:MT}{a b:MEx}{σ:AS}{P:MV→AS→Prop}(h:t σ (kIfx a b P)):mIf t a b σ P:=h
theorem jg6{p:Option Nat}(t:TOK T)(r:R T st H nx)(ok:jgG T st p)(h:Runs T (jcw p st) res st')
  (q:∀H' nx',nx≤nx'→R T st' H' nx'→Low H H' nx→Q (resV res) ⟨H',nx',m⟩):jaU [.tag (20,0),jew p] [] ⟨H,nx,m⟩ Q:=by
 refine⟨rfl,?_⟩
 unfold jes
 show ao _ _ ⟨H,nx,[(206,.tag (20,0)),(25,jew p)]⟩ _
 refine Zx r.disp fun v hd=>?_
 refine av (i_try ?_)
 refine ag rfl ?_
 refine⟨(20,0),_,rfl,hd,rfl,?_⟩
 refine aC ?_
 refine ag rfl ?_
 refine au ⟨rfl,?_⟩
 refine jkb t r ok h fun H1 nx1 n1 r1 l1=>?_
 have q:=q H1 nx1 n1 r1 l1
 cases res with
 |hold=>exact q
 |fin=>
  dsimp only[jhZ]
  refine cC (fj (aS ?_))
  refine ag rfl ?_
  refine az ⟨true,rfl,rfl,?_⟩
  refine aC (az (aC (az (au ⟨by decide,?_⟩))))
  exact q
 |give k=>
  dsimp only[jhZ]
  refine cC (fj (aS ?_))
  refine ag rfl ?_
  refine az ⟨false,rfl,rfl,?_⟩
  refine aC (az (aC ?_))
  refine ag rfl ?_
  refine au ⟨(Nle rfl),?_⟩
  exact q
end
end
section
noncomputable def aN(st:St)(j:Nat):RS:=match st.nd j with
 |some d=>d.rs
 |none=>.none
theorem ba{st:St}{j:Nat}{d:Nd}(e:st.nd j=some d):aN st j=d.rs:=by unfold aN;rw[e]
theorem jaX{st:St}{j:Nat}(e:st.nd j=none):aN st j=.none:=by unfold aN;rw[e]
noncomputable def RS.w:RS→RS
 |.run=>.none
 |r=>r
theorem RS.w_waits{a b:RS}(h:a.w=b.w):a.waits=b.waits:=by cases a<;>cases b<;>first|rfl|cases h
theorem RS.w_fail{a b:RS}(h:a.w=b.w):(a=.fail)=(b=.fail):=by cases a<;>cases b<;>simp_all [RS.w]
theorem RS.w_ign{a b:RS}(h:a.w=b.w):(a=.ign)=(b=.ign):=by cases a<;>cases b<;>simp_all [RS.w]
noncomputable def dl(T:TT)(k:Nat)(d:Nd):List Nat:=if d.td=[] then T.needs k++(if 3≤d.ph then T.setups k else[]) else[]
noncomputable def jdh(T:TT)(k:Nat)(d:Nd):Prop:=
 (d.ph=0∧d.rs=.none∧d.ws=false)∨
 (d.ph=1∧d.ws=false∧d.wr=[]∧(d.rs=.run→T.setups k≠[]))∨
 (d.ph=2∧d.wr=[]∧T.setups k≠[]∧(d.ws=true↔d.rs=.none))∨
 (d.ph=3∧d.ws=false∧T.setups k≠[]∧d.rs=.run)∨
 (d.ph=4∧d.ws=false∧d.wr=[]∧T.setups k≠[]∧d.rs≠.none)
structure NI(T:TT)(A:Nat→Prop)(st:St)(k:Nat)(d:Nd):Prop where
 lt:k<T.n
 al:A k
 td:d.td=[]∨(d.td=T.needs k∧d.ph=0∧d.wr=[]∧d.bad=[]∧d.ign=[])
 dep:∀j∈dl T k d,st.nd j≠none∧(j∈d.wr↔(aN st j).waits=true)
 wrd:∀j∈d.wr,j∈dl T k d
 wrn:d.wr.Nodup
 bad:d.bad.Perm ((dl T k d).filter fun j=>decide (aN st j=.fail))
 ign:d.ign.Perm ((dl T k d).filter fun j=>decide (aN st j=.ign))
 wmn:d.wm.Nodup∧∀w∈d.wm,w<T.n
 wm:d.rs.waits=true→∀w,w∈d.wm↔∃dw,st.nd w=some dw∧k∈dw.wr
 anc:d.anc.Nodup∧∀a∈d.anc,k≤a∧a<T.n
 fin:1≤d.ph→d.td=[]∧∀j∈T.needs k,(aN st j).waits=false
 shp:jdh T k d
 wait:k∈st.wait↔(d.wr≠[]∨d.ws=true)
 act:d.wr=[]→(d.ph=0∨(d.ph=2∧d.rs=.run)∨d.ph=3)→k∈st.ready∨st.cur=some k
 one:d.ph=1→T.setups k≠[]→st.cur=some k
 rdy:k∈st.ready→d.wr=[]∧d.ws=false∧st.cur≠some k∧d.ph≠1∧d.ph≠4
 cur:st.cur=some k→d.wr=[]∧d.ws=false
structure J(T:TT)(A:Nat→Prop)(sel:List Nat)(st:St):Prop where
 wo:WO T st
 ni:∀k d,st.nd k=some d→NI T A st k d
 rdn:st.ready.Nodup
 rdx:∀k∈st.ready,st.nd k≠none
 wtn:st.wait.Nodup
 wtx:∀k∈st.wait,st.nd k≠none
 crx:∀k,st.cur=some k→st.nd k≠none
 ttr:∀k∈st.ttr,k<T.n∧A k
 sel:∀k∈sel,st.nd k≠none∨k∈st.ttr
section
variable {T:TT}{A:Nat→Prop}{sel:List Nat}{st st':St}{k i:Nat}{d d':Nd}
theorem NI.keep(x:NI T A st i d)(ex:∀j,st.nd j≠none→st'.nd j≠none)(rs:∀j∈dl T i d,(aN st' j).w=(aN st j).w)(hw:i∈st'.wait↔i∈st.wait)(hr:i∈st'.ready↔i∈st.ready)(hc:st'.cur=some i↔st.cur=some i)
  (e:d'={ d with wm:=d'.wm })(mn:d'.wm.Nodup∧∀w∈d'.wm,w<T.n)(m:d.rs.waits=true→∀w,w∈d'.wm↔∃dw,st'.nd w=some dw∧i∈dw.wr):NI T A st' i d':=by
 have e1:d'.td=d.td:=by rw[e]
 have e2:d'.ph=d.ph:=by rw[e]
 have e3:d'.wr=d.wr:=by rw[e]
 have e4:d'.bad=d.bad:=by rw[e]
 have e5:d'.ign=d.ign:=by rw[e]
 have e6:d'.rs=d.rs:=by rw[e]
 have e7:d'.anc=d.anc:=by rw[e]
 have e8:d'.ws=d.ws:=by rw[e]
 have edl:dl T i d'=dl T i d:=by unfold dl;rw[e1,e2]
 refine⟨x.lt,x.al,?_,fun j hj=>?_,fun j hj=>?_,?_,?_,?_,mn,fun h=>m (e6▸h),?_,fun h=>?_,?_,?_,fun h1 h2=>?_,fun h1 h2=>?_,fun h=>?_,fun h=>?_⟩
 ·rw[e1,e2,e3,e4,e5];exact x.td
 ·rw[edl] at hj
  refine Za (x.dep j hj) fun a b=>?_
  rw[e3]
  exact⟨ex j a,by rw[RS.w_waits (rs j hj)];exact b⟩
 ·rw[edl];rw[e3] at hj;exact x.wrd j hj
 ·rw[e3];exact x.wrn
 ·rw[edl,e4]
  refine x.bad.trans (List.Perm.of_eq (List.filter_congr fun j hj=>?_))
  have:=RS.w_fail (rs j hj)
  simp only[this]
 ·rw[edl,e5]
  refine x.ign.trans (List.Perm.of_eq (List.filter_congr fun j hj=>?_))
  have:=RS.w_ign (rs j hj)
  simp only[this]
 ·rw[e7];exact x.anc
 ·rw[e2] at h
  rw[e1]
  refine Za (x.fin h) fun a b=>?_
  refine⟨a,fun j hj=>?_⟩
  have hj':j∈dl T i d:=by unfold dl;rw[if_pos a];exact List.mem_append_left _ hj
  rw[RS.w_waits (rs j hj')]
  exact b j hj
 ·have:=x.shp
  unfold jdh at this ⊢
  rw[e2,e3,e6,e8];exact this
 ·rw[hw,e3,e8];exact x.wait
 ·rw[e3] at h1;rw[e2,e6] at h2
  rw[hr,hc];exact x.act h1 h2
 ·rw[hc];rw[e2] at h1;exact x.one h1 h2
 ·rw[hr] at h
  rw[e3,e8,e2]
  refine eS (x.rdy h) fun a b c d=>?_
  exact⟨a,b,fun q=>c (hc.mp q),d⟩
 ·rw[hc] at h
  rw[e3,e8];exact x.cur h
theorem J.lt(j:J T A sel st)(h:st.nd k≠none):k<T.n:=j.wo.lt k ((j.wo.ord k).mpr h)
theorem J.one{st4:St}{d4:Nd}(j:J T A sel st)(hd:st.nd k=some d)(n4:st4.nd=(st.setNd k d4).nd)(o4:st4.ord=st.ord)(t4:st4.ttr=st.ttr)(wr:∀i,i∈d4.wr↔i∈d.wr)(rs:d4.rs.w=d.rs.w)
  (hw:∀i,i≠k→(i∈st4.wait↔i∈st.wait))(hr:∀i,i≠k→(i∈st4.ready↔i∈st.ready))(hc:∀i,i≠k→(st4.cur=some i↔st.cur=some i))(rn:st4.ready.Nodup)(wn:st4.wait.Nodup)(x4:NI T A st4 k d4):J T A sel st4:=by
 have n4':∀i,st4.nd i=if i=k then some d4 else st.nd i:=fun i=>by rw[n4];rfl
 have nk:st4.nd k=some d4:=by rw[n4',if_pos rfl]
 have ex:∀i,st4.nd i≠none↔st.nd i≠none:=fun i=>by
  rw[n4']
  by_cases e:i=k
  ·subst e;rw[if_pos rfl,hd];simp
  ·rw[if_neg e]
 have hrs:∀i,(aN st4 i).w=(aN st i).w:=fun i=>by
  by_cases e:i=k
  ·subst e;rw[ba nk,ba hd,rs]
  ·unfold aN;rw[n4',if_neg e]
 refine⟨⟨fun i=>?_,?_,?_⟩,fun i di hi=>?_,rn,fun i hi=>?_,wn,fun i hi=>?_,fun i hi=>?_,?_,fun i hi=>?_⟩
 ·rw[o4,ex,j.wo.ord]
 ·rw[o4];exact j.wo.nodup
 ·rw[o4];exact j.wo.lt
 ·by_cases e:i=k
  ·subst e;rw[nk] at hi;obtain rfl:=qa1 hi;exact x4
  ·rw[n4',if_neg e] at hi
   have xi:=j.ni i di hi
   refine xi.keep (fun a ha=>(ex a).mpr ha) (fun a _=>hrs a) (hw i e) (hr i e) (hc i e) rfl xi.wmn fun hq w=>?_
   rw[xi.wm hq w]
   refine⟨fun zp1=>?_,fun zp2=>?_⟩
   ·refine Zxa zp1 fun dw h1 h2=>?_;by_cases ew:w=k
    ·subst ew;rw[hd] at h1;obtain rfl:=qa1 h1;exact⟨d4,nk,(wr i).mpr h2⟩
    ·exact⟨dw,by rw[n4',if_neg ew];exact h1,h2⟩
   ·refine Zxa zp2 fun dw h1 h2=>?_;by_cases ew:w=k
    ·subst ew;rw[nk] at h1;obtain rfl:=qa1 h1;exact⟨d,hd,(wr i).mp h2⟩
    ·exact⟨dw,by rw[n4',if_neg ew] at h1;exact h1,h2⟩
 ·rw[ex]
  by_cases e:i=k
  ·subst e;rw[hd];exact Option.some_ne_none _
  ·exact j.rdx i ((hr i e).mp hi)
 ·rw[ex]
  by_cases e:i=k
  ·subst e;rw[hd];exact Option.some_ne_none _
  ·exact j.wtx i ((hw i e).mp hi)
 ·rw[ex]
  by_cases e:i=k
  ·subst e;rw[hd];exact Option.some_ne_none _
  ·exact j.crx i ((hc i e).mp hi)
 ·rw[t4];exact j.ttr
 ·rw[ex,t4];exact j.sel i hi
end
end
section
theorem jfC{ys:List Nat}:∀{xs:List Nat}{a:Nat},a∈cV xs ys↔a∈xs∨a∈ys:=by
 induction ys with
 |nil=>intro xs a;simp[cV]
 |cons y ys ih=>
  intro xs a
  show a∈cV (if y∈xs then xs else xs++[y]) ys↔_
  rw[ih]
  split
  ·rename_i h
   constructor
   ·rintro (q|q)
    ·exact .inl q
    ·exact .inr (qa2 _ q)
   ·rintro (q|q)
    ·exact .inl q
    ·rcases List.mem_cons.mp q with rfl|q
     ·exact .inl h
     ·exact .inr q
  ·simp[or_assoc]
theorem ja2{l:List Nat}{a:Nat}(h:l.Nodup)(n:a∉l):(l++[a]).Nodup:=by
 rw[List.nodup_append]
 refine⟨h,by simp,fun x hx y hy e=>?_⟩
 rw[List.mem_singleton] at hy
 subst hy;subst e;exact n hx
theorem jhg{ys:List Nat}:∀{xs:List Nat},xs.Nodup→(cV xs ys).Nodup:=by
 induction ys with
 |nil=>intro xs h;exact h
 |cons y ys ih=>
  intro xs h
  show(cV (if y∈xs then xs else xs++[y]) ys).Nodup
  apply ih
  split
  ·exact h
  ·rename_i q;exact ja2 h q
theorem mem_insL{l:List Nat}{k a:Nat}:a∈cU l k↔a∈l∨a=k:=by
 unfold cU
 split
 ·rename_i h
  constructor
  ·exact .inl
  ·rintro (q|rfl)
   ·exact q
   ·exact h
 ·simp
theorem jcN{l:List Nat}{k:Nat}(h:l.Nodup):(cU l k).Nodup:=by
 unfold cU
 split
 ·exact h
 ·rename_i q;exact ja2 h q
section
variable {T:TT}{A:Nat→Prop}{sel:List Nat}{st st':St}{k i:Nat}{d d':Nd}
noncomputable def eC(st:St)(l:List Nat):List Nat:=l.filter fun j=>(st.nd j).isNone
theorem mem_newOf{l:List Nat}{j:Nat}:j∈eC st l↔j∈l∧st.nd j=none:=by
 unfold eC;rw[List.mem_filter];simp
theorem jkq{a:List Nat}:∀{l:List Nat}{st:St},l.Nodup→
  (l.foldl (fun s j=>bu T a j s) st).ord=st.ord++eC st l∧(l.foldl (fun s j=>bu T a j s) st).ready=st.ready++eC st l∧(l.foldl (fun s j=>bu T a j s) st).wait=st.wait∧
  (l.foldl (fun s j=>bu T a j s) st).ttr=st.ttr∧(l.foldl (fun s j=>bu T a j s) st).cur=st.cur:=by
 intro l
 induction l with
 |nil=>intro st _;simp[eC]
 |cons j l ih=>
  intro st hn
  refine Za (List.nodup_cons.mp hn) fun n1 n2=>?_
  have ih:=ih (st:=bu T a j st) n2
  have e:eC (bu T a j st) l=eC st l:=by
   unfold eC
   refine List.filter_congr fun i hi=>?_
   rw[jcs,if_neg]
   intro zp1;refine Za zp1 fun zq1 _=>?_;obtain rfl:=zq1
   exact n1 hi
  rw[e] at ih
  rw[List.foldl_cons]
  refine fc ih fun a1 a2 a3 a4 a5=>?_
  rw[a1,a2,a3,a4,a5]
  unfold bu eC
  cases h:st.nd j with
  |none=>
   rw[List.filter_cons,if_pos (by rw[h];rfl)]
   refine⟨?_,?_,rfl,rfl,rfl⟩
   ·show st.ord++[j]++_=_;exact List.append_assoc _ _ _
   ·show st.ready++[j]++_=_;exact List.append_assoc _ _ _
  |some dj=>
   rw[List.filter_cons,if_neg (by rw[h];exact fun h=>Xft h)]
   exact⟨rfl,rfl,rfl,rfl,rfl⟩
theorem jiZ{l:List Nat}:∀{st:St}{d:Nd},st.nd k=some d→(∀j∈l,j≠k∧st.nd j≠none)→
  l.foldl (ci k) st=st.setNd k { d with bad:=d.bad++l.filter fun j=>decide (aN st j=.fail),ign:=d.ign++l.filter fun j=>decide (aN st j=.ign) }:=by
 induction l with
 |nil=>
  intro st d hd _
  simp only[List.foldl_nil,List.filter_nil,List.append_nil]
  exact(St.setNd_self hd).symm
 |cons j l ih=>
  intro st d hd hl
  refine Za (hl j qa4) fun hjk hj=>?_
  refine Zx (Option.ne_none_iff_exists'.mp hj) fun dj hdj=>?_
  rw[List.foldl_cons]
  have step:ci k st j=st.setNd k { d with bad:=d.bad++[j].filter (fun j=>decide (aN st j=.fail)),ign:=d.ign++[j].filter (fun j=>decide (aN st j=.ign)) }:=by
   unfold ci
   rw[hdj,hd]
   dsimp only
   have ra:aN st j=dj.rs:=ba hdj
   cases hr:dj.rs with
   |none=>simp[RS.waits,ra,hr,St.setNd_self hd]
   |run=>simp[RS.waits,ra,hr,St.setNd_self hd]
   |_=>simp[RS.waits,RS.note,ra,hr]
  rw[step]
  have hrs:∀i,i≠k→∀d1,aN (st.setNd k d1) i=aN st i:=fun i hi d1=>by unfold aN;rw[aU,if_neg hi]
  rw[ih (d:={ d with bad:=d.bad++[j].filter (fun j=>decide (aN st j=.fail)),ign:=d.ign++[j].filter (fun j=>decide (aN st j=.ign)) }) (by rw[aU,if_pos rfl]) fun i hi=>by
   refine Za (hl i (qa2 _ hi)) fun a b=>?_
   exact⟨a,by rw[aU,if_neg a];exact b⟩]
  rw[jbS]
  congr 1
  have f1:∀d1,(l.filter fun j=>decide (aN (st.setNd k d1) j=.fail))=l.filter fun j=>decide (aN st j=.fail):=fun d1=>List.filter_congr fun i hi=>by rw[hrs i (hl i (qa2 _ hi)).1]
  have f2:∀d1,(l.filter fun j=>decide (aN (st.setNd k d1) j=.ign))=l.filter fun j=>decide (aN st j=.ign):=fun d1=>List.filter_congr fun i hi=>by rw[hrs i (hl i (qa2 _ hi)).1]
  dsimp only
  rw[f1,f2]
  rw[List.append_assoc,List.append_assoc,←List.filter_append,←List.filter_append]
  rfl
theorem jkp{l:List Nat}:∀{st:St},(∀j∈l,st.nd j≠none)→
  (∀i,(l.foldl (de k) st).nd i=if i∈l then(st.nd i).map fun di=>{ di with wm:=cU di.wm k } else st.nd i)∧(l.foldl (de k) st).ord=st.ord∧(l.foldl (de k) st).wait=st.wait∧(l.foldl (de k) st).ready=st.ready∧
   (l.foldl (de k) st).ttr=st.ttr∧(l.foldl (de k) st).cur=st.cur:=by
 induction l with
 |nil=>intro st _;simp
 |cons j l ih=>
  intro st hl
  refine Zx (Option.ne_none_iff_exists'.mp (hl j qa4)) fun dj hdj=>?_
  rw[List.foldl_cons]
  have step:de k st j=st.setNd j { dj with wm:=cU dj.wm k }:=by unfold de;rw[hdj]
  rw[step]
  have ex:∀i∈l,(st.setNd j { dj with wm:=cU dj.wm k }).nd i≠none:=fun i hi=>by
   rw[aU]
   split
   ·exact Option.some_ne_none _
   ·exact hl i (qa2 _ hi)
  refine dD (ih ex) fun a1 a2 a3 a4 a5 a6=>?_
  refine⟨fun i=>?_,a2,a3,a4,a5,a6⟩
  rw[a1,aU]
  by_cases e:i=j
  ·subst e
   rw[if_pos rfl,if_pos qa4,hdj]
   split
   ·show some { dj with wm:=cU (cU dj.wm k) k }=some { dj with wm:=cU dj.wm k }
    have:cU (cU dj.wm k) k=cU dj.wm k:=if_pos (mem_insL.mpr (.inr rfl))
    rw[this]
   ·rfl
  ·rw[if_neg e]
   by_cases hm:i∈l
   ·rw[if_pos hm,if_pos (qa2 _ hm)]
   ·rw[if_neg hm,if_neg fun q=>(List.mem_cons.mp q).elim e hm]
noncomputable def cq(st:St)(d:Nd)(l:List Nat):Nd:={ d with bad:=d.bad++l.filter fun j=>decide (aN st j=.fail),ign:=d.ign++l.filter fun j=>decide (aN st j=.ign),wr:=cV d.wr (l.filter fun j=>(aN st j).waits) }
theorem jdS{j:Nat}(h:st.nd j≠none):cm st j=(aN st j).waits:=by
 refine Zx (Option.ne_none_iff_exists'.mp h) fun dj hdj=>?_
 unfold cm aN;rw[hdj]
theorem jhh{l:List Nat}(hd:st.nd k=some d)(hl:∀j∈l,j≠k∧st.nd j≠none) :
  (∀i,(cY k l st).nd i=if i=k then some (cq st d l) else if i∈l∧(aN st i).waits=true then(st.nd i).map fun di=>{ di with wm:=cU di.wm k } else st.nd i)∧(cY k l st).ord=st.ord∧(cY k l st).wait=st.wait∧
   (cY k l st).ready=st.ready∧(cY k l st).ttr=st.ttr∧(cY k l st).cur=st.cur:=by
 unfold cY
 dsimp only
 rw[jiZ hd hl]
 generalize hn:({ d with bad:=d.bad++l.filter fun j=>decide (aN st j=.fail),ign:=d.ign++l.filter fun j=>decide (aN st j=.ign) }:Nd)=d1
 have hwf:∀j∈l.filter (cm st),j≠k∧(st.setNd k d1).nd j≠none:=fun j hj=>by
  refine Za (hl j (List.mem_filter.mp hj).1) fun a b=>?_
  exact⟨a,by rw[aU,if_neg a];exact b⟩
 refine dD (jkp (k:=k) fun j hj=>(hwf j hj).2) fun a1 a2 a3 a4 a5 a6=>?_
 have hk:(((l.filter (cm st)).foldl (de k) (st.setNd k d1)).nd k)=some d1:=by
  rw[a1,if_neg fun q=>(hwf k q).1 rfl,aU,if_pos rfl]
 unfold jdg
 rw[hk]
 dsimp only
 refine⟨fun i=>?_,a2,a3,a4,a5,a6⟩
 rw[aU]
 by_cases e:i=k
 ·rw[if_pos e,if_pos e];subst hn
  unfold cq
  rw[List.filter_congr (p:=cm st) (q:=fun j=>(aN st j).waits) fun j hj=>jdS (hl j hj).2]
 ·rw[if_neg e,if_neg e,a1,aU,if_neg e]
  have:(i∈l.filter (cm st))↔(i∈l∧(aN st i).waits=true):=by
   rw[List.mem_filter]
   constructor
   ·intro zp2;refine Za zp2 fun x y=>?_;exact⟨x,by rw[←jdS (hl i x).2];exact y⟩
   ·intro zp3;refine Za zp3 fun x y=>?_;exact⟨x,by rw[jdS (hl i x).2];exact y⟩
  by_cases q:i∈l∧(aN st i).waits=true
  ·rw[if_pos q,if_pos (this.mpr q)]
  ·rw[if_neg q,if_neg fun z=>q (this.mp z)]
end
end
section
section
variable {T:TT}{A:Nat→Prop}{sel:List Nat}{st st':St}{k i:Nat}{d d':Nd}
noncomputable def grow(T:TT)(k:Nat)(anc l:List Nat)(st:St):St:=cY k l (l.foldl (fun s j=>bu T anc j s) st)
theorem jey(t:TOK T):∀j∈dl T k d,j<k:=fun j hj=>by
 unfold dl at hj
 split at hj
 ·rcases List.mem_append.mp hj with h|h
  ·exact t.needs k j h
  ·split at h
   ·exact t.setups k j h
   ·exact Xnm h
 ·exact Xnm hj
theorem jfp{a:List Nat}{b:List Nat}:dl T i { ini i a T with wm:=b }=[]:=by
 show(if T.needs i=[] then T.needs i++(if 3≤0 then T.setups i else[]) else[])=[]
 split
 ·rename_i h;rw[h];rfl
 ·rfl
structure Grown(T:TT)(st:St)(k:Nat)(d1:Nd)(l:List Nat)(s3:St):Prop where
 self:s3.nd k=some (cq st d1 l)
 old:∀i di,i≠k→st.nd i=some di→s3.nd i=some (if i∈l∧di.rs.waits=true then{ di with wm:=cU di.wm k } else di)
 new:∀i,i≠k→st.nd i=none→s3.nd i=if i∈l then some { ini i d1.anc T with wm:=[k] } else none
 ord:s3.ord=st.ord++eC st l
 ready:s3.ready=st.ready++eC st l
 wait:s3.wait=st.wait
 ttr:s3.ttr=st.ttr
 cur:s3.cur=st.cur
theorem jeU{l:List Nat}{d1:Nd}(h:k∉l):eC (st.setNd k d1) l=eC st l:=by
 unfold eC
 refine List.filter_congr fun i hi=>?_
 rw[aU,if_neg fun(e:i=k)=>h (by rw[←e];exact hi)]
theorem grown{d1:Nd}{l:List Nat}(hl:l.Nodup)(hk:k∉l):Grown T st k d1 l (grow T k d1.anc l (st.setNd k d1)):=by
 unfold grow
 refine fc (jkq (T:=T) (a:=d1.anc) (st:=st.setNd k d1) hl) fun a1 a2 a3 a4 a5=>?_
 have nd2:∀i,i≠k→(l.foldl (fun s j=>bu T d1.anc j s) (st.setNd k d1)).nd i=if i∈l∧st.nd i=none then some (ini i d1.anc T) else st.nd i:=fun i hi=>by
  rw[jdz,aU,if_neg hi]
 have ndk:(l.foldl (fun s j=>bu T d1.anc j s) (st.setNd k d1)).nd k=some d1:=by
  rw[jdz,if_neg fun q=>hk q.1,aU,if_pos rfl]
 have hne:∀j∈l,j≠k:=fun j hj e=>hk (e▸hj)
 have rs2:∀j∈l,aN (l.foldl (fun s j=>bu T d1.anc j s) (st.setNd k d1)) j=aN st j:=fun j hj=>by
  unfold aN
  rw[nd2 j (hne j hj)]
  cases h:st.nd j with
  |none=>rw[if_pos ⟨hj,rfl⟩];rfl
  |some dj=>rw[if_neg fun q=>by exact Xsn q.2]
 refine dD (jhh (st:=l.foldl (fun s j=>bu T d1.anc j s) (st.setNd k d1)) (l:=l) ndk fun j hj=>⟨hne j hj,by
  rw[nd2 j (hne j hj)]
  cases h:st.nd j with
  |none=>rw[if_pos ⟨hj,rfl⟩];exact Option.some_ne_none _
  |some dj=>rw[if_neg fun q=>by exact Xsn q.2];exact Option.some_ne_none _⟩) fun b1 b2 b3 b4 b5 b6=>?_
 refine⟨?_,fun i di hi hdi=>?_,fun i hi hdi=>?_,?_,?_,?_,?_,?_⟩
 ·rw[b1,if_pos rfl]
  congr 1
  unfold cq
  have f1:(l.filter fun j=>decide (aN (l.foldl (fun s j=>bu T d1.anc j s) (st.setNd k d1)) j=.fail))=l.filter fun j=>decide (aN st j=.fail):=List.filter_congr fun i hi=>by rw[rs2 i hi]
  have f2:(l.filter fun j=>decide (aN (l.foldl (fun s j=>bu T d1.anc j s) (st.setNd k d1)) j=.ign))=l.filter fun j=>decide (aN st j=.ign):=List.filter_congr fun i hi=>by rw[rs2 i hi]
  rw[f1,f2]
  rw[List.filter_congr fun i hi=>by rw[rs2 i hi]]
 ·rw[b1,if_neg hi]
  have e2:(l.foldl (fun s j=>bu T d1.anc j s) (st.setNd k d1)).nd i=some di:=by rw[nd2 i hi,if_neg fun q=>by rw[hdi] at q;exact Xsn q.2];exact hdi
  rw[ba e2,e2]
  split<;>rfl
 ·rw[b1,if_neg hi]
  have e2:=nd2 i hi
  rw[hdi] at e2
  by_cases q:i∈l
  ·rw[if_pos ⟨q,rfl⟩] at e2
   rw[ba e2,e2,if_pos ⟨q,rfl⟩,if_pos q];rfl
  ·rw[if_neg fun z=>q z.1] at e2
   rw[e2,if_neg fun z=>q z.1,if_neg q]
 ·rw[b2,a1,jeU hk];rfl
 ·rw[b4,a2,jeU hk];rfl
 ·rw[b3,a3];rfl
 ·rw[b5,a4];rfl
 ·rw[b6,a5];rfl
end
end
section
section
variable {T:TT}{A:Nat→Prop}{sel:List Nat}{st st':St}{k i:Nat}{d d':Nd}
theorem J.expand(t:TOK T)(j:J T A sel st)(hd:st.nd k=some d)(hc:st.cur=some k){d1 d4:Nd}{l:List Nat}{s3 st4:St}
  (hl:l.Nodup)(hlk:∀i∈l,i<k∧A i)(g:Grown T st k d1 l s3)(ha1:d1.anc=d.anc)
  (n4:st4.nd=(s3.setNd k d4).nd)(o4:st4.ord=s3.ord)(r4:st4.ready=s3.ready)(t4:st4.ttr=s3.ttr)
  (hw:∀i,i≠k→(i∈st4.wait↔i∈st.wait))(wn:st4.wait.Nodup)(hcu:∀i,i≠k→st4.cur≠some i)
  (dep0:∀i∈dl T k d,(aN st i).waits=false)
  (etd:d4.td=[])(edl:dl T k d4=dl T k d++l)
  (ebad:d4.bad=d.bad++l.filter fun j=>decide (aN st j=.fail))(eign:d4.ign=d.ign++l.filter fun j=>decide (aN st j=.ign))
  (ewr:d4.wr=cV [] (l.filter fun j=>(aN st j).waits))(ewm:d4.wm=d.wm)(eanc:d4.anc=d.anc)(ers:d4.rs=d.rs)
  (fin:1≤d4.ph→∀i∈T.needs k,(aN st i).waits=false)(shp:jdh T k d4)(wait:k∈st4.wait↔(d4.wr≠[]∨d4.ws=true))
  (act:d4.wr=[]→(d4.ph=0∨(d4.ph=2∧d4.rs=.run)∨d4.ph=3)→st4.cur=some k)(one:d4.ph=1→T.setups k≠[]→st4.cur=some k)(cur:st4.cur=some k→d4.wr=[]∧d4.ws=false) :
  J T A sel st4:=by
 have x:=j.ni k d hd
 have hkl:k∉l:=fun h=>Nat.lt_irrefl k (hlk k h).1
 have n4':∀i,st4.nd i=if i=k then some d4 else s3.nd i:=fun i=>by rw[n4];rfl
 have nk:st4.nd k=some d4:=by rw[n4',if_pos rfl]
 have dwr:d.wr=[]:=(x.cur hc).1
 have kr:k∉st.ready:=fun h=>(x.rdy h).2.2.1 hc
 have mwr:∀i,i∈d4.wr↔i∈l∧(aN st i).waits=true:=fun i=>by
  rw[ewr,jfC,List.mem_filter];simp
 have oldn:∀i di,i≠k→st.nd i=some di→st4.nd i=some (if i∈l∧di.rs.waits=true then{ di with wm:=cU di.wm k } else di):=fun i di hi h=>by rw[n4',if_neg hi];exact g.old i di hi h
 have newn:∀i,i≠k→st.nd i=none→st4.nd i=if i∈l then some { ini i d.anc T with wm:=[k] } else none:=fun i hi h=>by rw[n4',if_neg hi,←ha1];exact g.new i hi h
 have ex:∀i,st4.nd i≠none↔(st.nd i≠none∨i∈l):=fun i=>by
  by_cases e:i=k
  ·subst e;rw[nk,hd];simp
  ·cases h:st.nd i with
   |none=>
    rw[newn i e h]
    by_cases q:i∈l
    ·simp[q]
    ·simp[q]
   |some di=>rw[oldn i di e h];simp
 have rs4:∀i,i≠k→aN st4 i=aN st i:=fun i hi=>by
  cases h:st.nd i with
  |none=>
   rw[jaX h]
   have:=newn i hi h
   by_cases q:i∈l
   ·rw[if_pos q] at this;rw[ba this];rfl
   ·rw[if_neg q] at this;rw[jaX this]
  |some di=>
   rw[ba h,ba (oldn i di hi h)]
   split<;>rfl
 have rs4w:∀i,(aN st4 i).w=(aN st i).w:=fun i=>by
  by_cases e:i=k
  ·subst e;rw[ba nk,ba hd,ers]
  ·rw[rs4 i e]
 have wrs:∀w i,w≠k→((∃dw,st4.nd w=some dw∧i∈dw.wr)↔∃dw,st.nd w=some dw∧i∈dw.wr):=fun w i hwk=>by
  cases h:st.nd w with
  |none=>
   have e:=newn w hwk h
   constructor
   ·intro zp1;refine Zxa zp1 fun dw h1 h2=>?_
    rw[e] at h1
    split at h1
    ·obtain rfl:=qa1 h1;exact Xnm h2
    ·exact Xns h1
   ·intro zp2;refine Zxa zp2 fun dw h1 _=>?_;exact Xns h1
  |some dw=>
   have e:=oldn w dw hwk h
   constructor
   ·intro zp3;refine Zxa zp3 fun dw' h1 h2=>?_
    rw[e] at h1
    obtain rfl:=qa1 h1
    refine⟨dw,rfl,?_⟩
    split at h2<;>exact h2
   ·intro zp4;refine Zxa zp4 fun dw' h1 h2=>?_
    obtain rfl:=qa1 h1
    refine⟨_,e,?_⟩
    split<;>exact h2
 have mready:∀i,i∈st4.ready↔i∈st.ready∨(i∈l∧st.nd i=none):=fun i=>by rw[r4,g.ready,List.mem_append,mem_newOf]
 have ltk:∀i∈dl T k d,i≠k:=fun i hi e=>by have:=jey t i hi;exact Nat.not_le_of_lt this (qa3 e.symm)
 have ltl:∀i∈l,i≠k:=fun i hi e=>hkl (e▸hi)
 have f4:∀(r:RS),(dl T k d4).filter (fun i=>decide (aN st4 i=r))=(dl T k d).filter (fun i=>decide (aN st i=r))++l.filter fun i=>decide (aN st i=r):=fun r=>by
  rw[edl,List.filter_append]
  congr 1
  ·exact List.filter_congr fun i hi=>by rw[rs4 i (ltk i hi)]
  ·exact List.filter_congr fun i hi=>by rw[rs4 i (ltl i hi)]
 refine⟨⟨fun i=>?_,?_,fun i hi=>?_⟩,fun i di hi=>?_,?_,fun i hi=>?_,wn,fun i hi=>?_,fun i hi=>?_,?_,fun i hi=>?_⟩
 ·rw[o4,g.ord,List.mem_append,mem_newOf,ex,j.wo.ord]
  constructor
  ·rintro (h|h)
   ·exact .inl h
   ·exact .inr h.1
  ·rintro (h|h)
   ·exact .inl h
   ·by_cases q:st.nd i=none
    ·exact .inr ⟨h,q⟩
    ·exact .inl q
 ·rw[o4,g.ord,List.nodup_append]
  refine⟨j.wo.nodup,hl.filter _,fun a ha b hb e=>?_⟩
  subst e
  exact(j.wo.ord a).mp ha (mem_newOf.mp hb).2
 ·rw[o4,g.ord] at hi
  rcases List.mem_append.mp hi with h|h
  ·exact j.wo.lt i h
  ·have:=(hlk i (mem_newOf.mp h).1).1
   exact Nat.lt_trans this x.lt
 ·by_cases e:i=k
  ·subst e
   rw[nk] at hi;obtain rfl:=qa1 hi
   refine⟨x.lt,x.al,.inl etd,fun a ha=>?_,fun a ha=>?_,?_,?_,?_,?_,fun hq w=>?_,?_,fun h=>⟨etd,fun a ha=>?_⟩,shp,wait,fun h1 h2=>.inr (act h1 h2),one,fun h=>?_,cur⟩
   ·rw[edl] at ha
    have hai:a≠i:=by
     rcases List.mem_append.mp ha with h|h
     ·exact ltk a h
     ·exact ltl a h
    rw[ex,rs4 a hai,mwr]
    rcases List.mem_append.mp ha with h|h
    ·refine⟨.inl (x.dep a h).1,?_⟩
     rw[dep0 a h];simp
    ·exact⟨.inr h,by simp[h]⟩
   ·rw[edl];exact List.mem_append_right _ ((mwr a).mp ha).1
   ·rw[ewr];exact jhg .nil
   ·rw[f4,ebad];exact x.bad.append_right _
   ·rw[f4,eign];exact x.ign.append_right _
   ·rw[ewm];exact x.wmn
   ·rw[ewm,x.wm (ers▸hq) w]
    by_cases ew:w=i
    ·subst ew
     rw[hd,nk]
     constructor
     ·intro zp5;refine Zxa zp5 fun dw h1 h2=>?_;obtain rfl:=qa1 h1;rw[dwr] at h2;exact Xnm h2
     ·intro zp6;refine Zxa zp6 fun dw h1 h2=>?_;obtain rfl:=qa1 h1;exact absurd ((mwr w).mp h2).1 hkl
    ·exact(wrs w i ew).symm
   ·rw[eanc];exact x.anc
   ·rw[rs4 a fun e=>by have:=t.needs i a ha;exact Nat.not_le_of_lt this (qa3 e.symm)];exact fin h a ha
   ·rcases (mready i).mp h with h|h
    ·exact absurd h kr
    ·exact absurd h.1 hkl
  ·cases h:st.nd i with
   |none=>
    have e1:=newn i e h
    rw[hi] at e1
    by_cases q:i∈l
    ·rw[if_pos q] at e1
     obtain rfl:=qa1 e1
     refine Za (hlk i q) fun hik hai=>?_
     have hwi:i∉st4.wait:=fun z=>j.wtx i ((hw i e).mp z) h
     refine⟨Nat.lt_trans hik x.lt,hai,.inr ⟨rfl,rfl,rfl,rfl,rfl⟩,fun a ha=>?_,fun a ha=>?_,.nil,?_,?_,⟨by simp,fun w hw=>?_⟩,fun hq w=>?_,⟨?_,fun a ha=>?_⟩,fun hp=>absurd hp (by show¬ (1≤0);decide),.inl ⟨rfl,rfl,rfl⟩,?_,fun _ _=>.inl ((mready i).mpr (.inr ⟨q,h⟩)),fun hp=>absurd hp (by show¬ (0=1);decide),fun _=>⟨rfl,rfl,hcu i e,by show(0:Nat)≠1;decide,by show(0:Nat)≠4;decide⟩,fun hq=>absurd hq (hcu i e)⟩
     ·rw[jfp] at ha;exact Xnm ha
     ·exact Xnm ha
     ·rw[jfp];exact .nil
     ·rw[jfp];exact .nil
     ·rw[List.mem_singleton] at hw;rw[hw];exact x.lt
     ·rw[List.mem_singleton]
      constructor
      ·intro e;subst e;exact⟨d4,nk,(mwr i).mpr ⟨q,by rw[jaX h];rfl⟩⟩
      ·intro z
       by_cases ew:w=k
       ·exact ew
       ·refine Zxa ((wrs w i ew).mp z) fun dw h1 h2=>?_
        have:=j.ni w dw h1
        exact absurd h (this.dep i (this.wrd i h2)).1
     ·exact ja2 x.anc.1 fun z=>by have:=(x.anc.2 i z).1;exact Nat.not_le_of_lt hik this
     ·have:a∈d.anc++[i]:=ha
      rcases List.mem_append.mp this with z|z
      ·have:=x.anc.2 a z;exact⟨(Nat.le_of_lt (Nat.lt_of_lt_of_le hik this.1)),this.2⟩
      ·rw[List.mem_singleton] at z;subst z;exact⟨qa9 _,Nat.lt_trans hik x.lt⟩
     ·show i∈st4.wait↔(([]:List Nat)≠[]∨false=true)
      simp[hwi]
    ·rw[if_neg q] at e1;exact Xsn e1
   |some dio=>
    have xi:=j.ni i dio h
    have e1:=oldn i dio e h
    rw[hi] at e1
    obtain rfl:=qa1 e1
    refine xi.keep (fun a ha=>(ex a).mpr (.inl ha)) (fun a _=>rs4w a) (hw i e) ?_ ?_ ?_ ?_ fun hq w=>?_
    ·rw[mready]
     constructor
     ·rintro (z|z)
      ·exact z
      ·rw[h] at z;exact Xsn z.2
     ·exact .inl
    ·rw[hc]
     constructor
     ·intro z;exact absurd z (hcu i e)
     ·intro z;obtain rfl:=qa1 z;exact absurd rfl e
    ·split<;>rfl
    ·split
     ·refine⟨jcN xi.wmn.1,fun w hw=>?_⟩
      rcases mem_insL.mp hw with z|z
      ·exact xi.wmn.2 w z
      ·rw[z];exact x.lt
     ·exact xi.wmn
    ·by_cases ew:w=k
     ·subst ew
      have lhs:w∈dio.wm↔False:=by
       rw[xi.wm hq w,hd]
       simp[dwr]
      rw[nk]
      have rhs:(∃dw,some d4=some dw∧i∈dw.wr)↔i∈d4.wr:=⟨fun zp7=>by refine Zxa zp7 fun dw h1 h2=>?_;obtain rfl:=qa1 h1;exact h2,fun h=>⟨d4,rfl,h⟩⟩
      rw[rhs,mwr,ba h]
      by_cases z:i∈l∧dio.rs.waits=true
      ·rw[if_pos z]
       constructor
       ·intro _;exact z
       ·intro _;exact mem_insL.mpr (.inr rfl)
      ·rw[if_neg z]
       rw[lhs]
       constructor
       ·exact False.elim
       ·exact z
     ·rw[wrs w i ew,←xi.wm hq w]
      split
      ·show w∈cU dio.wm k↔_
       rw[mem_insL]
       constructor
       ·rintro (z|z)
        ·exact z
        ·exact absurd z ew
       ·exact .inl
      ·exact Iff.rfl
 ·rw[r4,g.ready,List.nodup_append]
  refine⟨j.rdn,hl.filter _,fun a ha b hb e=>?_⟩
  subst e
  exact j.rdx a ha (mem_newOf.mp hb).2
 ·rw[ex]
  rcases (mready i).mp hi with h|h
  ·exact .inl (j.rdx i h)
  ·exact .inr h.1
 ·rw[ex]
  by_cases e:i=k
  ·subst e;rw[hd];simp
  ·exact .inl (j.wtx i ((hw i e).mp hi))
 ·rw[ex]
  by_cases e:i=k
  ·subst e;rw[hd];simp
  ·exact absurd hi (hcu i e)
 ·rw[t4,g.ttr];exact j.ttr
 ·rw[ex,t4,g.ttr]
  rcases j.sel i hi with h|h
  ·exact .inl (.inl h)
  ·exact .inr h
end
end
section
section
variable {T:TT}{A:Nat→Prop}{sel:List Nat}{st st':St}{k i:Nat}{d d':Nd}
theorem NI.self{d4:Nd}{st4:St}(t:TOK T)(x:NI T A st k d)(hd:st.nd k=some d)(n4:∀i,st4.nd i=if i=k then some d4 else st.nd i)(e:d4={ d with ph:=d4.ph,ws:=d4.ws,rs:=d4.rs })(edl:dl T k d4=dl T k d)(htd:d.td=[]∨d4.ph=d.ph)
  (hrs:d4.rs.waits=true→d.rs.waits=true)(fin:1≤d4.ph→d.td=[]∧∀j∈T.needs k,(aN st j).waits=false)(shp:jdh T k d4)(wait:k∈st4.wait↔(d4.wr≠[]∨d4.ws=true))
  (act:d4.wr=[]→(d4.ph=0∨(d4.ph=2∧d4.rs=.run)∨d4.ph=3)→k∈st4.ready∨st4.cur=some k)(one:d4.ph=1→T.setups k≠[]→st4.cur=some k)
  (rdy:k∈st4.ready→d4.wr=[]∧d4.ws=false∧st4.cur≠some k∧d4.ph≠1∧d4.ph≠4)(cur:st4.cur=some k→d4.wr=[]∧d4.ws=false):NI T A st4 k d4:=by
 have e1:d4.td=d.td:=by rw[e]
 have e3:d4.wr=d.wr:=by rw[e]
 have e4:d4.bad=d.bad:=by rw[e]
 have e5:d4.ign=d.ign:=by rw[e]
 have e7:d4.anc=d.anc:=by rw[e]
 have e9:d4.wm=d.wm:=by rw[e]
 have rs4:∀i,i≠k→aN st4 i=aN st i:=fun i hi=>by unfold aN;rw[n4,if_neg hi]
 have ltk:∀i∈dl T k d,i≠k:=fun i hi e=>by have:=jey t i hi;exact Nat.not_le_of_lt this (qa3 e.symm)
 refine⟨x.lt,x.al,?_,fun j hj=>?_,fun j hj=>?_,?_,?_,?_,?_,fun h w=>?_,?_,fun h=>⟨?_,fun j hj=>?_⟩,shp,wait,act,one,rdy,cur⟩
 ·rw[e1,e3,e4,e5]
  rcases htd with h|h
  ·exact .inl h
  ·rw[h];exact x.td
 ·rw[edl] at hj
  refine Za (x.dep j hj) fun a b=>?_
  rw[e3,rs4 j (ltk j hj),n4,if_neg (ltk j hj)]
  exact⟨a,b⟩
 ·rw[edl];rw[e3] at hj;exact x.wrd j hj
 ·rw[e3];exact x.wrn
 ·rw[edl,e4]
  exact x.bad.trans (List.Perm.of_eq (List.filter_congr fun j hj=>by rw[rs4 j (ltk j hj)]))
 ·rw[edl,e5]
  exact x.ign.trans (List.Perm.of_eq (List.filter_congr fun j hj=>by rw[rs4 j (ltk j hj)]))
 ·rw[e9];exact x.wmn
 ·rw[e9,x.wm (hrs h) w,n4]
  by_cases ew:w=k
  ·subst ew
   rw[if_pos rfl,hd]
   constructor
   ·intro zp1;refine Zxa zp1 fun dw h1 h2=>?_;obtain rfl:=qa1 h1;exact⟨d4,rfl,by rw[e3];exact h2⟩
   ·intro zp2;refine Zxa zp2 fun dw h1 h2=>?_;obtain rfl:=qa1 h1;exact⟨d,rfl,by rw[e3] at h2;exact h2⟩
  ·rw[if_neg ew]
 ·rw[e7];exact x.anc
 ·rw[e1];exact(fin h).1
 ·rw[rs4 j fun e=>by have:=t.needs k j hj;exact Nat.not_le_of_lt this (qa3 e.symm)];exact(fin h).2 j hj
theorem J.self{d4:Nd}{st4:St}(t:TOK T)(j:J T A sel st)(hd:st.nd k=some d)(n4:st4.nd=(st.setNd k d4).nd)(o4:st4.ord=st.ord)(t4:st4.ttr=st.ttr)(e:d4={ d with ph:=d4.ph,ws:=d4.ws,rs:=d4.rs })
  (hrw:d4.rs.w=d.rs.w)(hw:∀i,i≠k→(i∈st4.wait↔i∈st.wait))(hr:∀i,i≠k→(i∈st4.ready↔i∈st.ready))(hc:∀i,i≠k→(st4.cur=some i↔st.cur=some i))(rn:st4.ready.Nodup)(wn:st4.wait.Nodup)
  (edl:dl T k d4=dl T k d)(htd:d.td=[]∨d4.ph=d.ph)(fin:1≤d4.ph→d.td=[]∧∀j∈T.needs k,(aN st j).waits=false)(shp:jdh T k d4)(wait:k∈st4.wait↔(d4.wr≠[]∨d4.ws=true))
  (act:d4.wr=[]→(d4.ph=0∨(d4.ph=2∧d4.rs=.run)∨d4.ph=3)→k∈st4.ready∨st4.cur=some k)(one:d4.ph=1→T.setups k≠[]→st4.cur=some k)
  (rdy:k∈st4.ready→d4.wr=[]∧d4.ws=false∧st4.cur≠some k∧d4.ph≠1∧d4.ph≠4)(cur:st4.cur=some k→d4.wr=[]∧d4.ws=false):J T A sel st4:=by
 refine j.one hd n4 o4 t4 (fun i=>?_) hrw hw hr hc rn wn ((j.ni k d hd).self t hd (fun i=>by rw[n4];rfl) e edl htd (fun h=>?_) fin shp wait act one rdy cur)
 ·rw[e]
 ·rw[RS.w_waits hrw] at h;exact h
theorem J.fresh(j:J T A sel st)(hc:st.cur=none)(hk:k<T.n)(ha:A k)(hn:st.nd k=none){tt:List Nat}(ht:∀i∈tt,i∈st.ttr)(hs:∀i∈sel,st.nd i≠none∨i∈tt∨i=k):J T A sel { mkNd T { st with ttr:=tt } [] k with cur:=some k }:=by
 have n4:∀i,({ mkNd T { st with ttr:=tt } [] k with cur:=some k }:St).nd i=if i=k then some (ini k [] T) else st.nd i:=fun i=>rfl
 have hkr:k∉st.ready:=fun h=>j.rdx k h hn
 have hkw:k∉st.wait:=fun h=>j.wtx k h hn
 have wo:=j.wo.mk' hk hn (p:=[])
 generalize hst:({ mkNd T { st with ttr:=tt } [] k with cur:=some k }:St)=st4 at n4
 have o4:st4.ord=st.ord++[k]:=by rw[←hst];rfl
 have r4:st4.ready=st.ready:=by rw[←hst];rfl
 have w4:st4.wait=st.wait:=by rw[←hst];rfl
 have c4:st4.cur=some k:=by rw[←hst]
 have t4:st4.ttr=tt:=by rw[←hst];rfl
 have nk:st4.nd k=some (ini k [] T):=by rw[n4,if_pos rfl]
 have ex:∀i,st4.nd i≠none↔(st.nd i≠none∨i=k):=fun i=>by
  rw[n4]
  by_cases e:i=k
  ·subst e;simp
  ·rw[if_neg e];simp[e]
 have rs4:∀i,aN st4 i=aN st i:=fun i=>by
  by_cases e:i=k
  ·subst e;rw[ba nk,jaX hn];rfl
  ·unfold aN;rw[n4,if_neg e]
 have dli:dl T k (ini k [] T)=[]:=jfp (i:=k) (a:=[]) (b:=[])
 refine⟨⟨fun i=>?_,?_,fun i hi=>?_⟩,fun i di hi=>?_,?_,fun i hi=>?_,?_,fun i hi=>?_,fun i hi=>?_,fun i hi=>?_,fun i hi=>?_⟩
 ·rw[o4,ex,List.mem_append,j.wo.ord];simp
 ·rw[o4];exact ja2 j.wo.nodup fun h=>(j.wo.ord k).mp h hn
 ·rw[o4] at hi
  rcases List.mem_append.mp hi with h|h
  ·exact j.wo.lt i h
  ·rw[List.mem_singleton.mp h];exact hk
 ·by_cases e:i=k
  ·subst e
   rw[nk] at hi;obtain rfl:=qa1 hi
   refine⟨hk,ha,.inr ⟨rfl,rfl,rfl,rfl,rfl⟩,fun a ha=>?_,fun a ha=>(Xnm ha),.nil,?_,?_,⟨.nil,fun a ha=>(Xnm ha)⟩,fun hq w=>?_,⟨?_,fun a ha=>?_⟩,fun hp=>absurd hp (by show¬ (1≤0);decide),.inl ⟨rfl,rfl,rfl⟩,?_,fun _ _=>.inr c4,fun _ _=>c4,fun h=>?_,fun _=>⟨rfl,rfl⟩⟩
   ·rw[dli] at ha;exact Xnm ha
   ·rw[dli];exact .nil
   ·rw[dli];exact .nil
   ·show w∈[]↔_
    rw[n4]
    constructor
    ·intro h;exact Xnm h
    ·intro zp3;refine Zxa zp3 fun dw h1 h2=>?_
     by_cases ew:w=i
     ·rw[if_pos ew] at h1;obtain rfl:=qa1 h1;exact Xnm h2
     ·rw[if_neg ew] at h1
      have xw:=j.ni w dw h1
      exact absurd hn (xw.dep i (xw.wrd i h2)).1
   ·show([]++[i]).Nodup;simp
   ·have:a∈[]++[i]:=ha
    simp at this;subst this;exact⟨qa9 _,hk⟩
   ·rw[w4]
    show i∈st.wait↔(([]:List Nat)≠[]∨false=true)
    simp[hkw]
   ·rw[r4] at h;exact absurd h hkr
  ·rw[n4,if_neg e] at hi
   have xi:=j.ni i di hi
   refine xi.keep (fun a ha=>(ex a).mpr (.inl ha)) (fun a _=>by rw[rs4]) (by rw[w4]) (by rw[r4]) ?_ rfl xi.wmn fun hq w=>?_
   ·rw[c4,hc]
    constructor
    ·intro z;obtain rfl:=qa1 z;exact absurd rfl e
    ·intro z;exact Xns z
   ·rw[xi.wm hq w,n4]
    by_cases ew:w=k
    ·subst ew
     rw[if_pos rfl,hn]
     constructor
     ·intro zp4;refine Zxa zp4 fun dw h1 h2=>?_;exact Xns h1
     ·intro zp5;refine Zxa zp5 fun dw h1 h2=>?_;obtain rfl:=qa1 h1;exact Xnm h2
    ·rw[if_neg ew]
 ·rw[r4];exact j.rdn
 ·rw[r4] at hi;rw[ex];exact .inl (j.rdx i hi)
 ·rw[w4];exact j.wtn
 ·rw[w4] at hi;rw[ex];exact .inl (j.wtx i hi)
 ·rw[c4] at hi;obtain rfl:=qa1 hi;rw[ex];exact .inr rfl
 ·rw[t4] at hi;exact j.ttr i (ht i hi)
 ·rw[ex,t4]
  rcases hs i hi with h|h|h
  ·exact .inl (.inl h)
  ·exact .inr h
  ·exact .inl (.inr h)
theorem J.setTtr(j:J T A sel st){tt:List Nat}(ht:∀i∈tt,i∈st.ttr)(hs:∀i∈sel,st.nd i≠none∨i∈tt):J T A sel { st with ttr:=tt }:=
 ⟨⟨j.wo.ord,j.wo.nodup,j.wo.lt⟩,fun i di hi=>(j.ni i di hi).keep (fun _ h=>h) (fun _ _=>rfl) Iff.rfl Iff.rfl Iff.rfl rfl (j.ni i di hi).wmn (j.ni i di hi).wm,j.rdn,j.rdx,j.wtn,j.wtx,j.crx,fun i hi=>j.ttr i (ht i hi),hs⟩
end
end
section
inductive LS where
 |no|reached|first|asked|second|ended
 deriving DecidableEq
noncomputable def Nd.ls(d:Nd):LS:=if d.rs.waits then(if d.rs=.run then(if d.ph=4 then .second else .asked) else if d.ph=0 then .reached else .first) else .ended
noncomputable def dI(st:St)(k:Nat):LS:=match st.nd k with
 |some d=>d.ls
 |none=>.reached
noncomputable def mu(T:TT)(st:St):Nat:=2*(T.n - st.ord.length)+st.ready.length+(if st.cur.isSome then 1 else 0)
noncomputable def Same(st st':St):Prop:=∀i,dI st' i=dI st i∧aN st' i=aN st i
theorem Same.refl(st:St):Same st st:=fun _=>⟨rfl,rfl⟩
theorem Same.trans{a b c:St}(x:Same a b)(y:Same b c):Same a c:=fun i=>⟨(y i).1.trans (x i).1,(y i).2.trans (x i).2⟩
theorem Same.nd{a b:St}(h:b.nd=a.nd):Same a b:=fun i=>by unfold dI aN;rw[h];exact⟨rfl,rfl⟩
theorem cx{st:St}{k:Nat}{d:Nd}(e:st.nd k=some d):dI st k=d.ls:=by unfold dI;rw[e]
theorem jcx{st:St}{k:Nat}(e:st.nd k=none):dI st k=.reached:=by unfold dI;rw[e]
section
variable {T:TT}{A:Nat→Prop}{sel:List Nat}{st st':St}{k i:Nat}{d d':Nd}
theorem Same.fresh(hn:st.nd k=none){a b:List Nat}(h:∀i,st'.nd i=if i=k then some { ini k a T with wm:=b } else st.nd i):Same st st':=fun i=>by
 unfold dI aN
 rw[h]
 by_cases e:i=k
 ·subst e;rw[if_pos rfl,hn];exact⟨rfl,rfl⟩
 ·rw[if_neg e];exact⟨rfl,rfl⟩
theorem jid(f:Nat):∀(st:St),st.ttr.length<f→J T A sel st→st.cur=none→
  ((bC T f st).1=none∧J T A sel (bC T f st).2∧(bC T f st).2.ttr=[]∧(bC T f st).2.nd=st.nd∧(bC T f st).2.ready=st.ready∧(bC T f st).2.cur=none∧(bC T f st).2.ord=st.ord)∨
  (∃k,(bC T f st).1=some k∧J T A sel { (bC T f st).2 with cur:=some k }∧st.nd k=none∧(∀i,(bC T f st).2.nd i=if i=k then some (ini k [] T) else st.nd i)∧(bC T f st).2.ready=st.ready∧(bC T f st).2.ord=st.ord++[k]):=by
 induction f with
 |zero=>
  intro st h _ _
  exact absurd h (Nat.not_lt_zero _)
 |succ f ih=>
  intro st h j hc
  rcases List.eq_nil_or_concat st.ttr with hnil|⟨l,k,hlk⟩
  ·have e:bC T (f+1) st=(none,st):=by unfold bC;rw[hnil];rfl
   rw[e]
   exact .inl ⟨rfl,j,hnil,rfl,rfl,hc,rfl⟩
  ·have hgl:st.ttr.getLast?=some k:=by rw[hlk];simp
   have hdl:st.ttr.dropLast=l:=by rw[hlk];simp
   have hsub:∀i∈l,i∈st.ttr:=fun i hi=>by rw[hlk];simp[hi]
   have hk:=j.ttr k (by rw[hlk];simp)
   cases hn:st.nd k with
   |some dk=>
    have e:bC T (f+1) st=bC T f { st with ttr:=l }:=by
     rw[bC,hgl]
     dsimp only
     rw[hn,hdl]
    rw[e]
    have hlen:l.length<f:=by
     have:st.ttr.length=l.length+1:=by rw[hlk];simp
     exact Nk2 1 0 1 1 1 0 (qa3 this.symm) h rfl
    refine ih { st with ttr:=l } hlen (j.setTtr hsub fun i hi=>?_) hc
    rcases j.sel i hi with z|z
    ·exact .inl z
    ·rw[hlk] at z
     simp only[List.concat_eq_append,List.mem_append,List.mem_singleton] at z
     rcases z with z|z
     ·exact .inr z
     ·subst z;left;rw[hn];exact Option.some_ne_none _
   |none=>
    have e:bC T (f+1) st=(some k,mkNd T { st with ttr:=l } [] k):=by
     rw[bC,hgl]
     dsimp only
     rw[hn,hdl]
    rw[e]
    refine .inr ⟨k,rfl,j.fresh hc hk.1 hk.2 hn hsub fun i hi=>?_,hn,fun i=>rfl,rfl,rfl⟩
    rcases j.sel i hi with z|z
    ·exact .inl z
    ·rw[hlk] at z
     simp only[List.concat_eq_append,List.mem_append,List.mem_singleton] at z
     exact .inr z
theorem J.pop(t:TOK T)(j:J T A sel st)(hc:st.cur=none){r:List Nat}(hr:st.ready=k::r):J T A sel { st with ready:=r,cur:=some k }:=by
 have hkr:k∈st.ready:=by rw[hr];exact qa4
 have rn:=j.rdn
 rw[hr] at rn
 refine Za (List.nodup_cons.mp rn) fun n1 n2=>?_
 refine Zx (Option.ne_none_iff_exists'.mp (j.rdx k hkr)) fun d hd=>?_
 have x:=j.ni k d hd
 refine eS (x.rdy hkr) fun y1 y2 y3 y4=>?_
 refine j.self (d4:=d) t hd ?_ rfl rfl rfl rfl (fun _ _=>Iff.rfl) (fun i hi=>?_) (fun i hi=>?_) n2 j.wtn rfl (.inr rfl) x.fin x.shp x.wait (fun _ _=>.inr rfl) (fun _ _=>rfl) (fun h=>absurd h n1) fun _=>⟨y1,y2⟩
 ·show st.nd=_;rw[St.setNd_self hd]
 ·show i∈r↔i∈st.ready
  rw[hr,List.mem_cons];simp[hi]
 ·show some k=some i↔st.cur=some i
  rw[hc]
  constructor
  ·intro z;obtain rfl:=qa1 z;exact absurd rfl hi
  ·intro z;exact Xns z
structure Picked(T:TT)(A:Nat→Prop)(sel:List Nat)(st:St)(r:Option Nat×St):Prop where
 j:J T A sel r.2
 same:Same st r.2
 mu:mu T r.2≤mu T st
 none:r.1=none→r.2.ready=[]∧r.2.ttr=[]∧r.2.cur=none
 some:∀k,r.1=some k→r.2.cur=some k∧∃d,r.2.nd k=some d
theorem J.picked(t:TOK T)(j:J T A sel st):Picked T A sel st (bW T st):=by
 cases hc:st.cur with
 |some k=>
  have e:bW T st=(some k,st):=by unfold bW;rw[hc]
  rw[e]
  refine⟨j,.refl _,qa9 _,fun h=>(Xsn h),fun i hi=>?_⟩
  obtain rfl:=qa1 hi
  exact⟨hc,Option.ne_none_iff_exists'.mp (j.crx k hc)⟩
 |none=>
  have e:bW T st=((bM T st).1,{ (bM T st).2 with cur:=(bM T st).1 }):=by unfold bW;rw[hc]
  rw[e]
  cases hr:st.ready with
  |cons k r=>
   have eg:bM T st=(some k,{ st with ready:=r }):=by unfold bM;rw[hr]
   rw[eg]
   have hkr:k∈st.ready:=by rw[hr];exact qa4
   refine⟨j.pop t hc hr,.nd rfl,?_,fun h=>(Xsn h),fun i hi=>?_⟩
   ·unfold Mini.mu
    rw[hc,hr]
    simp
    exact qa9 _
   ·obtain rfl:=qa1 hi
    exact⟨rfl,Option.ne_none_iff_exists'.mp (j.rdx k hkr)⟩
  |nil=>
   have eg:bM T st=bC T (st.ttr.length+1) st:=by unfold bM;rw[hr]
   rw[eg]
   rcases jid (st.ttr.length+1) st (Nat.lt_succ_self _) j hc with⟨a1,a2,a3,a4,a5,a6,a7⟩|⟨k,a1,a2,a3,a4,a5,a6⟩
   ·rw[a1]
    have ec:({ (bC T (st.ttr.length+1) st).2 with cur:=none }:St)=(bC T (st.ttr.length+1) st).2:=by
     rw[←a6]
    refine⟨by dsimp only;rw[ec];exact a2,.nd a4,?_,fun _=>⟨a5.trans hr,a3,rfl⟩,fun i hi=>(Xns hi)⟩
    unfold Mini.mu
    dsimp only
    rw[a7,a5,hc]
    exact qa9 _
   ·rw[a1]
    refine⟨a2,.fresh (T:=T) (a:=[]) (b:=[]) a3 a4,?_,fun h=>(Xsn h),fun i hi=>?_⟩
    ·unfold Mini.mu
     dsimp only
     rw[a6,a5,hc,hr]
     have hb:st.ord.length<T.n:=by
      have h1:=bG a2.wo.nodup a2.wo.lt
      have:({ (bC T (st.ttr.length+1) st).2 with cur:=some k }:St).ord=st.ord++[k]:=a6
      rw[this] at h1
      simp at h1
      exact h1
     simp
     omega
    ·obtain rfl:=qa1 hi
     exact⟨rfl,ini k [] T,by show(bC T _ st).2.nd k=_;rw[a4,if_pos rfl]⟩
theorem J.pickOK(t:TOK T)(j:J T A sel st):jdr T st:=by
 have p:=j.picked t
 exact⟨j.wo,fun k hk=>(j.ttr k hk).1,j.rdx,j.crx,fun k hk=>⟨(p.some k hk).1,by refine Zx ((p.some k hk).2) fun d hd=>?_;rw[hd];exact Option.some_ne_none _⟩⟩
end
end
section
section
variable {T:TT}{A:Nat→Prop}{sel:List Nat}{st st':St}{k i:Nat}{d d':Nd}
theorem jiF(t:TOK T):(dl T k d).length≤16:=by
 unfold dl
 have a:=t.ln k
 have b:=t.ls k
 split
 ·split<;>simp<;>omega
 ·exact Nat.zero_le _
theorem J.addOK(t:TOK T)(j:J T A sel st)(hd:st.nd k=some d):AddOK T st k d:=by
 have x:=j.ni k d hd
 have tn:=t.n
 have hlt:=x.lt
 have anc:∀i,i<k→i∉d.anc:=fun i hi h=>by have:=(x.anc.2 i h).1;exact Nat.not_le_of_lt hi this
 have ancl:d.anc.length≤T.n:=bG x.anc.1 fun a ha=>(x.anc.2 a ha).2
 have wrl:d.wr.length≤T.n:=bG x.wrn fun a ha=>by have:=jey t a (x.wrd a ha);exact Nat.lt_trans this hlt
 have rl:st.ready.length≤T.n:=bG j.rdn fun a ha=>j.lt (j.rdx a ha)
 have hdl:=jiF (k:=k) (d:=d) t
 have tdn:∀i∈d.td,i∈T.needs k:=fun i hi=>by
  rcases x.td with h|h
  ·rw[h] at hi;exact Xnm hi
  ·rw[h.1] at hi;exact hi
 refine⟨j.wo,x.lt,hd,fun i hi=>?_,?_,?_,fun i hi=>anc i (t.setups k i hi),fun i di hi=>?_,(Nk2 0 0 0 8 1 900 ancl tn rfl),(Nk2 0 0 0 8 1 800 rl tn rfl),?_,?_,(Nk2 0 0 0 8 1 700 wrl tn rfl)⟩
 ·have:=t.needs k i (tdn i hi)
  exact⟨(Nat.lt_trans this hlt),anc i this,(qa7 this)⟩
 ·rcases x.td with h|h
  ·rw[h];exact .nil
  ·rw[h.1];exact t.nn k
 ·rcases x.td with h|h
  ·rw[h];exact Nat.zero_le _
  ·rw[h.1];exact t.ln k
 ·have xi:=j.ni i di hi
  have:=bG xi.wmn.1 xi.wmn.2
  exact Nk2 0 0 0 8 1 900 this tn rfl
 ·rw[x.bad.length_eq]
  have:=List.length_filter_le (fun j=>decide (aN st j=.fail)) (dl T k d)
  exact Nk2 0 0 0 16 1 700 this hdl rfl
 ·rw[x.ign.length_eq]
  have:=List.length_filter_le (fun j=>decide (aN st j=.ign)) (dl T k d)
  exact Nk2 0 0 0 16 1 700 this hdl rfl
theorem Grown.same{d1:Nd}{l:List Nat}{s3:St}(g:Grown T st k d1 l s3):∀i,i≠k→dI s3 i=dI st i∧aN s3 i=aN st i:=fun i hi=>by
 cases h:st.nd i with
 |none=>
  have:=g.new i hi h
  by_cases q:i∈l
  ·rw[if_pos q] at this
   rw[cx this,ba this,jcx h,jaX h];exact⟨rfl,rfl⟩
  ·rw[if_neg q] at this
   rw[jcx this,jaX this,jcx h,jaX h];exact⟨rfl,rfl⟩
 |some di=>
  have:=g.old i di hi h
  rw[cx this,ba this,cx h,ba h]
  split<;>exact⟨rfl,rfl⟩
noncomputable def SameBut(k:Nat)(st st':St):Prop:=∀i,i≠k→dI st' i=dI st i∧aN st' i=aN st i
theorem SameBut.setNd{d4:Nd}(h:SameBut k st st'):SameBut k st (st'.setNd k d4):=fun i hi=>by
 have:=h i hi
 unfold dI aN at this ⊢
 rw[aU,if_neg hi];exact this
theorem SameBut.all(h:SameBut k st st')(hd:st.nd k=some d)(hd':st'.nd k=some d')(e:d'.rs=d.rs)(e2:d'.ls=d.ls):Same st st':=fun i=>by
 by_cases q:i=k
 ·subst q;rw[cx hd',cx hd,ba hd',ba hd];exact⟨e2,e⟩
 ·exact h i q
theorem jgY{d1:Nd}{l:List Nat}{s3:St}(g:Grown T st k d1 l s3)(hc:st.cur=some k)(hb:s3.ord.length≤T.n){w:List Nat}:mu T { s3 with wait:=w,cur:=none }<mu T st:=by
 unfold mu
 rw[g.ord] at hb
 rw[hc]
 show 2*(T.n - s3.ord.length)+s3.ready.length+0<_
 rw[g.ord,g.ready]
 simp at hb ⊢
 omega
structure jgz(T:TT)(A:Nat→Prop)(sel:List Nat)(st:St)(k:Nat)(d:Nd)(r:Step×St):Prop where
 isN:r.1=.none→J T A sel { r.2 with cur:=none }∧Same st { r.2 with cur:=none }∧mu T { r.2 with cur:=none }<mu T st
 isW:r.1=.wait→J T A sel { r.2 with wait:=cU r.2.wait k,cur:=none }∧Same st { r.2 with wait:=cU r.2.wait k,cur:=none }∧mu T { r.2 with wait:=cU r.2.wait k,cur:=none }<mu T st∧r.2.cur=some k∧(∃d',r.2.nd k=some d')∧r.2.wait.length<900
 isT:r.1=.task→J T A sel r.2∧SameBut k st r.2∧aN r.2 k=aN st k∧r.2.cur=some k∧∃d',r.2.nd k=some d'∧((d.ls=.reached∧d'.ls=.first∧d'.ph=1)∨(d.ls=.asked∧d'.ls=.second∧d'.ph=4))
theorem J.noCur(t:TOK T)(j:J T A sel st)(hd:st.nd k=some d)(hc:st.cur=some k){d4:Nd}(e:d4={ d with ph:=d4.ph,ws:=d4.ws,rs:=d4.rs })(ers:d4.rs=d.rs)(ews:d4.ws=false)(els:d4.ls=d.ls)(edl:dl T k d4=dl T k d)(htd:d.td=[]∨d4.ph=d.ph)
  (fin:1≤d4.ph→d.td=[]∧∀j∈T.needs k,(aN st j).waits=false)(shp:jdh T k d4)(h0:d4.ph≠0∧d4.ph≠3∧(d4.ph=2→d4.rs≠.run)∧(d4.ph=1→T.setups k=[])):jgz T A sel st k d (.none,st.setNd k d4):=by
 have x:=j.ni k d hd
 refine Za (x.cur hc) fun wr ws=>?_
 have ewr:d4.wr=[]:=by rw[e];exact wr
 refine⟨fun _=>⟨?_,?_,?_⟩,fun h=>(Step.noConfusion h),fun h=>(Step.noConfusion h)⟩
 ·refine j.self (d4:=d4) (st4:={ st.setNd k d4 with cur:=none }) t hd rfl rfl rfl e (by rw[ers]) (fun _ _=>Iff.rfl) (fun _ _=>Iff.rfl) (fun i hi=>?_) j.rdn j.wtn edl htd fin shp ?_ (fun _ h=>?_) (fun h1 h2=>absurd (h0.2.2.2 h1) h2) (fun h=>absurd hc (x.rdy h).2.2.1) fun h=>(Xns h)
  ·show Option.none=some i↔st.cur=some i
   rw[hc]
   constructor
   ·intro z;exact Xns z
   ·intro z;obtain rfl:=qa1 z;exact absurd rfl hi
  ·show k∈st.wait↔_
   rw[x.wait,ewr,ews,wr,ws]
  ·rcases h with h|h|h
   ·exact absurd h h0.1
   ·exact absurd h.2 (h0.2.2.1 h.1)
   ·exact absurd h h0.2.1
 ·refine SameBut.all (k:=k) (d:=d) (d':=d4) (fun i hi=>?_) hd (by show(if k=k then _ else _)=_;rw[if_pos rfl]) ers els
  unfold dI aN
  show(match (if i=k then some d4 else st.nd i) with|some d=>d.ls|Option.none=>.reached)=_∧(match (if i=k then some d4 else st.nd i) with|some d=>d.rs|Option.none=>.none)=_
  rw[if_neg hi];exact⟨rfl,rfl⟩
 ·unfold mu
  rw[hc]
  show 2*(T.n - st.ord.length)+st.ready.length+0<_
  exact qa9 _
theorem jdT:SameBut k st (st.setNd k d):=fun i hi=>by
 unfold dI aN
 rw[aU,if_neg hi];exact⟨rfl,rfl⟩
theorem J.giveSelf(t:TOK T)(j:J T A sel st)(hd:st.nd k=some d)(hc:st.cur=some k){d4:Nd}(e:d4={ d with ph:=d4.ph,ws:=d4.ws,rs:=d4.rs })(ers:d4.rs=d.rs)(ews:d4.ws=false)(edl:dl T k d4=dl T k d)(htd:d.td=[])
  (fin:∀j∈T.needs k,(aN st j).waits=false)(shp:jdh T k d4)(h:(d.ls=.reached∧d4.ls=.first∧d4.ph=1)∨(d.ls=.asked∧d4.ls=.second∧d4.ph=4)):jgz T A sel st k d (.task,st.setNd k d4):=by
 have x:=j.ni k d hd
 refine Za (x.cur hc) fun wr ws=>?_
 have ewr:d4.wr=[]:=by rw[e];exact wr
 have nk:(st.setNd k d4).nd k=some d4:=by rw[aU,if_pos rfl]
 refine⟨fun h=>(Step.noConfusion h),fun h=>(Step.noConfusion h),fun _=>⟨?_,jdT,?_,hc,d4,nk,h⟩⟩
 ·refine j.self (d4:=d4) (st4:=st.setNd k d4) t hd rfl rfl rfl e (by rw[ers]) (fun _ _=>Iff.rfl) (fun _ _=>Iff.rfl) (fun _ _=>Iff.rfl) j.rdn j.wtn edl (.inl htd) (fun _=>⟨htd,fin⟩) shp ?_ (fun _ _=>.inr hc) (fun _ _=>hc) (fun h=>absurd hc (x.rdy h).2.2.1) fun _=>⟨ewr,ews⟩
  show k∈st.wait↔_
  rw[x.wait,ewr,ews,wr,ws]
 ·rw[ba nk,ba hd,ers]
theorem ls_ph{d4:Nd}(e:d4.rs=d.rs)(h:d.rs=.run)(p:d.ph≠4)(p4:d4.ph≠4):d4.ls=d.ls∧d.ls=.asked:=by
 unfold Nd.ls
 rw[e,h]
 simp[RS.waits,p,p4]
theorem J.after2(t:TOK T)(j:J T A sel st)(hd:st.nd k=some d)(hc:st.cur=some k)(hs:T.setups k≠[])(hp:d.ph=1∨d.ph=2)(hal:d.rs=.run→∀i∈T.setups k,A i)(hrs:d.rs≠.none):jgz T A sel st k d (after2 T k { d with ph:=2 } (st.setNd k { d with ph:=2 })):=by
 have x:=j.ni k d hd
 refine Za (x.cur hc) fun wr ws=>?_
 have hp1:1≤d.ph:=hp.elim (fun z4=>(qa3 z4.symm)) fun z4=>(Nat.le_of_lt (qa3 z4.symm))
 refine Za (x.fin hp1) fun htd fin=>?_
 have edl:∀d4:Nd,d4.td=d.td→d4.ph<3→dl T k d4=dl T k d:=fun d4 h1 h2=>by
  unfold dl
  rw[h1,if_pos htd,if_pos htd,if_neg (show¬ 3≤d4.ph by omega),if_neg (show¬ 3≤d.ph by omega)]
 unfold Mini.after2
 by_cases hr:d.rs=.run
 ·rw[if_pos hr]
  have g:=grown (T:=T) (st:=st) (k:=k) (d1:={ d with ph:=2 }) (l:=T.setups k) (t.ns k) fun h=>Nat.lt_irrefl k (t.setups k k h)
  have ep:jbA T k { d with ph:=2 } (st.setNd k { d with ph:=2 })=grow T k d.anc (T.setups k) (st.setNd k { d with ph:=2 }):=rfl
  rw[ep]
  have g':Grown T st k { d with ph:=2 } (T.setups k) (grow T k d.anc (T.setups k) (st.setNd k { d with ph:=2 })):=g
  generalize grow T k d.anc (T.setups k) (st.setNd k { d with ph:=2 })=s3 at g'
  rw[g'.self]
  dsimp only
  have base:dl T k d=T.needs k:=by unfold dl;rw[if_pos htd,if_neg (hp.elim (fun z4=>(Nat.not_le_of_lt (Nk1 0 1 1 3 (qa3 z4) rfl))) fun z4=>(Nat.not_le_of_lt (Nk1 0 2 1 3 (qa3 z4) rfl)))];exact List.append_nil _
  have dep0:∀i∈dl T k d,(aN st i).waits=false:=fun i hi=>by rw[base] at hi;exact fin i hi
  have dls:∀d4:Nd,d4.td=d.td→3≤d4.ph→dl T k d4=dl T k d++T.setups k:=fun d4 h1 h2=>by
   rw[base];unfold dl;rw[h1,if_pos htd,if_pos h2]
  have hb:s3.ord.length≤T.n:=by
   rw[g'.ord,List.length_append]
   have:=bG (n:=T.n) (l:=st.ord++eC st (T.setups k)) (by
    rw[List.nodup_append]
    refine⟨j.wo.nodup,(t.ns k).filter _,fun a ha b hb e=>?_⟩
    subst e
    exact(j.wo.ord a).mp ha (mem_newOf.mp hb).2) fun a ha=>by
     rcases List.mem_append.mp ha with h|h
     ·exact j.wo.lt a h
     ·have:=t.setups k a (mem_newOf.mp h).1
      exact Nat.lt_trans this x.lt
   rw[List.length_append] at this
   exact this
  have ewr0:(cq st { d with ph:=2 } (T.setups k)).wr=cV [] ((T.setups k).filter fun j=>(aN st j).waits):=by
   show cV d.wr _=_
   rw[wr]
  have hw0:k∉st.wait:=fun h=>by
   rcases x.wait.mp h with z|z
   ·exact z wr
   ·rw[ws] at z;exact Xft z
  cases hwe:(cq st { d with ph:=2 } (T.setups k)).wr.isEmpty with
  |true=>
   have hwe':(cq st { d with ph:=2 } (T.setups k)).wr=[]:=List.isEmpty_iff.mp hwe
   rw[if_pos rfl]
   have e3:Mini.after3 k (s3.setNd k { cq st { d with ph:=2 } (T.setups k) with ph:=3 })=(.task,s3.setNd k { cq st { d with ph:=2 } (T.setups k) with ph:=4 }):=by
    unfold Mini.after3
    rw[aU,if_pos rfl]
    dsimp only
    rw[jbS]
   rw[e3]
   have nk:(s3.setNd k { cq st { d with ph:=2 } (T.setups k) with ph:=4 }).nd k=some { cq st { d with ph:=2 } (T.setups k) with ph:=4 }:=by rw[aU,if_pos rfl]
   refine⟨fun h=>(Step.noConfusion h),fun h=>(Step.noConfusion h),fun _=>⟨?_,SameBut.setNd g'.same,?_,g'.cur.trans hc,_,nk,.inr ⟨?_,?_,rfl⟩⟩⟩
   ·have ec:(s3.setNd k { cq st { d with ph:=2 } (T.setups k) with ph:=4 }).cur=some k:=g'.cur.trans hc
    have ew:(s3.setNd k { cq st { d with ph:=2 } (T.setups k) with ph:=4 }).wait=st.wait:=g'.wait
    refine j.expand t hd hc (t.ns k) (fun i hi=>⟨t.setups k i hi,hal hr i hi⟩) g' rfl (d4:={ cq st { d with ph:=2 } (T.setups k) with ph:=4 }) rfl rfl rfl rfl (fun i _=>by rw[ew]) (by rw[ew];exact j.wtn) (fun i hi=>?_) dep0 htd
     (dls _ rfl (by show 3≤4;decide)) rfl rfl ewr0 rfl rfl rfl (fun _=>fin) ?_ ?_ (fun _ _=>ec) (fun _ _=>ec) fun _=>⟨hwe',ws⟩
    ·rw[ec];intro z;obtain rfl:=qa1 z;exact hi rfl
    ·exact .inr (.inr (.inr (.inr ⟨rfl,ws,hwe',hs,hrs⟩)))
    ·rw[ew]
     show k∈st.wait↔((cq st { d with ph:=2 } (T.setups k)).wr≠[]∨d.ws=true)
     rw[hwe',ws];simp[hw0]
   ·rw[ba nk,ba hd];rfl
   ·unfold Nd.ls
    rw[hr]
    have:d.ph≠4:=hp.elim (fun z4=>(qa7 (Nk1 0 1 1 4 (qa3 z4) rfl))) fun z4=>(qa7 (Nk1 0 2 1 4 (qa3 z4) rfl))
    simp[RS.waits,this]
   ·unfold Nd.ls
    show(if d.rs.waits=true then(if d.rs=.run then(if 4=4 then LS.second else .asked) else _) else _)=_
    rw[hr];rfl
  |false=>
   have hwe':(cq st { d with ph:=2 } (T.setups k)).wr≠[]:=fun h=>by rw[h] at hwe;exact Xtf hwe
   rw[if_neg (by decide)]
   have nk:(s3.setNd k { cq st { d with ph:=2 } (T.setups k) with ph:=3 }).nd k=some { cq st { d with ph:=2 } (T.setups k) with ph:=3 }:=by rw[aU,if_pos rfl]
   have ew:(s3.setNd k { cq st { d with ph:=2 } (T.setups k) with ph:=3 }).wait=st.wait:=g'.wait
   refine⟨fun h=>(Step.noConfusion h),fun _=>⟨?_,?_,?_,g'.cur.trans hc,⟨_,nk⟩,?_⟩,fun h=>(Step.noConfusion h)⟩
   ·refine j.expand t hd hc (t.ns k) (fun i hi=>⟨t.setups k i hi,hal hr i hi⟩) g' rfl (d4:={ cq st { d with ph:=2 } (T.setups k) with ph:=3 }) rfl rfl rfl rfl (fun i hi=>?_) ?_ (fun i hi h=>(Xns h)) dep0 htd
     (dls _ rfl (by show 3≤3;decide)) rfl rfl ewr0 rfl rfl rfl (fun _=>fin) ?_ ?_ (fun h _=>absurd h hwe') (fun h=>absurd h (by show¬ (3=1);decide)) fun h=>(Xns h)
    ·show i∈cU _ k↔_
     rw[ew,mem_insL];simp[hi]
    ·show(cU _ k).Nodup
     rw[ew];exact jcN j.wtn
    ·exact .inr (.inr (.inr (.inl ⟨rfl,ws,hs,hr⟩)))
    ·show k∈cU _ k↔_
     exact⟨fun _=>.inl hwe',fun _=>mem_insL.mpr (.inr rfl)⟩
   ·have lq:=ls_ph (d:=d) (d4:={ cq st { d with ph:=2 } (T.setups k) with ph:=3 }) rfl hr (hp.elim (fun z4=>(qa7 (Nk1 0 1 1 4 (qa3 z4) rfl))) fun z4=>(qa7 (Nk1 0 2 1 4 (qa3 z4) rfl))) (by show(3:Nat)≠4;decide)
    exact SameBut.all (k:=k) (d:=d) (d':={ cq st { d with ph:=2 } (T.setups k) with ph:=3 }) (SameBut.setNd (st':=s3) g'.same) hd nk rfl lq.1
   ·exact jgY g' hc hb (w:=[])
   ·rw[ew]
    have:=bG j.wtn fun a ha=>j.lt (j.wtx a ha)
    have:=t.n
    exact Nk2 0 0 0 8 1 900 (by assumption) this rfl
 ·rw[if_neg (show¬ (({ d with ph:=2 }:Nd).rs=.run) from hr)]
  refine j.noCur t hd hc (d4:={ d with ph:=2 }) rfl rfl ws ?_ (edl _ rfl (by show 2<3;decide)) (.inl htd) (fun _=>⟨htd,fin⟩) (.inr (.inr (.inl ⟨rfl,wr,hs,?_⟩))) ⟨by show(2:Nat)≠0;decide,by show(2:Nat)≠3;decide,fun _=>hr,fun h=>absurd h (by show¬ (2=1);decide)⟩
  ·unfold Nd.ls
   have:d.rs.waits=false:=by cases h:d.rs<;>first|rfl|exact absurd h hr|exact absurd h hrs
   simp[this]
  ·show d.ws=true↔d.rs=.none
   simp[ws,hrs]
end
end
section
structure AL(T:TT)(A:Nat→Prop)(st:St):Prop where
 needs:∀k,A k→∀i∈T.needs k,A i
 setups:∀k,aN st k=.run→∀i∈T.setups k,A i
section
variable {T:TT}{A:Nat→Prop}{sel:List Nat}{st st':St}{k i:Nat}{d d':Nd}
theorem AL.same(a:AL T A st)(s:Same st st'):AL T A st':=⟨a.needs,fun k h=>a.setups k (by rw[←(s k).2];exact h)⟩
theorem jia(hd:st.nd k=some d)(h:d.td=[]):dX T k d st=st:=by
 have e:st.setNd k { d with td:=[] }=st:=by rw[←h];exact St.setNd_self hd
 unfold dX
 rw[h,e]
 show jdg k [] st=st
 unfold jdg
 rw[hd]
 exact St.setNd_self hd
theorem J.add(t:TOK T)(j:J T A sel st)(hd:st.nd k=some d)(hc:st.cur=some k)(al:AL T A st):jgz T A sel st k d (aM T k st):=by
 have x:=j.ni k d hd
 refine Za (x.cur hc) fun wr ws=>?_
 have hw0:k∉st.wait:=fun h=>by
  rcases x.wait.mp h with z|z
  ·exact z wr
  ·rw[ws] at z;exact Xft z
 have shp:=x.shp
 by_cases h0:d.ph=0
 ·have ea:aM T k st=eQ k (dX T k d st):=by unfold aM;rw[hd];dsimp only;rw[if_pos h0]
  rw[ea]
  have hrs:d.rs=.none:=by
   rcases shp with z|z|z|z|z
   ·exact z.2.1
   ·exact False.elim (Nat.not_le_of_lt (qa3 z.1.symm) (qa3 h0))
   ·exact False.elim (Nk3 0 0 2 0 (qa3 h0) (qa3 z.1.symm) rfl)
   ·exact False.elim (Nk3 0 0 3 0 (qa3 h0) (qa3 z.1.symm) rfl)
   ·exact False.elim (Nk3 0 0 4 0 (qa3 h0) (qa3 z.1.symm) rfl)
  have lsr:d.ls=.reached:=by unfold Nd.ls;rw[hrs,h0];rfl
  have giveL:∀d4:Nd,d4.rs=d.rs→d4.ph=1→d4.ls=.first:=fun d4 h1 h2=>by unfold Nd.ls;rw[h1,hrs,h2];rfl
  by_cases htd:d.td=[]
  ·rw[jia hd htd]
   have e0:eQ k st=(.task,st.setNd k { d with ph:=1 }):=by unfold eQ;rw[hd];dsimp only;rw[wr];rfl
   rw[e0]
   have base:dl T k d=T.needs k:=by unfold dl;rw[if_pos htd,if_neg (Nat.not_le_of_lt (Nk1 0 0 1 3 (qa3 h0) rfl))];exact List.append_nil _
   have fin:∀j∈T.needs k,(aN st j).waits=false:=fun a ha=>by
    have:=(x.dep a (by rw[base];exact ha)).2
    rw[wr] at this
    cases hq:(aN st a).waits with
    |false=>rfl
    |true=>exact absurd (this.mpr hq) (fun h=>nomatch h)
   refine j.giveSelf t hd hc (d4:={ d with ph:=1 }) rfl rfl ws ?_ htd fin (.inr (.inl ⟨rfl,ws,wr,fun h=>?_⟩)) (.inl ⟨lsr,giveL _ rfl rfl,rfl⟩)
   ·rw[base];unfold dl;dsimp only;rw[if_pos htd];exact List.append_nil _
   ·rw[hrs] at h;exact RS.noConfusion h
  ·have hn:d.td=T.needs k∧d.ph=0∧d.wr=[]∧d.bad=[]∧d.ign=[]:=x.td.resolve_left htd
   refine fc hn fun n1 _ _ n2 n3=>?_
   have ep:dX T k d st=grow T k d.anc (T.needs k) (st.setNd k { d with td:=[] }):=by unfold dX grow;rw[n1]
   rw[ep]
   have g:=grown (T:=T) (st:=st) (k:=k) (d1:={ d with td:=[] }) (l:=T.needs k) (t.nn k) fun h=>Nat.lt_irrefl k (t.needs k k h)
   have g':Grown T st k { d with td:=[] } (T.needs k) (grow T k d.anc (T.needs k) (st.setNd k { d with td:=[] })):=g
   generalize grow T k d.anc (T.needs k) (st.setNd k { d with td:=[] })=s3 at g'
   have base:dl T k d=[]:=by unfold dl;rw[if_neg htd]
   have dls:∀d4:Nd,d4.td=[]→d4.ph<3→dl T k d4=dl T k d++T.needs k:=fun d4 h1 h2=>by
    rw[base];unfold dl;rw[if_pos h1,if_neg (Nat.not_le_of_lt h2)];exact List.append_nil _
   have dep0:∀i∈dl T k d,(aN st i).waits=false:=fun i hi=>by rw[base] at hi;exact Xnm hi
   have hb:s3.ord.length≤T.n:=by
    rw[g'.ord,List.length_append]
    have:=bG (n:=T.n) (l:=st.ord++eC st (T.needs k)) (by
     rw[List.nodup_append]
     refine⟨j.wo.nodup,(t.nn k).filter _,fun a ha b hb e=>?_⟩
     subst e
     exact(j.wo.ord a).mp ha (mem_newOf.mp hb).2) fun a ha=>by
      rcases List.mem_append.mp ha with h|h
      ·exact j.wo.lt a h
      ·have:=t.needs k a (mem_newOf.mp h).1
       exact Nat.lt_trans this x.lt
    rw[List.length_append] at this
    exact this
   have ewr0:(cq st { d with td:=[] } (T.needs k)).wr=cV [] ((T.needs k).filter fun j=>(aN st j).waits):=by
    show cV d.wr _=_
    rw[wr]
   unfold eQ
   rw[g'.self]
   dsimp only
   cases hwe:(cq st { d with td:=[] } (T.needs k)).wr.isEmpty with
   |true=>
    have hwe':(cq st { d with td:=[] } (T.needs k)).wr=[]:=List.isEmpty_iff.mp hwe
    rw[if_pos rfl]
    have nk:(s3.setNd k { cq st { d with td:=[] } (T.needs k) with ph:=1 }).nd k=some { cq st { d with td:=[] } (T.needs k) with ph:=1 }:=by rw[aU,if_pos rfl]
    refine⟨fun h=>(Step.noConfusion h),fun h=>(Step.noConfusion h),fun _=>⟨?_,SameBut.setNd g'.same,?_,g'.cur.trans hc,_,nk,.inl ⟨lsr,giveL _ rfl rfl,rfl⟩⟩⟩
    ·have ec:(s3.setNd k { cq st { d with td:=[] } (T.needs k) with ph:=1 }).cur=some k:=g'.cur.trans hc
     have ew:(s3.setNd k { cq st { d with td:=[] } (T.needs k) with ph:=1 }).wait=st.wait:=g'.wait
     refine j.expand t hd hc (t.nn k) (fun i hi=>⟨t.needs k i hi,al.needs k x.al i hi⟩) g' rfl (d4:={ cq st { d with td:=[] } (T.needs k) with ph:=1 }) rfl rfl rfl rfl (fun i _=>by rw[ew]) (by rw[ew];exact j.wtn) (fun i hi=>?_) dep0 rfl
      (dls _ rfl (by show 1<3;decide)) rfl rfl ewr0 rfl rfl rfl (fun _ a ha=>?_) ?_ ?_ (fun _ _=>ec) (fun _ _=>ec) fun _=>⟨hwe',ws⟩
     ·rw[ec];intro z;obtain rfl:=qa1 z;exact hi rfl
     ·cases hq:(aN st a).waits with
      |false=>rfl
      |true=>
       have:a∈(cq st { d with td:=[] } (T.needs k)).wr:=by rw[ewr0,jfC,List.mem_filter];exact .inr ⟨ha,hq⟩
       rw[hwe'] at this;exact Xnm this
     ·exact .inr (.inl ⟨rfl,ws,hwe',fun h=>by
       have:d.rs=.run:=h
       rw[hrs] at this;exact RS.noConfusion this⟩)
     ·rw[ew]
      show k∈st.wait↔((cq st { d with td:=[] } (T.needs k)).wr≠[]∨d.ws=true)
      rw[hwe',ws];simp[hw0]
    ·rw[ba nk,ba hd];rfl
   |false=>
    have hwe':(cq st { d with td:=[] } (T.needs k)).wr≠[]:=fun h=>by rw[h] at hwe;exact Xtf hwe
    rw[if_neg (by decide)]
    have es:s3.setNd k (cq st { d with td:=[] } (T.needs k))=s3:=St.setNd_self g'.self
    refine⟨fun h=>(Step.noConfusion h),fun _=>⟨?_,?_,?_,g'.cur.trans hc,⟨_,g'.self⟩,?_⟩,fun h=>(Step.noConfusion h)⟩
    ·refine j.expand t hd hc (t.nn k) (fun i hi=>⟨t.needs k i hi,al.needs k x.al i hi⟩) g' rfl (d4:=cq st { d with td:=[] } (T.needs k)) (by rw[es]) rfl rfl rfl (fun i hi=>?_) ?_ (fun i hi h=>(Xns h)) dep0 rfl
      (dls _ rfl (by show d.ph<3;exact Nk1 0 0 1 3 (qa3 h0) rfl)) rfl rfl ewr0 rfl rfl rfl (fun h=>absurd h (by show¬ (1≤d.ph);exact Nat.not_le_of_lt (Nk1 0 0 1 1 (qa3 h0) rfl))) (.inl ⟨h0,hrs,ws⟩) ?_ (fun h _=>absurd h hwe') (fun h=>absurd h (by show¬ (d.ph=1);exact qa7 (Nk1 0 0 1 1 (qa3 h0) rfl))) fun h=>(Xns h)
     ·show i∈cU _ k↔_
      rw[g'.wait,mem_insL];simp[hi]
     ·show(cU _ k).Nodup
      rw[g'.wait];exact jcN j.wtn
     ·show k∈cU _ k↔_
      exact⟨fun _=>.inl hwe',fun _=>mem_insL.mpr (.inr rfl)⟩
    ·exact SameBut.all (k:=k) (d:=d) (d':=cq st { d with td:=[] } (T.needs k)) (fun i hi=>g'.same i hi) hd g'.self rfl rfl
    ·exact jgY g' hc hb (w:=[])
    ·show s3.wait.length<900
     rw[g'.wait]
     have:=bG j.wtn fun a ha=>j.lt (j.wtx a ha)
     have:=t.n
     exact Nk2 0 0 0 8 1 900 (by assumption) this rfl
 ·refine Za (x.fin (Nat.pos_of_ne_zero h0)) fun htd fin=>?_
  have stay:∀b:Bool,st.setNd k d=st:=fun _=>St.setNd_self hd
  by_cases hs:T.setups k=[]
  ·have ea:aM T k st=(.none,st):=by unfold aM;rw[hd];dsimp only;rw[if_neg h0,hs];rfl
   rw[ea]
   have:=j.noCur t hd hc (d4:=d) rfl rfl ws rfl rfl (.inr rfl) x.fin shp ?_
   ·rw[St.setNd_self hd] at this;exact this
   ·rcases shp with z|z|z|z|z
    ·exact False.elim (h0 z.1)
    ·exact⟨h0,(qa7 (Nk1 0 1 1 3 (qa3 z.1) rfl)),fun h=>False.elim (Nk3 0 1 2 0 (qa3 z.1) (qa3 h.symm) rfl),fun _=>hs⟩
    ·exact absurd hs z.2.2.1
    ·exact absurd hs z.2.2.1
    ·exact absurd hs z.2.2.2.1
  ·have hs':¬ (T.setups k).isEmpty=true:=fun h=>hs (List.isEmpty_iff.mp h)
   by_cases h1:d.ph=1
   ·by_cases hr:d.rs=.none
    ·have ea:aM T k st=(.wait,st.setNd k { d with ph:=2,ws:=true }):=by unfold aM;rw[hd];dsimp only;rw[if_neg h0,if_neg hs',if_pos h1,if_pos hr]
     rw[ea]
     have nk:(st.setNd k { d with ph:=2,ws:=true }).nd k=some { d with ph:=2,ws:=true }:=by rw[aU,if_pos rfl]
     refine⟨fun h=>(Step.noConfusion h),fun _=>⟨?_,?_,?_,hc,⟨_,nk⟩,?_⟩,fun h=>(Step.noConfusion h)⟩
     ·refine j.self (d4:={ d with ph:=2,ws:=true }) t hd rfl rfl rfl rfl rfl (fun i hi=>?_) (fun _ _=>Iff.rfl) (fun i hi=>?_) j.rdn ?_ ?_ (.inl htd) (fun _=>⟨htd,fin⟩) (.inr (.inr (.inl ⟨rfl,wr,hs,by show true=true↔d.rs=.none;simp[hr]⟩))) ?_ (fun _ h=>?_) (fun h=>absurd h (by show¬ (2=1);decide)) (fun h=>absurd hc (x.rdy h).2.2.1) fun h=>(Xns h)
      ·show i∈cU _ k↔_
       rw[mem_insL];simp[hi];rfl
      ·show Option.none=some i↔st.cur=some i
       rw[hc]
       constructor
       ·intro z;exact Xns z
       ·intro z;obtain rfl:=qa1 z;exact absurd rfl hi
      ·exact jcN j.wtn
      ·unfold dl;dsimp only;rw[if_pos htd,if_pos htd,if_neg (by decide),if_neg (show¬ 3≤d.ph by omega)]
      ·exact⟨fun _=>.inr rfl,fun _=>mem_insL.mpr (.inr rfl)⟩
      ·rcases h with h|h|h
       ·exact absurd h (by show¬ (2=0);decide)
       ·have:=h.2;rw[show({ d with ph:=2,ws:=true }:Nd).rs=d.rs from rfl,hr] at this;exact RS.noConfusion this
       ·exact absurd h (by show¬ (2=3);decide)
     ·refine SameBut.all (k:=k) (d:=d) (d':={ d with ph:=2,ws:=true }) (fun i hi=>jdT (d:={ d with ph:=2,ws:=true }) i hi) hd nk rfl ?_
      unfold Nd.ls
      dsimp only
      rw[hr,h1];rfl
     ·unfold mu
      rw[hc]
      show 2*(T.n - st.ord.length)+st.ready.length+0<_
      simp
     ·show st.wait.length<900
      have:=bG j.wtn fun a ha=>j.lt (j.wtx a ha)
      have:=t.n
      exact Nk2 0 0 0 8 1 900 (by assumption) this rfl
    ·have ea:aM T k st=Mini.after2 T k { d with ph:=2 } (st.setNd k { d with ph:=2 }):=by unfold aM;rw[hd];dsimp only;rw[if_neg h0,if_neg hs',if_pos h1,if_neg hr]
     rw[ea]
     exact j.after2 t hd hc hs (.inl h1) (fun h=>al.setups k (by rw[ba hd];exact h)) hr
   ·by_cases h2:d.ph=2
    ·have ed:({ d with ph:=2 }:Nd)=d:=by rw[←h2]
     have ea:aM T k st=Mini.after2 T k { d with ph:=2 } (st.setNd k { d with ph:=2 }):=by unfold aM;rw[hd];dsimp only;rw[if_neg h0,if_neg hs',if_neg h1,if_pos h2,ed,St.setNd_self hd]
     rw[ea]
     refine j.after2 t hd hc hs (.inr h2) (fun h=>al.setups k (by rw[ba hd];exact h)) fun h=>?_
     rcases shp with z|z|z|z|z
     ·exact Nk3 0 0 2 0 (qa3 z.1) (qa3 h2.symm) rfl
     ·exact Nk3 2 0 0 1 (qa3 h2.symm) (qa3 z.1) rfl
     ·have:=z.2.2.2.mpr h;rw[ws] at this;exact Xft this
     ·exact Nk3 0 2 3 0 (qa3 h2) (qa3 z.1.symm) rfl
     ·exact Nk3 0 2 4 0 (qa3 h2) (qa3 z.1.symm) rfl
    ·by_cases h3:d.ph=3
     ·have ea:aM T k st=Mini.after3 k st:=by unfold aM;rw[hd];dsimp only;rw[if_neg h0,if_neg hs',if_neg h1,if_neg h2,if_pos h3]
      have e3:Mini.after3 k st=(.task,st.setNd k { d with ph:=4 }):=by unfold Mini.after3;rw[hd]
      rw[ea,e3]
      have hr:d.rs=.run:=by
       rcases shp with z|z|z|z|z
       ·exact False.elim (Nk3 0 0 3 0 (qa3 z.1) (qa3 h3.symm) rfl)
       ·exact False.elim (Nk3 3 0 0 1 (qa3 h3.symm) (qa3 z.1) rfl)
       ·exact False.elim (Nk3 3 0 0 2 (qa3 h3.symm) (qa3 z.1) rfl)
       ·exact z.2.2.2
       ·exact False.elim (Nk3 0 3 4 0 (qa3 h3) (qa3 z.1.symm) rfl)
      refine j.giveSelf t hd hc (d4:={ d with ph:=4 }) rfl rfl ws ?_ htd fin (.inr (.inr (.inr (.inr ⟨rfl,ws,wr,hs,by show d.rs≠.none;rw[hr];simp⟩)))) (.inr ⟨?_,?_,rfl⟩)
      ·unfold dl;dsimp only;rw[if_pos htd,if_pos htd,if_pos (by decide),if_pos (show 3≤d.ph by omega)]
      ·unfold Nd.ls;rw[hr,h3];rfl
      ·unfold Nd.ls;dsimp only;rw[hr];rfl
     ·have ea:aM T k st=(.none,st):=by unfold aM;rw[hd];dsimp only;rw[if_neg h0,if_neg hs',if_neg h1,if_neg h2,if_neg h3]
      rw[ea]
      have:=j.noCur t hd hc (d4:=d) rfl rfl ws rfl rfl (.inr rfl) x.fin shp ⟨h0,h3,fun h=>absurd h h2,fun h=>absurd h h1⟩
      rw[St.setNd_self hd] at this;exact this
structure Sent(T:TT)(A:Nat→Prop)(sel:List Nat)(st:St)(res:Res)(st':St):Prop where
 runs:Runs T st res st'
 j:J T A sel st'
 idle:(∀k,res≠.give k)→Same st st'∧st'.ready=[]∧st'.ttr=[]∧st'.cur=none∧(res=.hold↔st'.wait≠[])
 give:∀k,res=.give k→SameBut k st st'∧aN st' k=aN st k∧st'.cur=some k∧∃d',st'.nd k=some d'∧((dI st k=.reached∧d'.ls=.first∧d'.ph=1)∨(dI st k=.asked∧d'.ls=.second∧d'.ph=4))
theorem J.sends(t:TOK T)(n:Nat):∀(st:St),mu T st<n→J T A sel st→AL T A st→∃res st',Sent T A sel st res st':=by
 induction n with
 |zero=>
  intro st h _ _
  exact absurd h (Nat.not_lt_zero _)
 |succ n ih=>
  intro st h j al
  have pok:=j.pickOK t
  have p:=j.picked t
  cases hp:(bW T st).1 with
  |none=>
   refine Zaa (p.none hp) fun a1 a2 a3=>?_
   refine⟨_,_,.stop pok hp,p.j,fun _=>⟨p.same,a1,a2,a3,?_⟩,fun k hk=>?_⟩
   ·cases hw:(bW T st).2.wait with
    |nil=>simp
    |cons a l=>simp
   ·split at hk<;>cases hk
  |some k=>
   refine Za (p.some k hp) fun hc zq1=>?_;refine Zx zq1 fun d hd=>?_
   have al1:=al.same p.same
   have ad:=p.j.add t hd hc al1
   have ok:=p.j.addOK t hd
   cases ha:(aM T k (bW T st).2).1 with
   |none=>
    refine Zaa (ad.isN ha) fun b1 b2 b3=>?_
    have hmu:=p.mu
    refine Zxx (ih { (aM T k (bW T st).2).2 with cur:=none } (Nk2 1 0 1 1 1 0 (Nk2 1 0 0 0 1 0 b3 hmu rfl) h rfl) b1 (al1.same b2)) fun res st' s=>?_
    refine⟨res,st',.none (d':=d) pok hp ok ha s.runs,s.j,fun h=>?_,fun i hi=>?_⟩
    ·refine Za (s.idle h) fun c1 c2=>?_
     exact⟨(p.same.trans b2).trans c1,c2⟩
    ·refine jgF (s.give i hi) fun c1 c2 c3 d' c4 c5=>?_
     have sm:=p.same.trans b2
     exact⟨fun a ha=>⟨(c1 a ha).1.trans (sm a).1,(c1 a ha).2.trans (sm a).2⟩,c2.trans (sm i).2,c3,d',c4,by rw[←(sm i).1];exact c5⟩
   |wait=>
    refine dD (ad.isW ha) fun b1 b2 b3 b4 zq1 b6=>?_;refine Zx zq1 fun d' b5=>?_
    have hmu:=p.mu
    refine Zxx (ih { (aM T k (bW T st).2).2 with wait:=cU (aM T k (bW T st).2).2.wait k,cur:=none } (Nk2 1 0 1 1 1 0 (Nk2 1 0 0 0 1 0 b3 hmu rfl) h rfl) b1 (al1.same b2)) fun res st' s=>?_
    refine⟨res,st',.wait (d':=d') pok hp ok ha b4 b5 b6 s.runs,s.j,fun h=>?_,fun i hi=>?_⟩
    ·refine Za (s.idle h) fun c1 c2=>?_
     exact⟨(p.same.trans b2).trans c1,c2⟩
    ·refine jgF (s.give i hi) fun c1 c2 c3 d' c4 c5=>?_
     have sm:=p.same.trans b2
     exact⟨fun a ha=>⟨(c1 a ha).1.trans (sm a).1,(c1 a ha).2.trans (sm a).2⟩,c2.trans (sm i).2,c3,d',c4,by rw[←(sm i).1];exact c5⟩
   |task=>
    refine fc (ad.isT ha) fun b1 b2 b3 b4 zq1=>?_;refine Zxa zq1 fun d' b5 b6=>?_
    refine⟨_,_,.task pok hp ok ha b4 b5,b1,fun h=>absurd rfl (h k),fun i hi=>?_⟩
    cases hi
    refine⟨fun a ha=>⟨(b2 a ha).1.trans (p.same a).1,(b2 a ha).2.trans (p.same a).2⟩,b3.trans (p.same k).2,b4,d',b5,?_⟩
    rw[←(p.same k).1,cx hd];exact b6
end
end
section
section
variable {T:TT}{A:Nat→Prop}{sel:List Nat}{st st':St}{k i p:Nat}{d d':Nd}{r:RS}
noncomputable def updN(p:Nat)(r:RS)(dw:Nd):Nd:={ r.note p dw with wr:=(r.note p dw).wr.erase p }
theorem jdv(r:RS)(dw:Nd):updN p r dw={ dw with bad:=dw.bad++[p].filter fun _=>decide (r=.fail),ign:=dw.ign++[p].filter fun _=>decide (r=.ign),wr:=dw.wr.erase p }:=by
 unfold updN
 cases r<;>simp[RS.note]
noncomputable def dc(p:Nat)(st:St)(l:List Nat):List Nat:=l.filter fun w=>match st.nd w with
 |some dw=>(dw.wr.erase p).isEmpty&&st.wait.contains w
 |none=>false
theorem jjL(l:List Nat):∀(st:St)(dp:Nd),l.Nodup→st.nd p=some dp→(∀w∈l,w≠p∧st.nd w≠none)→
  (∀i,(l.foldl (cQ p) st).nd i=if i∈l then(st.nd i).map (updN p dp.rs) else st.nd i)∧(l.foldl (cQ p) st).ord=st.ord∧(l.foldl (cQ p) st).ttr=st.ttr∧(l.foldl (cQ p) st).cur=st.cur∧
   (l.foldl (cQ p) st).ready=st.ready++dc p st l∧(l.foldl (cQ p) st).wait=st.wait.filter fun j=>!(dc p st l).contains j:=by
 induction l with
 |nil=>
  intro st dp _ _ _
  refine⟨fun i=>rfl,rfl,rfl,rfl,(List.append_nil _).symm,?_⟩
  show st.wait=_
  rw[List.filter_eq_self.mpr]
  intro a _;rfl
 |cons w l ih=>
  intro st dp hn hp hl
  refine Za (List.nodup_cons.mp hn) fun n1 n2=>?_
  refine Za (hl w qa4) fun hwp hw=>?_
  refine Zx (Option.ne_none_iff_exists'.mp hw) fun dw hdw=>?_
  have step:∃s1:St,cQ p st w=s1∧s1.nd=(st.setNd w (updN p dp.rs dw)).nd∧s1.ord=st.ord∧s1.ttr=st.ttr∧s1.cur=st.cur∧s1.ready=st.ready++dc p st [w]∧s1.wait=st.wait.filter fun j=>!(dc p st [w]).contains j:=by
   refine⟨_,rfl,?_⟩
   have nf:(dp.rs.note p dw).wr=dw.wr:=(jfy (p:=p) (r:=dp.rs) (d:=dw)).1
   unfold cQ
   rw[hp,hdw]
   dsimp only
   rw[nf]
   cases hq:((dw.wr.erase p).isEmpty&&st.wait.contains w) with
   |true=>
    have hwk:dc p st [w]=[w]:=by
     unfold dc
     rw[List.filter_cons_of_pos (by rw[hdw];exact hq)];rfl
    rw[if_pos rfl,hwk]
    refine⟨?_,rfl,rfl,rfl,rfl,?_⟩
    ·unfold updN;rw[nf]
    ·show st.wait.filter _=_
     refine List.filter_congr fun j _=>?_
     rw[Bool.eq_iff_iff];simp[List.contains_eq_mem]
   |false=>
    have hwk:dc p st [w]=[]:=by
     unfold dc
     rw[List.filter_cons_of_neg (by rw[hdw];dsimp only;rw[hq];decide)];rfl
    rw[if_neg (by decide),hwk]
    refine⟨?_,rfl,rfl,rfl,?_,?_⟩
    ·unfold updN;rw[nf]
    ·show st.ready=_;exact(List.append_nil _).symm
    ·show st.wait=_
     rw[List.filter_eq_self.mpr]
     intro a _;rfl
  refine jc7 step fun s1 e1 a1 a2 a3 a4 a5 a6=>?_
  rw[List.foldl_cons,e1]
  have nd1:∀i,s1.nd i=if i=w then some (updN p dp.rs dw) else st.nd i:=fun i=>by rw[a1];rfl
  have hp1:s1.nd p=some dp:=by rw[nd1,if_neg (Ne.symm hwp)];exact hp
  refine dD (ih s1 dp n2 hp1 fun i hi=>⟨(hl i (qa2 _ hi)).1,by
   have hiw:i≠w:=fun e=>n1 (e▸hi)
   rw[nd1,if_neg hiw]
   exact(hl i (qa2 _ hi)).2⟩) fun b1 b2 b3 b4 b5 b6=>?_
  have wkl:dc p s1 l=dc p st l:=by
   unfold dc
   refine List.filter_congr fun i hi=>?_
   have hiw:i≠w:=fun e=>n1 (e▸hi)
   rw[nd1,if_neg hiw]
   cases h:st.nd i with
   |none=>rfl
   |some di=>
    dsimp only
    congr 1
    rw[a6]
    have:i∉dc p st [w]:=fun z=>hiw (List.mem_singleton.mp (List.mem_filter.mp z).1)
    rw[Bool.eq_iff_iff]
    simp[List.contains_eq_mem,this]
  have wk:dc p st (w::l)=dc p st [w]++dc p st l:=by
   unfold dc
   rw[←List.filter_append];rfl
  refine⟨fun i=>?_,b2.trans a2,b3.trans a3,b4.trans a4,?_,?_⟩
  ·rw[b1,nd1]
   by_cases e:i=w
   ·subst e
    rw[if_neg n1,if_pos rfl,if_pos qa4,hdw];rfl
   ·rw[if_neg e]
    by_cases m:i∈l
    ·rw[if_pos m,if_pos (qa2 _ m)]
    ·rw[if_neg m,if_neg fun q=>(List.mem_cons.mp q).elim e m]
  ·rw[b5,a5,wkl,wk,List.append_assoc]
  ·rw[b6,a6,wkl,wk,List.filter_filter]
   refine List.filter_congr fun j _=>?_
   simp[List.contains_eq_mem,Bool.not_or,Bool.and_comm]
theorem jjN(t:TOK T)(x:NI T A st i d)(h:p∈dl T i d)(hp:(aN st p).waits=true):(dl T i d).count p=1:=by
 have td:d.td=[]:=by
  cases q:d.td with
  |nil=>rfl
  |cons a l=>unfold dl at h;rw[if_neg (by rw[q];exact List.cons_ne_nil _ _)] at h;exact Xnm h
 unfold dl at h ⊢
 rw[if_pos td] at h ⊢
 by_cases h3:3≤d.ph
 ·rw[if_pos h3] at h ⊢
  have hn:p∉T.needs i:=fun z=>by
   have:=(x.fin (Nk1 3 0 1 0 h3 rfl)).2 p z
   rw[hp] at this;exact Xtf this
  have hs:p∈T.setups i:=(List.mem_append.mp h).resolve_left hn
  rw[List.count_append,List.count_eq_zero_of_not_mem hn,(t.ns i).count,if_pos hs]
 ·rw[if_neg h3,List.append_nil] at h ⊢
  rw[(t.nn i).count,if_pos h]
theorem jga{l b:List Nat}{f g:Nat→Bool}{q:Bool}(hb:b.Perm (l.filter f))(hc:l.count p=1)(hf:f p=false)(hg:∀j,j≠p→g j=f j)(hgp:g p=q):(b++[p].filter fun _=>q).Perm (l.filter g):=by
 rw[List.perm_iff_count]
 intro a
 rw[List.count_append,hb.count_eq]
 by_cases e:a=p
 ·subst e
  have h1:(l.filter f).count a=0:=List.count_eq_zero_of_not_mem fun z=>by rw[List.mem_filter,hf] at z;exact Xft z.2
  rw[h1]
  cases q with
  |true=>
   rw[List.count_filter hgp,hc];simp
  |false=>
   have h2:(l.filter g).count a=0:=List.count_eq_zero_of_not_mem fun z=>by rw[List.mem_filter,hgp] at z;exact Xft z.2
   rw[h2];exact rfl
 ·have h0:([p].filter fun _=>q).count a=0:=List.count_eq_zero_of_not_mem fun z=>e (List.mem_singleton.mp (List.mem_filter.mp z).1)
  rw[h0]
  cases hfa:f a with
  |true=>rw[List.count_filter hfa,List.count_filter (by rw[hg a e];exact hfa)];rfl
  |false=>
   have h1:(l.filter f).count a=0:=List.count_eq_zero_of_not_mem fun z=>by rw[List.mem_filter,hfa] at z;exact Xft z.2
   have h2:(l.filter g).count a=0:=List.count_eq_zero_of_not_mem fun z=>by rw[List.mem_filter,hg a e,hfa] at z;exact Xft z.2
   rw[h1,h2]
end
end
section
section
variable {T:TT}{A:Nat→Prop}{sel:List Nat}{st st':St}{k i p:Nat}{d d':Nd}{r:RS}
theorem J.wmFacts(t:TOK T)(j:J T A sel st)(hd:st.nd p=some d)(hq:d.rs.waits=true):∀w∈d.wm,w≠p∧w<T.n∧∃dw,st.nd w=some dw∧p∈dw.wr∧p∈dl T w dw:=fun w hw=>by
 refine Zxa (((j.ni p d hd).wm hq w).mp hw) fun dw h1 h2=>?_
 have xw:=j.ni w dw h1
 have hdl:=xw.wrd p h2
 have:=jey t p hdl
 exact⟨(qb4 this),xw.lt,dw,h1,h2,hdl⟩
theorem J.updOK(t:TOK T)(j:J T A sel st)(hd:st.nd p=some d)(hq:d.rs.waits=true):jfh T (st.setNd p { d with rs:=r }) p { d with rs:=r }:=by
 have x:=j.ni p d hd
 have tn:=t.n
 have wml:=bG x.wmn.1 x.wmn.2
 have rl:st.ready.length≤T.n:=bG j.rdn fun a ha=>j.lt (j.rdx a ha)
 refine⟨j.wo.setNd hd,x.lt,by rw[aU,if_pos rfl],fun h=>x.wait.mpr (.inr h),?_,fun _=>⟨x.wmn.1,fun w hw=>?_⟩⟩
 ·show st.ready.length+d.wm.length<800
  omega
 ·refine jd' (j.wmFacts t hd hq w hw) fun h1 h2 dw h3 h4 h5=>?_
  have xw:=j.ni w dw h3
  have hdl:=jiF (k:=w) (d:=dw) t
  refine⟨h1,h2,dw,by rw[aU,if_neg h1];exact h3,h4,xw.wrn,?_,?_⟩
  ·rw[xw.bad.length_eq]
   have:=List.length_filter_le (fun j=>decide (aN st j=.fail)) (dl T w dw)
   exact Nk2 0 0 0 16 1 900 this hdl rfl
  ·rw[xw.ign.length_eq]
   have:=List.length_filter_le (fun j=>decide (aN st j=.ign)) (dl T w dw)
   exact Nk2 0 0 0 16 1 900 this hdl rfl
structure jh0(T:TT)(A:Nat→Prop)(sel:List Nat)(st:St)(p:Nat)(r:RS)(st':St):Prop where
 j:J T A sel st'
 same:SameBut p st st'
 rs:aN st' p=r
 ls:dI st' p=if r=.run then .asked else .ended
theorem J.endRun(t:TOK T)(j:J T A sel st)(hd:st.nd p=some d)(hr:d.rs=.none)(hp:d.ph≠0)(hs:T.setups p≠[]):jh0 T A sel st p .run (b9 p (st.setNd p { d with rs:=.run })):=by
 have x:=j.ni p d hd
 refine Za (x.fin (Nat.pos_of_ne_zero hp)) fun htd fin=>?_
 have e0:b9 p (st.setNd p { d with rs:=.run })=bQ p { d with rs:=.run } (st.setNd p { d with rs:=.run }):=by
  unfold b9
  rw[aU,if_pos rfl]
  dsimp only
  rw[if_pos rfl]
 rw[e0]
 have edl:∀d4:Nd,d4.td=d.td→d4.ph=d.ph→dl T p d4=dl T p d:=fun d4 h1 h2=>by unfold dl;rw[h1,h2]
 have hls:∀d4:Nd,d4.rs=.run→d4.ph=d.ph→d.ph≠4→d4.ls=.asked:=fun d4 h1 h2 h3=>by unfold Nd.ls;rw[h1,h2];exact if_neg h3
 rcases x.shp with z|z|z|z|z
 ·exact absurd z.1 hp
 ·-- just given
  have ews:d.ws=false:=z.2.1
  have es:bQ p { d with rs:=.run } (st.setNd p { d with rs:=.run })=st.setNd p { d with rs:=.run }:=by
   unfold bQ;dsimp only;rw[ews];rfl
  rw[es]
  have nk:(st.setNd p { d with rs:=.run }).nd p=some { d with rs:=.run }:=by rw[aU,if_pos rfl]
  refine⟨?_,jdT,ba nk,?_⟩
  ·refine j.self (d4:={ d with rs:=.run }) t hd rfl rfl rfl rfl (by rw[hr];rfl) (fun _ _=>Iff.rfl) (fun _ _=>Iff.rfl) (fun _ _=>Iff.rfl) j.rdn j.wtn (edl _ rfl rfl) (.inl htd) (fun _=>⟨htd,fin⟩) (.inr (.inl ⟨z.1,ews,z.2.2.1,fun _=>hs⟩)) x.wait (fun _ h=>?_) x.one x.rdy x.cur
   rcases h with h|h|h
   ·have:d.ph=0:=h;exact .inl (False.elim (Nat.not_le_of_lt (qa3 z.1.symm) (qa3 this)))
   ·have:d.ph=2:=h.1;exact .inl (False.elim (Nk3 0 1 2 0 (qa3 z.1) (qa3 this.symm) rfl))
   ·have:d.ph=3:=h;exact .inl (False.elim (Nk3 0 1 3 0 (qa3 z.1) (qa3 this.symm) rfl))
  ·rw[cx nk,if_pos rfl];exact hls _ rfl rfl (qa7 (Nk1 0 1 1 4 (qa3 z.1) rfl))
 ·-- waits to be looked at
  have ews:d.ws=true:=z.2.2.2.mpr hr
  have es:bQ p { d with rs:=.run } (st.setNd p { d with rs:=.run })={ (st.setNd p { d with rs:=.run }).setNd p { d with rs:=.run,ws:=false } with ready:=st.ready++[p],wait:=st.wait.filter fun j=>!(j == p) }:=by
   unfold bQ;dsimp only;rw[ews];rfl
  rw[es,jbS]
  have hpr:p∉st.ready:=fun h=>by have:=(x.rdy h).2.1;rw[ews] at this;exact Xtf this
  have hpc:st.cur≠some p:=fun h=>by have:=(x.cur h).2;rw[ews] at this;exact Xtf this
  have nk:({ st.setNd p { d with rs:=.run,ws:=false } with ready:=st.ready++[p],wait:=st.wait.filter fun j=>!(j == p) }:St).nd p=some { d with rs:=.run,ws:=false }:=by
   show(if p=p then _ else _)=_;rw[if_pos rfl]
  refine⟨?_,fun i hi=>?_,ba nk,?_⟩
  ·refine j.self (d4:={ d with rs:=.run,ws:=false }) t hd rfl rfl rfl rfl (by rw[hr];rfl) (fun i hi=>?_) (fun i hi=>?_) (fun _ _=>Iff.rfl) (ja2 j.rdn hpr) (j.wtn.filter _) (edl _ rfl rfl) (.inl htd) (fun _=>⟨htd,fin⟩) (.inr (.inr (.inl ⟨z.1,z.2.1,hs,by show false=true↔RS.run=.none;exact by decide⟩))) ?_ (fun _ _=>.inl ?_) (fun h=>?_) (fun _=>⟨z.2.1,rfl,hpc,?_,?_⟩) fun h=>absurd h hpc
   ·show i∈st.wait.filter _↔_;rw[List.mem_filter];simp[hi]
   ·show i∈st.ready++[p]↔_;simp[hi]
   ·show p∈st.wait.filter _↔(d.wr≠[]∨false=true)
    rw[List.mem_filter,z.2.1];simp
   ·show p∈st.ready++[p];simp
   ·have:d.ph=1:=h;exact False.elim (Nk3 2 0 0 1 (qa3 z.1.symm) (qa3 this) rfl)
   ·show d.ph≠1;exact qb4 (qa3 z.1.symm)
   ·show d.ph≠4;exact qa7 (Nk1 0 2 1 4 (qa3 z.1) rfl)
  ·unfold dI aN
   show(match (if i=p then _ else st.nd i) with|some d=>d.ls|Option.none=>.reached)=_∧(match (if i=p then _ else st.nd i) with|some d=>d.rs|Option.none=>.none)=_
   rw[if_neg hi];exact⟨rfl,rfl⟩
  ·rw[cx nk,if_pos rfl];exact hls _ rfl rfl (qa7 (Nk1 0 2 1 4 (qa3 z.1) rfl))
 ·have:=z.2.2.2;rw[hr] at this;exact RS.noConfusion this
 ·exact absurd hr z.2.2.2.2
end
end
section
section
variable {T:TT}{A:Nat→Prop}{sel:List Nat}{st st':St}{k i p:Nat}{d d':Nd}{r:RS}
theorem J.endFin(t:TOK T)(j:J T A sel st)(hd:st.nd p=some d)(hq:d.rs.waits=true)(hp:(d.rs=.none∧d.ph≠0)∨(d.rs=.run∧d.ph=4))(hr:r.waits=false):jh0 T A sel st p r (b9 p (st.setNd p { d with rs:=r })):=by
 have x:=j.ni p d hd
 have rrun:r≠.run:=fun h=>by rw[h] at hr;exact Xtf hr
 have rnone:r≠.none:=fun h=>by rw[h] at hr;exact Xtf hr
 have hph:1≤d.ph:=hp.elim (fun z4=>(Nat.pos_of_ne_zero z4.2)) fun z4=>(Nk1 4 0 1 0 (qa3 z4.2.symm) rfl)
 refine Za (x.fin hph) fun htd fin=>?_
 have wr0:d.wr=[]:=by
  rcases x.shp with z|z|z|z|z
  ·exact False.elim (Nat.not_le_of_lt hph (qa3 z.1))
  ·exact z.2.2.1
  ·exact z.2.1
  ·rcases hp with h|h
   ·have:=z.2.2.2;rw[h.1] at this;exact RS.noConfusion this
   ·exact False.elim (Nk3 0 3 4 0 (qa3 z.1) (qa3 h.2.symm) rfl)
  ·exact z.2.2.1
 have ph3:d.ph≠3:=fun h=>by
  rcases x.shp with z|z|z|z|z
  ·exact Nk3 0 0 3 0 (qa3 z.1) (qa3 h.symm) rfl
  ·exact Nk3 3 0 0 1 (qa3 h.symm) (qa3 z.1) rfl
  ·exact Nk3 3 0 0 2 (qa3 h.symm) (qa3 z.1) rfl
  ·rcases hp with h|h
   ·have:=z.2.2.2;rw[h.1] at this;exact RS.noConfusion this
   ·exact Nk3 0 3 4 0 (qa3 (by assumption)) (qa3 h.2.symm) rfl
  ·exact Nk3 0 3 4 0 (qa3 h) (qa3 z.1.symm) rfl
 have shp4:jdh T p { d with rs:=r,ws:=false }:=by
  rcases x.shp with z|z|z|z|z
  ·exact False.elim (Nat.not_le_of_lt hph (qa3 z.1))
  ·exact .inr (.inl ⟨z.1,rfl,wr0,fun h=>absurd h rrun⟩)
  ·exact .inr (.inr (.inl ⟨z.1,wr0,z.2.2.1,by show false=true↔r=.none;simp[rnone]⟩))
  ·exact absurd z.1 ph3
  ·exact .inr (.inr (.inr (.inr ⟨z.1,rfl,wr0,z.2.2.2.1,rnone⟩)))
 have e0:b9 p (st.setNd p { d with rs:=r })=d.wm.foldl (cQ p) (bQ p { d with rs:=r } (st.setNd p { d with rs:=r })):=by
  unfold b9
  rw[aU,if_pos rfl]
  dsimp only
  rw[if_neg rrun]
 rw[e0]
 have sel0:∃s0:St,bQ p { d with rs:=r } (st.setNd p { d with rs:=r })=s0∧(∀i,s0.nd i=if i=p then some { d with rs:=r,ws:=false } else st.nd i)∧s0.ord=st.ord∧s0.ttr=st.ttr∧s0.cur=st.cur∧
   (∀i,i∈s0.ready↔i∈st.ready∨(i=p∧d.ws=true))∧s0.ready.Nodup∧(∀i,i∈s0.wait↔i∈st.wait∧i≠p)∧s0.wait.Nodup:=by
  refine⟨_,rfl,?_⟩
  rcases Bool.eq_false_or_eq_true d.ws with hws|hws
  ·have es:bQ p { d with rs:=r } (st.setNd p { d with rs:=r })={ (st.setNd p { d with rs:=r }).setNd p { d with rs:=r,ws:=false } with ready:=st.ready++[p],wait:=st.wait.filter fun j=>!(j == p) }:=by
    unfold bQ;dsimp only;rw[hws];rfl
   rw[es,jbS]
   have hpr:p∉st.ready:=fun h=>by have:=(x.rdy h).2.1;rw[hws] at this;exact Xtf this
   refine⟨fun i=>rfl,rfl,rfl,rfl,fun i=>?_,ja2 j.rdn hpr,fun i=>?_,j.wtn.filter _⟩
   ·show i∈st.ready++[p]↔_;simp[hws]
   ·show i∈st.wait.filter _↔_;rw[List.mem_filter];simp
  ·have ed:({ d with rs:=r,ws:=false }:Nd)={ d with rs:=r }:=by rw[←hws]
   have es:bQ p { d with rs:=r } (st.setNd p { d with rs:=r })=st.setNd p { d with rs:=r }:=by
    unfold bQ;dsimp only;rw[hws];rfl
   rw[es,ed]
   have hpw:p∉st.wait:=fun h=>by
    rcases x.wait.mp h with z|z
    ·exact z wr0
    ·rw[hws] at z;exact Xft z
   refine⟨fun i=>rfl,rfl,rfl,rfl,fun i=>?_,j.rdn,fun i=>?_,j.wtn⟩
   ·show i∈st.ready↔_;simp[hws]
   ·show i∈st.wait↔_
    exact⟨fun h=>⟨h,fun e=>hpw (e▸h)⟩,fun h=>h.1⟩
 refine ja3 sel0 fun s0 es0 n0 o0 t0 c0 r0 rn0 w0 wn0=>?_
 rw[es0]
 have wmf:=j.wmFacts t hd hq
 refine dD (jjL d.wm s0 { d with rs:=r,ws:=false } x.wmn.1 (by rw[n0,if_pos rfl]) fun w hw=>by
  refine jcK (wmf w hw) fun h1 _ dw h3 _=>?_
  exact⟨h1,by rw[n0,if_neg h1,h3];exact Option.some_ne_none _⟩) fun f1 f2 f3 f4 f5 f6=>?_
 have f1':∀i,(d.wm.foldl (cQ p) s0).nd i=if i∈d.wm then(s0.nd i).map (updN p r) else s0.nd i:=f1
 generalize d.wm.foldl (cQ p) s0=s' at f1 f1' f2 f3 f4 f5 f6
 have hpwm:p∉d.wm:=fun h=>(wmf p h).1 rfl
 have np:s'.nd p=some { d with rs:=r,ws:=false }:=by rw[f1',if_neg hpwm,n0,if_pos rfl]
 have nw:∀w dw,w∈d.wm→st.nd w=some dw→s'.nd w=some (updN p r dw):=fun w dw hw h=>by
  rw[f1',if_pos hw,n0,if_neg (wmf w hw).1,h];rfl
 have no:∀i,i≠p→i∉d.wm→s'.nd i=st.nd i:=fun i h1 h2=>by rw[f1',if_neg h2,n0,if_neg h1]
 have ex:∀i,s'.nd i≠none↔st.nd i≠none:=fun i=>by
  by_cases e:i=p
  ·subst e;rw[np,hd];simp
  ·by_cases m:i∈d.wm
   ·refine jcK (wmf i m) fun _ _ dw h3 _=>?_
    rw[nw i dw m h3,h3];simp
   ·rw[no i e m]
 have rs':∀i,i≠p→aN s' i=aN st i:=fun i hi=>by
  by_cases m:i∈d.wm
  ·refine jcK (wmf i m) fun _ _ dw h3 _=>?_
   rw[ba (nw i dw m h3),ba h3,jdv]
  ·unfold aN;rw[no i hi m]
 have ls':∀i,i≠p→dI s' i=dI st i:=fun i hi=>by
  by_cases m:i∈d.wm
  ·refine jcK (wmf i m) fun _ _ dw h3 _=>?_
   rw[cx (nw i dw m h3),cx h3,jdv];rfl
  ·unfold dI;rw[no i hi m]
 have rsp:aN s' p=r:=ba np
 have wrs:∀w i,i≠p→((∃dw,s'.nd w=some dw∧i∈dw.wr)↔∃dw,st.nd w=some dw∧i∈dw.wr):=fun w i hi=>by
  by_cases e:w=p
  ·subst e
   rw[np,hd]
   constructor
   ·intro zp1;refine Zxa zp1 fun dw h1 h2=>?_;obtain rfl:=qa1 h1;exact⟨d,rfl,h2⟩
   ·intro zp2;refine Zxa zp2 fun dw h1 h2=>?_;obtain rfl:=qa1 h1;exact⟨_,rfl,h2⟩
  ·by_cases m:w∈d.wm
   ·refine jcK (wmf w m) fun _ _ dw h3 _=>?_
    rw[nw w dw m h3,h3]
    constructor
    ·intro zp3;refine Zxa zp3 fun dw' h1 h2=>?_
     obtain rfl:=qa1 h1
     rw[jdv] at h2
     exact⟨dw,rfl,List.mem_of_mem_erase h2⟩
    ·intro zp4;refine Zxa zp4 fun dw' h1 h2=>?_
     obtain rfl:=qa1 h1
     refine⟨_,rfl,?_⟩
     rw[jdv]
     exact(List.mem_erase_of_ne hi).mpr h2
   ·rw[no w e m]
 have mwk:∀w,w∈dc p s0 d.wm↔w∈d.wm∧∃dw,st.nd w=some dw∧dw.wr.erase p=[]:=fun w=>by
  unfold dc
  rw[List.mem_filter]
  constructor
  ·intro zp5;refine Za zp5 fun h1 h2=>?_
   refine jcK (wmf w h1) fun a1 _ dw h3 _=>?_
   rw[n0,if_neg a1,h3] at h2
   dsimp only at h2
   rw[Bool.and_eq_true] at h2
   exact⟨h1,dw,h3,List.isEmpty_iff.mp h2.1⟩
  ·intro zp6;refine fB zp6 fun h1 dw h3 h4=>?_
   refine jd' (wmf w h1) fun a1 _ dw' h3' h5 _=>?_
   rw[h3] at h3';obtain rfl:=qa1 h3'
   refine⟨h1,?_⟩
   rw[n0,if_neg a1,h3]
   dsimp only
   rw[Bool.and_eq_true]
   refine⟨List.isEmpty_iff.mpr h4,?_⟩
   rw[List.contains_eq_mem,decide_eq_true_eq,w0]
   exact⟨(j.ni w dw h3).wait.mpr (.inl (List.ne_nil_of_mem h5)),a1⟩
 have mready:∀i,i∈s'.ready↔i∈st.ready∨(i=p∧d.ws=true)∨i∈dc p s0 d.wm:=fun i=>by rw[f5,List.mem_append,r0,or_assoc]
 have mwait:∀i,i∈s'.wait↔(i∈st.wait∧i≠p)∧i∉dc p s0 d.wm:=fun i=>by
  rw[f6,List.mem_filter,w0,List.contains_eq_mem];simp
 have dne:∀i di,st.nd i=some di→p∈dl T i di→i∈d.wm:=fun i di h hm=>
  (x.wm hq i).mpr ⟨di,h,((j.ni i di h).dep p hm).2.mpr (by rw[ba hd];exact hq)⟩
 refine⟨⟨⟨fun i=>?_,?_,?_⟩,fun i di hi=>?_,?_,fun i hi=>?_,?_,fun i hi=>?_,fun i hi=>?_,?_,fun i hi=>?_⟩,fun i hi=>⟨ls' i hi,rs' i hi⟩,rsp,?_⟩
 ·rw[f2,o0,ex,j.wo.ord]
 ·rw[f2,o0];exact j.wo.nodup
 ·rw[f2,o0];exact j.wo.lt
 ·by_cases e:i=p
  ·-- the one that ended
   subst e
   rw[np] at hi;obtain rfl:=qa1 hi
   have ltk:∀a∈dl T i d,a≠i:=fun a ha e=>by have:=jey t a ha;exact Nat.not_le_of_lt this (qa3 e.symm)
   refine⟨x.lt,x.al,.inl htd,fun a ha=>?_,fun a ha=>?_,?_,?_,?_,x.wmn,fun h=>?_,x.anc,fun _=>⟨htd,fun a ha=>?_⟩,shp4,?_,fun _ h=>?_,fun h1 h2=>?_,fun h=>?_,fun h=>⟨wr0,rfl⟩⟩
   ·have:=x.dep a ha
    rw[ex,rs' a (ltk a ha)];exact this
   ·exact x.wrd a ha
   ·exact x.wrn
   ·exact x.bad.trans (List.Perm.of_eq (List.filter_congr fun a ha=>by rw[rs' a (ltk a ha)]))
   ·exact x.ign.trans (List.Perm.of_eq (List.filter_congr fun a ha=>by rw[rs' a (ltk a ha)]))
   ·have:r.waits=true:=h;rw[hr] at this;exact Xft this
   ·rw[rs' a fun e=>by have:=t.needs i a ha;exact Nat.not_le_of_lt this (qa3 e.symm)];exact fin a ha
   ·rw[mwait]
    show _↔(d.wr≠[]∨false=true)
    rw[wr0];simp
   ·rcases h with h|h|h
    ·have:d.ph=0:=h;exact .inl (False.elim (Nat.not_le_of_lt hph (qa3 this)))
    ·exact absurd h.2 rrun
    ·exact absurd h ph3
   ·rw[f4,c0];exact x.one h1 h2
   ·rw[f4,c0]
    rcases (mready i).mp h with z|z|z
    ·refine eS (x.rdy z) fun a1 a2 a3 a4=>?_
     exact⟨wr0,rfl,a3,a4⟩
    ·have hws:=z.2
     refine⟨wr0,rfl,fun hc=>?_,?_⟩
     ·have:=(x.cur hc).2;rw[hws] at this;exact Xtf this
     ·show d.ph≠1∧d.ph≠4
      rcases x.shp with y|y|y|y|y
      ·exact False.elim (Nat.not_le_of_lt hph (qa3 y.1))
      ·have:=y.2.1;rw[hws] at this;exact Xtf this
      ·exact⟨(qb4 (qa3 y.1.symm)),(qa7 (Nk1 0 2 1 4 (qa3 y.1) rfl))⟩
      ·exact absurd y.1 ph3
      ·have:=y.2.1;rw[hws] at this;exact Xtf this
    ·exact absurd ((mwk i).mp z).1 hpwm
  ·by_cases m:i∈d.wm
   ·-- one that waited for it
    refine jd' (wmf i m) fun _ _ dw h3 h4 h5=>?_
    have xi:=j.ni i dw h3
    rw[nw i dw m h3] at hi
    obtain rfl:=qa1 hi
    have tdw:dw.td=[]:=by
     rcases xi.td with z|z
     ·exact z
     ·rw[z.2.2.1] at h4;exact Xnm h4
    have nfin:∀a∈T.needs i,1≤dw.ph→a≠p:=fun a ha h e=>by
     have:=(xi.fin h).2 a ha
     rw[e,ba hd,hq] at this;exact Xtf this
    have hphw:dw.ph=0∨dw.ph=3:=by
     rcases xi.shp with z|z|z|z|z
     ·exact .inl z.1
     ·have:=z.2.2.1;rw[this] at h4;exact Xnm h4
     ·have:=z.2.1;rw[this] at h4;exact Xnm h4
     ·exact .inr z.1
     ·have:=z.2.2.1;rw[this] at h4;exact Xnm h4
    have hwsw:dw.ws=false:=by
     rcases xi.shp with z|z|z|z|z
     ·exact z.2.2
     ·exact z.2.1
     ·have:=z.2.1;rw[this] at h4;exact Xnm h4
     ·exact z.2.1
     ·exact z.2.1
    have wne:dw.wr≠[]:=List.ne_nil_of_mem h4
    have hcn:st.cur≠some i:=fun h=>wne (xi.cur h).1
    have hrn:i∉st.ready:=fun h=>wne (xi.rdy h).1
    have cnt:=jjN t xi h5 (by rw[ba hd];exact hq)
    rw[jdv]
    refine⟨xi.lt,xi.al,.inl tdw,fun a ha=>?_,fun a ha=>?_,?_,?_,?_,xi.wmn,fun h w=>?_,xi.anc,fun h=>⟨tdw,fun a ha=>?_⟩,?_,?_,fun h _=>.inl ?_,fun h=>?_,fun h=>?_,fun h=>?_⟩
    ·have ha':a∈dl T i dw:=ha
     refine Za (xi.dep a ha') fun b1 b2=>?_
     refine⟨(ex a).mpr b1,?_⟩
     by_cases ep:a=p
     ·subst ep
      rw[rsp,hr]
      show a∈dw.wr.erase a↔_
      constructor
      ·intro z;exact absurd z (fun z=>(xi.wrn.mem_erase_iff.mp z).1 rfl)
      ·intro z;exact Xft z
     ·rw[rs' a ep]
      show a∈dw.wr.erase p↔_
      rw[List.mem_erase_of_ne ep];exact b2
    ·exact xi.wrd a (List.mem_of_mem_erase ha)
    ·exact xi.wrn.erase p
    ·refine jga (p:=p) (q:=decide (r=.fail)) xi.bad cnt ?_ (fun a ha=>by rw[rs' a ha]) (by rw[rsp])
     rw[ba hd]
     rcases hp with z|z<;>rw[z.1]<;>rfl
    ·refine jga (p:=p) (q:=decide (r=.ign)) xi.ign cnt ?_ (fun a ha=>by rw[rs' a ha]) (by rw[rsp])
     rw[ba hd]
     rcases hp with z|z<;>rw[z.1]<;>rfl
    ·rw[wrs w i e];exact xi.wm h w
    ·rw[rs' a (nfin a ha h)];exact(xi.fin h).2 a ha
    ·rcases xi.shp with z|z|z|z|z
     ·exact .inl z
     ·rcases hphw with h|h<;>omega
     ·rcases hphw with h|h<;>omega
     ·exact .inr (.inr (.inr (.inl z)))
     ·rcases hphw with h|h<;>omega
    ·rw[mwait,mwk]
     show _↔(dw.wr.erase p≠[]∨dw.ws=true)
     rw[hwsw]
     constructor
     ·intro zp7;refine Za zp7 fun _ z=>?_
      left
      intro q
      exact z ⟨m,dw,h3,q⟩
     ·rintro (z|z)
      ·refine⟨⟨xi.wait.mpr (.inl wne),e⟩,?_⟩
       intro zp8;refine fB zp8 fun _ dw' q1 q2=>?_
       rw[h3] at q1;obtain rfl:=qa1 q1
       exact z q2
      ·exact Xft z
    ·rw[mready]
     exact .inr (.inr ((mwk i).mpr ⟨m,dw,h3,h⟩))
    ·have:dw.ph=1:=h;rcases hphw with h|h<;>omega
    ·rw[f4,c0]
     rcases (mready i).mp h with z|z|z
     ·exact absurd z hrn
     ·exact absurd z.1 e
     ·refine fB ((mwk i).mp z) fun _ dw' q1 q2=>?_
      rw[h3] at q1;obtain rfl:=qa1 q1
      refine⟨q2,hwsw,hcn,?_,?_⟩
      ·show dw.ph≠1;rcases hphw with h|h<;>omega
      ·show dw.ph≠4;rcases hphw with h|h<;>omega
    ·rw[f4,c0] at h;exact absurd h hcn
   ·-- the others
    rw[no i e m] at hi
    have xi:=j.ni i di hi
    have nwk:i∉dc p s0 d.wm:=fun h=>m ((mwk i).mp h).1
    refine xi.keep (fun a ha=>(ex a).mpr ha) (fun a ha=>?_) ?_ ?_ ?_ rfl xi.wmn fun h w=>?_
    ·rw[rs' a fun q=>m (dne i di hi (q▸ha))]
    ·rw[mwait];simp[e,nwk]
    ·rw[mready];simp[e,nwk]
    ·rw[f4,c0]
    ·rw[wrs w i e];exact xi.wm h w
 ·rw[f5,List.nodup_append]
  refine⟨rn0,x.wmn.1.filter _,fun a ha b hb q=>?_⟩
  subst q
  refine fB ((mwk a).mp hb) fun q1 dw q2 q3=>?_
  refine jd' (wmf a q1) fun a1 _ dw' a3 a4 _=>?_
  rcases (r0 a).mp ha with z|z
  ·have:=((j.ni a dw' a3).rdy z).1
   rw[this] at a4;exact Xnm a4
  ·exact a1 z.1
 ·rw[ex]
  rcases (mready i).mp hi with z|z|z
  ·exact j.rdx i z
  ·rw[z.1,hd];simp
  ·refine fB ((mwk i).mp z) fun _ dw q2 _=>?_
   rw[q2];simp
 ·rw[f6];exact wn0.filter _
 ·rw[ex];exact j.wtx i ((mwait i).mp hi).1.1
 ·rw[f4,c0] at hi;rw[ex];exact j.crx i hi
 ·rw[f3,t0];exact j.ttr
 ·rw[ex,f3,t0];exact j.sel i hi
 ·rw[cx np,if_neg rrun]
  unfold Nd.ls
  dsimp only
  rw[hr];rfl
end
end
section
structure Rw where
 needs:List Nat
 setups:List Nat
 kd:Nat
noncomputable def aD(j:Nat):MV:=.int (j:Int)
noncomputable def Rw.mv(r:Rw):MV:=.tup [.lst (r.needs.map aD),.lst (r.setups.map aD),.str r.kd]
noncomputable def bz(n:Nat)(Ro:Nat→Rw):MV:=.lst ((List.range n).map fun k=>(Ro k).mv)
noncomputable def LS.num:LS→Nat
 |.no=>20|.reached=>21|.first=>22|.second=>23|.asked=>24|.ended=>25
noncomputable def LS.mv(s:LS):MV:=.str s.num
noncomputable def stL(n:Nat)(s:Nat→LS):List MV:=(List.range n).map fun k=>(s k).mv
noncomputable def upd(s:Nat→LS)(k:Nat)(v:LS):Nat→LS:=fun i=>if i=k then v else s i
theorem LS.num_eq{a b:LS}:(a.num == b.num)=decide (a=b):=by cases a<;>cases b<;>rfl
theorem LS.num_ne{a b:LS}:(a.num != b.num)=decide (a≠b):=by cases a<;>cases b<;>rfl
theorem jcB{n k:Nat}{f:Nat→MV}(h:k<n):((List.range n).map f)[k]?=some (f k):=by
 rw[List.getElem?_map,List.getElem?_range h];rfl
theorem jgn{n k:Nat}{f:Nat→MV}{v:MV}(h:k<n):((List.range n).map f).set k v=(List.range n).map fun i=>if i=k then v else f i:=by
 apply List.ext_getElem?
 intro i
 rw[List.getElem?_set]
 by_cases e:k=i
 ·subst e
  rw[if_pos rfl,if_pos (by simpa using h),jcB h]
  simp
 ·rw[if_neg e,List.getElem?_map,List.getElem?_map]
  by_cases hi:i<n
  ·rw[List.getElem?_range hi]
   show some (f i)=some (if i=k then v else f i)
   rw[if_neg (Ne.symm e)]
  ·rw[List.getElem?_eq_none (by simpa using hi)];rfl
theorem jj'{n k:Nat}{s:Nat→LS}{v:LS}(h:k<n):(stL n s).set k v.mv=stL n (upd s k v):=by
 unfold stL
 rw[jgn h]
 refine List.map_congr_left fun i _=>?_
 unfold upd
 split<;>rfl
theorem jdx{H:Tag→Option MObj}{t:Tag}{o:MObj}(h:H t=some o):ay H t o=H:=funext fun u=>by
 unfold ay
 split
 ·rename_i e;rw[e,h]
 ·rfl
section
variable {c:Cx}{T:TT}{st:St}{H H':Tag→Option MObj}{nx:Nat}{m:List (Nat×MV)}{k j n:Nat}{Ro:Nat→Rw}{s:Nat→LS}{Q:MV→AS→Prop}{P:aH→AS→Prop}
theorem je8{f:Nat→MV}(h:k<n):eW H (.lst ((List.range n).map f)) (aD k)=some (f k):=by
 show(match cv H (.lst ((List.range n).map f)) with|some xs=>if 0≤(k:Int) then xs[(k:Int).toNat]? else none|none=>none)=_
 show(if 0≤(k:Int) then((List.range n).map f)[(k:Int).toNat]? else none)=_
 rw[if_pos (Int.natCast_nonneg k),Int.toNat_natCast,jcB h]
theorem jiU{t:Tag}{xs:List MV}{v:MV}(h:H t=some (.list xs))(e:xs[k]?=some v):eW H (.tag t) (aD k)=some v:=by
 show(match cv H (.tag t) with|some xs=>if 0≤(k:Int) then xs[(k:Int).toNat]? else none|none=>none)=_
 have:cv H (.tag t)=some xs:=bh h
 rw[this]
 show(if 0≤(k:Int) then xs[(k:Int).toNat]? else none)=_
 rw[if_pos (Int.natCast_nonneg k),Int.toNat_natCast,e]
theorem jdO{r:Rw}:eW H r.mv (.int 0)=some (.lst (r.needs.map aD)):=rfl
theorem jcm{r:Rw}:eW H r.mv (.int 1)=some (.lst (r.setups.map aD)):=rfl
theorem jdN{r:Rw}:eW H r.mv (.int 2)=some (.str r.kd):=rfl
theorem eY{x y a:Nat}{v:MV}{P:MV→AS→Prop}(hx:m.lookup x=some (bz n Ro))(hy:m.lookup y=some (aD k))(hk:k<n)(hv:eW H (Ro k).mv (.int (a:Int))=some v)(h:P v ⟨H,nx,m⟩) :
  aF (aF (ac x) (ac y)) (ah (.int (a:Int))) ⟨H,nx,m⟩ P:=
 ⟨_,hx,_,hy,(Ro k).mv,je8 hk,v,hv,h⟩
theorem jiu{x y:Nat}{P:MV→AS→Prop}(hx:m.lookup x=some (bz n Ro))(hy:m.lookup y=some (aD k))(hk:k<n)(h:P (Ro k).mv ⟨H,nx,m⟩):aF (ac x) (ac y) ⟨H,nx,m⟩ P:=
 ⟨_,hx,_,hy,(Ro k).mv,je8 hk,h⟩
theorem fu{x y:Nat}{t:Tag}{P:MV→AS→Prop}(hx:m.lookup x=some (.tag t))(hy:m.lookup y=some (aD k))(hk:k<n)(hH:H t=some (.list (stL n s)))(h:P (s k).mv ⟨H,nx,m⟩):aF (ac x) (ac y) ⟨H,nx,m⟩ P:=
 ⟨_,hx,_,hy,(s k).mv,jiU hH (jcB hk),h⟩
noncomputable def Rw.isRun(r:Rw):Bool:=r.kd == 30||r.kd == 33
theorem jf5{r:Rw}(q:Q (.bool r.isRun) ⟨H,nx,m⟩):jaJ [r.mv] [] ⟨H,nx,m⟩ Q:=by
 refine⟨rfl,?_⟩
 unfold jd2
 show bD _ ⟨H,nx,[(197,r.mv)]⟩ _
 refine cC ?_
 show aA _ _ _ _ _
 refine aS ⟨_,rfl,_,jdN,?_⟩
 refine aC (az (aC (az (au ⟨by decide,?_⟩))))
 refine⟨r.isRun,?_,q⟩
 show some ((30 == r.kd)||((33 == r.kd)||false))=_
 unfold Rw.isRun
 rw[Bool.or_false]
 congr 2
 ·exact Bool.beq_comm
 ·exact Bool.beq_comm
noncomputable def bI(Ro:Nat→Rw)(s:Nat→LS)(k:Nat):List Nat:=
 (if s k≠.no then(Ro k).needs else[])++(if s k=.asked∨s k=.second∨(s k=.ended∧(Ro k).isRun=true) then(Ro k).setups else[])
noncomputable def dU(s:Nat→LS)(j:Nat):Nat→LS:=if s j=.no then upd s j .reached else s
noncomputable def jb1(Ro:Nat→Rw)(s:Nat→LS)(k:Nat):Nat→LS:=(bI Ro s k).foldl dU s
noncomputable def reach(Ro:Nat→Rw)(n:Nat)(s:Nat→LS):Nat→LS:=(List.range n).reverse.foldl (jb1 Ro) s
theorem eI{a b:Nat}{P:Bool→AS→Prop}(h:P (a == b) ⟨H,nx,m⟩):eqF (.str a) (.str b) ⟨H,nx,m⟩ P:=⟨_,rfl,h⟩
theorem jeB{a b:Nat}{P:Bool→AS→Prop}(h:P (a != b) ⟨H,nx,m⟩):neG (.str a) (.str b) ⟨H,nx,m⟩ P:=.inr (.inl ⟨a,b,rfl,rfl,h⟩)
theorem jeA{t:Tag}{v:LS}{P:AS→Prop}(hk:k<n)(hH:H t=some (.list (stL n s)))(h:P ⟨ay H t (.list (stL n (upd s k v))),nx,m⟩):setI (.tag t) (aD k) v.mv ⟨H,nx,m⟩ P:=by
 refine .inl ⟨t,stL n s,k,rfl,rfl,hH,Int.natCast_nonneg k,?_,?_⟩
 ·rw[Int.toNat_natCast];simpa[stL] using hk
 ·rw[Int.toNat_natCast,jj' hk];exact h
theorem jhn{i0:Nat}:∀(l:List Nat)(s:Nat→LS)(H1:Tag→Option MObj)(m1:List (Nat×MV)),m1.lookup 200=some (.tag (0,i0))→H1 (0,i0)=some (.list (stL n s))→(∀j∈l,j<n)→
  (∀m2,(∀y,y≠194→m2.lookup y=m1.lookup y)→P .next ⟨ay H1 (0,i0) (.list (stL n (l.foldl dU s))),nx,m2⟩)→∀(g:(Tag→Option MObj)→Prop),(∀H,g H)→
  dJ g (aG 194) (sIf (aA eqF (aF (ac 200) (ac 194)) (ah (.str 20))) (dv (ac 200) (ac 194) (ah (.str 21))) aE) (l.map aD) ⟨H1,nx,m1⟩ P:=by
 intro l
 induction l with
 |nil=>
  intro s H1 m1 h200 hH hl q g hg
  refine⟨hg _,?_⟩
  have:=q m1 fun _ _=>rfl
  rw[List.foldl_nil,jdx hH] at this
  exact this
 |cons j l ih=>
  intro s H1 m1 h200 hH hl q g hg
  have hj:=hl j qa4
  refine⟨hg _,?_⟩
  have a200:(ar m1 194 (aD j)).lookup 200=some (.tag (0,i0)):=by rw[ae,if_neg (by decide)];exact h200
  have a194:(ar m1 194 (aD j)).lookup 194=some (aD j):=by rw[ae,if_pos rfl]
  have keep:∀m2:List (Nat×MV),(∀y,y≠194→m2.lookup y=(ar m1 194 (aD j)).lookup y)→∀y,y≠194→m2.lookup y=m1.lookup y:=fun m2 h y hy=>(h y hy).trans (by rw[ae,if_neg hy])
  refine bp (aS (fu a200 a194 hj hH ?_))
  refine az (eI ?_)
  show(match ((s j).num == LS.num .no) with|true=>_|false=>_)
  rw[LS.num_eq]
  by_cases e:s j=.no
  ·rw[decide_eq_true e]
   show dv _ _ _ _ _
   refine jcu (az ?_)
   refine ag a200 ?_
   refine ag a194 ?_
   refine jeA (v:=.reached) hj hH ?_
   refine ih (upd s j .reached) _ _ a200 aB (fun i hi=>hl i (qa2 _ hi)) (fun m2 h2=>?_) g hg
   rw[du]
   have:=q m2 (keep m2 h2)
   rw[List.foldl_cons] at this
   have er:dU s j=upd s j .reached:=by unfold dU;rw[if_pos e]
   rw[er] at this
   exact this
  ·rw[decide_eq_false e]
   refine cz ?_
   refine ih s _ _ a200 hH (fun i hi=>hl i (qa2 _ hi)) (fun m2 h2=>?_) g hg
   have:=q m2 (keep m2 h2)
   rw[List.foldl_cons] at this
   have er:dU s j=s:=by unfold dU;rw[if_neg e]
   rw[er] at this
   exact this
end
end
section
section
variable {c:Cx}{T:TT}{st:St}{H H':Tag→Option MObj}{nx:Nat}{m:List (Nat×MV)}{k j n:Nat}{Ro:Nat→Rw}{s:Nat→LS}{Q:MV→AS→Prop}{P:aH→AS→Prop}
theorem jbg(n:Nat):fv (n:Int)=(List.range n).map aD:=by
 unfold fv aD
 rw[Int.toNat_natCast]
theorem jgO:bV H (bz n Ro)=some ((List.range n).map fun k=>(Ro k).mv):=rfl
theorem jdi{x:Nat}{P:MV→AS→Prop}(hx:m.lookup x=some (bz n Ro))(h:P (.rng (n:Int)) ⟨H,nx,m⟩):aW dW [(aW dE [(ac x)])] ⟨H,nx,m⟩ P:=by
 refine dF (aC (dF (aC (ag hx (au ?_)))))
 refine⟨_,_,rfl,jgO,?_⟩
 refine au ⟨_,rfl,?_⟩
 rw[List.length_map,List.length_range];exact h
theorem jc5{f:MEx}{σ:AS}{Q:List MV→((Tag→Option MObj)→Prop)→AS→Prop}(h:f σ fun v σ1=>∃n,v=.rng n∧0≤n∧n≤100000∧Q (fv n) (fun _=>True) σ1):eA f σ Q:=h
theorem jea{x y:Nat}{b:MS}(hn:n≤8)(hx:m.lookup x=some (bz n Ro))(h:dJ (fun _=>True) (aG y) b ((List.range n).map aD) ⟨H,nx,m⟩ P):cN (eA (aW dW [(aW dE [(ac x)])])) (aG y) b ⟨H,nx,m⟩ P:=by
 refine cX (jc5 (jdi hx ⟨n,rfl,Int.natCast_nonneg n,(NJ hn rfl),?_⟩))
 rw[jbg];exact h
theorem bj{xs:List MV}{P:MV→AS→Prop}(hx:xs.length≤100000)(h:P (.lst xs) ⟨H,nx,m⟩):newL xs ⟨H,nx,m⟩ P:=⟨hx,.inl h⟩
theorem jhS{a x y:Nat}{P:Bool→AS→Prop}(h:P ((a == x)||(a == y)) ⟨H,nx,m⟩):inM (.str a) (.tup [.str x,.str y]) ⟨H,nx,m⟩ P:=by
 refine⟨(a == x)||(a == y),?_,h⟩
 show some ((x == a)||((y == a)||false))=_
 rw[Bool.or_false]
 congr 2
 ·exact Bool.beq_comm
 ·exact Bool.beq_comm
structure RowsOK(n:Nat)(Ro:Nat→Rw):Prop where
 n:n≤8
 needs:∀k,∀j∈(Ro k).needs,j<k
 setups:∀k,∀j∈(Ro k).setups,j<k
 nn:∀k,(Ro k).needs.Nodup
 ns:∀k,(Ro k).setups.Nodup
 dis:∀k,∀j∈(Ro k).needs,j∉(Ro k).setups
theorem RowsOK.ln(o:RowsOK n Ro)(hk:k<n):(Ro k).needs.length≤8:=qb1 (bG (o.nn k) (n:=n) fun a ha=>Nat.lt_trans (o.needs k a ha) hk) o.n
theorem RowsOK.ls(o:RowsOK n Ro)(hk:k<n):(Ro k).setups.length≤8:=qb1 (bG (o.ns k) (n:=n) fun a ha=>Nat.lt_trans (o.setups k a ha) hk) o.n
theorem jcr(o:RowsOK n Ro):∀j∈bI Ro s k,j<k:=fun j hj=>by
 unfold bI at hj
 rcases List.mem_append.mp hj with h|h
 ·split at h
  ·exact o.needs k j h
  ·exact Xnm h
 ·split at h
  ·exact o.setups k j h
  ·exact Xnm h
theorem jh'(o:RowsOK n Ro){i0:Nat}:∀(l:List Nat)(s:Nat→LS)(H1:Tag→Option MObj)(m1:List (Nat×MV)),m1.lookup 199=some (bz n Ro)→m1.lookup 200=some (.tag (0,i0))→H1 (0,i0)=some (.list (stL n s))→(∀j∈l,j<n)→
  (∀m2,P .next ⟨ay H1 (0,i0) (.list (stL n (l.foldl (jb1 Ro) s))),nx,m2⟩)→∀(g:(Tag→Option MObj)→Prop),(∀H,g H)→
  dJ g (aG 191) (ao (aL 201 (bc [])) (ao (sIf (aA neG (aF (ac 200) (ac 191)) (ah (.str 20))) (aL 201 (aW jcq [(aF (aF (ac 199) (ac 191)) (ah (.int 0)))])) aE) (ao (sIf (mOr (aA inM (aF (ac 200) (ac 191)) (dg [(ah (.str 24)),(ah (.str 23))])) (mOr (cu (aA eqF (aF (ac 200) (ac 191)) (ah (.str 25))) (cu (mTr (bF jaJ [(aF (ac 199) (ac 191))] [])) ck)) cy)) (aL 201 (mCat (ac 201) (aF (aF (ac 199) (ac 191)) (ah (.int 1))))) aE) (cN (bq (ac 201)) (aG 194) (sIf (aA eqF (aF (ac 200) (ac 194)) (ah (.str 20))) (dv (ac 200) (ac 194) (ah (.str 21))) aE))))) (l.map aD) ⟨H1,nx,m1⟩ P:=by
 intro l
 induction l with
 |nil=>
  intro s H1 m1 h199 h200 hH hl q g hg
  refine⟨hg _,?_⟩
  have:=q m1
  rw[List.foldl_nil,jdx hH] at this
  exact this
 |cons k l ih=>
  intro s H1 m1 h199 h200 hH hl q g hg
  have hk:=hl k qa4
  refine⟨hg _,?_⟩
  have b199:(ar (ar m1 191 (aD k)) 201 (.lst [])).lookup 199=some (bz n Ro):=by rw[ae,if_neg (by decide),ae,if_neg (by decide)];exact h199
  have b200:(ar (ar m1 191 (aD k)) 201 (.lst [])).lookup 200=some (.tag (0,i0)):=by rw[ae,if_neg (by decide),ae,if_neg (by decide)];exact h200
  have b191:(ar (ar m1 191 (aD k)) 201 (.lst [])).lookup 191=some (aD k):=by rw[ae,if_neg (by decide),ae,if_pos rfl]
  refine av (bn (bO (au (bj (by decide) ?_))))
  have step1:∀(P1:aH→AS→Prop),(∀m2,m2.lookup 199=some (bz n Ro)→m2.lookup 200=some (.tag (0,i0))→m2.lookup 191=some (aD k)→m2.lookup 201=some (.lst ((if s k≠.no then(Ro k).needs else[]).map aD))→P1 .next ⟨H1,nx,m2⟩)→
    sIf (aA neG (aF (ac 200) (ac 191)) (ah (.str 20))) (aL 201 (aW jcq [(aF (aF (ac 199) (ac 191)) (ah (.int 0)))])) aE ⟨H1,nx,ar (ar m1 191 (aD k)) 201 (.lst [])⟩ P1:=by
   intro P1 h
   refine bp (aS (fu b200 b191 hk hH ?_))
   refine az (jeB ?_)
   show(match ((s k).num != LS.num .no) with|true=>_|false=>_)
   rw[LS.num_ne]
   by_cases e:s k=.no
   ·rw[decide_eq_false (by simpa using e)]
    refine cz (h _ b199 b200 b191 ?_)
    rw[if_neg (by simpa using e),ae,if_pos rfl];rfl
   ·rw[decide_eq_true e]
    show aL 201 _ _ _
    refine bn (dF (aC (eY (a:=0) b199 b191 hk jdO (au ?_))))
    refine⟨_,rfl,.inl ⟨_,rfl,bj (by rw[List.length_map];have:=o.ln hk;exact Nk1 0 8 0 100000 this rfl) ?_⟩⟩
    refine h _ ?_ ?_ ?_ ?_
    ·rw[ae,if_neg (by decide)];exact b199
    ·rw[ae,if_neg (by decide)];exact b200
    ·rw[ae,if_neg (by decide)];exact b191
    ·rw[if_pos e,ae,if_pos rfl]
  refine av (step1 _ fun m2 c199 c200 c191 c201=>?_)
  have step2:∀(P1:aH→AS→Prop),(∀m3,m3.lookup 199=some (bz n Ro)→m3.lookup 200=some (.tag (0,i0))→m3.lookup 201=some (.lst ((bI Ro s k).map aD))→P1 .next ⟨H1,nx,m3⟩)→
    sIf (mOr (aA inM (aF (ac 200) (ac 191)) (dg [(ah (.str 24)),(ah (.str 23))])) (mOr (cu (aA eqF (aF (ac 200) (ac 191)) (ah (.str 25))) (cu (mTr (bF jaJ [(aF (ac 199) (ac 191))] [])) ck)) cy)) (aL 201 (mCat (ac 201) (aF (aF (ac 199) (ac 191)) (ah (.int 1))))) aE ⟨H1,nx,m2⟩ P1:=by
   intro P1 h
   have yes:(s k=.asked∨s k=.second∨(s k=.ended∧(Ro k).isRun=true))→aL 201 (mCat (ac 201) (aF (aF (ac 199) (ac 191)) (ah (.int 1)))) ⟨H1,nx,m2⟩ P1:=fun hc=>by
    refine bn ?_
    show ac 201 _ _
    refine ag c201 ?_
    refine eY (a:=1) c199 c191 hk jcm ?_
    refine⟨_,_,rfl,rfl,bj ?_ ?_⟩
    ·have:=o.ln hk;have:=o.ls hk
     rw[List.length_append,List.length_map,List.length_map]
     split
     ·exact NDl (by assumption) this rfl
     ·simp;exact Nk1 0 8 0 100000 this rfl
    ·refine h _ ?_ ?_ ?_
     ·rw[ae,if_neg (by decide)];exact c199
     ·rw[ae,if_neg (by decide)];exact c200
     ·rw[ae,if_pos rfl]
      unfold bI
      rw[if_pos hc,List.map_append]
   have no:¬ (s k=.asked∨s k=.second∨(s k=.ended∧(Ro k).isRun=true))→P1 .next ⟨H1,nx,m2⟩:=fun hc=>by
    refine h m2 c199 c200 ?_
    unfold bI
    rw[if_neg hc,List.append_nil];exact c201
   refine bp (eN (aS (fu c200 c191 hk hH ?_)))
   refine aC (az (aC (az (au ⟨by decide,?_⟩))))
   refine jhS ?_
   show(match ((s k).num == LS.num .asked)||((s k).num == LS.num .second) with|true=>_|false=>_)
   rw[LS.num_eq,LS.num_eq,←Bool.decide_or]
   by_cases e:s k=.asked∨s k=.second
   ·rw[decide_eq_true e]
    exact yes (e.elim .inl fun h=>.inr (.inl h))
   ·rw[decide_eq_false e]
    refine eN (dx (aS (fu c200 c191 hk hH ?_)))
    refine az (eI ?_)
    show(match ((s k).num == LS.num .ended) with|true=>_|false=>_)
    rw[LS.num_eq]
    by_cases e2:s k=.ended
    ·rw[decide_eq_true e2]
     refine dx (cB (dA (aC (jiu c199 c191 hk (au (au ?_))))))
     refine jf5 ⟨_,rfl,?_⟩
     cases hr:(Ro k).isRun with
     |true=>exact yes (.inr (.inr ⟨e2,hr⟩))
     |false=>
      refine no fun h=>?_
      rcases h with h|h|h
      ·exact e (.inl h)
      ·exact e (.inr h)
      ·have:=h.2;rw[hr] at this;exact Xft this
    ·rw[decide_eq_false e2]
     refine no fun h=>?_
     rcases h with h|h|h
     ·exact e (.inl h)
     ·exact e (.inr h)
     ·exact e2 h.1
  refine av (step2 _ fun m3 d199 d200 d201=>?_)
  refine cX (bR (ag d201 ⟨_,rfl,?_⟩))
  refine jhn (n:=n) (bI Ro s k) s H1 m3 d200 hH (fun j hj=>Nat.lt_trans (jcr o j hj) hk) (fun m4 h4=>?_) _ fun _=>rfl
  refine ih (jb1 Ro s k) _ m4 ((h4 199 (by decide)).trans d199) ((h4 200 (by decide)).trans d200) aB (fun i hi=>hl i (qa2 _ hi)) (fun m5=>?_) g hg
  rw[du]
  exact q m5
theorem jjo(o:RowsOK n Ro){i0:Nat}(hH:H (0,i0)=some (.list (stL n s)))(q:Q .none ⟨ay H (0,i0) (.list (stL n (reach Ro n s))),nx,m⟩):jaT [bz n Ro,.tag (0,i0)] [] ⟨H,nx,m⟩ Q:=by
 refine⟨rfl,?_⟩
 unfold jeq
 refine cX (bR ?_)
 show c6 _ _ _ _ ⟨H,nx,[(199,bz n Ro),(200,.tag (0,i0))]⟩ _
 have hn:=o.n
 show aW jcq _ _ _
 refine dF (aC (jdi (n:=n) (Ro:=Ro) rfl (au ?_)))
 refine⟨_,rfl,.inr (.inl ⟨n,rfl,Int.natCast_nonneg n,(NJ hn rfl),bj (by rw[jbg];simp;exact Nk1 0 8 0 100000 hn rfl) ?_⟩)⟩
 refine⟨1,rfl,-1,rfl,_,_,rfl,rfl,bj (by rw[jbg];simp;exact Nk1 0 8 0 100000 hn rfl) ?_⟩
 refine⟨_,rfl,?_⟩
 rw[jbg,←List.map_reverse]
 exact jh' o _ s H _ rfl rfl hH (fun j hj=>by simpa using hj) (fun m2=>q) _ fun _=>rfl
end
end
section
section
variable {c:Cx}{T:TT}{st:St}{H H':Tag→Option MObj}{nx:Nat}{m:List (Nat×MV)}{k j n:Nat}{Ro:Nat→Rw}{s:Nat→LS}{Q:MV→AS→Prop}{P:aH→AS→Prop}
theorem jjQ{es:List (Nat×MV)}{a:Nat}{v w:MV}:ar (ar es a v) a w=ar es a w:=by
 unfold ar
 by_cases h:es.any (fun p=>p.1 == a)=true
 ·rw[if_pos h]
  have h2:(es.map fun p=>if p.1 == a then(p.1,v) else p).any (fun p=>p.1 == a)=true:=by
   rw[List.any_eq_true] at h ⊢
   refine Zxa h fun x hx e=>?_
   exact⟨_,List.mem_map_of_mem hx,by rw[if_pos e];exact e⟩
  rw[if_pos h2,if_pos h,List.map_map]
  refine List.map_congr_left fun x _=>?_
  by_cases e:(x.1 == a)=true
  ·simp[Function.comp,e]
  ·simp[Function.comp,e]
 ·rw[if_neg h,if_neg h]
  rw[if_pos (by simp)]
  rw[List.map_append]
  congr 1
  ·rw[List.map_congr_left (g:=id)]
   ·simp
   ·intro x hx
    rw[if_neg];rfl
    intro e
    exact h (List.any_eq_true.mpr ⟨x,hx,e⟩)
  ·simp
theorem jbL{α:Type}{x:Nat}{t:MT}{elt:MEx}{m0 mr:List (Nat×MV)}{g:(Tag→Option MObj)→Prop}{R:MV→AS→Prop}(f:α→MV)(b:α→Bool)(e:α→MV)(hg:g H)(l:List α):∀(acc:List MV)(m1:List (Nat×MV)),(∀y,y≠x→m1.lookup y=m0.lookup y)→
  (∀a∈l,∀m2:List (Nat×MV),(∀y,y≠x→m2.lookup y=m0.lookup y)→m2.lookup x=some (f a)→(∀P,P (b a) ⟨H,nx,m2⟩→t ⟨H,nx,m2⟩ P)∧(b a=true→∀P,P (e a) ⟨H,nx,m2⟩→elt ⟨H,nx,m2⟩ P))→
  acc.length+l.length≤900→newL (acc++(l.filter b).map e) ⟨H,nx,mr⟩ R→d7 g (aG x) t elt mr (l.map f) acc ⟨H,nx,m1⟩ R:=by
 induction l with
 |nil=>
  intro acc m1 _ _ _ q
  rw[List.filter_nil,List.map_nil,List.append_nil] at q
  exact⟨hg,q⟩
 |cons a l ih=>
  intro acc m1 h1 hl hn q
  refine⟨hg,?_⟩
  have k1:∀y,y≠x→(ar m1 x (f a)).lookup y=m0.lookup y:=fun y hy=>by rw[ae,if_neg hy];exact h1 y hy
  refine Za (hl a qa4 (ar m1 x (f a)) k1 (by rw[ae,if_pos rfl])) fun ht he=>?_
  simp only[List.length_cons] at hn
  refine ht _ ?_
  cases hb:b a with
  |true=>
   refine he hb _ ⟨rfl,(NB hn rfl),?_⟩
   refine ih (acc++[e a]) _ k1 (fun i hi=>hl i (qa2 _ hi)) (by simp;exact NAl hn) ?_
   rw[List.filter_cons_of_pos hb] at q
   rw[List.append_assoc];exact q
  |false=>
   refine⟨rfl,?_⟩
   refine ih acc _ k1 (fun i hi=>hl i (qa2 _ hi)) (Nat.le_of_lt hn) ?_
   rw[List.filter_cons_of_neg (by rw[hb];decide)] at q
   exact q
theorem jb3{fs:List Nat}{f:fC}{st:MV→AS→AS}{t:MT}{elt:MEx}{σ:AS}{P:MV→AS→Prop}(h:f σ fun xs g σ1=>d7 g st t elt σ1.m xs [] ⟨σ1.H,σ1.nx,db fs σ1.m⟩ P):cK fs f st t elt σ P:=h
theorem jfd{a:Nat}{v:MV}(h:m.lookup a=some v):(db [a] m).lookup a=some v:=by
 unfold db
 rw[List.filterMap_cons]
 rw[h]
 simp
theorem jc6{l:List MV}:eqLs l []=some l.isEmpty:=by
 cases l<;>rfl
noncomputable def dG(s:Nat→LS)(l:List Nat):Bool:=(l.filter fun j=>decide (s j≠.ended)).isEmpty
theorem jfw{i0:Nat}{l:List Nat}{P:Bool→AS→Prop}(hl:∀j∈l,j<n)(hn:l.length≤8)(h200:m.lookup 200=some (.tag (0,i0)))(h201:m.lookup 201=some (.lst (l.map aD)))(hH:H (0,i0)=some (.list (stL n s)))(h:P (dG s l) ⟨H,nx,m⟩) :
  aA eqL (cK [200] (bq (ac 201)) (aG 194) (aA neG (aF (ac 200) (ac 194)) (ah (.str 25))) (ac 194)) (bc []) ⟨H,nx,m⟩ P:=by
 refine aS (jb3 (bR (ag h201 ⟨_,rfl,?_⟩)))
 show d7 _ _ _ _ _ _ _ ⟨H,nx,db [200] m⟩ _
 refine jbL (H:=H) (nx:=nx) (m0:=db [200] m) (g:=fun H=>cv H (MV.lst (l.map aD))=some (l.map aD)) aD (fun j=>decide (s j≠.ended)) aD rfl l [] _ (fun _ _=>rfl) (fun j hj m2 k2 kx=>⟨fun P1 hp=>?_,fun _ P1 hp=>ag kx hp⟩) (by simp;exact Nk1 0 8 0 900 hn rfl) ?_
 ·refine aS (fu ((k2 200 (by decide)).trans (jfd h200)) kx (hl j hj) hH ?_)
  refine az (jeB ?_)
  show P1 ((s j).num != LS.num .ended) _
  rw[LS.num_ne];exact hp
 ·refine bj (by rw[List.nil_append,List.length_map];exact qb1 (List.length_filter_le _ l) (Nk1 0 8 0 100000 hn rfl)) ?_
  refine bO (au (bj (by decide) ?_))
  refine⟨_,[],_,rfl,rfl,jc6,?_⟩
  have:([]++(l.filter fun j=>decide (s j≠LS.ended)).map aD).isEmpty=dG s l:=by
   unfold dG
   rw[List.nil_append]
   cases (l.filter fun j=>decide (s j≠LS.ended))<;>rfl
  rw[this];exact h
noncomputable def dM(Ro:Nat→Rw)(s:Nat→LS)(k:Nat):Bool:=match s k with
 |.reached=>dG s (Ro k).needs
 |.asked=>dG s (Ro k).setups
 |_=>false
noncomputable def jcJ(Ro:Nat→Rw)(n:Nat)(s:Nat→LS):List Nat:=(List.range n).filter (dM Ro s)
theorem jiX(o:RowsOK n Ro){i0 i1:Nat}(h01:i0≠i1):∀(l acc:List Nat)(H1:Tag→Option MObj)(m1:List (Nat×MV)),m1.lookup 199=some (bz n Ro)→m1.lookup 200=some (.tag (0,i0))→m1.lookup 203=some (.tag (0,i1))→H1 (0,i0)=some (.list (stL n s))→
  H1 (0,i1)=some (.list (acc.map aD))→(∀j∈l,j<n)→acc.length+l.length<900→
  (∀m2,m2.lookup 203=some (.tag (0,i1))→P .next ⟨ay H1 (0,i1) (.list ((acc++l.filter (dM Ro s)).map aD)),nx,m2⟩)→∀(g:(Tag→Option MObj)→Prop),(∀H,g H)→
  dJ g (aG 191) (ao (aL 201 (ah .none)) (ao (sIf (aA eqF (aF (ac 200) (ac 191)) (ah (.str 21))) (aL 201 (aF (aF (ac 199) (ac 191)) (ah (.int 0)))) aE) (ao (sIf (aA eqF (aF (ac 200) (ac 191)) (ah (.str 24))) (aL 201 (aF (aF (ac 199) (ac 191)) (ah (.int 1)))) aE) (sIf (cu (aA isNN (ac 201) (ah .none)) (cu (aA eqL (cK [200] (bq (ac 201)) (aG 194) (aA neG (aF (ac 200) (ac 194)) (ah (.str 25))) (ac 194)) (bc [])) ck)) (aI (aV 1 bg (ac 203) [(ac 191)])) aE)))) (l.map aD) ⟨H1,nx,m1⟩ P:=by
 intro l
 induction l with
 |nil=>
  intro acc H1 m1 h199 h200 h203 hH hA hl hn q g hg
  refine⟨hg _,?_⟩
  have:=q m1 h203
  rw[List.filter_nil,List.append_nil,jdx hA] at this
  exact this
 |cons k l ih=>
  intro acc H1 m1 h199 h200 h203 hH hA hl hn q g hg
  have hk:=hl k qa4
  simp only[List.length_cons] at hn
  refine⟨hg _,?_⟩
  have go:∀(b:Bool)(m2:List (Nat×MV)),dM Ro s k=b→m2.lookup 199=some (bz n Ro)→m2.lookup 200=some (.tag (0,i0))→m2.lookup 203=some (.tag (0,i1))→m2.lookup 191=some (aD k)→
    (match b with|true=>aI (aV 1 bg (ac 203) [(ac 191)]) ⟨H1,nx,m2⟩|false=>aE ⟨H1,nx,m2⟩) fun f σ'=>match f with
     |.next=>dJ g (aG 191) (ao (aL 201 (ah .none)) (ao (sIf (aA eqF (aF (ac 200) (ac 191)) (ah (.str 21))) (aL 201 (aF (aF (ac 199) (ac 191)) (ah (.int 0)))) aE) (ao (sIf (aA eqF (aF (ac 200) (ac 191)) (ah (.str 24))) (aL 201 (aF (aF (ac 199) (ac 191)) (ah (.int 1)))) aE) (sIf (cu (aA isNN (ac 201) (ah .none)) (cu (aA eqL (cK [200] (bq (ac 201)) (aG 194) (aA neG (aF (ac 200) (ac 194)) (ah (.str 25))) (ac 194)) (bc [])) ck)) (aI (aV 1 bg (ac 203) [(ac 191)])) aE)))) (l.map aD) σ' P
     |.cont=>dJ g (aG 191) (ao (aL 201 (ah .none)) (ao (sIf (aA eqF (aF (ac 200) (ac 191)) (ah (.str 21))) (aL 201 (aF (aF (ac 199) (ac 191)) (ah (.int 0)))) aE) (ao (sIf (aA eqF (aF (ac 200) (ac 191)) (ah (.str 24))) (aL 201 (aF (aF (ac 199) (ac 191)) (ah (.int 1)))) aE) (sIf (cu (aA isNN (ac 201) (ah .none)) (cu (aA eqL (cK [200] (bq (ac 201)) (aG 194) (aA neG (aF (ac 200) (ac 194)) (ah (.str 25))) (ac 194)) (bc [])) ck)) (aI (aV 1 bg (ac 203) [(ac 191)])) aE)))) (l.map aD) σ' P
     |.brk=>P .next σ'
     |.ret v=>P (.ret v) σ':=by
   intro b m2 hb c199 c200 c203 c191
   cases b with
   |true=>
    refine cf (cH (ag c203 ⟨by simp only[cM,hA],aC (ag c191 (au (dK hA (by simp;exact NB hn rfl) ⟨rfl,?_⟩)))⟩))
    refine ih (acc++[k]) _ m2 c199 c200 c203 ((af (ine h01)).trans hH) ?_ (fun i hi=>hl i (qa2 _ hi)) (by simp;exact NA hn) (fun m3 h3=>?_) g hg
    ·rw[aB,List.map_append];rfl
    ·have:=q m3 h3
     rw[List.filter_cons_of_pos hb] at this
     rw[du,List.append_assoc];exact this
   |false=>
    refine cz ?_
    refine ih acc _ m2 c199 c200 c203 hH hA (fun i hi=>hl i (qa2 _ hi)) (Nat.le_of_lt hn) (fun m3 h3=>?_) g hg
    have:=q m3 h3
    rw[List.filter_cons_of_neg (by rw[hb];decide)] at this
    exact this
  have L:∀(y:Nat)(v:MV),y≠201→y≠191→(ar (ar m1 191 (aD k)) 201 v).lookup y=m1.lookup y:=fun y v h1 h2=>by rw[ae,if_neg h1,ae,if_neg h2]
  have L191:∀v,(ar (ar m1 191 (aD k)) 201 v).lookup 191=some (aD k):=fun v=>by rw[ae,if_neg (by decide),ae,if_pos rfl]
  have b199:=fun v=>(L 199 v (by decide) (by decide)).trans h199
  have b200:=fun v=>(L 200 v (by decide) (by decide)).trans h200
  have b203:=fun v=>(L 203 v (by decide) (by decide)).trans h203
  have two:∀v w,ar (ar (ar m1 191 (aD k)) 201 v) 201 w=ar (ar m1 191 (aD k)) 201 w:=fun v w=>jjQ
  refine av (bn (az ?_))
  show ao _ _ ⟨H1,nx,ar (ar m1 191 (aD k)) 201 .none⟩ _
  refine av (bp (aS (fu (b200 _) (L191 _) hk hH ?_)))
  refine az (eI ?_)
  show(match ((s k).num == LS.num .reached) with|true=>_|false=>_)
  rw[LS.num_eq]
  by_cases e:s k=.reached
  ·rw[decide_eq_true e]
   refine bn (eY (a:=0) (b199 _) (L191 _) hk jdO ?_)
   dsimp only[kLet]
   rw[two]
   refine av (bp (aS (fu (b200 _) (L191 _) hk hH ?_)))
   refine az (eI ?_)
   show(match ((s k).num == LS.num .asked) with|true=>_|false=>_)
   rw[LS.num_eq,decide_eq_false (by rw[e];decide)]
   refine cz ?_
   refine bp (dx (aS (ag (by rw[ae,if_pos rfl]) (az ⟨false,rfl,rfl,?_⟩))))
   refine dx (jfw (l:=(Ro k).needs) (fun j hj=>Nat.lt_trans (o.needs k j hj) hk) (o.ln hk) (b200 _) (by rw[ae,if_pos rfl]) hH ?_)
   have hf:dM Ro s k=dG s (Ro k).needs:=by unfold dM;rw[e]
   cases hq:dG s (Ro k).needs with
   |true=>exact go true _ (hf.trans hq) (b199 _) (b200 _) (b203 _) (L191 _)
   |false=>exact go false _ (hf.trans hq) (b199 _) (b200 _) (b203 _) (L191 _)
  ·rw[decide_eq_false e]
   refine cz ?_
   refine av (bp (aS (fu (b200 _) (L191 _) hk hH ?_)))
   refine az (eI ?_)
   show(match ((s k).num == LS.num .asked) with|true=>_|false=>_)
   rw[LS.num_eq]
   by_cases e2:s k=.asked
   ·rw[decide_eq_true e2]
    refine bn (eY (a:=1) (b199 _) (L191 _) hk jcm ?_)
    dsimp only[kLet]
    rw[two]
    refine bp (dx (aS (ag (by rw[ae,if_pos rfl]) (az ⟨false,rfl,rfl,?_⟩))))
    refine dx (jfw (l:=(Ro k).setups) (fun j hj=>Nat.lt_trans (o.setups k j hj) hk) (o.ls hk) (b200 _) (by rw[ae,if_pos rfl]) hH ?_)
    have hf:dM Ro s k=dG s (Ro k).setups:=by unfold dM;rw[e2]
    cases hq:dG s (Ro k).setups with
    |true=>exact go true _ (hf.trans hq) (b199 _) (b200 _) (b203 _) (L191 _)
    |false=>exact go false _ (hf.trans hq) (b199 _) (b200 _) (b203 _) (L191 _)
   ·rw[decide_eq_false e2]
    refine cz ?_
    refine bp (dx (aS (ag (by rw[ae,if_pos rfl]) (az ⟨true,rfl,rfl,?_⟩))))
    refine go false _ ?_ (b199 _) (b200 _) (b203 _) (L191 _)
    unfold dM
    cases h:s k<;>first|rfl|exact absurd h e|exact absurd h e2
end
end
section
section
variable {c:Cx}{T:TT}{st:St}{H H':Tag→Option MObj}{nx:Nat}{m:List (Nat×MV)}{k j n:Nat}{Ro:Nat→Rw}{s:Nat→LS}{d:Nd}{Q:MV→AS→Prop}{P:aH→AS→Prop}
theorem jkc(o:RowsOK n Ro){i0:Nat}(hi:i0<nx)(hf:H (0,nx)=none)(hH:H (0,i0)=some (.list (stL n s)))(q:Q (.tag (0,nx)) ⟨ay H (0,nx) (.list ((jcJ Ro n s).map aD)),nx+1,m⟩):jaB [bz n Ro,.tag (0,i0)] [] ⟨H,nx,m⟩ Q:=by
 refine⟨rfl,?_⟩
 unfold jeZ
 show ao _ _ ⟨H,nx,[(199,bz n Ro),(200,.tag (0,i0))]⟩ _
 refine av (bn (bO (au (jaO hf (by decide) ?_))))
 refine av (jea (n:=n) (Ro:=Ro) o.n rfl ?_)
 have hn:=o.n
 refine jiX o (i0:=i0) (i1:=nx) (qa7 hi) (List.range n) [] _ _ rfl rfl rfl ((af (ine (qa7 hi))).trans hH) aB (fun j hj=>by simpa using hj) (by simp;exact Nk1 0 8 1 900 hn rfl) (fun m2 h2=>?_) _ fun _=>trivial
 refine cC (ag h2 ?_)
 rw[du,List.nil_append]
 exact q
noncomputable def eF(Ro:Nat→Rw)(s:Nat→LS)(k:Nat):Bool:=match s k with
 |.reached=>true
 |.asked=>true
 |.first=>!(Ro k).setups.isEmpty
 |_=>false
noncomputable def eX(Ro:Nat→Rw)(n:Nat)(s:Nat→LS):List Nat:=(List.range n).filter (eF Ro s)
theorem jhw{xs:List Nat}{P:Bool→AS→Prop}(h:P (!xs.isEmpty) ⟨H,nx,m⟩):neL (.lst (xs.map aD)) (.lst []) ⟨H,nx,m⟩ P:=by
 refine⟨_,[],_,rfl,rfl,jc6,?_⟩
 have:(xs.map aD).isEmpty=xs.isEmpty:=by cases xs<;>rfl
 rw[this];exact h
theorem jh3(o:RowsOK n Ro){i0 i1:Nat}(h01:i0≠i1):∀(l acc:List Nat)(H1:Tag→Option MObj)(m1:List (Nat×MV)),m1.lookup 199=some (bz n Ro)→m1.lookup 200=some (.tag (0,i0))→m1.lookup 203=some (.tag (0,i1))→H1 (0,i0)=some (.list (stL n s))→
  H1 (0,i1)=some (.list (acc.map aD))→(∀j∈l,j<n)→acc.length+l.length<900→
  (∀m2,m2.lookup 203=some (.tag (0,i1))→P .next ⟨ay H1 (0,i1) (.list ((acc++l.filter (eF Ro s)).map aD)),nx,m2⟩)→∀(g:(Tag→Option MObj)→Prop),(∀H,g H)→
  dJ g (aG 191) (sIf (mOr (aA inM (aF (ac 200) (ac 191)) (dg [(ah (.str 21)),(ah (.str 24))])) (mOr (cu (aA eqF (aF (ac 200) (ac 191)) (ah (.str 22))) (cu (aA neL (aF (aF (ac 199) (ac 191)) (ah (.int 1))) (bc [])) ck)) cy)) (aI (aV 1 bg (ac 203) [(ac 191)])) aE) (l.map aD) ⟨H1,nx,m1⟩ P:=by
 intro l
 induction l with
 |nil=>
  intro acc H1 m1 h199 h200 h203 hH hA hl hn q g hg
  refine⟨hg _,?_⟩
  have:=q m1 h203
  rw[List.filter_nil,List.append_nil,jdx hA] at this
  exact this
 |cons k l ih=>
  intro acc H1 m1 h199 h200 h203 hH hA hl hn q g hg
  have hk:=hl k qa4
  simp only[List.length_cons] at hn
  refine⟨hg _,?_⟩
  have c199:(ar m1 191 (aD k)).lookup 199=some (bz n Ro):=by rw[ae,if_neg (by decide)];exact h199
  have c200:(ar m1 191 (aD k)).lookup 200=some (.tag (0,i0)):=by rw[ae,if_neg (by decide)];exact h200
  have c203:(ar m1 191 (aD k)).lookup 203=some (.tag (0,i1)):=by rw[ae,if_neg (by decide)];exact h203
  have c191:(ar m1 191 (aD k)).lookup 191=some (aD k):=by rw[ae,if_pos rfl]
  have yes:∀P1:aH→AS→Prop,eF Ro s k=true→(eF Ro s k=true→P1 .next ⟨ay H1 (0,i1) (.list ((acc++[k]).map aD)),nx,ar m1 191 (aD k)⟩)→aI (aV 1 bg (ac 203) [(ac 191)]) ⟨H1,nx,ar m1 191 (aD k)⟩ P1:=fun P1 hb h=>by
   refine cf (cH (ag c203 ⟨by simp only[cM,hA],aC (ag c191 (au (dK hA (by simp;exact NB hn rfl) ⟨rfl,?_⟩)))⟩))
   have e:acc.map aD++[aD k]=(acc++[k]).map aD:=by simp
   rw[e];exact h hb
  have test:∀P1:aH→AS→Prop,(eF Ro s k=true→P1 .next ⟨ay H1 (0,i1) (.list ((acc++[k]).map aD)),nx,ar m1 191 (aD k)⟩)→(eF Ro s k=false→P1 .next ⟨H1,nx,ar m1 191 (aD k)⟩)→
    sIf (mOr (aA inM (aF (ac 200) (ac 191)) (dg [(ah (.str 21)),(ah (.str 24))])) (mOr (cu (aA eqF (aF (ac 200) (ac 191)) (ah (.str 22))) (cu (aA neL (aF (aF (ac 199) (ac 191)) (ah (.int 1))) (bc [])) ck)) cy)) (aI (aV 1 bg (ac 203) [(ac 191)])) aE ⟨H1,nx,ar m1 191 (aD k)⟩ P1:=fun P1 hy hno=>by
   refine bp (eN (aS (fu c200 c191 hk hH ?_)))
   refine aC (az (aC (az (au ⟨by decide,?_⟩))))
   refine jhS ?_
   show(match ((s k).num == LS.num .reached)||((s k).num == LS.num .asked) with|true=>_|false=>_)
   rw[LS.num_eq,LS.num_eq,←Bool.decide_or]
   by_cases e:s k=.reached∨s k=.asked
   ·rw[decide_eq_true e]
    exact yes P1 (by unfold eF;rcases e with e|e<;>rw[e]) hy
   ·rw[decide_eq_false e]
    refine eN (dx (aS (fu c200 c191 hk hH ?_)))
    refine az (eI ?_)
    show(match ((s k).num == LS.num .first) with|true=>_|false=>_)
    rw[LS.num_eq]
    by_cases e2:s k=.first
    ·rw[decide_eq_true e2]
     refine dx (aS (eY (a:=1) c199 c191 hk jcm (bO (au (bj (by decide) (jhw ?_))))))
     have hf:eF Ro s k=!(Ro k).setups.isEmpty:=by unfold eF;rw[e2]
     cases hq:(Ro k).setups.isEmpty with
     |true=>exact cz (hno (by rw[hf,hq];rfl))
     |false=>exact yes P1 (by rw[hf,hq];rfl) hy
    ·rw[decide_eq_false e2]
     refine cz (hno ?_)
     unfold eF
     cases h:s k<;>first|rfl|exact(e (.inl h)).elim|exact(e (.inr h)).elim|exact absurd h e2
  refine test _ (fun hb=>?_) fun hb=>?_
  ·refine ih (acc++[k]) _ _ c199 c200 c203 ((af (ine h01)).trans hH) aB (fun i hi=>hl i (qa2 _ hi)) (by simp;exact NA hn) (fun m3 h3=>?_) g hg
   have:=q m3 h3
   rw[List.filter_cons_of_pos hb] at this
   rw[du,List.append_assoc];exact this
  ·refine ih acc _ _ c199 c200 c203 hH hA (fun i hi=>hl i (qa2 _ hi)) (Nat.le_of_lt hn) (fun m3 h3=>?_) g hg
   have:=q m3 h3
   rw[List.filter_cons_of_neg (by rw[hb];decide)] at this
   exact this
theorem jjm(o:RowsOK n Ro){i0:Nat}(hi:i0<nx)(hf:H (0,nx)=none)(hH:H (0,i0)=some (.list (stL n s)))(q:Q (.tag (0,nx)) ⟨ay H (0,nx) (.list ((eX Ro n s).map aD)),nx+1,m⟩):jaC [bz n Ro,.tag (0,i0)] [] ⟨H,nx,m⟩ Q:=by
 refine⟨rfl,?_⟩
 unfold jep
 show ao _ _ ⟨H,nx,[(199,bz n Ro),(200,.tag (0,i0))]⟩ _
 refine av (bn (bO (au (jaO hf (by decide) ?_))))
 refine av (jea (n:=n) (Ro:=Ro) o.n rfl ?_)
 have hn:=o.n
 refine jh3 o (i0:=i0) (i1:=nx) (qa7 hi) (List.range n) [] _ _ rfl rfl rfl ((af (ine (qa7 hi))).trans hH) aB (fun j hj=>by simpa using hj) (by simp;exact Nk1 0 8 1 900 hn rfl) (fun m2 h2=>?_) _ fun _=>trivial
 refine cC (ag h2 ?_)
 rw[du,List.nil_append]
 exact q
noncomputable def eZ(kd:Nat):RS:=if kd=30 then .succ else if kd=31 then .upd else if kd=34 then .ign else .fail
noncomputable def fD(kd:Nat):Prop:=kd=30∨kd=31∨kd=32∨kd=33∨kd=34
theorem fin_mv{kd:Nat}(h:fD kd):((([(30,.str 35),(33,.str 32)]:List (Nat×MV)).lookup kd).getD (.str kd))=(eZ kd).mv:=by
 rcases h with rfl|rfl|rfl|rfl|rfl<;>rfl
noncomputable def dC(Ro:Nat→Rw)(s:Nat→LS)(k:Nat):RS:=if s k=.first∧(Ro k).setups≠[]∧(Ro k).isRun=true then .run else eZ (Ro k).kd
noncomputable def cL(Ro:Nat→Rw)(s:Nat→LS)(k:Nat):LS:=if s k=.first∧(Ro k).setups≠[]∧(Ro k).isRun=true then .asked else .ended
theorem jkd(o:RowsOK n Ro){i0:Nat}(hk:k<n)(hkd:fD (Ro k).kd)(r:R T st H nx)(hd:st.nd k=some d)(hi:i0<nx)(hH:H (0,i0)=some (.list (stL n s)))
  (q:∀H' nx',nx≤nx'→R T (st.setNd k { d with rs:=dC Ro s k }) H' nx'→H' (0,i0)=some (.list (stL n (upd s k (cL Ro s k))))→(∀i,i<nx→i≠i0→H' (0,i)=H (0,i))→Q .none ⟨H',nx',m⟩) :
  jbc [bz n Ro,.tag (0,i0),aD k,ndT k] [] ⟨H,nx,m⟩ Q:=by
 refine⟨rfl,?_⟩
 unfold je0
 show ao _ _ ⟨H,nx,[(199,bz n Ro),(200,.tag (0,i0)),(191,aD k),(154,ndT k)]⟩ _
 refine av (bn (eY (a:=2) (n:=n) (Ro:=Ro) rfl rfl hk jdN ?_))
 show ao _ _ ⟨H,nx,[(199,bz n Ro),(200,.tag (0,i0)),(191,aD k),(154,ndT k),(208,.str (Ro k).kd)]⟩ _
 have yes:(s k=.first∧(Ro k).setups≠[]∧(Ro k).isRun=true)→∀P1:aH→AS→Prop,(∀v,P1 (.ret v)=fun σ=>Q v ⟨σ.H,σ.nx,m⟩)→ao (aT (ac 154) 143 (ah (.str 36))) (ao (dv (ac 200) (ac 191) (ah (.str 24))) (bD (ah .none))) ⟨H,nx,[(199,bz n Ro),(200,.tag (0,i0)),(191,aD k),(154,ndT k),(208,.str (Ro k).kd)]⟩ P1:=fun hc P1 hP=>by
  have e1:dC Ro s k=.run:=if_pos hc
  have e2:cL Ro s k=.asked:=if_pos hc
  rw[e1,e2] at q
  have x:=r.node k d hd
  refine av (bf (az (ag rfl (bU x.obj (by decide) (Nle rfl) ?_))))
  have r1:=r.ndObj (d':={ d with rs:=.run }) hd (es:=ar (ndA k d) 143 (.str 36)) rfl rfl rfl rfl rfl rfl
  refine av (jcu (az (ag rfl (ag rfl (jeA (v:=.asked) hk (hN hH) ?_)))))
  refine cC (az ?_)
  try dsimp only[kRet]
  rw[hP]
  refine q _ nx (qa9 _) (r1.tmpSet (qa9 _) hi) aB fun i h1 h2=>?_
  exact(af (ine h2)).trans (hN rfl)
 have no:¬ (s k=.first∧(Ro k).setups≠[]∧(Ro k).isRun=true)→∀P1:aH→AS→Prop,(P1 .next=fun σ=>Q .none ⟨σ.H,σ.nx,m⟩)→ao (dv (ac 200) (ac 191) (ah (.str 25))) (aT (ac 154) 143 (aV 2 getM (jhU [((ah (.str 30)),(ah (.str 35))),((ah (.str 33)),(ah (.str 32)))]) [(ac 208),(ac 208)])) ⟨H,nx,[(199,bz n Ro),(200,.tag (0,i0)),(191,aD k),(154,ndT k),(208,.str (Ro k).kd)]⟩ P1:=fun hc P1 hP=>by
  have e1:dC Ro s k=eZ (Ro k).kd:=if_neg hc
  have e2:cL Ro s k=.ended:=if_neg hc
  rw[e1,e2] at q
  have x:=r.node k d hd
  refine av (jcu (az (ag rfl (ag rfl (jeA (v:=.ended) hk hH ?_)))))
  refine bf (cH ?_)
  show jfn _ _ _
  refine az (az (az (az ?_)))
  refine⟨_,(0,nx),rfl,⟨(af (ine (qb4 hi))).trans (r.tmp nx (qa9 _)),.inr (qa9 _)⟩,?_⟩
  have en:cw nx (0,nx)=nx+1:=by unfold cw;rw[if_pos rfl];simp
  dsimp only
  rw[en]
  refine⟨by simp only[cM,aB],aC (ag rfl (aC (ag rfl (au ?_))))⟩
  refine⟨(0,nx),_,_,_,none,rfl,aB,?_⟩
  have ev:(List.lookup (Ro k).kd (List.foldl (fun acc p=>ar acc p.1 p.2) [] [(30,MV.str 35),(33,MV.str 32)])).getD (MV.str (Ro k).kd)=(eZ (Ro k).kd).mv:=fin_mv hkd
  rw[ev]
  refine ag rfl ?_
  refine bU (t:=(10,k)) ((af gd).trans ((af gd).trans x.obj)) (by decide) (Nle rfl) ?_
  try dsimp only[kRet]
  rw[hP]
  show Q .none ⟨ay (ay (ay H (0,i0) (.list (stL n (upd s k .ended)))) (0,nx) (.dict [(30,MV.str 35),(33,MV.str 32)])) (10,k) (.inst 2 (ar (ndA k d) 143 (eZ (Ro k).kd).mv)),nx+1,m⟩
  have r1:=((r.tmpSet (qa9 _) hi (o:=.list (stL n (upd s k .ended)))).tmpSet (i:=nx) (nx':=nx+1) (Nat.le_succ _) (Nat.lt_succ_self _) (o:=.dict [(30,MV.str 35),(33,MV.str 32)])).ndObj (d':={ d with rs:=eZ (Ro k).kd }) hd (es:=ar (ndA k d) 143 (eZ (Ro k).kd).mv) rfl rfl rfl rfl rfl rfl
  refine q _ (nx+1) (Nat.le_succ _) r1 ?_ fun i h1 h2=>?_
  ·exact(af gd).trans ((af (ine (qa7 hi))).trans aB)
  ·exact(af gd).trans ((af (ine (qa7 h1))).trans (af (ine h2)))
 refine av (bp (dx (aS (fu (n:=n) (s:=s) rfl rfl hk hH ?_))))
 refine az (eI ?_)
 show(match ((s k).num == LS.num .first) with|true=>_|false=>_)
 rw[LS.num_eq]
 by_cases e:s k=.first
 ·rw[decide_eq_true e]
  refine dx (aS (eY (a:=1) (n:=n) (Ro:=Ro) rfl rfl hk jcm (bO (au (bj (by decide) (jhw ?_))))))
  cases hq:(Ro k).setups with
  |nil=>
   exact cz (no (fun h=>h.2.1 hq) _ rfl)
  |cons a l=>
   refine dx (cB (dA (aC (jiu (n:=n) (Ro:=Ro) rfl rfl hk (au (au ?_))))))
   refine jf5 ⟨_,rfl,?_⟩
   cases hr:(Ro k).isRun with
   |true=>exact yes ⟨e,by rw[hq];simp,hr⟩ _ fun v=>rfl
   |false=>exact cz (no (fun h=>by have:=h.2.2;rw[hr] at this;exact Xft this) _ rfl)
 ·rw[decide_eq_false e]
  exact cz (no (fun h=>e h.1) _ rfl)
end
end
section
noncomputable def nms:List String:=["a","b","c","d","e","f","g","h"]
noncomputable def jcL(c:Cx):Prop:=∀k,(h:k<8)→c.S k=Str.ofString (nms[k]'h)
theorem lt_nms:∀a b:Fin 8,ltCps (Str.ofString (nms[b.val]'b.isLt)).cps.toList (Str.ofString (nms[a.val]'a.isLt)).cps.toList=decide (b.val<a.val):=by decide +kernel
section
variable {c:Cx}{T:TT}{st:St}{H H':Tag→Option MObj}{nx:Nat}{m:List (Nat×MV)}{k j n:Nat}{Ro:Nat→Rw}{s:Nat→LS}{d:Nd}{Q:MV→AS→Prop}{P:aH→AS→Prop}
theorem lt_S(hN:jcL c){a b:Nat}(ha:a<8)(hb:b<8):ltCps (c.S b).cps.toList (c.S a).cps.toList=decide (b<a):=by
 rw[hN a ha,hN b hb];exact lt_nms ⟨a,ha⟩ ⟨b,hb⟩
theorem jf'(hN:jcL c):∀(l:List Nat)(p:Nat),p<8→(∀x∈l,x<8)→risingS (c.S p) (l.map c.S)=true→(p::l).Pairwise (·≤·)
 |[],p,_,_,_=>List.pairwise_singleton _ _
 |x::l,p,hp,hl,h=>by
  have hx:=hl x qa4
  have h':(!ltCps (c.S x).cps.toList (c.S p).cps.toList&&risingS (c.S x) (l.map c.S))=true:=h
  rw[Bool.and_eq_true,lt_S hN hp hx] at h'
  have hpx:p≤x:=by
   have:=h'.1
   simp at this;exact this
  have ih:=jf' hN l x hx (fun y hy=>hl y (qa2 _ hy)) h'.2
  refine List.pairwise_cons.mpr ⟨fun y hy=>?_,ih⟩
  rcases List.mem_cons.mp hy with rfl|hy
  ·exact hpx
  ·exact qb1 hpx ((List.pairwise_cons.mp ih).1 y hy)
theorem jf7(hN:jcL c){l:List Nat}(hl:∀x∈l,x<8)(h:sortedS (l.map c.S)=true):l.Pairwise (·≤·):=by
 cases l with
 |nil=>exact .nil
 |cons x l=>exact jf' hN l x (hl x qa4) (fun y hy=>hl y (qa2 _ hy)) h
theorem jf8(hN:jcL c){a b a' b':List Nat}(hb:∀x∈b,x<8)(h:a.Perm b)(pa:a'.Perm a)(pb:b'.Perm b)(sa:sortedS (a'.map c.S)=true)(sb:sortedS (b'.map c.S)=true):a'=b':=by
 have p:a'.Perm b':=(pa.trans h).trans pb.symm
 refine p.eq_of_pairwise (le:=(·≤·)) (fun x y _ _ h1 h2=>Nat.le_antisymm h1 h2) (jf7 hN (fun x hx=>hb x ((pa.trans h).mem_iff.mp hx)) sa) (jf7 hN (fun x hx=>hb x (pb.mem_iff.mp hx)) sb)
theorem jgg{l:List Nat}:eqLs (c8 l) (c8 l)=some true:=by
 have h:jcU (c8 l) (c8 l)=some true:=by
  induction l with
  |nil=>rfl
  |cons a l ih=>
   show(match eG (.str a) (.str a),jcU (c8 l) (c8 l) with|some b,some c=>some (b&&c)|_,_=>none)=_
   rw[ih]
   show some ((a == a)&&true)=_
   simp
 unfold eqLs
 rw[if_pos rfl,h]
theorem je4{v:MV}{l:List Nat}{P:MV→AS→Prop}(hv:bV H v=some (c8 l))(hl:l.length<60)(h:∀l':List Nat,l'.Perm l→sortedS (l'.map c.S)=true→P (.lst (c8 l')) ⟨H,nx,m⟩):jce [v] ⟨H,nx,m⟩ P:=
 ⟨v,rfl,.inl ⟨l,hv,(Nk1 1 60 1 64 hl rfl),fun l' p s=>bj (by unfold c8;rw[List.length_map,p.length_eq];exact Nk1 1 60 0 100000 hl rfl) (h l' p s)⟩⟩
noncomputable def dN(Ro:Nat→Rw)(s:Nat→LS)(k:Nat):List Nat:=(Ro k).needs++(if s k=.asked then(Ro k).setups else[])
noncomputable def jhX(Ro:Nat→Rw)(j:Nat):Bool:=(Ro j).kd == 32||(Ro j).kd == 33
noncomputable def ignK(Ro:Nat→Rw)(j:Nat):Bool:=(Ro j).kd == 34
theorem jhx{g a:Nat}{l:List Nat}{P:MV→AS→Prop}(r:R T st H nx)(hd:st.nd k=some d)(ha:a∈d9 2)(hl:(ndA k d).lookup a=some (.tag (g,k)))(hH:H (g,k)=some (.list (l.map ndT)))(hx:∀j∈l,st.nd j≠none∧j<T.n)(hlen:l.length<60)
  (h154:m.lookup 154=some (ndT k))(h:∀l':List Nat,l'.Perm l→sortedS (l'.map c.S)=true→P (.lst (c8 l')) ⟨H,nx,m⟩) :
  aW jce [(cK [] (bq (aq (ac 154) a)) (aG 214) ck (aq (aq (ac 214) 42) 62))] ⟨H,nx,m⟩ P:=by
 refine dF (aC (jb3 (bR (aY h154 (r.node k d hd).obj ha hl rfl ⟨_,bh hH,?_⟩))))
 show d7 _ _ _ _ _ _ _ ⟨H,nx,db [] m⟩ _
 refine jbL (H:=H) (nx:=nx) (m0:=db [] m) (g:=fun H=>cv H (.tag (g,k))=some (l.map ndT)) ndT (fun _=>true) .str (bh hH) l [] _ (fun _ _=>rfl) (fun j hj m2 k2 kx=>⟨fun P1 hp=>hp,fun _ P1 hp=>?_⟩) (by simp;exact Nk1 1 60 0 900 hlen rfl) ?_
 ·refine Zx (Option.ne_none_iff_exists'.mp (hx j hj).1) fun dj hdj=>?_
  exact jbT r hdj (hx j hj).2 kx hp
 ·have e:[]++(l.filter fun _=>true).map MV.str=c8 l:=by rw[List.nil_append,List.filter_eq_self.mpr fun _ _=>rfl];rfl
  rw[e]
  refine bj (by unfold c8;rw[List.length_map];exact Nk1 1 60 0 100000 hlen rfl) (au ?_)
  exact je4 rfl hlen h
theorem je6{x:Nat}{P:MV→AS→Prop}(hj:j<8)(hx:m.lookup x=some (aD j))(h:P (.str j) ⟨H,nx,m⟩):aF (ah (.lst cF)) (ac x) ⟨H,nx,m⟩ P:=
 ⟨_,hx,.str j,je8 (n:=8) (f:=.str) hj,h⟩
theorem jje(o:RowsOK n Ro)(hk:k<n):∀j∈dN Ro s k,j<n:=fun j hj=>by
 unfold dN at hj
 rcases List.mem_append.mp hj with h|h
 ·exact Nat.lt_trans (o.needs k j h) hk
 ·split at h
  ·exact Nat.lt_trans (o.setups k j h) hk
  ·exact Xnm h
theorem jiL(o:RowsOK n Ro)(hk:k<n):(dN Ro s k).length≤16:=by
 unfold dN
 have:=o.ln hk;have:=o.ls hk
 rw[List.length_append]
 split
 ·exact NDl (by assumption) this rfl
 ·simp;exact Nk1 0 8 0 16 (by assumption) rfl
theorem jis(o:RowsOK n Ro){l:List Nat}{b:Nat→Bool}{t:MT}{P:MV→AS→Prop}(hl:∀j∈l,j<n)(hlen:l.length≤16)(h199:m.lookup 199=some (bz n Ro))(h201:m.lookup 201=some (.lst (l.map aD)))
  (ht:∀j∈l,∀m2:List (Nat×MV),m2.lookup 199=some (bz n Ro)→m2.lookup 194=some (aD j)→∀P,P (b j) ⟨H,nx,m2⟩→t ⟨H,nx,m2⟩ P)(h:P (.lst (c8 (l.filter b))) ⟨H,nx,m⟩) :
  cK [199] (bq (ac 201)) (aG 194) t (aF (ah (.lst cF)) (ac 194)) ⟨H,nx,m⟩ P:=by
 refine jb3 (bR (ag h201 ⟨_,rfl,?_⟩))
 show d7 _ _ _ _ _ _ _ ⟨H,nx,db [199] m⟩ _
 have hn:=o.n
 refine jbL (H:=H) (nx:=nx) (m0:=db [199] m) (g:=fun H=>cv H (MV.lst (l.map aD))=some (l.map aD)) aD b .str rfl l [] _ (fun _ _=>rfl) (fun j hj m2 k2 kx=>⟨fun P1 hp=>ht j hj m2 ((k2 199 (by decide)).trans (jfd h199)) kx P1 hp,fun _ P1 hp=>je6 (by have:=hl j hj;exact qb1 this hn) kx hp⟩) (by simp;exact Nk1 0 16 0 900 hlen rfl) ?_
 refine bj (by rw[List.nil_append,List.length_map];exact qb1 (List.length_filter_le _ l) (Nk1 0 16 0 100000 hlen rfl)) ?_
 rw[List.nil_append];exact h
theorem jka(hN:jcL c)(o:RowsOK n Ro)(hTn:T.n=n){i0:Nat}(hk:k<n)(r:R T st H nx)(hd:st.nd k=some d)(hH:H (0,i0)=some (.list (stL n s)))(hb:d.bad.Perm ((dN Ro s k).filter (jhX Ro)))(hi:d.ign.Perm ((dN Ro s k).filter (ignK Ro)))
  (hx:∀j∈dN Ro s k,st.nd j≠none)(q:Q (.bool true) ⟨H,nx,m⟩):jap [bz n Ro,.tag (0,i0),aD k,ndT k] [] ⟨H,nx,m⟩ Q:=by
 refine⟨rfl,?_⟩
 unfold jcE
 show ao _ _ ⟨H,nx,[(199,bz n Ro),(200,.tag (0,i0)),(191,aD k),(154,ndT k)]⟩ _
 have hn:=o.n
 have wl:=jiL (s:=s) o hk
 have wlt:=jje (s:=s) o hk
 refine av (bn (dF (aC (eY (a:=0) (n:=n) (Ro:=Ro) rfl rfl hk jdO (au ?_)))))
 refine⟨_,rfl,.inl ⟨_,rfl,bj (by rw[List.length_map];have:=o.ln hk;exact Nk1 0 8 0 100000 this rfl) ?_⟩⟩
 show ao _ _ ⟨H,nx,[(199,bz n Ro),(200,.tag (0,i0)),(191,aD k),(154,ndT k),(201,.lst ((Ro k).needs.map aD))]⟩ _
 have step:∀P1:aH→AS→Prop,P1 .next ⟨H,nx,[(199,bz n Ro),(200,.tag (0,i0)),(191,aD k),(154,ndT k),(201,.lst ((dN Ro s k).map aD))]⟩→
   sIf (aA eqF (aF (ac 200) (ac 191)) (ah (.str 24))) (aL 201 (mCat (ac 201) (aF (aF (ac 199) (ac 191)) (ah (.int 1))))) aE ⟨H,nx,[(199,bz n Ro),(200,.tag (0,i0)),(191,aD k),(154,ndT k),(201,.lst ((Ro k).needs.map aD))]⟩ P1:=fun P1 h=>by
  refine bp (aS (fu (n:=n) (s:=s) rfl rfl hk hH ?_))
  refine az (eI ?_)
  show(match ((s k).num == LS.num .asked) with|true=>_|false=>_)
  rw[LS.num_eq]
  unfold dN at h
  by_cases e:s k=.asked
  ·rw[decide_eq_true e]
   rw[if_pos e] at h
   refine bn ?_
   show ac 201 _ _
   refine ag rfl ?_
   refine eY (a:=1) (n:=n) (Ro:=Ro) rfl rfl hk jcm ?_
   refine⟨_,_,rfl,rfl,bj (by rw[List.length_append,List.length_map,List.length_map];have:=o.ln hk;have:=o.ls hk;exact NDl (by assumption) this rfl) ?_⟩
   rw[←List.map_append];exact h
  ·rw[decide_eq_false e]
   rw[if_neg e,List.append_nil] at h
   exact cz h
 refine av (step _ ?_)
 refine av (bn (jis o (l:=dN Ro s k) (b:=jhX Ro) wlt wl rfl rfl (fun j hj m2 k199 k194 P1 hp=>?_) ?_))
 ·refine aS (eY (a:=2) k199 k194 (wlt j hj) jdN ?_)
  refine aC (az (aC (az (au ⟨by decide,?_⟩))))
  exact jhS hp
 refine av (bn (jis o (l:=dN Ro s k) (b:=ignK Ro) wlt wl rfl rfl (fun j hj m2 k199 k194 P1 hp=>?_) ?_))
 ·refine aS (eY (a:=2) k199 k194 (wlt j hj) jdN ?_)
  exact az (eI hp)
 have x:=r.node k d hd
 have lb:d.bad.length≤16:=by rw[hb.length_eq];exact qb1 (List.length_filter_le _ _) wl
 have li:d.ign.length≤16:=by rw[hi.length_eq];exact qb1 (List.length_filter_le _ _) wl
 have hxb:∀j∈d.bad,st.nd j≠none∧j<T.n:=fun j hj=>by
  have:=(List.mem_filter.mp (hb.mem_iff.mp hj)).1
  exact⟨hx j this,by rw[hTn];exact wlt j this⟩
 have hxi:∀j∈d.ign,st.nd j≠none∧j<T.n:=fun j hj=>by
  have:=(List.mem_filter.mp (hi.mem_iff.mp hj)).1
  exact⟨hx j this,by rw[hTn];exact wlt j this⟩
 refine av (bp (aS ?_))
 refine jhx (c:=c) (g:=15) r hd (by decide) rfl x.bad hxb (Nk1 0 16 1 60 lb rfl) rfl fun a pa sa=>?_
 refine dF (aC (ag rfl (au (je4 (c:=c) rfl (Nat.lt_of_le_of_lt (List.length_filter_le _ _) (Nk1 0 16 1 60 wl rfl)) fun b pb sb=>?_))))
 have e1:=jf8 hN (fun y hy=>by have:=wlt y (List.mem_filter.mp hy).1;exact qb1 this hn) hb pa pb sa sb
 subst e1
 refine⟨_,_,_,rfl,rfl,jgg,?_⟩
 refine cz ?_
 refine cC ?_
 show aA _ _ _ _ _
 refine aS ?_
 refine jhx (c:=c) (g:=16) r hd (by decide) rfl x.ign hxi (Nk1 0 16 1 60 li rfl) rfl fun a' pa sa=>?_
 refine dF (aC (ag rfl (au (je4 (c:=c) rfl (Nat.lt_of_le_of_lt (List.length_filter_le _ _) (Nk1 0 16 1 60 wl rfl)) fun b pb sb=>?_))))
 have e2:=jf8 hN (fun y hy=>by have:=wlt y (List.mem_filter.mp hy).1;exact qb1 this hn) hi pa pb sa sb
 subst e2
 exact⟨_,_,_,rfl,rfl,jgg,q⟩
end
end
section
noncomputable def cA(l:List Nat):MV:=.lst (l.map .str)
structure TaskAt(H:Tag→Option MObj)(k:Nat)(needs setups:List Nat):Prop where
 obj:∃es,H (1,k)=some (.inst 0 es)∧es.length<100∧es.lookup 62=some (.str k)∧es.lookup 50=some (.tag (3,k))∧es.lookup 52=some (.lst [])∧es.lookup 70=some (cA setups)∧es.lookup 64=some (.lst [])∧es.lookup 51=some (.lst [])∧es.lookup 84=some (.lst [])∧es.lookup 102=none
 dep:H (3,k)=some (.list (needs.map .str))
 opt:∃es,H (1,k)=some (.inst 0 es)∧es.lookup 69=some .none
section
variable {c:Cx}{H H':Tag→Option MObj}{nx:Nat}{m:List (Nat×MV)}{k j n:Nat}{Q:MV→AS→Prop}{P:aH→AS→Prop}
theorem jhA(hk:k<8):eT 44 k=some false∧eT 45 k=some false:=by
 unfold eT
 simp[hk]
theorem jgA{x:Nat}{a:Nat}{P:Bool→AS→Prop}(ha:a=44∨a=45)(hk:k<8)(hx:m.lookup x=some (.str k))(h:P false ⟨H,nx,m⟩):aA (jcY eT) (ah (.str a)) (ac x) ⟨H,nx,m⟩ P:=by
 refine aS (az (ag hx ⟨a,k,false,rfl,rfl,?_,h⟩))
 rcases ha with rfl|rfl
 ·exact(jhA hk).1
 ·exact(jhA hk).2
theorem jjO:∀(l acc:List Nat)(H1:Tag→Option MObj)(m1:List (Nat×MV))(es:List (Nat×MV)),m1.lookup 61=some (.tag (1,k))→H1 (1,k)=some (.inst 0 es)→es.lookup 50=some (.tag (3,k))→H1 (3,k)=some (.list (acc.map .str))→(∀j∈l,j<8)→acc.length+l.length<900→
  (∀m2,P .next ⟨ay H1 (3,k) (.list ((acc++l).map .str)),nx,m2⟩)→∀(g:(Tag→Option MObj)→Prop),(∀H,g H)→
  dJ g (aG 97) (sIf (aA (jcY eT) (ah (.str 45)) (ac 97)) (aI (aV 1 bg (aq (ac 61) 84) [(ac 97)])) (aI (aV 1 bg (aq (ac 61) 50) [(ac 97)]))) (l.map .str) ⟨H1,nx,m1⟩ P:=by
 intro l
 induction l with
 |nil=>
  intro acc H1 m1 es h61 h1 h50 h3 hl hn q g hg
  refine⟨hg _,?_⟩
  have:=q m1
  rw[List.append_nil,jdx h3] at this
  exact this
 |cons j l ih=>
  intro acc H1 m1 es h61 h1 h50 h3 hl hn q g hg
  simp only[List.length_cons] at hn
  refine⟨hg _,?_⟩
  have a61:(ar m1 97 (.str j)).lookup 61=some (.tag (1,k)):=by rw[ae,if_neg (by decide)];exact h61
  refine bp (jgA (.inr rfl) (hl j qa4) (by rw[ae,if_pos rfl]) ?_)
  refine cf (cH (aY a61 h1 (by decide) h50 rfl ⟨by simp only[cM,h3],aC (ag (by rw[ae,if_pos rfl]) (au (dK h3 (by simp;exact NB hn rfl) ⟨rfl,?_⟩)))⟩))
  refine ih (acc++[j]) _ _ es a61 (hN h1) h50 ?_ (fun i hi=>hl i (qa2 _ hi)) (by simp;exact NA hn) (fun m2=>?_) g hg
  ·rw[aB,List.map_append];rfl
  ·have:=q m2
   rw[du,List.append_assoc];exact this
theorem jev{l:List Nat}{es:List (Nat×MV)}(h1:H (1,k)=some (.inst 0 es))(h50:es.lookup 50=some (.tag (3,k)))(h3:H (3,k)=some (.list []))(hl:∀j∈l,j<8)(hn:l.length<900)
  (q:Q .none ⟨ay H (3,k) (.list (l.map .str)),nx,m⟩):jaH [.tag (1,k),cA l] [] ⟨H,nx,m⟩ Q:=by
 refine⟨rfl,?_⟩
 unfold jbs
 refine cX (bR ?_)
 show ac 50 ⟨H,nx,[(61,.tag (1,k)),(50,cA l)]⟩ _
 refine ag rfl ⟨_,rfl,?_⟩
 exact jjO l [] H _ es rfl h1 h50 h3 hl (by simpa using hn) (fun m2=>q) _ fun _=>rfl
theorem jg7{l:List Nat}{es:List (Nat×MV)}(h1:H (1,k)=some (.inst 0 es))(hes:es.length<50)(h85:es.lookup 85=none)(h86:es.lookup 86=none)(h87:es.lookup 87=none)(h3:H (3,k)=none)(hl:∀j∈l,j<8)(hn:l.length<900)
  (q:∀H' es',(∀g i,(g,i)≠(1,k)→(g,i)≠(3,k)→H' (g,i)=H (g,i))→H' (1,k)=some (.inst 0 es')→es'=ar (ar (ar (ar (ar es 83 .none) 51 (.lst [])) 50 (.tag (3,k))) 84 (.lst [])) 52 (.lst [])→H' (3,k)=some (.list (l.map .str))→Q .none ⟨H',nx,m⟩) :
  jbx [.tag (1,k),.tup [],cA l,.tup []] [] ⟨H,nx,m⟩ Q:=by
 refine⟨rfl,?_⟩
 unfold jcG
 show ao _ _ ⟨H,nx,[(61,.tag (1,k)),(51,.tup []),(50,cA l),(52,.tup [])]⟩ _
 have A:∀(e:List (Nat×MV))(a b:Nat)(v:MV),b≠a→e.lookup b=none→(ar e a v).lookup b=none:=fun e a b v h h0=>by rw[ae,if_neg h];exact h0
 refine av (bf (az (ag rfl (bU h1 (by decide) (Nk1 1 50 1 1000 hes rfl) ?_))))
 refine av (bf (bO (au (bj (by decide) (ag rfl (cZ (by decide) (by have:=jar es 83 .none;exact Nk2 0 1 1 50 1 1000 this hes rfl) ?_))))))
 refine av (cf (cJ (ag rfl ⟨(1,k),_,rfl,aB,A _ _ _ _ (by decide) (A _ _ _ _ (by decide) h85),?_⟩)))
 refine aC (ag rfl (au (au ⟨rfl,?_⟩)))
 unfold jbt
 refine cX (bR ?_)
 show ac 51 ⟨_,nx,[(61,.tag (1,k)),(51,.tup [])]⟩ _
 refine ag rfl ⟨_,rfl,⟨rfl,rfl,?_⟩⟩
 show ao _ _ ⟨ay H (1,k) (.inst 0 (ar (ar es 83 .none) 51 (.lst []))),nx,[(61,.tag (1,k)),(51,.tup []),(50,cA l),(52,.tup [])]⟩ _
 have e2l:=jar (ar es 83 .none) 51 (.lst [])
 have e1l:=jar es 83 .none
 refine av (bf (bO (au (jcb (g:=3) (i:=k) (hN (g:=3) (g':=1) h3) (by decide) (by decide) (ag rfl (bU (hN aB) (by decide) (Nk2 0 2 1 50 1 1000 (Nk2 0 1 0 1 0 2 e2l e1l rfl) hes rfl) ?_))))))
 have e3l:=jar (ar (ar es 83 .none) 51 (.lst [])) 50 (.tag (3,k))
 refine av (bf (bO (au (bj (by decide) (ag rfl (cZ (by decide) (by omega) ?_))))))
 have e4l:=jar (ar (ar (ar es 83 .none) 51 (.lst [])) 50 (.tag (3,k))) 84 (.lst [])
 rw[jf9 gd,du]
 have fin:∀(P1:aH→AS→Prop),(P1 .next=fun σ=>Q .none ⟨σ.H,σ.nx,m⟩)→ao (aT (ac 61) 52 (bc [])) (sIf (mTr (ac 52)) (aI (bx 0 87 jaI (ac 61) [(ac 52)] [])) aE)
   ⟨ay (ay H (1,k) (.inst 0 (ar (ar (ar (ar es 83 .none) 51 (.lst [])) 50 (.tag (3,k))) 84 (.lst [])))) (3,k) (.list (l.map .str)),nx,[(61,.tag (1,k)),(51,.tup []),(50,cA l),(52,.tup [])]⟩ P1:=fun P1 hP=>by
  refine av (bf (bO (au (bj (by decide) (ag rfl (bU (hN aB) (by decide) (by omega) ?_))))))
  refine bp (cB (ag rfl ⟨false,rfl,cz ?_⟩))
  try dsimp only[kRet]
  rw[hP]
  show Q .none ⟨ay (ay (ay H (1,k) (.inst 0 (ar (ar (ar (ar es 83 .none) 51 (.lst [])) 50 (.tag (3,k))) 84 (.lst [])))) (3,k) (.list (l.map .str))) (1,k) (.inst 0 (ar (ar (ar (ar (ar es 83 .none) 51 (.lst [])) 50 (.tag (3,k))) 84 (.lst [])) 52 (.lst []))),nx,m⟩
  refine q _ _ (fun g i g1 g2=>?_) aB rfl (hN aB)
  exact(af g1).trans ((af g2).trans (af g1))
 refine av (bp (cB (ag rfl ⟨!l.isEmpty,by show some (!(l.map MV.str).isEmpty)=_;cases l<;>rfl,?_⟩)))
 rcases Bool.eq_false_or_eq_true l.isEmpty with hl0|hl0
 ·rw[hl0]
  have:=List.isEmpty_iff.mp hl0
  subst this
  exact cz (fin _ rfl)
 ·rw[hl0]
  show aI _ ⟨ay (ay H (1,k) (.inst 0 (ar (ar (ar (ar es 83 .none) 51 (.lst [])) 50 (.tag (3,k))) 84 (.lst [])))) (3,k) (.list []),nx,[(61,.tag (1,k)),(51,.tup []),(50,cA l),(52,.tup [])]⟩ _
  refine cf (cJ (ag rfl ⟨(1,k),ar (ar (ar (ar es 83 .none) 51 (.lst [])) 50 (.tag (3,k))) 84 (.lst []),rfl,aB,A _ _ _ _ (by decide) (A _ _ _ _ (by decide) (A _ _ _ _ (by decide) (A _ _ _ _ (by decide) h86))),?_⟩))
  refine aC (ag rfl (au (au ?_)))
  refine jev (l:=l) (hN aB) (by rw[ae,if_neg (by decide),ae,if_pos rfl]) aB hl hn ⟨rfl,?_⟩
  rw[du]
  exact fin _ rfl
end
end
section
section
variable {c:Cx}{H H':Tag→Option MObj}{nx:Nat}{m:List (Nat×MV)}{k j n:Nat}{Q:MV→AS→Prop}{P:aH→AS→Prop}
theorem jfa(q:Q (.lst []) ⟨H,nx,m⟩):jaV [.tag (1,k),.lst []] [] ⟨H,nx,m⟩ Q:=by
 refine⟨rfl,?_⟩
 unfold jbV
 refine av (bn (bO (au (bj (by decide) ?_))))
 refine av (cX (bR ?_))
 show ac 88 ⟨H,nx,[(61,.tag (1,k)),(88,.lst []),(53,.lst [])]⟩ _
 refine ag rfl ⟨_,rfl,⟨rfl,?_⟩⟩
 exact cC (ag rfl q)
theorem jfL(q:Q (.lst []) ⟨H,nx,m⟩):ja5 [.tag (1,k),.tup []] [] ⟨H,nx,m⟩ Q:=by
 refine⟨rfl,?_⟩
 unfold jb5
 refine av (bn (bO (au (bj (by decide) ?_))))
 refine av (cX (bR ?_))
 show ac 88 ⟨H,nx,[(61,.tag (1,k)),(88,.tup []),(64,.lst [])]⟩ _
 refine ag rfl ⟨_,rfl,⟨rfl,?_⟩⟩
 exact cC (ag rfl q)
theorem i_orV'{f g:MEx}{σ:AS}{P:MV→AS→Prop}(h:f σ (kOrV g P)):mOrV f g σ P:=h
set_option maxHeartbeats 1000000 in
theorem jg9{needs setups:List Nat}(hk:k<8)(h1:H (1,k)=some (.inst 0 []))(h3:H (3,k)=none)(h4:H (4,k)=none)(h5:H (5,k)=none)(hl:∀j∈needs,j<8)(hn:needs.length<900)(hs:setups.length<900)
  (q:∀H',(∀g i,i≠k∨g=0∨5<g→H' (g,i)=H (g,i))→TaskAt H' k needs setups→Q .none ⟨H',nx,m⟩) :
  jaj [.tag (1,k),.str k,.lst []] [cA needs,cA setups] ⟨H,nx,m⟩ Q:=by
 refine⟨rfl,?_⟩
 unfold jaM
 show ao _ _ ⟨H,nx,[(61,.tag (1,k)),(62,.str k),(63,.lst []),(51,.tup []),(64,.tup []),(50,cA needs),(53,.tup []),(52,.tup []),(65,cA setups),(66,.none),(67,.bool false),(68,.none)]⟩ _
 refine av (bn (i_orV' (ag rfl ⟨false,rfl,jbK (g:=4) (i:=k) h4 (by decide) ?_⟩)))
 show ao _ _ ⟨ay H (4,k) (.dict []),nx,[(61,.tag (1,k)),(62,.str k),(63,.lst []),(51,.tup []),(64,.tup []),(50,cA needs),(53,.tup []),(52,.tup []),(65,cA setups),(66,.none),(67,.bool false),(68,.tag (4,k))]⟩ _
 refine av (bp (jgA (.inl rfl) hk rfl (cz ?_)))
 refine av (bf (ag rfl (ag rfl (bU (C:=0) (es:=[]) (hN h1) (by decide) (by decide) ?_))))
 refine av (bf (az (ag rfl (cZ (C:=0) (es:=[(62,.str k)]) (by decide) (Nle rfl) ?_))))
 refine av (bf (dF (aC (ag rfl (au ⟨_,rfl,.inl ⟨_,rfl,bj (by rw[List.length_map];exact Nk1 1 900 0 100000 hs rfl) ?_⟩⟩)))))
 refine ag rfl (cZ (C:=0) (es:=[(62,.str k),(69,.none)]) (by decide) (Nle rfl) ?_)
 refine av (bp (aS (ag rfl (az ⟨false,rfl,rfl,?_⟩))))
 refine bf (dF (aC ?_))
 refine jdJ (v:=.lst []) rfl (by decide) (au ⟨_,rfl,.inl ⟨_,rfl,bj (by decide) ?_⟩⟩) fun A hA=>ag rfl hA
 refine ag rfl (cZ (C:=0) (es:=[(62,.str k),(69,.none),(70,cA setups)]) (by decide) (Nle rfl) ?_)
 show ao _ _ ⟨ay (ay H (4,k) (.dict [])) (1,k) (.inst 0 [(62,.str k),(69,.none),(70,cA setups),(63,.lst [])]),nx,[(61,.tag (1,k)),(62,.str k),(63,.lst []),(51,.tup []),(64,.tup []),(50,cA needs),(53,.tup []),(52,.tup []),(65,cA setups),(66,.none),(67,.bool false),(68,.tag (4,k))]⟩ _
 refine av (cf (cJ (ag rfl ⟨(1,k),[(62,.str k),(69,.none),(70,cA setups),(63,.lst [])],rfl,aB,rfl,?_⟩)))
 refine aC (ag rfl (aC (ag rfl (aC (ag rfl (au (au ?_)))))))
 refine jg7 (l:=needs) (es:=[(62,.str k),(69,.none),(70,cA setups),(63,.lst [])]) aB (Nle rfl) rfl rfl rfl ((af gd).trans ((af gd).trans h3)) hl hn fun H1 es1 k1 o1 ee d1=>⟨rfl,?_⟩
 have ee':es1=[(62,.str k),(69,.none),(70,cA setups),(63,.lst []),(83,.none),(51,.lst []),(50,.tag (3,k)),(84,.lst []),(52,.lst [])]:=ee
 clear ee
 subst ee'
 have h4':H1 (4,k)=some (.dict []):=(k1 4 k gd gd).trans ((af gd).trans aB)
 have h5':H1 (5,k)=none:=(k1 5 k gd gd).trans ((af gd).trans ((af gd).trans h5))
 show ao _ _ ⟨H1,nx,[(61,.tag (1,k)),(62,.str k),(63,.lst []),(51,.tup []),(64,.tup []),(50,cA needs),(53,.tup []),(52,.tup []),(65,cA setups),(66,.none),(67,.bool false),(68,.tag (4,k))]⟩ _
 refine av (bn (fj (cB (ag rfl ⟨false,rfl,bO (au (bj (by decide) ?_))⟩))))
 show ao _ _ ⟨H1,nx,[(61,.tag (1,k)),(62,.str k),(63,.lst []),(51,.tup []),(64,.tup []),(50,cA needs),(53,.lst []),(52,.tup []),(65,cA setups),(66,.none),(67,.bool false),(68,.tag (4,k))]⟩ _
 refine av (bf (ag rfl (ag rfl (bU o1 (by decide) (Nle rfl) ?_))))
 show ao _ _ ⟨ay H1 (1,k) (.inst 0 [(62,.str k),(69,.none),(70,cA setups),(63,.lst []),(83,.none),(51,.lst []),(50,.tag (3,k)),(84,.lst []),(52,.lst []),(68,.tag (4,k))]),nx,_⟩ _
 refine av (bp (cB (aY (t:=(1,k)) rfl aB (by decide) rfl rfl ⟨false,?_,cz ?_⟩)))
 ·show bX _ (.tag (4,k))=_
  have:ay H1 (1,k) (.inst 0 [(62,.str k),(69,.none),(70,cA setups),(63,.lst []),(83,.none),(51,.lst []),(50,.tag (3,k)),(84,.lst []),(52,.lst []),(68,.tag (4,k))]) (4,k)=some (.dict []):=hN h4'
  simp only[bX,this];rfl
 refine av (bf (bO (au (bj (by decide) (ag rfl (cZ (t:=(1,k)) (by decide) (Nle rfl) ?_))))))
 show ao _ _ ⟨ay H1 (1,k) (.inst 0 [(62,.str k),(69,.none),(70,cA setups),(63,.lst []),(83,.none),(51,.lst []),(50,.tag (3,k)),(84,.lst []),(52,.lst []),(68,.tag (4,k)),(71,.lst [])]),nx,_⟩ _
 refine av (bf (cJ (ag rfl ⟨(1,k),_,rfl,aB,rfl,aC (ag rfl (au (au (jfa ?_))))⟩)))
 refine ag rfl (cZ (t:=(1,k)) (by decide) (Nlt rfl) ?_)
 show ao _ _ ⟨ay H1 (1,k) (.inst 0 [(62,.str k),(69,.none),(70,cA setups),(63,.lst []),(83,.none),(51,.lst []),(50,.tag (3,k)),(84,.lst []),(52,.lst []),(68,.tag (4,k)),(71,.lst []),(53,.lst [])]),nx,_⟩ _
 refine av (bf (cJ (ag rfl ⟨(1,k),_,rfl,aB,rfl,aC (ag rfl (au (au (jfL ?_))))⟩)))
 refine ag rfl (cZ (t:=(1,k)) (by decide) (Nlt rfl) ?_)
 show ao _ _ ⟨ay H1 (1,k) (.inst 0 [(62,.str k),(69,.none),(70,cA setups),(63,.lst []),(83,.none),(51,.lst []),(50,.tag (3,k)),(84,.lst []),(52,.lst []),(68,.tag (4,k)),(71,.lst []),(53,.lst []),(64,.lst [])]),nx,_⟩ _
 refine av (bf (ag rfl (ag rfl (cZ (t:=(1,k)) (by decide) (Nlt rfl) ?_))))
 refine av (bf (ag rfl (ag rfl (cZ (t:=(1,k)) (by decide) (Nlt rfl) ?_))))
 refine av (bf (az (ag rfl (cZ (t:=(1,k)) (by decide) (Nlt rfl) ?_))))
 refine av (bf (jbK (g:=5) (i:=k) ((af gd).trans h5') (by decide) (ag rfl (bU (t:=(1,k)) aB (by decide) (Nlt rfl) ?_))))
 refine bf (az (ag rfl (cZ (t:=(1,k)) (by decide) (Nlt rfl) ?_)))
 show Q .none ⟨ay (ay (ay H1 (1,k) _) (5,k) (.dict [])) (1,k) (.inst 0 [(62,.str k),(69,.none),(70,cA setups),(63,.lst []),(83,.none),(51,.lst []),(50,.tag (3,k)),(84,.lst []),(52,.lst []),(68,.tag (4,k)),(71,.lst []),(53,.lst []),(64,.lst []),(66,.none),(67,.bool false),(72,.none),(73,.tag (5,k)),(74,.bool false)]),nx,m⟩
 refine q _ (fun g i hg=>?_) ⟨⟨_,aB,by simp,rfl,rfl,rfl,rfl,rfl,rfl,rfl,rfl⟩,?_,⟨_,aB,rfl⟩⟩
 ·have hne:∀g',g'≠0→g'≤5→((g,i):Nat×Nat)≠(g',k):=fun g' h0 h1 e=>by
   refine Za (Prod.mk.inj e) fun zq1 zq2=>?_;obtain rfl:=zq1;obtain rfl:=zq2
   rcases hg with hg|hg|hg
   ·exact hg rfl
   ·exact h0 hg
   ·exact Nk3 0 5 6 0 (by assumption) hg rfl
  have e1:=hne 1 (by decide) (by decide)
  have e3:=hne 3 (by decide) (by decide)
  have e4:=hne 4 (by decide) (by decide)
  have e5:=hne 5 (by decide) (by decide)
  rw[af e1,af e5,af e1,k1 g i e1 e3,af e1,af e4]
 ·exact(af gd).trans ((af gd).trans ((af gd).trans d1))
end
end
section
section
variable {c:Cx}{H H':Tag→Option MObj}{nx:Nat}{m:List (Nat×MV)}{k j n:Nat}{Ro:Nat→Rw}{Q:MV→AS→Prop}{P:aH→AS→Prop}
theorem je5{x:Nat}{f:MEx}{l:List Nat}{R:MV→AS→Prop}(hl:∀j∈l,j<8)(hn:l.length≤100)(hf:∀A:MV→AS→Prop,A (.lst (l.map aD)) ⟨H,nx,m⟩→f ⟨H,nx,m⟩ A)(h:R (cA l) ⟨H,nx,m⟩) :
  cK [] (bq f) (aG x) ck (aF (ah (.lst cF)) (ac x)) ⟨H,nx,m⟩ R:=by
 refine jb3 (bR (hf _ ⟨_,rfl,?_⟩))
 show d7 _ _ _ _ _ _ _ ⟨H,nx,db [] m⟩ _
 refine jbL (H:=H) (nx:=nx) (m0:=db [] m) (g:=fun H=>cv H (MV.lst (l.map aD))=some (l.map aD)) aD (fun _=>true) .str rfl l [] _ (fun _ _=>rfl) (fun j hj m2 k2 kx=>⟨fun P1 hp=>hp,fun _ P1 hp=>je6 (hl j hj) kx hp⟩) (by simp;exact Nk1 0 100 0 900 hn rfl) ?_
 rw[List.nil_append,List.filter_eq_self.mpr fun _ _=>rfl]
 exact bj (by rw[List.length_map];exact Nk1 0 100 0 100000 hn rfl) h
theorem TaskAt.keep{H':Tag→Option MObj}{a b:List Nat}(x:TaskAt H k a b)(h1:H' (1,k)=H (1,k))(h3:H' (3,k)=H (3,k)):TaskAt H' k a b:=
 ⟨by refine Zx x.obj fun es e=>?_;exact⟨es,h1.trans e.1,e.2⟩,h3.trans x.dep,by refine Zx x.opt fun es e=>?_;exact⟨es,h1.trans e.1,e.2⟩⟩
noncomputable def tkT(k:Nat):MV:=.tag (1,k)
theorem jki(o:RowsOK n Ro){it:Nat}(hit:it<nx):∀(l acc:List Nat)(H1:Tag→Option MObj)(m1:List (Nat×MV)),m1.lookup 199=some (bz n Ro)→m1.lookup 105=some (.tag (0,it))→H1 (0,it)=some (.list (acc.map tkT))→(∀j∈l,j<n)→l.Nodup→(∀j∈l,j∉acc)→
  (∀j∈acc,TaskAt H1 j (Ro j).needs (Ro j).setups)→(∀j∈l,∀g,1≤g→g≤5→H1 (g,j)=none)→acc.length+l.length<900→
  (∀H' m',(∀y,y≠191→y≠192→m'.lookup y=m1.lookup y)→H' (0,it)=some (.list ((acc++l).map tkT))→(∀g i,(g=0∧i≠it)∨5<g→H' (g,i)=H1 (g,i))→(∀j∈acc++l,TaskAt H' j (Ro j).needs (Ro j).setups)→P .next ⟨H',nx,m'⟩)→∀(g:(Tag→Option MObj)→Prop),(∀H,g H)→
  dJ g (aG 191) (ao (aL 192 (cK [] (bq (aF (aF (ac 199) (ac 191)) (ah (.int 0)))) (aG 194) ck (aF (ah (.lst cF)) (ac 194)))) (aI (aV 1 bg (ac 105) [(bF (mNew 0 jaj) [(aF (ah (.lst cF)) (ac 191)),(bc [])] [(ac 192),(cK [] (bq (aF (aF (ac 199) (ac 191)) (ah (.int 1)))) (aG 194) ck (aF (ah (.lst cF)) (ac 194)))])]))) (l.map aD) ⟨H1,nx,m1⟩ P:=by
 intro l
 induction l with
 |nil=>
  intro acc H1 m1 h199 h105 hA hl hn hd ht hf hlen q g hg
  refine⟨hg _,q H1 m1 (fun _ _ _=>rfl) ?_ (fun _ _ _=>rfl) ?_⟩
  ·rw[List.append_nil];exact hA
  ·rw[List.append_nil];exact ht
 |cons k l ih=>
  intro acc H1 m1 h199 h105 hA hl hn hd ht hf hlen q g hg
  refine Za (List.nodup_cons.mp hn) fun hn1 hn2=>?_
  have hk:=hl k qa4
  have o8:=o.n
  simp only[List.length_cons] at hlen
  have hneeds:∀j∈(Ro k).needs,j<8:=fun j hj=>by have:=o.needs k j hj;exact Nk2 2 0 0 8 1 8 (Nk2 1 0 1 0 2 0 this hk rfl) o8 rfl
  have hsetups:∀j∈(Ro k).setups,j<8:=fun j hj=>by have:=o.setups k j hj;exact Nk2 2 0 0 8 1 8 (Nk2 1 0 1 0 2 0 this hk rfl) o8 rfl
  have l1:=o.ln hk
  have l2:=o.ls hk
  have fk:=hf k qa4
  refine⟨hg _,?_⟩
  have L:∀(y:Nat)(v w:MV),y≠192→y≠191→(ar (ar m1 191 v) 192 w).lookup y=m1.lookup y:=fun y v w h1 h2=>by rw[ae,if_neg h1,ae,if_neg h2]
  have a199:(ar m1 191 (aD k)).lookup 199=some (bz n Ro):=by rw[ae,if_neg (by decide)];exact h199
  have a191:(ar m1 191 (aD k)).lookup 191=some (aD k):=by rw[ae,if_pos rfl]
  have b199:=fun w=>(L 199 (aD k) w (by decide) (by decide)).trans h199
  have b105:=fun w=>(L 105 (aD k) w (by decide) (by decide)).trans h105
  have b191:∀w,(ar (ar m1 191 (aD k)) 192 w).lookup 191=some (aD k):=fun w=>by rw[ae,if_neg (by decide),ae,if_pos rfl]
  have b192:∀w,(ar (ar m1 191 (aD k)) 192 w).lookup 192=some w:=fun w=>by rw[ae,if_pos rfl]
  refine av (bn (je5 (l:=(Ro k).needs) hneeds (Nk1 0 8 0 100 l1 rfl) (fun A hA=>eY (a:=0) a199 a191 hk jdO hA) ?_))
  show aI _ ⟨H1,nx,ar (ar m1 191 (aD k)) 192 (cA (Ro k).needs)⟩ _
  refine cf (cH (ag (b105 _) ⟨by simp only[cM,hA],aC (dA ?_)⟩))
  refine aC (je6 (qb1 hk o8) (b191 _) (aC (bO (au (bj (by decide) (au ?_))))))
  refine aC (ag (b192 _) (aC (je5 (l:=(Ro k).setups) hsetups (Nk1 0 8 0 100 l2 rfl) (fun A hA=>eY (a:=1) (b199 _) (b191 _) hk jcm hA) (au ?_))))
  refine⟨(1,k),⟨fk 1 (by decide) (by decide),.inl (by show(1:Nat)≠0;decide)⟩,?_⟩
  have en:cw nx (1,k)=nx:=if_neg (by show(1:Nat)≠0;decide)
  dsimp only
  rw[en]
  refine jg9 (k:=k) (needs:=(Ro k).needs) (setups:=(Ro k).setups) (qb1 hk o8) aB ((af gd).trans (fk 3 (by decide) (by decide))) ((af gd).trans (fk 4 (by decide) (by decide))) ((af gd).trans (fk 5 (by decide) (by decide))) hneeds (Nk1 0 8 1 900 l1 rfl) (Nk1 0 8 1 900 l2 rfl) fun H2 k2 t2=>⟨rfl,?_⟩
  have k2':∀g i,i≠k∨g=0∨5<g→H2 (g,i)=H1 (g,i):=fun g i hg=>(k2 g i hg).trans (af fun e=>by
   refine Za (Prod.mk.inj e) fun zq1 zq2=>?_;obtain rfl:=zq1;obtain rfl:=zq2
   rcases hg with hg|hg|hg
   ·exact hg rfl
   ·exact absurd hg (by decide)
   ·exact Nk0 (a:=0) 6 1 hg rfl)
  have hA2:H2 (0,it)=some (.list (acc.map tkT)):=(k2' 0 it (.inr (.inl rfl))).trans hA
  refine au (dK hA2 (by simp;exact NB hlen rfl) ⟨rfl,?_⟩)
  have et:acc.map tkT++[MV.tag (1,k)]=(acc++[k]).map tkT:=by rw[List.map_append];rfl
  rw[et]
  refine ih (acc++[k]) _ _ (b199 _) (b105 _) aB (fun i hi=>hl i (qa2 _ hi)) hn2 (fun i hi=>?_) (fun i hi=>?_) (fun i hi g h1 h2=>?_) (by simp;exact NA hlen) (fun H' m' hm hl' hk' ht'=>?_) g hg
  ·rw[List.mem_append,List.mem_singleton]
   rintro (h|h)
   ·exact hd i (qa2 _ hi) h
   ·subst h;exact hn1 hi
  ·rcases List.mem_append.mp hi with h|h
   ·have hik:i≠k:=fun e=>hd k qa4 (e▸h)
    exact(ht i h).keep ((af gd).trans (k2' 1 i (.inl hik))) ((af gd).trans (k2' 3 i (.inl hik)))
   ·rw[List.mem_singleton] at h
    subst h
    exact t2.keep (af gd) (af gd)
  ·have hik:i≠k:=fun e=>hn1 (e▸hi)
   exact(af (gne (qb4 h1))).trans ((k2' g i (.inl hik)).trans (hf i (qa2 _ hi) g h1 h2))
  ·refine q H' m' (fun y h1 h2=>(hm y h1 h2).trans (L y _ _ h2 h1)) ?_ (fun g i hg=>?_) ?_
   ·rw[List.append_assoc] at hl';exact hl'
   ·rw[hk' g i hg]
    rcases hg with⟨h1,h2⟩|h
    ·subst h1
     exact(af (ine h2)).trans (k2' 0 i (.inr (.inl rfl)))
    ·exact(af (gne (qb4 (Nk1 6 0 1 0 h rfl)))).trans (k2' g i (.inr (.inr h)))
   ·rw[List.append_assoc] at ht';exact ht'
end
end
section
structure TCtx(n:Nat)(Ro:Nat→Rw)(od:List Nat)(H:Tag→Option MObj):Prop where
 ta:∀j,j<n→TaskAt H j (Ro j).needs (Ro j).setups
 lt:∀j∈od,j<n
 all:∀j,j<n→j∈od
 nd:od.Nodup
noncomputable def tkD(l:List Nat):List (Nat×MV):=l.map fun j=>(j,tkT j)
noncomputable def eB(v:MV):List (Nat×MV):=[(105,.tag (21,1)),(64,.tag (21,2)),(106,.tag (21,3)),(107,v)]
theorem jbQ{l:List Nat}{k:Nat}:(tkD l).lookup k=if k∈l then some (tkT k) else none:=by
 unfold tkD
 induction l with
 |nil=>rfl
 |cons a l ih=>
  rw[List.map_cons,List.lookup_cons]
  by_cases h:k=a
  ·subst h;simp
  ·rw[beq_eq_false_iff_ne.mpr h,ih]
   simp[h]
theorem jj7{l:List Nat}{k:Nat}(h:k∉l):ar (tkD l) k (tkT k)=tkD (l++[k]):=by
 unfold ar tkD
 rw[if_neg]
 ·simp
 ·simp only[List.any_map,List.any_eq_true,Function.comp,beq_iff_eq,not_exists,not_and]
  intro x hx e
  exact h (e▸hx)
section
variable {c:Cx}{H H':Tag→Option MObj}{nx:Nat}{m:List (Nat×MV)}{k j n:Nat}{Ro:Nat→Rw}{od:List Nat}{Q:MV→AS→Prop}{P:aH→AS→Prop}
theorem TCtx.keep(x:TCtx n Ro od H)(h:∀g i,g=1∨g=3→H' (g,i)=H (g,i)):TCtx n Ro od H':=⟨fun j hj=>(x.ta j hj).keep (h 1 j (.inl rfl)) (h 3 j (.inr rfl)),x.lt,x.all,x.nd⟩
theorem jcn{α:Type}{x:Nat}{f:α→MV}{body:MS}{g:(Tag→Option MObj)→Prop}{m0:List (Nat×MV)}(vs:List Nat)(hx:x∈vs)(hg:g H)(l:List α):∀(m1:List (Nat×MV)),(∀y,y∉vs→m1.lookup y=m0.lookup y)→
  (∀a∈l,∀m2:List (Nat×MV),(∀y,y∉vs→m2.lookup y=m0.lookup y)→m2.lookup x=some (f a)→∀P:aH→AS→Prop,(∀m3:List (Nat×MV),(∀y,y∉vs→m3.lookup y=m0.lookup y)→P .next ⟨H,nx,m3⟩)→body ⟨H,nx,m2⟩ P)→
  (∀m3:List (Nat×MV),(∀y,y∉vs→m3.lookup y=m0.lookup y)→P .next ⟨H,nx,m3⟩)→dJ g (aG x) body (l.map f) ⟨H,nx,m1⟩ P:=by
 induction l with
 |nil=>
  intro m1 h1 _ q
  exact⟨hg,q m1 h1⟩
 |cons a l ih=>
  intro m1 h1 hb q
  refine⟨hg,?_⟩
  refine hb a qa4 (ar m1 x (f a)) (fun y hy=>?_) (by rw[ae,if_pos rfl]) _ fun m3 h3=>?_
  ·rw[ae,if_neg fun(e:y=x)=>hy (by rw[e];exact hx)];exact h1 y hy
  ·exact ih m3 h3 (fun i hi=>hb i (qa2 _ hi)) q
theorem u_raw{v:Value}{σ:AS}{P:MV→AS→Prop}(h:P (.raw v) σ):fi v σ P:=h
theorem jge{f:MEx}{σ:AS}{Q:List MV→((Tag→Option MObj)→Prop)→AS→Prop}(h:f σ fun v σ1=>∃t es eo,v=.view false t∧σ1.H t=some (.dict es eo)∧∀o,Q (es.map (·.2)) (fun H=>H t=some (.dict es (some o))) { σ1 with H:=ay σ1.H t (.dict es (some o)) }):jeD f σ Q:=h
theorem jjI{C n:Nat}{g:List MV→List MV→MEx}{a:MEx}{fs:List MEx}{σ:AS}{P:MV→AS→Prop}(h:a σ fun x σ1=>∃t es,x=.tag t∧σ1.H t=some (.inst C es)∧es.lookup n=none∧cr fs σ1 fun xs σ2=>g xs [] σ2 P):jfS C n g a fs σ P:=h
theorem jjk(t:TCtx n Ro od H):∀(l acc:List Nat)(H1:Tag→Option MObj)(m1:List (Nat×MV))(eo:Option Obj),m1.lookup 61=some (.tag (21,0))→H1 (21,0)=some (.inst 1 (eB .none))→H1 (21,1)=some (.dict (tkD acc) eo)→H1 (21,3)=some (.list (acc.map .str))→
  (∀g i,g≠21→H1 (g,i)=H (g,i))→H1 (21,2)=some (.dict [])→(∀j∈l,j<n∧j∉acc)→l.Nodup→acc.length+l.length<900→
  (∀H' m',(∀y,y≠42→m'.lookup y=m1.lookup y)→H' (21,0)=some (.inst 1 (eB .none))→(∃eo,H' (21,1)=some (.dict (tkD (acc++l)) eo))→H' (21,3)=some (.list ((acc++l).map .str))→(∀g i,g≠21→H' (g,i)=H (g,i))→H' (21,2)=some (.dict [])→P .next ⟨H',nx,m'⟩)→
  ∀(g:(Tag→Option MObj)→Prop),(∀H,g H)→
  dJ g (aG 42) (ao (sIf (eU (mTr (aW (jgE 0) [(ac 42),fi (.ref (fA 0))]))) dm aE) (ao (sIf (aA inM (aq (ac 42) 62) (aq (ac 61) 105)) dm aE) (ao (dv (aq (ac 61) 105) (aq (ac 42) 62) (ac 42)) (aI (aV 1 bg (aq (ac 61) 106) [(aq (ac 42) 62)]))))) (l.map tkT) ⟨H1,nx,m1⟩ P:=by
 intro l
 induction l with
 |nil=>
  intro acc H1 m1 eo h61 h0 h1 h3 hk h2 hl hn hlen q g hg
  refine⟨hg _,q H1 m1 (fun _ _=>rfl) h0 ⟨eo,?_⟩ ?_ hk h2⟩
  ·rw[List.append_nil];exact h1
  ·rw[List.append_nil];exact h3
 |cons k l ih=>
  intro acc H1 m1 eo h61 h0 h1 h3 hk h2 hl hn hlen q g hg
  refine Za (List.nodup_cons.mp hn) fun hn1 hn2=>?_
  refine Za (hl k qa4) fun hkn hka=>?_
  simp only[List.length_cons] at hlen
  have a61:(ar m1 42 (tkT k)).lookup 61=some (.tag (21,0)):=by rw[ae,if_neg (by decide)];exact h61
  have a42:(ar m1 42 (tkT k)).lookup 42=some (.tag (1,k)):=by rw[ae,if_pos rfl];rfl
  refine fq ((t.ta k hkn).obj) fun es e1 e2 e62 _=>?_
  have o1:H1 (1,k)=some (.inst 0 es):=(hk 1 k (by decide)).trans e1
  refine⟨hg _,?_⟩
  show ao _ _ ⟨H1,nx,ar m1 42 (tkT k)⟩ _
  refine av (bp (jfg (cB (dF (aC (ag a42 (aC ?_)))))))
  refine u_raw (au ?_)
  refine⟨(1,k),es,rfl,o1,true,rfl,cz ?_⟩
  refine av (bp (aS (aY a42 o1 (by decide) e62 rfl (aY a61 h0 (by decide) rfl rfl ⟨false,?_,cz ?_⟩))))
  ·rw[jcy h1,jbQ,if_neg hka];rfl
  refine av (jcu (ag a42 (aY a61 h0 (by decide) rfl rfl (aY a42 o1 (by decide) e62 rfl (.inr ⟨(21,1),tkD acc,eo,k,rfl,rfl,h1,by unfold tkD;rw[List.length_map];exact NB hlen rfl,?_⟩)))))
  have ea:ar (tkD acc) k (.tag (1,k))=tkD (acc++[k]):=jj7 hka
  rw[ea]
  refine cf (cH (aY (t:=(21,0)) a61 ((af jd).trans h0) (by decide) rfl rfl ⟨by have:ay H1 (21,1) (.dict (tkD (acc++[k]))) (21,3)=some (.list (acc.map .str)):=(af jd).trans h3;simp only[cM,this],aC ?_⟩))
  refine aY a42 ((af gd).trans o1) (by decide) e62 rfl (au (dK ((af jd).trans h3) (by simp;exact NB hlen rfl) ⟨rfl,?_⟩))
  have el:acc.map MV.str++[MV.str k]=(acc++[k]).map .str:=by rw[List.map_append];rfl
  rw[el]
  refine ih (acc++[k]) _ _ none a61 ?_ ?_ aB (fun g i hg=>?_) ?_ (fun i hi=>⟨(hl i (qa2 _ hi)).1,?_⟩) hn2 (by simp;exact NA hlen) (fun H' m' hm b0 b1 b3 bk b2=>?_) g hg
  ·exact(af jd).trans ((af jd).trans h0)
  ·exact(af jd).trans aB
  ·exact(af (gne hg)).trans ((af (gne hg)).trans (hk g i hg))
  ·exact(af jd).trans ((af jd).trans h2)
  ·rw[List.mem_append,List.mem_singleton]
   rintro (h|h)
   ·exact(hl i (qa2 _ hi)).2 h
   ·subst h;exact hn1 hi
  ·rw[List.append_assoc] at b1 b3
   exact q H' m' (fun y hy=>(hm y hy).trans (by rw[ae,if_neg hy])) b0 b1 b3 bk b2
theorem jfY{eo:Option Obj}{v:MV}(o:RowsOK n Ro)(t:TCtx n Ro od H)(h0:H (21,0)=some (.inst 1 (eB v)))(h1:H (21,1)=some (.dict (tkD od) eo))
  (q:∀H',(∀t',t'≠(21,1)→H' t'=H t')→(∃eo,H' (21,1)=some (.dict (tkD od) eo))→Q .none ⟨H',nx,m⟩):jan [.tag (21,0)] [] ⟨H,nx,m⟩ Q:=by
 refine⟨rfl,?_⟩
 unfold jaN
 refine cX (jge (cH ?_))
 show aq (ac 61) 105 ⟨H,nx,[(61,.tag (21,0))]⟩ _
 refine aY rfl h0 (by decide) rfl rfl ⟨by simp only[cM,h1],au ⟨(21,1),_,_,rfl,h1,(21,1),_,_,rfl,h1,fun ob=>?_⟩⟩
 have ev:(tkD od).map (·.2)=od.map tkT:=by unfold tkD;rw[List.map_map];rfl
 rw[ev]
 have k0:∀t',t'≠(21,1)→ay H (21,1) (.dict (tkD od) (some ob)) t'=H t':=fun t' ht=>af ht
 have t':=t.keep (H':=ay H (21,1) (.dict (tkD od) (some ob))) fun g i hg=>k0 _ (gne (by rcases hg with h|h<;>omega))
 have h0':ay H (21,1) (.dict (tkD od) (some ob)) (21,0)=some (.inst 1 (eB v)):=(k0 _ jd).trans h0
 have h1':ay H (21,1) (.dict (tkD od) (some ob)) (21,1)=some (.dict (tkD od) (some ob)):=aB
 have q':=q _ k0 ⟨_,h1'⟩
 revert t' h0' h1' q'
 generalize ay H (21,1) (.dict (tkD od) (some ob))=H2
 intro t' h0' h1' q'
 refine jcn (H:=H2) (m0:=[(61,.tag (21,0))]) (f:=tkT) (x:=42) [42,97,115] (by decide) h1' od _ (fun _ _=>rfl) (fun k hk m2 k2 kx P1 hp=>?_) fun m3 h3=>q'
 have hkn:=t'.lt k hk
 have o8:=o.n
 refine jc7 ((t'.ta k hkn).obj) fun es e1 e2 e62 e50 _ e70 _=>?_
 have e3:=(t'.ta k hkn).dep
 have inn:∀j,j<n→fw H2 (.str j) (.tag (21,1))=some true:=fun j hj=>by rw[jcy h1',jbQ,if_pos (t'.all j hj)];rfl
 refine av (cX (bR (aY kx e1 (by decide) e50 rfl ⟨_,bh e3,?_⟩)))
 refine jcn (H:=H2) (m0:=m2) (f:=MV.str) (x:=97) [97] (by decide) (bh e3) (Ro k).needs _ (fun _ _=>rfl) (fun j hj m4 k4 kx4 P2 hp2=>?_) fun m4 k4=>?_
 ·have k61:m4.lookup 61=some (.tag (21,0)):=(k4 61 (by decide)).trans (k2 61 (by decide))
  refine bp (aS (ag kx4 (aY k61 h0' (by decide) rfl rfl ⟨true,inn j (Nat.lt_trans (o.needs k j hj) hkn),cz (hp2 m4 k4)⟩)))
 have k42:m4.lookup 42=some (.tag (1,k)):=(k4 42 (by decide)).trans kx
 refine cX (bR (aY k42 e1 (by decide) e70 rfl ⟨_,rfl,?_⟩))
 refine jcn (H:=H2) (m0:=m4) (f:=MV.str) (x:=115) (g:=fun H=>cv H (cA (Ro k).setups)=some ((Ro k).setups.map MV.str)) [115] (by decide) rfl (Ro k).setups _ (fun _ _=>rfl) (fun j hj m5 k5 kx5 P2 hp2=>?_) fun m5 k5=>hp m5 fun y hy=>?_
 ·have k61:m5.lookup 61=some (.tag (21,0)):=(k5 61 (by decide)).trans ((k4 61 (by decide)).trans (k2 61 (by decide)))
  refine bp (aS (ag kx5 (aY k61 h0' (by decide) rfl rfl ⟨true,inn j (Nat.lt_trans (o.setups k j hj) hkn),cz (hp2 m5 k5)⟩)))
 ·have h115:y∉[115]:=fun h=>hy (by rw[List.mem_singleton] at h;rw[h];decide)
  have h97:y∉[97]:=fun h=>hy (by rw[List.mem_singleton] at h;rw[h];decide)
  exact(k5 y h115).trans ((k4 y h97).trans (k2 y hy))
theorem jhj{eo:Option Obj}(t:TCtx n Ro od H)(h2:H (21,2)=some (.dict [] eo))(q:Q .none ⟨H,nx,m⟩):jam [.tag (21,2),.lst (od.map tkT)] [] ⟨H,nx,m⟩ Q:=by
 refine⟨rfl,?_⟩
 unfold jaG
 refine av (cX (bR ?_))
 show ac 104 ⟨H,nx,[(64,.tag (21,2)),(104,.lst (od.map tkT))]⟩ _
 refine ag rfl ⟨_,rfl,?_⟩
 refine jcn (H:=H) (m0:=[(64,.tag (21,2)),(104,.lst (od.map tkT))]) (f:=tkT) (x:=42) (g:=fun H=>cv H (MV.lst (od.map tkT))=some (od.map tkT)) [42,89] (by decide) rfl od _ (fun _ _=>rfl) (fun k hk m2 k2 kx P1 hp=>?_) fun m3 k3=>?_
 ·refine jdk ((t.ta k (t.lt k hk)).obj) fun es e1 e2 e62 e50 e52 e70 e64 _=>?_
  refine cX (bR (aY kx e1 (by decide) e64 rfl ⟨_,rfl,rfl,hp m2 k2⟩))
 refine cX (bR (ag (k3 104 (by decide)) ⟨_,rfl,?_⟩))
 refine jcn (H:=H) (m0:=m3) (f:=tkT) (x:=42) (g:=fun H=>cv H (MV.lst (od.map tkT))=some (od.map tkT)) [42] (by decide) rfl od _ (fun _ _=>rfl) (fun k hk m2 k2 kx P1 hp=>?_) fun m4 _=>q
 refine ja3 ((t.ta k (t.lt k hk)).obj) fun es e1 e2 e62 e50 e52 e70 e64 e51 _=>?_
 have k64:m2.lookup 64=some (.tag (21,2)):=(k2 64 (by decide)).trans (k3 64 (by decide))
 refine cf (dA (aC (ag k64 (aC (ag kx (aC (aY kx e1 (by decide) e51 rfl (au (au ⟨rfl,?_⟩)))))))))
 unfold jay
 refine cX (bR ?_)
 show ac 120 ⟨H,nx,[(64,.tag (21,2)),(42,.tag (1,k)),(120,.lst [])]⟩ _
 exact ag rfl ⟨_,rfl,rfl,rfl,hp m2 k2⟩
end
end
section
section
variable {c:Cx}{H H':Tag→Option MObj}{nx:Nat}{m:List (Nat×MV)}{k j n:Nat}{Ro:Nat→Rw}{od:List Nat}{Q:MV→AS→Prop}{P:aH→AS→Prop}
theorem jfO(o:RowsOK n Ro)(t:TCtx n Ro od H)(h0:H (21,0)=some (.inst 1 []))(h1:H (21,1)=none)(h2:H (21,2)=none)(h3:H (21,3)=none)
  (q:∀H',(∀g i,g≠21→H' (g,i)=H (g,i))→H' (21,0)=some (.inst 1 (eB .none))→(∃eo,H' (21,1)=some (.dict (tkD od) eo))→H' (21,2)=some (.dict [])→H' (21,3)=some (.list (od.map .str))→Q .none ⟨H',nx,m⟩) :
  jai [.tag (21,0),.lst (od.map tkT)] [] ⟨H,nx,m⟩ Q:=by
 refine⟨rfl,?_⟩
 unfold jbD
 show ao _ _ ⟨H,nx,[(61,.tag (21,0)),(104,.lst (od.map tkT))]⟩ _
 have n1:∀{g i a b:Nat}{o:MObj}{H:Tag→Option MObj}{x:Option MObj},i≠b→H (g,i)=x→ay H (g,b) o (g,i)=x:=fun hne h=>(af (ine hne)).trans h
 refine av (bf (jbK (g:=21) (i:=1) h1 (by decide) (ag rfl (bU (t:=(21,0)) (C:=1) (es:=[]) ((af jd).trans h0) (by decide) (by decide) ?_))))
 refine av (bf (jbK (g:=21) (i:=2) ((af jd).trans ((af jd).trans h2)) (by decide) (ag rfl (bU (t:=(21,0)) (C:=1) (es:=[(105,.tag (21,1))]) ((af jd).trans aB) (by decide) (Nle rfl) ?_))))
 refine av (bf (bO (au (jcb (g:=21) (i:=3) ((af jd).trans ((af jd).trans ((af jd).trans ((af jd).trans h3)))) (by decide) (by decide) (ag rfl (bU (t:=(21,0)) (C:=1) (es:=[(105,.tag (21,1)),(64,.tag (21,2))]) ((af jd).trans aB) (by decide) (Nle rfl) ?_))))))
 refine av (bf (az (ag rfl (cZ (t:=(21,0)) (C:=1) (es:=[(105,.tag (21,1)),(64,.tag (21,2)),(106,.tag (21,3))]) (by decide) (Nle rfl) ?_))))
 have ex:∃H2:Tag→Option MObj,(∀g i,g≠21→H2 (g,i)=H (g,i))∧H2 (21,0)=some (.inst 1 (eB .none))∧H2 (21,1)=some (.dict (tkD []))∧H2 (21,2)=some (.dict [])∧H2 (21,3)=some (.list (([]:List Nat).map .str))∧
   ay (ay (ay (ay (ay (ay H (21,1) (.dict [])) (21,0) (.inst 1 [(105,.tag (21,1))])) (21,2) (.dict [])) (21,0) (.inst 1 [(105,.tag (21,1)),(64,.tag (21,2))])) (21,3) (.list [])) (21,0) (.inst 1 (eB .none))=H2:=by
  refine⟨_,?_,?_,?_,?_,?_,rfl⟩
  ·intro g i hg
   rw[af (gne hg),af (gne hg),af (gne hg),af (gne hg),af (gne hg),af (gne hg)]
  ·exact aB
  ·rw[af jd,af jd,af jd,af jd,af jd];exact aB
  ·rw[af jd,af jd,af jd];exact aB
  ·rw[af jd];exact aB
 refine jfr ex fun H2 k2 a0 a1 a2 zq1=>?_;refine Za zq1 fun a3 e2=>?_
 show ao _ _ ⟨ay (ay (ay (ay (ay (ay H (21,1) (.dict [])) (21,0) (.inst 1 [(105,.tag (21,1))])) (21,2) (.dict [])) (21,0) (.inst 1 [(105,.tag (21,1)),(64,.tag (21,2))])) (21,3) (.list [])) (21,0) (.inst 1 (eB .none)),nx,[(61,.tag (21,0)),(104,.lst (od.map tkT))]⟩ _
 rw[e2]
 clear e2
 have t2:=t.keep (H':=H2) fun g i hg=>k2 g i (by rcases hg with h|h<;>omega)
 have on:=o.n
 have ol:od.length≤n:=bG t.nd t.lt
 refine av (cX (bR (ag rfl ⟨_,rfl,?_⟩)))
 refine jjk t2 od [] H2 _ none rfl a0 a1 a3 (fun _ _ _=>rfl) a2 (fun j hj=>⟨t.lt j hj,(fun h=>nomatch h)⟩) t.nd (by simp;exact Nk2 0 0 0 8 1 900 ol on rfl) (fun H3 m3 hm b0 b1 b3 bk b2=>?_) _ fun _=>rfl
 rw[List.nil_append] at b1 b3
 refine Zx b1 fun eo b1=>?_
 have t3:=t2.keep (H':=H3) fun g i hg=>bk g i (by rcases hg with h|h<;>omega)
 have m61:m3.lookup 61=some (.tag (21,0)):=(hm 61 (by decide)).trans rfl
 have m104:m3.lookup 104=some (.lst (od.map tkT)):=(hm 104 (by decide)).trans rfl
 refine av (cX (jge (cH (aY m61 b0 (by decide) rfl rfl ⟨by simp only[cM,b1],au ⟨(21,1),_,_,rfl,b1,(21,1),_,_,rfl,b1,fun ob=>?_⟩⟩))))
 have ev:(tkD od).map (·.2)=od.map tkT:=by unfold tkD;rw[List.map_map];rfl
 rw[ev]
 have ex4:∃H4:Tag→Option MObj,(∀t',t'≠(21,1)→H4 t'=H3 t')∧H4 (21,1)=some (.dict (tkD od) (some ob))∧ay H3 (21,1) (.dict (tkD od) (some ob))=H4:=⟨_,fun t' ht=>af ht,aB,rfl⟩
 refine dR ex4 fun H4 k4 d1 e4=>?_
 show dJ _ _ _ _ ⟨ay H3 (21,1) (.dict (tkD od) (some ob)),nx,m3⟩ _
 rw[e4]
 clear e4
 have t4:=t3.keep (H':=H4) fun g i hg=>k4 (g,i) (gne (by rcases hg with h|h<;>omega))
 have d0:H4 (21,0)=some (.inst 1 (eB .none)):=(k4 _ jd).trans b0
 have d2:H4 (21,2)=some (.dict []):=(k4 _ jd).trans b2
 have d3:H4 (21,3)=some (.list (od.map .str)):=(k4 _ jd).trans b3
 refine jcn (H:=H4) (m0:=m3) (f:=tkT) (x:=42) [42,108] (by decide) d1 od _ (fun _ _=>rfl) (fun k hk m2 k2 kx P1 hp=>?_) fun m5 h5=>?_
 ·refine ja3 ((t4.ta k (t4.lt k hk)).obj) fun es e1 _ _ _ _ _ _ _ zq1=>?_;refine Za zq1 fun e84 _=>?_
  exact cX (bR (aY kx e1 (by decide) e84 rfl ⟨_,rfl,rfl,hp m2 k2⟩))
 have n61:m5.lookup 61=some (.tag (21,0)):=(h5 61 (by decide)).trans m61
 have n104:m5.lookup 104=some (.lst (od.map tkT)):=(h5 104 (by decide)).trans m104
 refine av (cf (cJ (ag n61 ⟨(21,0),_,rfl,d0,rfl,au (au (jfY o t4 d0 d1 fun H5 k5 d5=>⟨rfl,?_⟩))⟩)))
 have c0:H5 (21,0)=some (.inst 1 (eB .none)):=(k5 _ jd).trans d0
 have c2:H5 (21,2)=some (.dict []):=(k5 _ jd).trans d2
 have c3:H5 (21,3)=some (.list (od.map .str)):=(k5 _ jd).trans d3
 have t5:=t4.keep (H':=H5) fun g i hg=>k5 (g,i) (gne (by rcases hg with h|h<;>omega))
 refine cf (jjI (ag n61 ⟨(21,0),_,rfl,c0,rfl,?_⟩))
 refine aC (aY n61 c0 (by decide) rfl rfl (aC (ag n104 (au (jhj t5 c2 ⟨rfl,?_⟩)))))
 refine q H5 (fun g i hg=>?_) c0 d5 c2 c3
 exact(k5 (g,i) (gne hg)).trans ((k4 (g,i) (gne hg)).trans ((bk g i hg).trans (k2 g i hg)))
structure TaskB(H:Tag→Option MObj)(k:Nat)(needs setups:List Nat):Prop where
 obj:∃es,H (1,k)=some (.inst 0 es)∧es.length<200∧es.lookup 62=some (.str k)∧es.lookup 50=some (.tag (3,k))∧es.lookup 52=some (.lst [])∧es.lookup 70=some (cA setups)∧es.lookup 102=none
 dep:H (3,k)=some (.list (needs.map .str))
theorem TaskAt.b{a b:List Nat}(x:TaskAt H k a b):TaskB H k a b:=by refine ja3 x.obj fun es e1 e2 e3 e4 e5 e6 e7 e8 zq1=>?_;obtain⟨e9,e10⟩:=zq1;exact⟨⟨es,e1,(Nk1 1 100 1 200 e2 rfl),e3,e4,e5,e6,e10⟩,x.dep⟩
theorem TaskB.keep{a b:List Nat}(x:TaskB H k a b)(h1:H' (1,k)=H (1,k))(h3:H' (3,k)=H (3,k)):TaskB H' k a b:=
 ⟨by refine Zx x.obj fun es e=>?_;exact⟨es,h1.trans e.1,e.2⟩,h3.trans x.dep⟩
noncomputable def jdC(H:Tag→Option MObj)(k:Nat):Prop:=∃es,H (1,k)=some (.inst 0 es)∧es.lookup 69=some .none
theorem jjR{a:Nat}{v w:MV}:∀{es:List (Nat×MV)},es.lookup a=some v→(ar es a w).length=es.length:=fun{es} h=>by
 have:es.any (fun p=>p.1 == a)=true:=by
  induction es with
  |nil=>exact Xns h
  |cons p es ih=>
   rw[List.any_cons]
   rw[List.lookup_cons] at h
   by_cases e:a=p.1
   ·subst e;simp
   ·rw[beq_eq_false_iff_ne.mpr e] at h
    rw[ih h,Bool.or_true]
 unfold ar
 rw[if_pos this,List.length_map]
theorem jfM{a b:List Nat}{v:MV}(x:TaskB H k a b)(op:jdC H k)(h6:H (6,k)=none)
  (q:∀H',(∀t',t'≠(1,k)→t'≠(6,k)→H' t'=H t')→TaskB H' k a b→Q v ⟨H',nx,m⟩):jaE [.tag (1,k),v] [] ⟨H,nx,m⟩ Q:=by
 refine⟨rfl,?_⟩
 unfold jb'
 show sIf _ _ _ ⟨H,nx,[(61,.tag (1,k)),(103,v)]⟩ _
 refine jc7 x.obj fun es e1 e2 e62 e50 e52 e70 e102=>?_
 refine Zxa op fun es' e1' e69=>?_
 rw[e1] at e1'
 cases e1'
 refine bp (aS (aY rfl e1 (by decide) e69 rfl (az ⟨true,rfl,rfl,?_⟩)))
 refine av (bf (jbK (g:=6) (i:=k) h6 (by decide) (ag rfl (bU (t:=(1,k)) ((af gd).trans e1) (by decide) (Nk1 1 200 1 1000 e2 rfl) ?_))))
 refine cC (ag rfl ?_)
 show Q v ⟨ay (ay H (6,k) (.dict [])) (1,k) (.inst 0 (ar es 69 (.tag (6,k)))),nx,m⟩
 refine q _ (fun t' h1 h2=>(af h1).trans (af h2)) ⟨⟨_,aB,?_,?_⟩,?_⟩
 ·rw[jjR e69];exact e2
 ·have A:∀y,y≠69→(ar es 69 (.tag (6,k))).lookup y=es.lookup y:=fun y h=>by rw[ae,if_neg h]
  rw[A 62 (by decide),A 50 (by decide),A 52 (by decide),A 70 (by decide),A 102 (by decide)]
  exact⟨e62,e50,e52,e70,e102⟩
 ·exact(af gd).trans ((af gd).trans x.dep)
end
end
section
structure CB(n:Nat)(Ro:Nat→Rw)(od:List Nat)(H:Tag→Option MObj):Prop where
 tb:∀j,j<n→TaskB H j (Ro j).needs (Ro j).setups
 ctl:∃v,H (21,0)=some (.inst 1 (eB v))
 dic:∃eo,H (21,1)=some (.dict (tkD od) eo)
 tg:∃eo,H (21,2)=some (.dict [] eo)
 df:H (21,3)=some (.list (od.map .str))
 all:∀j,j<n→j∈od
noncomputable def jgx(H:Tag→Option MObj):Prop:=∃ps,H (9,0)=some (.obj (tabObj ps) 339)∧TriplesOk ps.toList∧codeAmong ⟨259,8,264,22⟩ ps.toList=none
section
variable {c:Cx}{H H':Tag→Option MObj}{nx:Nat}{m:List (Nat×MV)}{k j n:Nat}{Ro:Nat→Rw}{od:List Nat}{Q:MV→AS→Prop}{P:aH→AS→Prop}
theorem CB.keep(x:CB n Ro od H)(h:∀g i,g=1∨g=3∨g=21→H' (g,i)=H (g,i)):CB n Ro od H':=
 ⟨fun j hj=>(x.tb j hj).keep (h 1 j (.inl rfl)) (h 3 j (.inr (.inl rfl))),by refine Zx x.ctl fun v e=>?_;exact⟨v,(h 21 0 (.inr (.inr rfl))).trans e⟩,by refine Zx x.dic fun v e=>?_;exact⟨v,(h 21 1 (.inr (.inr rfl))).trans e⟩,by refine Zx x.tg fun v e=>?_;exact⟨v,(h 21 2 (.inr (.inr rfl))).trans e⟩,(h 21 3 (.inr (.inr rfl))).trans x.df,x.all⟩
theorem i_def{t0:Tag}{x:Nat}{A:Addr}{pos:Pos}{rest:Addr→MS}{σ:AS}{P:aH→AS→Prop}(h:∃ps,σ.H t0=some (.obj (tabObj ps) A)∧TriplesOk ps.toList∧codeAmong pos ps.toList=none∧
  ∀f c',rest f ⟨ay σ.H t0 (.obj (tabObj (ps++#[rawInt pos.line,rawInt pos.col,.ref c'])) A),σ.nx,ar σ.m x (.raw (.ref f))⟩ P):sDef t0 x A pos rest σ P:=h
theorem jiW{y:Nat}{f:Addr}{g:List MV→MEx}{fs:List MEx}{σ:AS}{P:MV→AS→Prop}(h:σ.m.lookup y=some (.raw (.ref f))∧cr fs σ fun xs σ1=>g xs σ1 P):jdK y f g fs σ P:=h
theorem jkh{fa:Addr}{iq:Nat}{iF:Nat}(hne:iq≠iF):∀(l acc:List Nat)(N:Nat)(H1:Tag→Option MObj)(m1:List (Nat×MV)),l.length<N→m1.lookup 61=some (.tag (21,0))→m1.lookup 122=some (.raw (.ref fa))→m1.lookup 124=some (.tag (0,iF))→m1.lookup 125=some (.tag (0,iq))→
  H1 (0,iq)=some (.list (l.map .str))→H1 (0,iF)=some (.list (acc.map .str))→CB n Ro od H1→n≤8→(∀j∈l,j<n∧jdC H1 j∧H1 (6,j)=none)→l.Nodup→acc.length+l.length<900→
  (∀H' m',m'.lookup 124=some (.tag (0,iF))→H' (0,iF)=some (.list ((acc++l).map .str))→(∀g i,(g=0∧i≠iq∧i≠iF)∨(6<g)→H' (g,i)=H1 (g,i))→CB n Ro od H'→P .next ⟨H',nx,m'⟩)→
  jct (mTr (ac 125)) (ao (aL 126 (aV 1 popM (ac 125) [(ah (.int 0))])) (ao (sIf (aA (jcY eT) (ah (.str 45)) (ac 126)) dm (ao (aL 125 (jdK 122 fa (mClo 2 [125,126] [124,61] (ao (aI (aV 1 bg (ac 124) [(ac 126)])) (ao (sIf (aA inM (ac 126) (aq (ac 61) 105)) (ao (aL 127 (aF (aq (ac 61) 105) (ac 126))) (aL 125 (bx 0 102 jaE (ac 127) [(ac 125)] []))) aE) (bD (ac 125))))) [(ac 125),(ac 126)])) aE)) aE)) N ⟨H1,nx,m1⟩ P:=by
 intro l
 induction l with
 |nil=>
  intro acc N H1 m1 hN h61 h122 h124 h125 hq hF cb hn hl hd hlen q
  cases N with
  |zero=>exact absurd hN (Nat.not_lt_zero _)
  |succ N=>
   refine cB (ag h125 ⟨false,by simp only[bX,hq];rfl,?_⟩)
   refine q H1 m1 h124 ?_ (fun _ _ _=>rfl) cb
   rw[List.append_nil];exact hF
 |cons k l ih=>
  intro acc N H1 m1 hN h61 h122 h124 h125 hq hF cb hn hl hd hlen q
  refine Za (List.nodup_cons.mp hd) fun hd1 hd2=>?_
  refine Zaa (hl k qa4) fun hk hop h6=>?_
  simp only[List.length_cons] at hlen hN
  cases N with
  |zero=>exact absurd hN (Nat.not_lt_zero _)
  |succ N=>
   have L:∀(y:Nat)(v:MV),y≠126→(ar m1 126 v).lookup y=m1.lookup y:=fun y v h=>by rw[ae,if_neg h]
   refine cB (ag h125 ⟨true,by simp only[bX,hq];rfl,?_⟩)
   refine av (bn (cH (ag h125 ⟨by simp only[cM,hq],aC (az (au (.inr ⟨(0,iq),_,0,.str k,rfl,hq,by decide,rfl,?_⟩)))⟩)))
   have er:((k::l).map MV.str).eraseIdx (0:Int).toNat=l.map .str:=rfl
   dsimp only
   rw[er]
   refine av (bp (jgA (k:=k) (.inr rfl) (qb1 hk hn) (by rw[ae,if_pos rfl]) ?_))
   refine av (bn (jiW ⟨(L _ _ (by decide)).trans h122,?_⟩))
   refine aC (ag ((L _ _ (by decide)).trans h125) (aC (ag (by rw[ae,if_pos rfl]) (au ⟨rfl,?_⟩))))
   have pk:db [124,61] (ar m1 126 (.str k))=[(124,.tag (0,iF)),(61,.tag (21,0))]:=by
    unfold db
    rw[List.filterMap_cons,(L 124 (.str k) (by decide)).trans h124,Option.map_some]
    dsimp only
    rw[List.filterMap_cons,(L 61 (.str k) (by decide)).trans h61,Option.map_some]
    rfl
   dsimp only
   rw[pk]
   show ao _ _ ⟨ay H1 (0,iq) (.list (l.map .str)),nx,[(125,.tag (0,iq)),(126,.str k),(124,.tag (0,iF)),(61,.tag (21,0))]⟩ _
   have hF1:ay H1 (0,iq) (.list (l.map .str)) (0,iF)=some (.list (acc.map .str)):=(af (ine hne.symm)).trans hF
   refine av (cf (cH (ag rfl ⟨by simp only[cM,hF1],aC (ag rfl (au (dK hF1 (by simp;exact NB hlen rfl) ⟨rfl,?_⟩)))⟩)))
   have el:acc.map MV.str++[MV.str k]=(acc++[k]).map .str:=by rw[List.map_append];rfl
   rw[el]
   have ex:∃H2:Tag→Option MObj,(∀g i,(g=0∧i≠iq∧i≠iF)∨g≠0→H2 (g,i)=H1 (g,i))∧H2 (0,iq)=some (.list (l.map .str))∧H2 (0,iF)=some (.list ((acc++[k]).map .str))∧
     ay (ay H1 (0,iq) (.list (l.map .str))) (0,iF) (.list ((acc++[k]).map .str))=H2:=by
    refine⟨_,fun g i hg=>?_,?_,aB,rfl⟩
    ·rcases hg with⟨h1,h2,h3⟩|h
     ·subst h1;rw[af (ine h3),af (ine h2)]
     ·rw[af (gne h),af (gne h)]
    ·rw[af (ine hne)];exact aB
   refine fq ex fun H2 k2 b1 b2 e2=>?_
   show ao _ _ ⟨ay (ay H1 (0,iq) (.list (l.map .str))) (0,iF) (.list ((acc++[k]).map .str)),nx,_⟩ _
   rw[e2]
   clear e2
   have cb2:=cb.keep (H':=H2) fun g i hg=>k2 g i (.inr (by rcases hg with h|h|h<;>omega))
   refine Zx cb2.ctl fun v c0=>?_
   refine Zx cb2.dic fun eo c1=>?_
   refine av (bp (aS (ag rfl (aY (t:=(21,0)) rfl c0 (by decide) rfl rfl ⟨true,by rw[jcy c1,jbQ,if_pos (cb.all k hk)];rfl,?_⟩))))
   refine av (bn (jex (aY (t:=(21,0)) rfl c0 (by decide) rfl rfl (ag rfl ⟨tkT k,by show jcS k (H2 (21,1))=_;rw[c1];dsimp only[jcS];rw[jbQ,if_pos (cb.all k hk)],?_⟩))))
   refine jc7 ((cb2.tb k hk).obj) fun es e1 e2 e62 e50 e52 e70 e102=>?_
   refine bn (cJ (ag rfl ⟨(1,k),es,rfl,e1,e102,?_⟩))
   refine aC (ag rfl (au (au ?_)))
   refine Zxa hop fun es0 o1 o2=>?_
   refine jfM (cb2.tb k hk) ⟨es0,(k2 1 k (.inr (by decide))).trans o1,o2⟩ ((k2 6 k (.inr (by decide))).trans h6) fun H3 k3 tb3=>?_
   refine cC (ag rfl ?_)
   refine cz ?_
   have cb3:CB n Ro od H3:=by
    refine⟨fun i hi=>?_,⟨v,(k3 _ gd gd).trans c0⟩,⟨eo,(k3 _ gd gd).trans c1⟩,by refine Zx cb2.tg fun v e=>?_;exact⟨v,(k3 _ gd gd).trans e⟩,(k3 _ gd gd).trans cb2.df,cb.all⟩
    by_cases e:i=k
    ·subst e;exact tb3
    ·exact(cb2.tb i hi).keep (k3 _ (ine e) gd) (k3 _ gd gd)
   refine ih (acc++[k]) N H3 _ (Nk1 2 1 1 0 hN rfl) ?_ ?_ ?_ ?_ ((k3 _ gd gd).trans b1) ((k3 _ gd gd).trans b2) cb3 hn (fun i hi=>?_) hd2 (by simp;exact NA hlen) fun H' m' m124 hF' kk cb'=>q H' m' m124 ?_ (fun g i hg=>?_) cb'
   ·rw[ae,if_neg (by decide)];exact(L _ _ (by decide)).trans h61
   ·rw[ae,if_neg (by decide)];exact(L _ _ (by decide)).trans h122
   ·rw[ae,if_neg (by decide)];exact(L _ _ (by decide)).trans h124
   ·rw[ae,if_pos rfl];rfl
   ·refine Zaa (hl i (qa2 _ hi)) fun c1' zq1 c3'=>?_;refine Zxa zq1 fun es' o1' o2'=>?_
    have hik:i≠k:=fun e=>hd1 (e▸hi)
    exact⟨c1',⟨es',(k3 _ (ine hik) gd).trans ((k2 1 i (.inr (by decide))).trans o1'),o2'⟩,(k3 _ gd (ine hik)).trans ((k2 6 i (.inr (by decide))).trans c3')⟩
   ·rw[List.append_assoc] at hF';exact hF'
   ·rw[kk g i hg]
    rcases hg with⟨h1,h2,h3⟩|h
    ·subst h1
     exact(k3 _ gd gd).trans (k2 0 i (.inl ⟨rfl,h2,h3⟩))
    ·exact(k3 _ (gne (qb4 (Nk1 7 0 2 0 h rfl))) (gne (qb4 h))).trans (k2 g i (.inr (qb4 (Nk1 7 0 1 0 h rfl))))
theorem jeM{ch:List Nat}(cb:CB n Ro od H)(hn:n≤8)(tab:jgx H)(hf:∀i,nx≤i→H (0,i)=none)(hl:∀j∈ch,j<n∧jdC H j∧H (6,j)=none)(hd:ch.Nodup)
  (q:∀H',H' (0,nx)=some (.list (ch.map .str))→(∀g i,(g=0∧i≠nx∧i≠nx+1)∨(9<g)→H' (g,i)=H (g,i))→CB n Ro od H'→Q (.tag (0,nx)) ⟨H',nx+2,m⟩) :
  jaq [.tag (21,0),cA ch] [] ⟨H,nx,m⟩ Q:=by
 refine⟨rfl,?_⟩
 unfold jaS
 show ao _ _ ⟨H,nx,[(61,.tag (21,0)),(123,cA ch)]⟩ _
 have cl:ch.length≤n:=bG hd fun a ha=>(hl a ha).1
 refine av (bn (bO (au ?_)))
 refine jaO (hf nx (qa9 _)) (by decide) ?_
 refine dR tab fun ps p1 p2 p3=>?_
 refine i_def ⟨ps,(show ay H (0,nx) (.list []) (9,0)=some (.obj (tabObj ps) 339) from(af gd).trans p1),p2,p3,fun fa c'=>?_⟩
 show ao _ _ ⟨ay (ay H (0,nx) (.list [])) (9,0) (.obj (tabObj (ps++#[rawInt 259,rawInt 8,.ref c'])) 339),nx+1,[(61,.tag (21,0)),(123,cA ch),(124,.tag (0,nx)),(122,.raw (.ref fa))]⟩ _
 have ex:∃H2:Tag→Option MObj,(∀g i,(g=0∧i≠nx)∨(g≠0∧g≠9)→H2 (g,i)=H (g,i))∧H2 (0,nx)=some (.list [])∧ay (ay H (0,nx) (.list [])) (9,0) (.obj (tabObj (ps++#[rawInt 259,rawInt 8,.ref c'])) 339)=H2:=by
  refine⟨_,fun g i hg=>?_,?_,rfl⟩
  ·rcases hg with⟨h1,h2⟩|⟨h1,h2⟩
   ·subst h1;rw[af gd,af (ine h2)]
   ·rw[af (gne h2),af (gne h1)]
  ·rw[af gd];exact aB
 refine dR ex fun H2 k2 b2 e2=>?_
 rw[e2]
 clear e2
 have cb2:=cb.keep (H':=H2) fun g i hg=>k2 g i (.inr (by rcases hg with h|h|h<;>omega))
 refine av (bn ?_)
 show ac 123 _ _
 refine ag rfl ⟨_,_,rfl,rfl,?_⟩
 refine jaO (nx:=nx+1) ((k2 0 (nx+1) (.inl ⟨rfl,(qb4 (qa9 _))⟩)).trans (hf _ (Nat.le_succ _))) (by rw[List.length_map];exact Nk2 0 0 0 8 0 100000 cl hn rfl) ?_
 refine av (jhI (ch.length+1) ?_)
 refine jkh (n:=n) (Ro:=Ro) (od:=od) (iq:=nx+1) (iF:=nx) (qb4 (qa9 _)) ch [] _ _ _ (Nat.lt_succ_self _) rfl rfl rfl rfl aB ((af (ine (qa7 (qa9 _)))).trans b2) (cb2.keep fun g i hg=>af (gne (by rcases hg with h|h|h<;>omega))) hn (fun j hj=>?_) hd (by simp;exact Nk2 0 0 0 8 1 900 cl hn rfl) fun H' m' m124 hF kk cb'=>?_
 ·refine Zaa (hl j hj) fun h1 zq1 h4=>?_;refine Zxa zq1 fun es h2 h3=>?_
  have kk:∀g i,g≠0→ay H2 (0,nx+1) (.list (ch.map .str)) (g,i)=H2 (g,i):=fun g i h=>af (gne h)
  exact⟨h1,⟨es,(kk 1 j (by decide)).trans ((k2 1 j (.inr ⟨by decide,by decide⟩)).trans h2),h3⟩,(kk 6 j (by decide)).trans ((k2 6 j (.inr ⟨by decide,by decide⟩)).trans h4)⟩
 refine av (cC (ag m124 ?_))
 rw[List.nil_append] at hF
 refine q H' hF (fun g i hg=>?_) cb'
 rw[kk g i (by rcases hg with⟨h1,h2,h3⟩|h;exact .inl ⟨h1,h3,h2⟩;exact .inr (Nk1 10 0 7 0 h rfl))]
 rcases hg with⟨h1,h2,h3⟩|h
 ·subst h1
  exact(af (ine h3)).trans (k2 0 i (.inl ⟨rfl,h2⟩))
 ·exact(af (gne (qb4 (Nk1 10 0 1 0 h rfl)))).trans (k2 g i (.inr ⟨(qb4 (Nk1 10 0 1 0 h rfl)),(qb4 h)⟩))
end
end
section
noncomputable def dS(n:Nat)(Ro:Nat→Rw):TT:=⟨n,fun k=>if k<n then(Ro k).needs else[],fun k=>if k<n then(Ro k).setups else[]⟩
section
variable {c:Cx}{H H':Tag→Option MObj}{nx:Nat}{m:List (Nat×MV)}{k j n:Nat}{Ro:Nat→Rw}{od:List Nat}{Q:MV→AS→Prop}{P:aH→AS→Prop}
theorem RowsOK.tok(o:RowsOK n Ro):TOK (dS n Ro):=by
 have aux:∀(k:Nat)(l:List Nat)(p:List Nat→Prop),p []→(k<n→p l)→p (if k<n then l else[]):=fun k l p h0 h1=>by
  split
  ·rename_i h;exact h1 h
  ·exact h0
 refine⟨o.n,fun k=>aux k _ (fun l=>∀j∈l,j<k) (fun j hj=>Xnm hj) fun _=>o.needs k,fun k=>aux k _ (fun l=>∀j∈l,j<k) (fun j hj=>Xnm hj) fun _=>o.setups k,fun k=>aux k _ List.Nodup .nil fun _=>o.nn k,fun k=>aux k _ List.Nodup .nil fun _=>o.ns k,
  fun k=>aux k _ (fun l=>l.length≤8) (by decide) fun h=>o.ln h,fun k=>aux k _ (fun l=>l.length≤8) (by decide) fun h=>o.ls h⟩
theorem jko{i1 i2:Nat}(hne:i1≠i2){ch:List Nat}:∀(l acc:List Nat)(H1:Tag→Option MObj)(m1:List (Nat×MV)),m1.lookup 61=some (.tag (21,0))→m1.lookup 131=some (.tag (0,i1))→H1 (0,i1)=some (.list (acc.map .str))→H1 (0,i2)=some (.list (ch.map .str))→CB n Ro od H1→
  (∀j∈l,j<n)→acc.length+l.length<900→
  (∀H' m',m'.lookup 131=some (.tag (0,i1))→H' (0,i1)=some (.list ((acc++l).map .str))→(∀t,t≠(0,i1)→H' t=H1 t)→P .next ⟨H',nx,m'⟩)→
  dJ (fun H=>cv H (.tag (0,i2))=some (ch.map MV.str)) (aG 132) (ao (sIf (aA inM (ac 132) (aq (ac 61) 105)) (ao (aI (aV 1 bg (ac 131) [(ac 132)])) eO) aE) (ao (sIf (aA inM (ac 132) (aq (ac 61) 64)) (ao (aI (aV 1 bg (ac 131) [(aF (aq (ac 61) 64) (ac 132))])) eO) aE) dm)) (l.map .str) ⟨H1,nx,m1⟩ P:=by
 intro l
 induction l with
 |nil=>
  intro acc H1 m1 h61 h131 hA hC cb hl hlen q
  refine⟨bh hC,q H1 m1 h131 ?_ fun _ _=>rfl⟩
  rw[List.append_nil];exact hA
 |cons k l ih=>
  intro acc H1 m1 h61 h131 hA hC cb hl hlen q
  simp only[List.length_cons] at hlen
  refine⟨bh hC,?_⟩
  have a61:(ar m1 132 (.str k)).lookup 61=some (.tag (21,0)):=by rw[ae,if_neg (by decide)];exact h61
  have a131:(ar m1 132 (.str k)).lookup 131=some (.tag (0,i1)):=by rw[ae,if_neg (by decide)];exact h131
  have a132:(ar m1 132 (.str k)).lookup 132=some (.str k):=by rw[ae,if_pos rfl]
  refine Zx cb.ctl fun v c0=>?_
  refine Zx cb.dic fun eo c1=>?_
  show ao _ _ ⟨H1,nx,ar m1 132 (.str k)⟩ _
  refine av (bp (aS (ag a132 (aY (t:=(21,0)) a61 c0 (by decide) rfl rfl ⟨true,by rw[jcy c1,jbQ,if_pos (cb.all k (hl k qa4))];rfl,?_⟩))))
  refine av (cf (cH (ag a131 ⟨by simp only[cM,hA],aC (ag a132 (au (dK hA (by simp;exact NB hlen rfl) ⟨rfl,?_⟩)))⟩)))
  have el:acc.map MV.str++[MV.str k]=(acc++[k]).map .str:=by rw[List.map_append];rfl
  rw[el]
  refine ih (acc++[k]) _ _ a61 a131 aB ((af (ine hne.symm)).trans hC) (cb.keep fun g i hg=>af (gne (by rcases hg with h|h|h<;>omega))) (fun i hi=>hl i (qa2 _ hi)) (by simp;exact NA hlen) fun H' m' h1 h2 h3=>q H' m' h1 ?_ fun t ht=>(h3 t ht).trans (af ht)
  rw[List.append_assoc] at h2;exact h2
theorem jfN{ch:List Nat}(cb:CB n Ro od H)(hn:n≤8)(tab:jgx H)(hf:∀i,nx≤i→H (0,i)=none)(hl:∀j∈ch,j<n∧jdC H j∧H (6,j)=none)(hd:ch.Nodup)
  (q:∀H',H' (0,nx)=some (.list (ch.map .str))→(∀g i,(g=0∧(i<nx∨nx+3≤i))∨(9<g)→H' (g,i)=H (g,i))→CB n Ro od H'→Q (.tag (0,nx)) ⟨H',nx+3,m⟩) :
  jat [.tag (21,0),cA ch] [] ⟨H,nx,m⟩ Q:=by
 refine⟨rfl,?_⟩
 unfold ja0
 have cl:ch.length≤n:=bG hd fun a ha=>(hl a ha).1
 show ao _ _ ⟨H,nx,[(61,.tag (21,0)),(123,cA ch)]⟩ _
 refine av (bn (bO (au ?_)))
 refine jaO (hf nx (qa9 _)) (by decide) ?_
 have k1:∀g i,g≠0∨i≠nx→ay H (0,nx) (.list []) (g,i)=H (g,i):=fun g i hg=>af fun e=>by
  refine Za (Prod.mk.inj e) fun zq1 zq2=>?_;obtain rfl:=zq1;obtain rfl:=zq2
  rcases hg with h|h<;>exact h rfl
 have cb1:=cb.keep (H':=ay H (0,nx) (.list [])) fun g i hg=>k1 g i (.inl (by rcases hg with h|h|h<;>omega))
 refine Zx cb1.ctl fun v c0=>?_
 refine av (bn (cJ (ag rfl ⟨(21,0),_,rfl,c0,rfl,aC (ag rfl (au (au ?_)))⟩)))
 refine jeM (n:=n) (Ro:=Ro) (od:=od) (nx:=nx+1) (ch:=ch) cb1 hn ?_ (fun i hi=>(k1 0 i (.inr (qb4 hi))).trans (hf i (Nat.le_of_lt hi))) (fun j hj=>?_) hd fun H2 b2 k2 cb2=>?_
 ·refine dR tab fun ps p1 p2 p3=>?_
  exact⟨ps,(k1 9 0 (.inl (by decide))).trans p1,p2,p3⟩
 ·refine Zaa (hl j hj) fun h1 zq1 h4=>?_;refine Zxa zq1 fun es h2 h3=>?_
  exact⟨h1,⟨es,(k1 1 j (.inl (by decide))).trans h2,h3⟩,(k1 6 j (.inl (by decide))).trans h4⟩
 have b1:H2 (0,nx)=some (.list (([]:List Nat).map .str)):=(k2 0 nx (.inl ⟨rfl,(qa7 (qa9 _)),(qa7 (Nat.le_succ _))⟩)).trans aB
 show ao _ _ ⟨H2,nx+1+2,[(61,.tag (21,0)),(123,cA ch),(131,.tag (0,nx)),(124,.tag (0,nx+1))]⟩ _
 refine av (cX (bR (ag rfl ⟨_,bh b2,?_⟩)))
 refine jko (n:=n) (Ro:=Ro) (od:=od) (i1:=nx) (i2:=nx+1) (qa7 (qa9 _)) ch [] H2 _ rfl rfl b1 b2 cb2 (fun j hj=>(hl j hj).1) (by simp;exact Nk2 0 0 0 8 1 900 cl hn rfl) fun H3 m3 m131 b3 k3=>?_
 refine cC (ag m131 ?_)
 rw[List.nil_append] at b3
 refine q H3 b3 (fun g i hg=>?_) (cb2.keep fun g i hg=>k3 _ (gne (by rcases hg with h|h|h<;>omega)))
 rcases hg with⟨h1,h2⟩|h
 ·subst h1
  exact(k3 _ (ine (h2.elim (fun z4=>(qa7 z4)) fun z4=>(qb4 (Nk1 3 0 1 0 z4 rfl))))).trans ((k2 0 i (.inl ⟨rfl,(h2.elim (fun z4=>(qa7 (Nk1 1 0 1 1 z4 rfl))) fun z4=>(qb4 (Nat.le_of_lt z4))),(h2.elim (fun z4=>(qa7 (Nk1 1 0 1 2 z4 rfl))) fun z4=>(qb4 z4))⟩)).trans (k1 0 i (.inr (h2.elim (fun z4=>(qa7 z4)) fun z4=>(qb4 (Nk1 3 0 1 0 z4 rfl))))))
 ·exact(k3 _ (gne (qb4 (Nk1 10 0 1 0 h rfl)))).trans ((k2 g i (.inr h)).trans (k1 g i (.inl (qb4 (Nk1 10 0 1 0 h rfl)))))
noncomputable def selV(ch:Option (List Nat)):MV:=match ch with
 |some l=>cA l
 |none=>.none
noncomputable def selL(od:List Nat)(ch:Option (List Nat)):List Nat:=match ch with
 |some l=>l
 |none=>od
theorem jh5{ch:Option (List Nat)}(cb:CB n Ro od H)(hn:n≤8)(tab:jgx H)(hf:∀i,nx≤i→H (0,i)=none)(hl:∀l,ch=some l→(∀j∈l,j<n∧jdC H j∧H (6,j)=none)∧l.Nodup)
  (q:∀H' nx' t,nx≤nx'→H' (21,0)=some (.inst 1 (eB (.tag t)))→H' t=some (.list ((selL od ch).map .str))→t.1≠20→(∀g i,(g=0∧(i<nx∨nx'≤i))∨(9<g∧g≠21)→H' (g,i)=H (g,i))→CB n Ro od H'→Q .none ⟨H',nx',m⟩) :
  jau [.tag (21,0),selV ch] [] ⟨H,nx,m⟩ Q:=by
 refine⟨rfl,?_⟩
 unfold jbX
 show sIf _ _ _ ⟨H,nx,[(61,.tag (21,0)),(123,selV ch)]⟩ _
 have fin:∀(H2:Tag→Option MObj)(v:MV)(t:Tag),H2 (21,0)=some (.inst 1 (eB v))→CB n Ro od H2→t≠(21,0)→CB n Ro od (ay H2 (21,0) (.inst 1 (eB (.tag t)))):=fun H2 v t h0 cb2 ht=>
  ⟨fun j hj=>(cb2.tb j hj).keep (af gd) (af gd),⟨_,aB⟩,by refine Zx cb2.dic fun eo e=>?_;exact⟨eo,(af jd).trans e⟩,by refine Zx cb2.tg fun eo e=>?_;exact⟨eo,(af jd).trans e⟩,(af jd).trans cb2.df,cb2.all⟩
 cases ch with
 |none=>
  refine Zx cb.ctl fun v c0=>?_
  refine bp (aS (ag rfl (az ⟨true,rfl,rfl,?_⟩)))
  refine bf (aY (t:=(21,0)) rfl c0 (by decide) rfl rfl (ag rfl (bU (t:=(21,0)) c0 (by decide) (Nle rfl) ?_)))
  show Q .none ⟨ay H (21,0) (.inst 1 (eB (.tag (21,3)))),nx,m⟩
  refine q _ nx (21,3) (qa9 _) aB ((af jd).trans cb.df) (by decide) (fun g i hg=>af (gne (hg.elim (fun z4=>(qa7 (Nk1 0 0 1 21 (qa3 z4.1) rfl))) fun z4=>z4.2))) (fin H v (21,3) c0 cb (by decide))
 |some l=>
  refine Za (hl l rfl) fun hl1 hl2=>?_
  refine Zx cb.ctl fun v c0=>?_
  refine bp (aS (ag rfl (az ⟨false,rfl,rfl,?_⟩)))
  refine bf (cJ (ag rfl ⟨(21,0),_,rfl,c0,rfl,aC (ag rfl (au (au ?_)))⟩))
  refine jfN cb hn tab hf hl1 hl2 fun H2 b2 k2 cb2=>?_
  refine Zx cb2.ctl fun v2 c2=>?_
  refine ag rfl (bU (t:=(21,0)) c2 (by decide) (Nle rfl) ?_)
  show Q .none ⟨ay H2 (21,0) (.inst 1 (eB (.tag (0,nx)))),nx+3,m⟩
  refine q _ (nx+3) (0,nx) (Nat.le_add_right _ _) aB ((af gd).trans b2) (by show(0:Nat)≠20;decide) (fun g i hg=>?_) (fin H2 v2 (0,nx) c2 cb2 gd)
  rcases hg with⟨h1,h2⟩|⟨h1,h2⟩
  ·exact(af (gne (qa7 (Nk1 0 0 1 21 (qa3 h1) rfl)))).trans (k2 g i (.inl ⟨h1,h2⟩))
  ·exact(af (gne h2)).trans (k2 g i (.inr h1))
noncomputable def st0(sel:List Nat):St:=⟨fun _=>none,[],[],[],sel.reverse,none⟩
theorem jg'{sel:List Nat}{t:Tag}(h0:H (20,0)=some (.inst 3 []))(hf:∀i,1≤i→i≤4→H (20,i)=none)(ht:H t=some (.list (sel.map .str)))(ht20:t.1≠20)(hs:sel.length<900)
  (q:∀H',(∀g i,g≠20→H' (g,i)=H (g,i))→(∃v,H' (20,0)=some (.inst 3 [(105,.tag (21,1)),(64,.tag (21,2)),(107,v),(150,.tag (20,1)),(151,.tag (20,2)),(152,.tag (20,3)),(153,.tag (20,4)),(154,.none)]))→H' (20,1)=some (.dict [])→H' (20,2)=some (.dict [])→H' (20,3)=some (.list [])→H' (20,4)=some (.list (sel.reverse.map .str))→Q .none ⟨H',nx,m⟩) :
  jaA [.tag (20,0),.tag (21,1),.tag (21,2),.tag t] [] ⟨H,nx,m⟩ Q:=by
 refine⟨rfl,?_⟩
 unfold jbf
 show ao _ _ ⟨H,nx,[(61,.tag (20,0)),(105,.tag (21,1)),(64,.tag (21,2)),(107,.tag t)]⟩ _
 refine av (bf (ag rfl (ag rfl (bU (t:=(20,0)) h0 (by decide) (by decide) ?_))))
 refine av (bf (ag rfl (ag rfl (cZ (t:=(20,0)) (by decide) (Nle rfl) ?_))))
 refine av (bf (ag rfl (ag rfl (cZ (t:=(20,0)) (by decide) (Nle rfl) ?_))))
 show ao _ _ ⟨ay H (20,0) (.inst 3 [(105,.tag (21,1)),(64,.tag (21,2)),(107,.tag t)]),nx,[(61,.tag (20,0)),(105,.tag (21,1)),(64,.tag (21,2)),(107,.tag t)]⟩ _
 have d1:=hf 1 (by decide) (by decide)
 have d2:=hf 2 (by decide) (by decide)
 have d3:=hf 3 (by decide) (by decide)
 have d4:=hf 4 (by decide) (by decide)
 have n1:∀{g i b:Nat}{o:MObj}{H:Tag→Option MObj}{x:Option MObj},H (g,i)=x→i≠b→ay H (g,b) o (g,i)=x:=fun h hne=>(af (ine hne)).trans h
 refine av (bf (jbK (g:=20) (i:=1) (n1 d1 (by decide)) (by decide) (ag rfl (bU (t:=(20,0)) (C:=3) (es:=[(105,.tag (21,1)),(64,.tag (21,2)),(107,.tag t)]) (n1 aB (by decide)) (by decide) (Nle rfl) ?_))))
 refine av (bf (jbK (g:=20) (i:=2) (n1 (n1 (n1 d2 (by decide)) (by decide)) (by decide)) (by decide) (ag rfl (bU (t:=(20,0)) (C:=3) (es:=[(105,.tag (21,1)),(64,.tag (21,2)),(107,.tag t),(150,.tag (20,1))]) (n1 aB (by decide)) (by decide) (Nle rfl) ?_))))
 refine av (bf (bO (au (jcb (g:=20) (i:=3) (n1 (n1 (n1 (n1 (n1 d3 (by decide)) (by decide)) (by decide)) (by decide)) (by decide)) (by decide) (by decide) (ag rfl (bU (t:=(20,0)) (C:=3) (es:=[(105,.tag (21,1)),(64,.tag (21,2)),(107,.tag t),(150,.tag (20,1)),(151,.tag (20,2))]) (n1 aB (by decide)) (by decide) (Nle rfl) ?_))))))
 refine av (bf ?_)
 show ac 107 ⟨_,nx,[(61,.tag (20,0)),(105,.tag (21,1)),(64,.tag (21,2)),(107,.tag t)]⟩ _
 obtain⟨tg,ti⟩:=t
 have tn:∀{b:Nat}{o:MObj}{H:Tag→Option MObj}{x:Option MObj},H (tg,ti)=x→ay H (20,b) o (tg,ti)=x:=fun h=>(af (gne ht20)).trans h
 refine ag rfl ⟨_,bh (tn (tn (tn (tn (tn (tn (tn ht))))))),?_⟩
 refine jcb (g:=20) (i:=4) (n1 (n1 (n1 (n1 (n1 (n1 (n1 d4 (by decide)) (by decide)) (by decide)) (by decide)) (by decide)) (by decide)) (by decide)) (by decide) (by simp;exact Nk1 1 900 0 100000 hs rfl) (ag rfl (bU (t:=(20,0)) (C:=3) (es:=[(105,.tag (21,1)),(64,.tag (21,2)),(107,.tag (tg,ti)),(150,.tag (20,1)),(151,.tag (20,2)),(152,.tag (20,3))]) (n1 aB (by decide)) (by decide) (Nle rfl) ?_))
 refine bf (az (ag rfl (bU (t:=(20,0)) (C:=3) (es:=[(105,.tag (21,1)),(64,.tag (21,2)),(107,.tag (tg,ti)),(150,.tag (20,1)),(151,.tag (20,2)),(152,.tag (20,3)),(153,.tag (20,4))]) aB (by decide) (Nle rfl) ?_)))
 show Q .none ⟨ay _ (20,0) (.inst 3 [(105,.tag (21,1)),(64,.tag (21,2)),(107,.tag (tg,ti)),(150,.tag (20,1)),(151,.tag (20,2)),(152,.tag (20,3)),(153,.tag (20,4)),(154,.none)]),nx,m⟩
 refine q _ (fun g i hg=>?_) ⟨.tag (tg,ti),aB⟩ ?_ ?_ ?_ ?_
 ·rw[af (gne hg),af (gne hg),af (gne hg),af (gne hg),af (gne hg),af (gne hg),af (gne hg),af (gne hg),af (gne hg),af (gne hg)]
 ·exact n1 (n1 (n1 (n1 (n1 (n1 (n1 (n1 aB (by decide)) (by decide)) (by decide)) (by decide)) (by decide)) (by decide)) (by decide)) (by decide)
 ·exact n1 (n1 (n1 (n1 (n1 (n1 aB (by decide)) (by decide)) (by decide)) (by decide)) (by decide)) (by decide)
 ·exact n1 (n1 (n1 (n1 aB (by decide)) (by decide)) (by decide)) (by decide)
 ·rw[List.map_reverse]
  exact n1 (n1 aB (by decide)) (by decide)
end
end
section
section
variable {n:Nat}{Ro:Nat→Rw}{s s':Nat→LS}{st st':St}{k i:Nat}{d:Nd}{sel held:List Nat}
noncomputable def Grew(s s':Nat→LS):Prop:=∀i,s' i=s i∨(s i=.no∧s' i=.reached)
theorem Grew.refl(s:Nat→LS):Grew s s:=fun _=>.inl rfl
theorem Grew.trans{a b d:Nat→LS}(x:Grew a b)(y:Grew b d):Grew a d:=fun i=>by
 rcases x i with h|⟨h1,h2⟩
 ·rcases y i with g|⟨g1,g2⟩
  ·exact .inl (g.trans h)
  ·exact .inr ⟨by rw[←h];exact g1,g2⟩
 ·rcases y i with g|⟨g1,g2⟩
  ·exact .inr ⟨h1,g.trans h2⟩
  ·rw[h2] at g1;exact LS.noConfusion g1
theorem Grew.ne(x:Grew s s')(h:s i≠.no):s' i=s i:=(x i).elim id fun g=>absurd g.1 h
theorem Grew.no(x:Grew s s')(h:s i≠.no):s' i≠.no:=by rw[x.ne h];exact h
theorem reach1_grew{j:Nat}:Grew s (dU s j):=fun i=>by
 unfold dU
 split
 ·rename_i h
  unfold upd
  split
  ·rename_i e;subst e;exact .inr ⟨h,rfl⟩
  ·exact .inl rfl
 ·exact .inl rfl
theorem jeV:∀(l:List Nat)(s:Nat→LS),Grew s (l.foldl dU s)∧(∀j∈l,l.foldl dU s j≠.no)∧(∀i,i∉l→l.foldl dU s i=s i)
 |[],s=>⟨.refl s,fun j hj=>(nomatch hj),fun _ _=>rfl⟩
 |j::l,s=>by
  refine Zaa (jeV l (dU s j)) fun a b c=>?_
  rw[List.foldl_cons]
  refine⟨reach1_grew.trans a,fun i hi=>?_,fun i hi=>?_⟩
  ·rcases List.mem_cons.mp hi with rfl|hi
   ·refine a.no ?_
    unfold dU
    split
    ·unfold upd;rw[if_pos rfl];intro h;exact LS.noConfusion h
    ·assumption
   ·exact b i hi
  ·rw[c i fun h=>hi (qa2 _ h)]
   unfold dU
   split
   ·unfold upd;rw[if_neg fun(e:i=j)=>hi (by rw[e];exact qa4)]
   ·rfl
theorem jbE(h:s' k=s k):bI Ro s' k=bI Ro s k:=by unfold bI;rw[h]
theorem jh9{m:Nat}{s:Nat→LS}:reach Ro (m+1) s=reach Ro m (jb1 Ro s m):=by
 unfold reach
 rw[List.range_succ,List.reverse_append];rfl
theorem jiQ(o:RowsOK n Ro)(m:Nat):∀(s:Nat→LS),Grew s (reach Ro m s)∧(∀i,m≤i+1→reach Ro m s i=s i)∧(∀k,k<m→∀j∈bI Ro (reach Ro m s) k,reach Ro m s j≠.no)∧
  (∀i,reach Ro m s i≠.no→s i≠.no∨∃k,k<m∧i∈bI Ro (reach Ro m s) k):=by
 induction m with
 |zero=>
  intro s
  exact⟨.refl s,fun _ _=>rfl,fun k hk=>absurd hk (Nat.not_lt_zero k),fun i h=>.inl h⟩
 |succ m ih=>
  intro s
  refine eS (ih (jb1 Ro s m)) fun a b c e=>?_
  rw[jh9]
  refine Zaa (jeV (bI Ro s m) s) fun f1 f2 f3=>?_
  have fx:jb1 Ro s m=(bI Ro s m).foldl dU s:=rfl
  rw[←fx] at f1 f2 f3
  have hm:jb1 Ro s m m=s m:=f3 m fun h=>Nat.lt_irrefl m (jcr o m h)
  have hm':reach Ro m (jb1 Ro s m) m=s m:=(b m (Nat.le_succ m)).trans hm
  have wm:bI Ro (reach Ro m (jb1 Ro s m)) m=bI Ro s m:=jbE hm'
  refine⟨f1.trans a,fun i hi=>?_,fun k hk j hj=>?_,fun i hi=>?_⟩
  ·rw[b i (Nat.le_of_lt hi)]
   exact f3 i fun h=>by have:=jcr o i h;exact Nk3 1 1 1 0 hi this rfl
  ·by_cases ek:k=m
   ·subst ek
    rw[wm] at hj
    exact a.no (f2 j hj)
   ·exact c k (Nat.lt_of_le_of_ne (Nat.le_of_lt_succ hk) ek) j hj
  ·rcases e i hi with h|⟨k,hk,h⟩
   ·by_cases hw:i∈bI Ro s m
    ·exact .inr ⟨m,Nat.lt_succ_self m,by rw[wm];exact hw⟩
    ·rw[f3 i hw] at h;exact .inl h
   ·exact .inr ⟨k,Nat.lt_succ_of_lt hk,h⟩
noncomputable def LC(n:Nat)(Ro:Nat→Rw)(s:Nat→LS):Prop:=∀k,k<n→∀j∈bI Ro s k,s j≠.no
noncomputable abbrev AA(s:Nat→LS)(k:Nat):Prop:=s k≠.no
structure PI(n:Nat)(Ro:Nat→Rw)(sel:List Nat)(st:St)(s:Nat→LS)(held:List Nat):Prop where
 j:J (dS n Ro) (AA s) sel st
 lt:∀k,s k≠.no→k<n
 see:∀k,s k≠.no→s k=dI st k
 just:∀k,s k≠.no→k∈sel∨∃k',k'<n∧k∈bI Ro s k'
 hn:held.Nodup
 hm:∀k,k∈held↔(s k=.first∨s k=.second)
 run:∀k,s k=.asked∨s k=.second→(Ro k).isRun=true∧(Ro k).setups≠[]
 rs:∀k,s k=.ended→aN st k=eZ (Ro k).kd
 su:∀k,s k=.second∨(s k=.ended∧(Ro k).isRun=true∧(Ro k).setups≠[])→∀j∈(Ro k).setups,st.nd j≠none
theorem NI.mono{T:TT}{A B:Nat→Prop}(h:∀k,A k→B k)(x:NI T A st k d):NI T B st k d:=
 ⟨x.lt,h k x.al,x.td,x.dep,x.wrd,x.wrn,x.bad,x.ign,x.wmn,x.wm,x.anc,x.fin,x.shp,x.wait,x.act,x.one,x.rdy,x.cur⟩
theorem J.mono{T:TT}{A B:Nat→Prop}(h:∀k,A k→B k)(j:J T A sel st):J T B sel st:=
 ⟨j.wo,fun k d e=>(j.ni k d e).mono h,j.rdn,j.rdx,j.wtn,j.wtx,j.crx,fun k hk=>⟨(j.ttr k hk).1,h k (j.ttr k hk).2⟩,j.sel⟩
theorem PI.node(p:PI n Ro sel st s held)(h:s k≠.no)(h2:s k≠.reached):∃d,st.nd k=some d∧d.ls=s k:=by
 have e:=p.see k h
 cases hn:st.nd k with
 |none=>rw[jcx hn] at e;exact absurd e h2
 |some d=>rw[cx hn] at e;exact⟨d,rfl,e.symm⟩
theorem PI.reach(o:RowsOK n Ro)(p:PI n Ro sel st s held)(hlt:∀k,n≤k→s k=.no):PI n Ro sel st (Mini.reach Ro n s) held∧LC n Ro (Mini.reach Ro n s)∧Grew s (Mini.reach Ro n s):=by
 refine eS (jiQ o n s) fun a b c e=>?_
 refine⟨⟨p.j.mono fun k h=>a.no h,fun k hk=>?_,fun k hk=>?_,fun k hk=>?_,p.hn,fun k=>?_,fun k hk=>?_,fun k hk=>?_,fun k hk=>?_⟩,c,a⟩
 ·rcases Nat.lt_or_ge k n with h|h
  ·exact h
  ·rw[b k (Nk1 0 0 0 1 h rfl),hlt k h] at hk;exact absurd rfl hk
 ·by_cases h:s k=.no
  ·rcases a k with g|g
   ·rw[g] at hk;exact absurd h hk
   ·rw[g.2]
    cases hn:st.nd k with
    |none=>exact(jcx hn).symm
    |some d=>exact absurd h (p.j.ni k d hn).al
  ·rw[a.ne h];exact p.see k h
 ·rcases e k hk with h|h
  ·rcases p.just k h with g|⟨k',g1,g2⟩
   ·exact .inl g
   ·refine .inr ⟨k',g1,?_⟩
    have:s k'≠.no:=fun q=>by
     unfold bI at g2
     rw[q] at g2
     exact Xnm g2
    rw[jbE (a.ne this)];exact g2
  ·exact .inr h
 ·rw[p.hm k]
  rcases a k with g|g
  ·rw[g]
  ·rw[g.1,g.2];exact by decide
 ·refine p.run k ?_
  rcases a k with g|g
  ·rw[g] at hk;exact hk
  ·rw[g.2] at hk;rcases hk with h|h<;>cases h
 ·refine p.rs k ?_
  rcases a k with g|g
  ·rw[g] at hk;exact hk
  ·rw[g.2] at hk;exact LS.noConfusion hk
 ·refine p.su k ?_
  rcases a k with g|g
  ·rw[g] at hk;exact hk
  ·rw[g.2] at hk
   rcases hk with h|h
   ·exact LS.noConfusion h
   ·exact LS.noConfusion h.1
end
end
section
noncomputable def Keep(a b:St):Prop:=∀j,a.nd j≠none→b.nd j≠none
theorem Keep.refl(a:St):Keep a a:=fun _ h=>h
theorem Keep.trans{a b d:St}(x:Keep a b)(y:Keep b d):Keep a d:=fun j h=>y j (x j h)
theorem Keep.nd{a b:St}(h:b.nd=a.nd):Keep a b:=fun j x=>by rw[h];exact x
theorem Keep.setNd{a b:St}(x:Keep a b){k:Nat}{d:Nd}:Keep a (b.setNd k d):=fun j h=>by
 rw[aU]
 split
 ·intro e;exact Xsn e
 ·exact x j h
theorem Keep.fold{f:St→Nat→St}(h:∀s i,Keep s (f s i)):∀(l:List Nat)(s:St),Keep s (l.foldl f s)
 |[],s=>.refl s
 |a::l,s=>(h s a).trans (Keep.fold h l (f s a))
section
variable {T:TT}{n:Nat}{Ro:Nat→Rw}{s s':Nat→LS}{st st':St}{k i:Nat}{d:Nd}{sel held:List Nat}
theorem jeg{l:List Nat}:Keep st (cY k l st):=by
 have h1:∀s i,Keep s (ci k s i):=fun s i=>by
  unfold ci
  split
  ·split
   ·split
    ·exact .refl s
    ·exact(Keep.refl s).setNd
   ·exact .refl s
  ·exact .refl s
 have h2:∀s i,Keep s (de k s i):=fun s i=>by
  unfold de
  split
  ·exact(Keep.refl s).setNd
  ·exact .refl s
 have h3:∀s l,Keep s (jdg k l s):=fun s l=>by
  unfold jdg
  split
  ·exact(Keep.refl s).setNd
  ·exact .refl s
 exact((Keep.fold h1 l st).trans (Keep.fold h2 _ _)).trans (h3 _ _)
theorem ready_keep{a l:List Nat}:Keep st (l.foldl (fun s j=>bu T a j s) st):=Keep.fold (fun s i=>fun j h=>by
 rw[jcs]
 split
 ·intro e;exact Xsn e
 ·exact h) l st
theorem je1:Keep st (after3 k st).2:=by
 unfold after3
 split
 ·exact(Keep.refl st).setNd
 ·exact .refl st
theorem je2:Keep st (after2 T k d st).2:=by
 unfold after2
 have hp:Keep st (jbA T k d st):=ready_keep.trans jeg
 split
 ·split
  ·split
   ·exact hp.setNd.trans je1
   ·exact hp.setNd
  ·exact .refl st
 ·exact .refl st
theorem addTask_keep:Keep st (aM T k st).2:=by
 unfold aM
 split
 ·exact .refl st
 ·rename_i d hd
  split
  ·have hp:Keep st (dX T k d st):=((Keep.refl st).setNd.trans ready_keep).trans jeg
   unfold eQ
   split
   ·split
    ·exact hp.setNd
    ·exact hp
   ·exact hp
  ·split
   ·exact .refl st
   ·split
    ·split
     ·exact(Keep.refl st).setNd
     ·exact(Keep.refl st).setNd.trans je2
    ·split
     ·exact je2
     ·split
      ·exact je1
      ·exact .refl st
theorem jej:∀(f:Nat)(st:St),Keep st (bC T f st).2
 |0,st=>.refl st
 |f+1,st=>by
  unfold bC
  split
  ·exact .refl st
  ·split
   ·exact(Keep.nd (a:=st) (b:={ st with ttr:=st.ttr.dropLast }) rfl).trans (jej f _)
   ·exact fun j h=>by
     show(if j=_ then _ else st.nd j)≠none
     split
     ·intro e;exact Xsn e
     ·exact h
theorem pick_keep:Keep st (bW T st).2:=by
 unfold bW
 split
 ·exact .refl st
 ·have:Keep st (bM T st).2:=by
   unfold bM
   split
   ·exact .nd rfl
   ·exact jej _ _
  exact this.trans (.nd rfl)
theorem Runs.keep{res:Res}(h:Runs T st res st'):Keep st st':=by
 induction h with
 |stop p h=>exact pick_keep
 |task p h ok ha hc hd=>exact pick_keep.trans addTask_keep
 |none p h ok ha _ ih=>exact(pick_keep.trans (addTask_keep.trans (.nd rfl))).trans ih
 |wait p h ok ha hc hd hl _ ih=>exact(pick_keep.trans (addTask_keep.trans (.nd rfl))).trans ih
theorem jjh{p:Nat}:Keep st (b9 p st):=by
 unfold b9
 have hs:∀d,Keep st (bQ p d st):=fun d=>by
  unfold bQ
  split
  ·exact(Keep.refl st).setNd.trans (.nd rfl)
  ·exact .refl st
 have hu:∀s i,Keep s (cQ p s i):=fun s i=>by
  unfold cQ
  split
  ·dsimp only
   split
   ·exact(Keep.refl s).setNd.trans (.nd rfl)
   ·exact(Keep.refl s).setNd
  ·exact .refl s
 split
 ·exact .refl st
 ·split
  ·exact hs _
  ·exact(hs _).trans (Keep.fold hu _ _)
end
end
section
section
variable {n:Nat}{Ro:Nat→Rw}{s s':Nat→LS}{st st':St}{k i:Nat}{d:Nd}{sel held held':List Nat}
theorem jdL(h:d.ls=.first):d.rs=.none∧d.ph≠0:=by
 unfold Nd.ls at h
 cases hr:d.rs<;>rw[hr] at h<;>simp[RS.waits] at h
 ·exact⟨rfl,h⟩
 ·split at h<;>cases h
theorem jgb(h:d.ls=.second):d.rs=.run∧d.ph=4:=by
 unfold Nd.ls at h
 cases hr:d.rs<;>rw[hr] at h<;>simp[RS.waits] at h
 ·split at h<;>cases h
 ·exact⟨rfl,h⟩
theorem jfD(h:d.ls=.reached):d.rs=.none∧d.ph=0:=by
 unfold Nd.ls at h
 cases hr:d.rs<;>rw[hr] at h<;>simp[RS.waits] at h
 ·exact⟨rfl,h⟩
 ·split at h<;>cases h
theorem jjx(h:d.ls=.asked):d.rs=.run∧d.ph≠4:=by
 unfold Nd.ls at h
 cases hr:d.rs<;>rw[hr] at h<;>simp[RS.waits] at h
 ·split at h<;>cases h
 ·exact⟨rfl,h⟩
theorem ls_ended:d.ls=.ended↔d.rs.waits=false:=by
 unfold Nd.ls
 constructor
 ·intro h
  cases hr:d.rs<;>rw[hr] at h<;>simp[RS.waits] at h ⊢
  ·split at h<;>cases h
  ·split at h<;>cases h
 ·intro h;rw[h];rfl
theorem jgf{kd:Nat}:(eZ kd).waits=false:=by
 unfold eZ
 split
 ·rfl
 ·split
  ·rfl
  ·split<;>rfl
theorem jdQ(h:k<n):(dS n Ro).needs k=(Ro k).needs:=if_pos h
theorem jbl(h:k<n):(dS n Ro).setups k=(Ro k).setups:=if_pos h
theorem ji1:cL Ro s k≠.no:=by unfold cL;split<;>intro h<;>cases h
theorem PI.ends(o:RowsOK n Ro)(p:PI n Ro sel st s held)(hk:k∈held)(hh:held'.Nodup)(hm:∀i,i∈held'↔i∈held∧i≠k):∃d,st.nd k=some d∧jfh (dS n Ro) (st.setNd k { d with rs:=dC Ro s k }) k { d with rs:=dC Ro s k }∧
  PI n Ro sel (b9 k (st.setNd k { d with rs:=dC Ro s k })) (upd s k (cL Ro s k)) held':=by
 have t:=o.tok
 have hs:=(p.hm k).mp hk
 have hne:s k≠.no:=by rcases hs with h|h<;>rw[h]<;>intro e<;>cases e
 have hkn:=p.lt k hne
 refine Zxa (p.node hne (by rcases hs with h|h<;>rw[h]<;>intro e<;>cases e)) fun d hd hls=>?_
 have hq:d.rs.waits=true:=by
  rcases hs with h|h
  ·rw[(jdL (hls.trans h)).1];rfl
  ·rw[(jgb (hls.trans h)).1];rfl
 have E:jh0 (dS n Ro) (AA s) sel st k (dC Ro s k) (b9 k (st.setNd k { d with rs:=dC Ro s k })):=by
  unfold dC
  by_cases hc:s k=.first∧(Ro k).setups≠[]∧(Ro k).isRun=true
  ·rw[if_pos hc]
   refine Za (jdL (hls.trans hc.1)) fun a b=>?_
   exact p.j.endRun t hd a b (by rw[jbl hkn];exact hc.2.1)
  ·rw[if_neg hc]
   refine p.j.endFin t hd hq ?_ jgf
   rcases hs with h|h
   ·exact .inl (jdL (hls.trans h))
   ·exact .inr (jgb (hls.trans h))
 refine⟨d,hd,p.j.updOK t hd hq,?_⟩
 have kp:Keep st (b9 k (st.setNd k { d with rs:=dC Ro s k })):=(Keep.refl st).setNd.trans jjh
 generalize b9 k (st.setNd k { d with rs:=dC Ro s k })=st2 at E kp
 have ne:∀i,i≠k→upd s k (cL Ro s k) i=s i:=fun i hi=>if_neg hi
 have eq:upd s k (cL Ro s k) k=cL Ro s k:=if_pos rfl
 have aa:∀i,s i≠.no→upd s k (cL Ro s k) i≠.no:=fun i h=>by
  by_cases e:i=k
  ·subst e;rw[eq];exact ji1
  ·rw[ne i e];exact h
 have aa':∀i,upd s k (cL Ro s k) i≠.no→s i≠.no:=fun i h=>by
  by_cases e:i=k
  ·subst e;exact hne
  ·rw[ne i e] at h;exact h
 have lv:cL Ro s k=if dC Ro s k=.run then .asked else .ended:=by
  unfold cL dC
  by_cases hc:s k=.first∧(Ro k).setups≠[]∧(Ro k).isRun=true
  ·rw[if_pos hc,if_pos hc,if_pos rfl]
  ·rw[if_neg hc,if_neg hc,if_neg]
   intro e
   have:=jgf (kd:=(Ro k).kd)
   rw[e] at this;exact Xtf this
 refine⟨E.j.mono aa,fun i hi=>p.lt i (aa' i hi),fun i hi=>?_,fun i hi=>?_,hh,fun i=>?_,fun i hi=>?_,fun i hi=>?_,fun i hi=>?_⟩
 ·by_cases e:i=k
  ·subst e;rw[eq,E.ls,lv]
  ·rw[ne i e,(E.same i e).1];exact p.see i (aa' i hi)
 ·rcases p.just i (aa' i hi) with h|⟨k',h1,h2⟩
  ·exact .inl h
  ·refine .inr ⟨k',h1,?_⟩
   by_cases e:k'=k
   ·subst e
    unfold bI at h2 ⊢
    rw[if_pos hne] at h2
    rw[if_pos (aa k' hne)]
    rcases List.mem_append.mp h2 with g|g
    ·exact List.mem_append_left _ g
    ·refine List.mem_append_right _ ?_
     split at g
     ·rename_i hc
      have hsec:s k'=.second:=by
       rcases hs with h|h
       ·rw[h] at hc;exact if_pos hc
       ·exact h
      have hr:=p.run k' (.inr hsec)
      have hv:cL Ro s k'=.ended:=by unfold cL;rw[if_neg];intro q;rw[hsec] at q;exact LS.noConfusion q.1
      rw[if_pos (.inr (.inr ⟨eq.trans hv,hr.1⟩))];exact g
     ·exact Xnm g
   ·rw[jbE (ne k' e)];exact h2
 ·rw[hm i,p.hm i]
  by_cases e:i=k
  ·subst e
   rw[eq,lv]
   constructor
   ·intro h;exact absurd rfl h.2
   ·intro h;split at h<;>rcases h with h|h<;>cases h
  ·rw[ne i e];simp[e]
 ·by_cases e:i=k
  ·subst e
   rw[eq] at hi
   unfold cL at hi
   by_cases hc:s i=.first∧(Ro i).setups≠[]∧(Ro i).isRun=true
   ·exact⟨hc.2.2,hc.2.1⟩
   ·rw[if_neg hc] at hi;rcases hi with h|h<;>cases h
  ·rw[ne i e] at hi;exact p.run i hi
 ·by_cases e:i=k
  ·subst e
   rw[eq] at hi
   rw[E.rs]
   unfold cL at hi
   unfold dC
   by_cases hc:s i=.first∧(Ro i).setups≠[]∧(Ro i).isRun=true
   ·rw[if_pos hc] at hi;exact LS.noConfusion hi
   ·rw[if_neg hc]
  ·rw[ne i e] at hi;rw[(E.same i e).2];exact p.rs i hi
 ·intro j hj
  refine kp j (p.su i ?_ j hj)
  by_cases e:i=k
  ·subst e
   rw[eq] at hi
   rcases hi with h|⟨h1,h2,h3⟩
   ·unfold cL at h;split at h<;>cases h
   ·rcases hs with h|h
    ·unfold cL at h1
     rw[if_pos ⟨h,h3,h2⟩] at h1;exact LS.noConfusion h1
    ·exact .inl h
  ·rw[ne i e] at hi;exact hi
theorem endedAll_iff{l:List Nat}:dG s l=true↔∀j∈l,s j=.ended:=by
 unfold dG
 rw[List.isEmpty_iff,List.filter_eq_nil_iff]
 simp
noncomputable def wt:LS→Nat
 |.no=>6|.reached=>6|.first=>5|.asked=>3|.second=>2|.ended=>0
noncomputable def Phi(n:Nat)(s:Nat→LS):Nat:=((List.range n).map fun k=>wt (s k)).sum
theorem jj8{v:LS}(m:Nat):(∀j,k<m∧j=k→True)→(k<m→Phi m (upd s k v)+wt (s k)=Phi m s+wt v)∧(m≤k→Phi m (upd s k v)=Phi m s):=by
 induction m with
 |zero=>
  intro _
  exact⟨fun h=>absurd h (Nat.not_lt_zero _),fun _=>rfl⟩
 |succ m ih=>
  intro _
  obtain⟨a,b⟩:=ih fun _ _=>trivial
  have step:∀f:Nat→LS,Phi (m+1) f=Phi m f+wt (f m):=fun f=>by
   unfold Phi;rw[List.range_succ,List.map_append,List.sum_append];exact rfl
  rw[step,step]
  constructor
  ·intro h
   by_cases e:k=m
   ·subst e
    have:=b (qa9 _)
    have e2:upd s k v k=v:=if_pos rfl
    rw[e2,this];exact Nat.add_right_comm _ _ _
   ·have:=a (Nat.lt_of_le_of_ne (Nat.le_of_lt_succ h) e)
    have e2:upd s k v m=s m:=if_neg (Ne.symm e)
    rw[e2];omega
  ·intro h
   have:=b (Nat.le_of_lt h)
   have e2:upd s k v m=s m:=if_neg (qa7 h)
   rw[e2];omega
theorem jhO{v:LS}(h:k<n):Phi n (upd s k v)+wt (s k)=Phi n s+wt v:=(jj8 n fun _ _=>trivial).1 h
theorem jjT(h:Grew s s'):Phi n s'=Phi n s:=by
 unfold Phi
 congr 1
 refine List.map_congr_left fun i _=>?_
 rcases h i with g|g
 ·rw[g]
 ·rw[g.1,g.2];rfl
theorem Phi_le:Phi n s≤6*n:=by
 unfold Phi
 induction n with
 |zero=>exact Nat.zero_le _
 |succ m ih=>
  rw[List.range_succ,List.map_append,List.sum_append]
  have:wt (s m)≤6:=by cases s m<;>decide
  simp
  omega
theorem PI.over(o:RowsOK n Ro)(p:PI n Ro sel st s [])(lc:LC n Ro s)(hf:jcJ Ro n s=[]):∀k,k<n→s k=.no∨s k=.ended:=by
 intro k
 induction k using Nat.strongRecOn with
 |ind k ih=>
  intro hk
  have nf:dM Ro s k=false:=by
   cases h:dM Ro s k with
   |false=>rfl
   |true=>
    have:k∈jcJ Ro n s:=List.mem_filter.mpr ⟨List.mem_range.mpr hk,h⟩
    rw[hf] at this;exact Xnm this
  have nh:=(p.hm k)
  cases hs:s k with
  |no=>exact .inl rfl
  |ended=>exact .inr rfl
  |first=>exact absurd (nh.mpr (.inl hs)) (fun h=>nomatch h)
  |second=>exact absurd (nh.mpr (.inr hs)) (fun h=>nomatch h)
  |reached=>
   exfalso
   unfold dM at nf
   rw[hs] at nf
   have:dG s (Ro k).needs=true:=endedAll_iff.mpr fun j hj=>by
    have hw:j∈bI Ro s k:=by unfold bI;rw[if_pos (by rw[hs];intro e;exact LS.noConfusion e)];exact List.mem_append_left _ hj
    have hjk:=o.needs k j hj
    exact(ih j hjk (Nat.lt_trans hjk hk)).resolve_left (lc k hk j hw)
   rw[this] at nf;exact Xtf nf
  |asked=>
   exfalso
   unfold dM at nf
   rw[hs] at nf
   have:dG s (Ro k).setups=true:=endedAll_iff.mpr fun j hj=>by
    have hw:j∈bI Ro s k:=by unfold bI;rw[if_pos (by rw[hs];intro e;exact LS.noConfusion e),if_pos (.inl hs)];exact List.mem_append_right _ hj
    have hjk:=o.setups k j hj
    exact(ih j hjk (Nat.lt_trans hjk hk)).resolve_left (lc k hk j hw)
   rw[this] at nf;exact Xtf nf
end
end
section
section
variable {n:Nat}{Ro:Nat→Rw}{s s':Nat→LS}{st st':St}{k i:Nat}{d:Nd}{sel held held':List Nat}
theorem PI.al(p:PI n Ro sel st s held)(lc:LC n Ro s):AL (dS n Ro) (AA s) st:=by
 refine⟨fun k hk i hi=>?_,fun k hk i hi=>?_⟩
 ·have hkn:=p.lt k hk
  rw[jdQ hkn] at hi
  refine lc k hkn i ?_
  unfold bI
  rw[if_pos hk];exact List.mem_append_left _ hi
 ·cases hn:st.nd k with
  |none=>rw[jaX hn] at hk;exact RS.noConfusion hk
  |some d=>
   have ha:=(p.j.ni k d hn).al
   have hkn:=p.lt k ha
   rw[jbl hkn] at hi
   rw[ba hn] at hk
   have hs:s k=.asked∨s k=.second:=by
    have e:=p.see k ha
    rw[cx hn] at e
    unfold Nd.ls at e
    rw[hk] at e
    simp[RS.waits] at e
    split at e
    ·exact .inr e
    ·exact .inl e
   refine lc k hkn i ?_
   unfold bI
   refine List.mem_append_right _ ?_
   rw[if_pos (by rcases hs with h|h;exact .inl h;exact .inr (.inl h))]
   exact hi
theorem PI.same(p:PI n Ro sel st s held)(j:J (dS n Ro) (AA s) sel st')(sm:Same st st')(kp:Keep st st'):PI n Ro sel st' s held:=
 ⟨j,p.lt,fun k hk=>(p.see k hk).trans (sm k).1.symm,p.just,p.hn,p.hm,p.run,fun k hk=>(sm k).2.trans (p.rs k hk),fun k hk j hj=>kp j (p.su k hk j hj)⟩
theorem PI.done(o:RowsOK n Ro)(p:PI n Ro sel st s held)(j':J (dS n Ro) (AA s) sel st')(sb:SameBut k st st')(hd:st'.nd k=some d)(hp:d.ph=1∨d.ph=4) :
  ∀i∈dl (dS n Ro) k d,s i=.ended∧aN st' i=eZ (Ro i).kd∧st'.nd i≠none:=fun i hi=>by
 have x:=j'.ni k d hd
 have wr0:d.wr=[]:=by
  rcases x.shp with z|z|z|z|z
  ·exact hp.elim (fun z4=>(False.elim (Nk3 0 0 1 0 (qa3 z.1) (qa3 z4.symm) rfl))) fun z4=>(False.elim (Nk3 0 0 4 0 (qa3 z.1) (qa3 z4.symm) rfl))
  ·exact z.2.2.1
  ·exact z.2.1
  ·exact hp.elim (fun z4=>(False.elim (Nk3 0 1 3 0 (qa3 z4) (qa3 z.1.symm) rfl))) fun z4=>(False.elim (Nk3 0 3 4 0 (qa3 z.1) (qa3 z4.symm) rfl))
  ·exact z.2.2.1
 refine Za (x.dep i hi) fun h1 h2=>?_
 have hik:i≠k:=fun e=>by have:=jey o.tok i hi;exact Nat.not_le_of_lt this (qa3 e.symm)
 rw[wr0] at h2
 have hw:(aN st' i).waits=false:=by
  cases q:(aN st' i).waits with
  |false=>rfl
  |true=>exact absurd (h2.mpr q) (fun h=>nomatch h)
 refine Zx (Option.ne_none_iff_exists'.mp h1) fun di hdi=>?_
 have ai:s i≠.no:=(j'.ni i di hdi).al
 have hs:s i=.ended:=by
  rw[p.see i ai,←(sb i hik).1,cx hdi]
  rw[ba hdi] at hw
  exact ls_ended.mpr hw
 exact⟨hs,by rw[(sb i hik).2];exact p.rs i hs,h1⟩
noncomputable def c7(s:Nat→LS)(k:Nat):LS:=if s k=.asked then .second else .first
structure jiH(n:Nat)(Ro:Nat→Rw)(sel:List Nat)(st':St)(s:Nat→LS)(held:List Nat)(k:Nat):Prop where
 lt:k<n
 free:dM Ro s k=true
 nh:k∉held
 node:∃d,st'.nd k=some d∧d.bad.Perm ((dN Ro s k).filter (jhX Ro))∧d.ign.Perm ((dN Ro s k).filter (ignK Ro))∧∀i∈dN Ro s k,st'.nd i≠none
 pi:PI n Ro sel st' (upd s k (c7 s k)) (held++[k])
theorem jjM{kd:Nat}(h:fD kd):decide (eZ kd=.fail)=(kd == 32||kd == 33):=by
 rcases h with rfl|rfl|rfl|rfl|rfl<;>rfl
theorem jkr{kd:Nat}(h:fD kd):decide (eZ kd=.ign)=(kd == 34):=by
 rcases h with rfl|rfl|rfl|rfl|rfl<;>rfl
theorem PI.give(o:RowsOK n Ro)(kd:∀k,fD (Ro k).kd)(p:PI n Ro sel st s held)(j':J (dS n Ro) (AA s) sel st')(kp:Keep st st')(sb:SameBut k st st')(rsk:aN st' k=aN st k)(hd:st'.nd k=some d)
  (hc:(dI st k=.reached∧d.ls=.first∧d.ph=1)∨(dI st k=.asked∧d.ls=.second∧d.ph=4)):jiH n Ro sel st' s held k:=by
 have x:=j'.ni k d hd
 have ak:s k≠.no:=x.al
 have hkn:=p.lt k ak
 have hs:(s k=.reached∧d.ls=.first∧d.ph=1)∨(s k=.asked∧d.ls=.second∧d.ph=4):=by rw[p.see k ak];exact hc
 have td:d.td=[]:=(x.fin (hs.elim (fun z4=>(qa3 z4.2.2.symm)) fun z4=>(Nk1 4 0 1 0 (qa3 z4.2.2.symm) rfl))).1
 have edl:dl (dS n Ro) k d=dN Ro s k:=by
  unfold dl dN
  rw[if_pos td,jdQ hkn,jbl hkn]
  rcases hs with⟨a,_,b⟩|⟨a,_,b⟩
  ·rw[if_neg (Nat.not_le_of_lt (Nk1 0 1 1 3 (qa3 b) rfl)),if_neg (by rw[a];intro e;exact LS.noConfusion e)]
  ·rw[if_pos (Nat.le_of_lt (qa3 b.symm)),if_pos a]
 have dn:=p.done o j' sb hd (by omega)
 have nh:k∉held:=fun h=>by
  rcases (p.hm k).mp h with g|g<;>rcases hs with⟨a,_⟩|⟨a,_⟩<;>rw[g] at a<;>cases a
 have hv:c7 s k=d.ls:=by
  unfold c7
  rcases hs with⟨a,b,_⟩|⟨a,b,_⟩
  ·rw[if_neg (by rw[a];intro e;exact LS.noConfusion e),b]
  ·rw[if_pos a,b]
 have hvn:c7 s k≠.no:=by unfold c7;split<;>intro e<;>cases e
 have ne:∀i,i≠k→upd s k (c7 s k) i=s i:=fun i hi=>if_neg hi
 have eq:upd s k (c7 s k) k=c7 s k:=if_pos rfl
 have aa:∀i,s i≠.no→upd s k (c7 s k) i≠.no:=fun i h=>by
  by_cases e:i=k
  ·subst e;rw[eq];exact hvn
  ·rw[ne i e];exact h
 have aa':∀i,upd s k (c7 s k) i≠.no→s i≠.no:=fun i h=>by
  by_cases e:i=k
  ·subst e;exact ak
  ·rw[ne i e] at h;exact h
 refine⟨hkn,?_,nh,⟨d,hd,?_,?_,fun i hi=>(dn i (by rw[edl];exact hi)).2.2⟩,⟨j'.mono aa,fun i hi=>p.lt i (aa' i hi),fun i hi=>?_,fun i hi=>?_,ja2 p.hn nh,fun i=>?_,fun i hi=>?_,fun i hi=>?_,fun i hi=>?_⟩⟩
 ·unfold dM
  rcases hs with⟨a,_⟩|⟨a,_⟩
  ·rw[a]
   refine endedAll_iff.mpr fun j hj=>(dn j ?_).1
   rw[edl];unfold dN;exact List.mem_append_left _ hj
  ·rw[a]
   refine endedAll_iff.mpr fun j hj=>(dn j ?_).1
   rw[edl];unfold dN;rw[if_pos a];exact List.mem_append_right _ hj
 ·have:=x.bad
  rw[edl] at this
  refine this.trans (List.Perm.of_eq (List.filter_congr fun j hj=>?_))
  rw[(dn j (by rw[edl];exact hj)).2.1]
  exact jjM (kd j)
 ·have:=x.ign
  rw[edl] at this
  refine this.trans (List.Perm.of_eq (List.filter_congr fun j hj=>?_))
  rw[(dn j (by rw[edl];exact hj)).2.1]
  exact jkr (kd j)
 ·by_cases e:i=k
  ·subst e;rw[eq,hv,cx hd]
  ·rw[ne i e,(sb i e).1];exact p.see i (aa' i hi)
 ·rcases p.just i (aa' i hi) with h|⟨k',h1,h2⟩
  ·exact .inl h
  ·refine .inr ⟨k',h1,?_⟩
   by_cases e:k'=k
   ·subst e
    unfold bI at h2 ⊢
    rw[if_pos ak] at h2
    rw[if_pos (aa k' ak)]
    rcases List.mem_append.mp h2 with g|g
    ·exact List.mem_append_left _ g
    ·refine List.mem_append_right _ ?_
     rcases hs with⟨a,_⟩|⟨a,_⟩
     ·rw[if_neg (by rw[a];exact fun h=>nomatch h)] at g;exact Xnm g
     ·rw[if_pos (.inl a)] at g
      have:upd s k' (c7 s k') k'=.second:=by rw[eq];unfold c7;rw[if_pos a]
      rw[if_pos (.inr (.inl this))];exact g
   ·rw[jbE (ne k' e)];exact h2
 ·rw[List.mem_append,List.mem_singleton,p.hm i]
  by_cases e:i=k
  ·subst e
   rw[eq,hv]
   rcases hs with⟨_,b,_⟩|⟨_,b,_⟩<;>rw[b]<;>simp
  ·rw[ne i e];simp[e]
 ·by_cases e:i=k
  ·subst e
   rw[eq,hv] at hi
   rcases hs with⟨_,b,_⟩|⟨a,b,_⟩
   ·rw[b] at hi;rcases hi with h|h<;>cases h
   ·exact p.run i (.inl a)
  ·rw[ne i e] at hi;exact p.run i hi
 ·by_cases e:i=k
  ·subst e
   rw[eq,hv] at hi
   rcases hs with⟨_,b,_⟩|⟨_,b,_⟩<;>rw[b] at hi<;>cases hi
  ·rw[ne i e] at hi;rw[(sb i e).2];exact p.rs i hi
 ·intro j hj
  by_cases e:i=k
  ·subst e
   rw[eq,hv] at hi
   rcases hs with⟨_,b,_⟩|⟨a,b,_⟩
   ·rw[b] at hi
    rcases hi with h|h
    ·exact LS.noConfusion h
    ·exact LS.noConfusion h.1
   ·refine(dn j ?_).2.2
    rw[edl];unfold dN;rw[if_pos a];exact List.mem_append_right _ hj
  ·rw[ne i e] at hi;exact kp j (p.su i hi j hj)
structure jfu(n:Nat)(Ro:Nat→Rw)(sel:List Nat)(st':St)(s:Nat→LS)(held:List Nat)(res:Res):Prop where
 free:jcJ Ro n s=[]
 hold:res=.hold↔eX Ro n s≠[]
 pi:PI n Ro sel st' s held
theorem PI.idle(o:RowsOK n Ro)(p:PI n Ro sel st s held){res:Res}(hr:st.ready=[])(ht:st.ttr=[])(hc:st.cur=none)(hh:res=.hold↔st.wait≠[]):jfu n Ro sel st s held res:=by
 have noR:∀k,k∉st.ready:=fun k h=>by rw[hr] at h;exact Xnm h
 have noC:∀k,st.cur≠some k:=fun k h=>by rw[hc] at h;exact Xns h
 have stuck:∀k d,st.nd k=some d→(d.ph=0∨(d.ph=2∧d.rs=.run)∨d.ph=3)→d.wr≠[]:=fun k d hd h e=>by
  rcases (p.j.ni k d hd).act e h with g|g
  ·exact noR k g
  ·exact noC k g
 have asked3:∀k d,st.nd k=some d→d.ls=.asked→d.ph=3:=fun k d hd h=>by
  refine Za (jjx h) fun a b=>?_
  have x:=p.j.ni k d hd
  rcases x.shp with z|z|z|z|z
  ·rw[a] at z;exact RS.noConfusion z.2.1
  ·exact absurd (x.one z.1 (z.2.2.2 a)) (noC k)
  ·exact absurd z.2.1 (stuck k d hd (.inr (.inl ⟨z.1,a⟩)))
  ·exact z.1
  ·exact absurd z.1 b
 have tdn:∀k d,st.nd k=some d→d.td=[]:=fun k d hd=>by
  rcases (p.j.ni k d hd).td with z|z
  ·exact z
  ·exact absurd z.2.2.1 (stuck k d hd (.inl z.2.1))
 have ex:∀m k,n - k<m→s k≠.no→st.nd k≠none:=by
  intro m
  induction m with
  |zero=>intro k h;exact absurd h (Nat.not_lt_zero _)
  |succ m ih=>
   intro k hm hk
   rcases p.just k hk with h|⟨k',h1,h2⟩
   ·rcases p.j.sel k h with g|g
    ·exact g
    ·rw[ht] at g;exact Xnm g
   ·have hkk:=jcr o k h2
    have ak:s k'≠.no:=fun q=>by
     unfold bI at h2
     rw[q] at h2
     exact Xnm h2
    have hn':=ih k' (by omega) ak
    refine Zx (Option.ne_none_iff_exists'.mp hn') fun d' hd'=>?_
    have x':=p.j.ni k' d' hd'
    have td':=tdn k' d' hd'
    unfold bI at h2
    rw[if_pos ak] at h2
    rcases List.mem_append.mp h2 with g|g
    ·refine(x'.dep k ?_).1
     unfold dl
     rw[if_pos td',jdQ h1];exact List.mem_append_left _ g
    ·split at g
     ·rename_i hcs
      rcases hcs with h|h|h
      ·have e:=p.see k' ak
       rw[cx hd',h] at e
       have p3:=asked3 k' d' hd' e.symm
       refine(x'.dep k ?_).1
       unfold dl
       rw[if_pos td',if_pos (qa3 p3.symm),jbl h1];exact List.mem_append_right _ g
      ·exact p.su k' (.inl h) k g
      ·exact p.su k' (.inr ⟨h.1,h.2,fun e=>by rw[e] at g;exact Xnm g⟩) k g
     ·exact Xnm g
 have nodeOf:∀k,s k≠.no→∃d,st.nd k=some d∧d.ls=s k:=fun k hk=>by
  refine Zx (Option.ne_none_iff_exists'.mp (ex (n+1) k (Nat.lt_succ_of_le (Nat.sub_le _ _)) hk)) fun d hd=>?_
  exact⟨d,hd,by rw[p.see k hk,cx hd]⟩
 have busy:∀k d j,st.nd k=some d→j∈d.wr→s j≠.ended:=fun k d j hd hj e=>by
  have x:=p.j.ni k d hd
  have hdl:=x.wrd j hj
  have hw:=(x.dep j hdl).2.mp hj
  refine Zx (Option.ne_none_iff_exists'.mp (x.dep j hdl).1) fun dj hdj=>?_
  rw[ba hdj] at hw
  have aj:=(p.j.ni j dj hdj).al
  have:=p.see j aj
  rw[e,cx hdj] at this
  have:=ls_ended.mp this.symm
  rw[hw] at this;exact Xtf this
 have first:∀{l:List Nat},l≠[]→∃a,a∈l:=fun{l} h=>by
  cases l with
  |nil=>exact absurd rfl h
  |cons a l=>exact⟨a,qa4⟩
 refine⟨?_,?_,p⟩
 ·unfold jcJ
  rw[List.filter_eq_nil_iff]
  intro k hk hf
  have hkn:=List.mem_range.mp hk
  unfold dM at hf
  cases hs:s k with
  |reached=>
   rw[hs] at hf
   refine Zxa (nodeOf k (by rw[hs];intro e;exact LS.noConfusion e)) fun d hd hl=>?_
   rw[hs] at hl
   refine Za (jfD hl) fun a b=>?_
   refine Zx (first (stuck k d hd (.inl b))) fun j hj=>?_
   have x:=p.j.ni k d hd
   have hdl:=x.wrd j hj
   have hn:j∈(Ro k).needs:=by
    unfold dl at hdl
    rw[if_pos (tdn k d hd),if_neg (Nat.not_le_of_lt (Nk1 0 0 1 3 (qa3 b) rfl)),List.append_nil,jdQ hkn] at hdl
    exact hdl
   exact busy k d j hd hj (endedAll_iff.mp hf j hn)
  |asked=>
   rw[hs] at hf
   refine Zxa (nodeOf k (by rw[hs];intro e;exact LS.noConfusion e)) fun d hd hl=>?_
   rw[hs] at hl
   have p3:=asked3 k d hd hl
   refine Zx (first (stuck k d hd (.inr (.inr p3)))) fun j hj=>?_
   have x:=p.j.ni k d hd
   have hdl:=x.wrd j hj
   have hw:=(x.dep j hdl).2.mp hj
   have hn:j∈(Ro k).setups:=by
    unfold dl at hdl
    rw[if_pos (tdn k d hd),if_pos (qa3 p3.symm)] at hdl
    rcases List.mem_append.mp hdl with g|g
    ·have:=(x.fin (Nk1 3 0 1 0 (qa3 p3.symm) rfl)).2 j g
     rw[hw] at this;exact Xtf this
    ·rw[jbl hkn] at g;exact g
   exact busy k d j hd hj (endedAll_iff.mp hf j hn)
  |_=>rw[hs] at hf;exact Xft hf
 ·rw[hh]
  constructor
  ·intro h
   refine Zx (first h) fun k hk=>?_
   refine Zx (Option.ne_none_iff_exists'.mp (p.j.wtx k hk)) fun d hd=>?_
   have x:=p.j.ni k d hd
   have ak:s k≠.no:=x.al
   have hkn:=p.lt k ak
   have e:=p.see k ak
   rw[cx hd] at e
   have hw:eF Ro s k=true:=by
    unfold eF
    rcases x.wait.mp hk with z|z
    ·rcases x.shp with y|y|y|y|y
     ·have:d.ls=.reached:=by unfold Nd.ls;rw[y.2.1,y.1];rfl
      rw[e,this]
     ·exact absurd y.2.2.1 z
     ·exact absurd y.2.1 z
     ·have:d.ls=.asked:=by unfold Nd.ls;rw[y.2.2.2,y.1];rfl
      rw[e,this]
     ·exact absurd y.2.2.1 z
    ·rcases x.shp with y|y|y|y|y
     ·rw[y.2.2] at z;exact Xft z
     ·rw[y.2.1] at z;exact Xft z
     ·have hrs:=y.2.2.2.mp z
      have:d.ls=.first:=by unfold Nd.ls;rw[hrs,y.1];rfl
      rw[e,this]
      have hsu:=y.2.2.1
      rw[jbl hkn] at hsu
      dsimp only
      cases hq:(Ro k).setups with
      |nil=>exact absurd hq hsu
      |cons a l=>rfl
     ·rw[y.2.1] at z;exact Xft z
     ·rw[y.2.1] at z;exact Xft z
   intro q
   have:k∈eX Ro n s:=List.mem_filter.mpr ⟨List.mem_range.mpr hkn,hw⟩
   rw[q] at this;exact Xnm this
  ·intro h
   refine Zx (first h) fun k hk=>?_
   refine Za (List.mem_filter.mp hk) fun h1 hw=>?_
   have hkn:=List.mem_range.mp h1
   unfold eF at hw
   have gotW:k∈st.wait→st.wait≠[]:=fun h e=>by rw[e] at h;exact Xnm h
   cases hs:s k with
   |reached=>
    refine Zxa (nodeOf k (by rw[hs];intro e;exact LS.noConfusion e)) fun d hd hl=>?_
    rw[hs] at hl
    exact gotW ((p.j.ni k d hd).wait.mpr (.inl (stuck k d hd (.inl (jfD hl).2))))
   |asked=>
    refine Zxa (nodeOf k (by rw[hs];intro e;exact LS.noConfusion e)) fun d hd hl=>?_
    rw[hs] at hl
    exact gotW ((p.j.ni k d hd).wait.mpr (.inl (stuck k d hd (.inr (.inr (asked3 k d hd hl))))))
   |first=>
    rw[hs] at hw
    refine Zxa (nodeOf k (by rw[hs];intro e;exact LS.noConfusion e)) fun d hd hl=>?_
    rw[hs] at hl
    refine Za (jdL hl) fun a b=>?_
    have x:=p.j.ni k d hd
    rcases x.shp with y|y|y|y|y
    ·exact absurd y.1 b
    ·refine absurd (x.one y.1 ?_) (noC k)
     rw[jbl hkn]
     intro q;rw[q] at hw;exact Xft hw
    ·exact gotW (x.wait.mpr (.inr (y.2.2.2.mpr a)))
    ·rw[a] at y;exact RS.noConfusion y.2.2.2
    ·exact absurd a y.2.2.2.2
   |_=>rw[hs] at hw;exact Xft hw
theorem PI.sent(o:RowsOK n Ro)(kd:∀k,fD (Ro k).kd)(p:PI n Ro sel st s held)(lc:LC n Ro s):∃res st',Runs (dS n Ro) st res st'∧match res with
  |.give k=>jiH n Ro sel st' s held k
  |_=>jfu n Ro sel st' s held res:=by
 refine Zxx (p.j.sends o.tok _ st (Nat.lt_succ_self _) (p.al lc)) fun res st' sn=>?_
 refine⟨res,st',sn.runs,?_⟩
 have kp:=sn.runs.keep
 have idle:(∀k,res≠.give k)→jfu n Ro sel st' s held res:=fun h=>by
  refine fc (sn.idle h) fun a b c d e=>?_
  exact(p.same sn.j a kp).idle o b c d e
 cases res with
 |give k=>
  refine jgF (sn.give k rfl) fun a b c d h1 h2=>?_
  exact p.give o kd sn.j kp a b h1 h2
 |hold=>exact idle fun k h=>Res.noConfusion h
 |fin=>exact idle fun k h=>Res.noConfusion h
end
end
section
section
variable {c:Cx}{H H':Tag→Option MObj}{nx:Nat}{m:List (Nat×MV)}{k j n:Nat}{Ro:Nat→Rw}{od:List Nat}{Q:MV→AS→Prop}{P:aH→AS→Prop}
theorem jeu{sel:List Nat}{t:Tag}(cb:CB n Ro od H)(hc:H (21,0)=some (.inst 1 (eB (.tag t))))(hf:∀i,H (20,i)=none)(hnod:∀g i,10≤g→g≤16→H (g,i)=none)(htmp:∀i,nx≤i→H (0,i)=none)(ht:H t=some (.list (sel.map .str)))(ht20:t.1≠20)(hs:sel.length<900)
  (q:∀H',R (dS n Ro) (st0 sel) H' nx→(∀g i,g≠20→H' (g,i)=H (g,i))→Q (.tag (20,0)) ⟨H',nx,m⟩):jak [.tag (21,0)] [] ⟨H,nx,m⟩ Q:=by
 refine⟨rfl,?_⟩
 unfold jaR
 show ao _ _ ⟨H,nx,[(61,.tag (21,0))]⟩ _
 refine av (jgW (aS (aY rfl hc (by decide) rfl rfl (az ⟨false,rfl,rfl,rfl,?_⟩))))
 refine cC (dA (aC (aY rfl hc (by decide) rfl rfl (aC (aY rfl hc (by decide) rfl rfl (aC (aY rfl hc (by decide) rfl rfl (au (au ?_)))))))))
 refine⟨(20,0),⟨hf 0,.inl (by show(20:Nat)≠0;decide)⟩,?_⟩
 have en:cw nx (20,0)=nx:=if_neg (by show(20:Nat)≠0;decide)
 dsimp only
 rw[en]
 have ht':ay H (20,0) (.inst 3 []) t=some (.list (sel.map .str)):=(af fun e=>ht20 (by rw[e])).trans ht
 refine jg' (sel:=sel) (t:=t) aB (fun i h1 h2=>(af (ine (qb4 h1))).trans (hf i)) ht' ht20 hs fun H2 k2 d0 d1 d2 d3 d4=>⟨rfl,?_⟩
 have kk:∀g i,g≠20→H2 (g,i)=H (g,i):=fun g i hg=>(k2 g i hg).trans (af (gne hg))
 refine q H2 ⟨fun k hk=>?_,fun k hk=>?_,fun k d h=>(Xns h),fun k _ g h1 h2=>(kk g k (qa7 (Nk1 0 16 1 20 h2 rfl))).trans (hnod g k h1 h2),d0,⟨none,d1⟩,⟨none,d2⟩,d3,d4,?_,fun i hi=>(kk 0 i (by decide)).trans (htmp i hi)⟩ kk
 ·refine jc7 ((cb.tb k hk).obj) fun es e1 e2 e62 e50 e52 e70 e102=>?_
  have es':(dS n Ro).setups k=(Ro k).setups:=if_pos hk
  rw[es']
  exact⟨es,(kk 1 k (by decide)).trans e1,e62,e50,e52,e70⟩
 ·have en':(dS n Ro).needs k=(Ro k).needs:=if_pos hk
  rw[en']
  exact(kk 3 k (by decide)).trans (cb.tb k hk).dep
 ·refine Zx cb.dic fun eo e=>?_
  refine⟨_,eo,(kk 21 1 (by decide)).trans e,fun k hk=>?_⟩
  rw[jbQ,if_pos (cb.all k hk)];rfl
noncomputable def dP(n:Nat) (b:Int):List Nat:=
 let l:=(List.range n).drop ((b.fdiv 2).fmod n).toNat++(List.range n).take ((b.fdiv 2).fmod n).toNat
 if b.fmod 2=1 then l.reverse else l
theorem jeb{b:Int}:(dP n b).Perm (List.range n):=by
 unfold dP
 have h:((List.range n).drop ((b.fdiv 2).fmod n).toNat++(List.range n).take ((b.fdiv 2).fmod n).toNat).Perm (List.range n):=by
  have:=List.perm_append_comm (l₁:=(List.range n).drop ((b.fdiv 2).fmod n).toNat) (l₂:=(List.range n).take ((b.fdiv 2).fmod n).toNat)
  rw[List.take_append_drop] at this
  exact this
 dsimp only
 split
 ·exact(List.reverse_perm _).trans h
 ·exact h
theorem jde{f:Int→Int→Option Int}{a b:MEx}{σ:AS}{Q:MV→AS→Prop}(h:a σ (kBin f b Q)):bK f a b σ Q:=h
theorem jcZ{f:MEx}{σ:AS}{P:Option Int→AS→Prop}(h:f σ (kPart P)):jcH (some f) σ P:=h
theorem eJ{σ:AS}{P:Option Int→AS→Prop}(h:P none σ):jcH none σ P:=h
theorem jcT{a:MEx}{lo hi st:Option MEx}{σ:AS}{Q:MV→AS→Prop}(h:a σ fun v σ1=>jcH lo σ1 fun l σ2=>jcH hi σ2 fun h σ3=>jcH st σ3 fun k σ4=>∃xs ys,bV σ4.H v=some xs∧jby xs l h k=some ys∧newL ys σ4 Q):c6 a lo hi st σ Q:=h
theorem i_cat{a b:MEx}{σ:AS}{Q:MV→AS→Prop}(h:a σ fun x σ1=>b σ1 fun y σ2=>∃xs ys,bV σ2.H x=some xs∧bV σ2.H y=some ys∧newL (xs++ys) σ2 Q):mCat a b σ Q:=h
theorem jgN{xs:List MV}{a:Int}(h:0≤a):jby xs (some a) none none=some (xs.drop a.toNat):=if_pos h
theorem jjq{xs:List MV}{a:Int}(h:0≤a):jby xs none (some a) none=some (xs.take a.toNat):=if_pos h
theorem jd7{x:Nat}{v:MV}{xs:List MV}{P:MV→AS→Prop}(hx:m.lookup x=some v)(hl:bV H v=some xs)(h:P (.int (xs.length:Int)) ⟨H,nx,m⟩):aW dE [(ac x)] ⟨H,nx,m⟩ P:=
 dF (aC (ag hx (au ⟨_,_,rfl,hl,h⟩)))
structure jgy(H:Tag→Option MObj)(nx:Nat):Prop where
 none:∀g i,1≤g→g≠9→g≤21→H (g,i)=.none
 tab:jgx H
 tmp:∀i,nx≤i→H (0,i)=.none
noncomputable def chV(ch:Option (List Nat)):MV:=match ch with
 |some l=>.lst (l.map aD)
 |none=>.none
theorem jeN(o:RowsOK n Ro)(hn0:0<n){b:Int}{ch:Option (List Nat)}(f:jgy H nx)(hch:∀l,ch=some l→(∀j∈l,j<n)∧l.Nodup)
  (q:∀H' nx',nx≤nx'→R (dS n Ro) (st0 (selL (dP n b) ch)) H' nx'→Low H H' nx→Q (.tag (20,0)) ⟨H',nx',m⟩):jbw [bz n Ro,.int b,chV ch] [] ⟨H,nx,m⟩ Q:=by
 refine⟨rfl,?_⟩
 unfold jcF
 have on:=o.n
 show ao _ _ ⟨H,nx,[(199,bz n Ro),(216,.int b),(217,chV ch)]⟩ _
 refine av (bn (bO (au ?_)))
 refine jaO (f.tmp nx (qa9 _)) (by decide) ?_
 refine av (jea (n:=n) (Ro:=Ro) on rfl ?_)
 refine jki o (it:=nx) (nx:=nx+1) (Nat.lt_succ_self _) (List.range n) [] _ _ rfl rfl aB (fun j hj=>by simpa using hj) List.nodup_range (fun j _=>fun h=>nomatch h) (fun j hj=>Xnm hj) (fun j hj g h1 h2=>(af (gne (qb4 h1))).trans (f.none g j h1 (qa7 (Nk1 0 5 1 9 h2 rfl)) (Nk1 0 5 0 21 h2 rfl))) (by simp;exact Nk1 0 8 1 900 on rfl) (fun H1 m1 hm1 hA k1 ta=>?_) _ fun _=>trivial
 rw[List.nil_append] at hA ta
 have k1':∀g i,(g=0∧i≠nx)∨5<g→H1 (g,i)=H (g,i):=fun g i hg=>(k1 g i hg).trans (af fun e=>by
  refine Za (Prod.mk.inj e) fun zq1 zq2=>?_;obtain rfl:=zq1;obtain rfl:=zq2
  rcases hg with hg|hg
  ·exact hg.2 rfl
  ·exact Nat.not_lt_zero _ hg)
 have c199:m1.lookup 199=some (bz n Ro):=(hm1 199 (by decide) (by decide)).trans rfl
 have c216:m1.lookup 216=some (.int b):=(hm1 216 (by decide) (by decide)).trans rfl
 have c217:m1.lookup 217=some (chV ch):=(hm1 217 (by decide) (by decide)).trans rfl
 have c105:m1.lookup 105=some (.tag (0,nx)):=(hm1 105 (by decide) (by decide)).trans rfl
 refine av (bn (jde (jde ?_)))
 refine ag c216 (az ⟨b,2,b.fdiv 2,rfl,rfl,rfl,?_⟩)
 refine jd7 c199 jgO ?_
 have hnn:(((List.range n).map fun k=>(Ro k).mv).length:Int)=n:=by simp
 rw[hnn]
 have hmod:dH (b.fdiv 2) (n:Int)=some ((b.fdiv 2).fmod n):=by unfold dH;rw[if_neg (by omega)]
 refine⟨b.fdiv 2,n,_,rfl,rfl,hmod,?_⟩
 have h0:0≤(b.fdiv 2).fmod (n:Int):=Int.fmod_nonneg_of_pos _ (NJe hn0)
 have hlt:(b.fdiv 2).fmod (n:Int)<n:=Int.fmod_lt_of_pos _ (NJe hn0)
 generalize htn:(b.fdiv 2).fmod (n:Int)=tn at h0 hlt
 have L2:∀(y:Nat)(v:MV),y≠218→(ar m1 218 v).lookup y=m1.lookup y:=fun y v h=>by rw[ae,if_neg h]
 have rl:((List.range n).map tkT).length=n:=by simp
 have l105:(ar m1 218 (.int tn)).lookup 105=some (.tag (0,nx)):=(L2 _ _ (by decide)).trans c105
 have l218:(ar m1 218 (.int tn)).lookup 218=some (.int tn):=by rw[ae,if_pos rfl]
 refine av (bn (i_cat (jcT (ag l105 (jcZ (ag l218 ⟨tn,rfl,?_⟩))))))
 refine eJ (eJ ⟨_,((List.range n).map tkT).drop tn.toNat,bh hA,jgN h0,bj (by simp;exact qb1 on (qb1 (by decide) (Nat.le_add_right _ _))) ?_⟩)
 refine jcT (ag l105 (eJ (jcZ (ag l218 ⟨tn,rfl,?_⟩))))
 refine eJ ⟨_,((List.range n).map tkT).take tn.toNat,bh hA,jjq h0,bj (by simp;exact qb1 (Nat.min_le_right _ _) (Nk1 0 8 0 100000 on rfl)) ?_⟩
 refine⟨_,_,rfl,rfl,bj (by simp;exact qb1 (Nat.add_le_add (qb1 (Nat.sub_le _ _) on) (qb1 (Nat.min_le_right _ _) on)) (by decide)) ?_⟩
 generalize hrot:(List.range n).drop tn.toNat++(List.range n).take tn.toNat=rot
 have er:((List.range n).map tkT).drop tn.toNat++((List.range n).map tkT).take tn.toNat=rot.map tkT:=by rw[←hrot,List.map_append,List.map_drop,List.map_take]
 rw[er]
 have eod:dP n b=if b.fmod 2=1 then rot.reverse else rot:=by unfold dP;dsimp only;rw[htn,hrot]
 have hrl:rot.length=n:=by
  have:=(jeb (n:=n) (b:=b)).length_eq
  rw[eod] at this
  split at this
  ·simpa using this
  ·simpa using this
 refine av (bn (dA (aC (fj (aS (jde ?_))))))
 show ac 216 ⟨H1,nx+1,ar (ar m1 218 (.int tn)) 105 (.lst (rot.map tkT))⟩ _
 have L3:∀(y:Nat)(v w:MV),y≠105→y≠218→(ar (ar m1 218 v) 105 w).lookup y=m1.lookup y:=fun y v w h1 h2=>by rw[ae,if_neg h1,ae,if_neg h2]
 refine ag ((L3 _ _ _ (by decide) (by decide)).trans c216) (az ⟨b,2,b.fmod 2,rfl,rfl,rfl,?_⟩)
 refine az ⟨b.fmod 2 == 1,rfl,?_⟩
 have perm:=jeb (n:=n) (b:=b)
 have t1:TCtx n Ro (dP n b) H1:=⟨fun j hj=>ta j (by simpa using hj),fun j hj=>by simpa using perm.mem_iff.mp hj,fun j hj=>perm.mem_iff.mpr (by simpa using hj),(perm.nodup_iff).mpr List.nodup_range⟩
 have rest:∀P1:MV→AS→Prop,(∀H2,(∀g i,g≠21→H2 (g,i)=H1 (g,i))→H2 (21,0)=some (.inst 1 (eB .none))→(∃eo,H2 (21,1)=some (.dict (tkD (dP n b)) eo))→H2 (21,2)=some (.dict [])→H2 (21,3)=some (.list ((dP n b).map .str))→P1 (.tag (21,0)) ⟨H2,nx+1,ar (ar m1 218 (.int tn)) 105 (.lst (rot.map tkT))⟩)→
   mNew 1 jai [.lst ((dP n b).map tkT)] [] ⟨H1,nx+1,ar (ar m1 218 (.int tn)) 105 (.lst (rot.map tkT))⟩ P1:=fun P1 h=>by
  have d:=fun i=>(k1' 21 i (.inr (by decide))).trans (f.none 21 i (by decide) (by decide) (by decide))
  refine⟨(21,0),⟨d 0,.inl (by show(21:Nat)≠0;decide)⟩,?_⟩
  have en:cw (nx+1) (21,0)=nx+1:=if_neg (by show(21:Nat)≠0;decide)
  dsimp only
  rw[en]
  refine jfO o (t1.keep fun g i hg=>af (gne (by rcases hg with h|h<;>omega))) aB ((af jd).trans (d 1)) ((af jd).trans (d 2)) ((af jd).trans (d 3)) fun H2 k2 a0 a1 a2 a3=>⟨rfl,h H2 (fun g i hg=>(k2 g i hg).trans (af (gne hg))) a0 a1 a2 a3⟩
 have c105':(ar (ar m1 218 (.int tn)) 105 (.lst (rot.map tkT))).lookup 105=some (.lst (rot.map tkT)):=by rw[ae,if_pos rfl]
 have cont:∀P1:MV→AS→Prop,(∀H2,(∀g i,g≠21→H2 (g,i)=H1 (g,i))→H2 (21,0)=some (.inst 1 (eB .none))→(∃eo,H2 (21,1)=some (.dict (tkD (dP n b)) eo))→H2 (21,2)=some (.dict [])→H2 (21,3)=some (.list ((dP n b).map .str))→P1 (.tag (21,0)) ⟨H2,nx+1,ar (ar m1 218 (.int tn)) 105 (.lst (rot.map tkT))⟩)→
   match (b.fmod 2 == 1) with
   |true=>c6 (ac 105) none none (some (mNeg (ah (.int 1)))) ⟨H1,nx+1,ar (ar m1 218 (.int tn)) 105 (.lst (rot.map tkT))⟩ fun v σ1=>cr [] σ1 fun vs σ2=>cr [] σ2 fun ys σ3=>mNew 1 jai (v::vs) ys σ3 P1
   |false=>ac 105 ⟨H1,nx+1,ar (ar m1 218 (.int tn)) 105 (.lst (rot.map tkT))⟩ fun v σ1=>cr [] σ1 fun vs σ2=>cr [] σ2 fun ys σ3=>mNew 1 jai (v::vs) ys σ3 P1:=fun P1 h=>by
  by_cases e:b.fmod 2=1
  ·rw[if_pos e] at eod
   have:(b.fmod 2 == 1)=true:=by rw[e];rfl
   rw[this]
   refine jcT (ag c105' (eJ (eJ (jcZ ⟨1,rfl,-1,rfl,_,(rot.map tkT).reverse,rfl,rfl,bj (by simp;exact Nk2 0 0 0 8 0 100000 (qa3 hrl) on rfl) (au (au ?_))⟩))))
   rw[←List.map_reverse,←eod]
   exact rest P1 h
  ·rw[if_neg e] at eod
   have:(b.fmod 2 == 1)=false:=beq_eq_false_iff_ne.mpr e
   rw[this]
   refine ag c105' (au (au ?_))
   rw[←eod]
   exact eod▸rest P1 h
 refine cont _ fun H2 k2 a0 a1 a2 a3=>?_
 have L4:∀(y:Nat)(u v w:MV),y≠219→y≠105→y≠218→(ar (ar (ar m1 218 v) 105 w) 219 u).lookup y=m1.lookup y:=fun y u v w h0 h1 h2=>by rw[ae,if_neg h0,L3 y v w h1 h2]
 have cb:CB n Ro (dP n b) H2:=⟨fun j hj=>(t1.ta j hj).b.keep (k2 1 j (by decide)) (k2 3 j (by decide)),⟨_,a0⟩,a1,⟨_,a2⟩,a3,t1.all⟩
 have kk:∀g i,(g=0∧i≠nx)∨(5<g∧g≠21)→H2 (g,i)=H (g,i):=fun g i hg=>(k2 g i (hg.elim (fun z4=>(qa7 (Nk1 0 0 1 21 (qa3 z4.1) rfl))) fun z4=>z4.2)).trans (k1' g i (hg.elim (fun z4=>(.inl z4)) fun z4=>(.inr z4.1)))
 have c219:(ar (ar (ar m1 218 (.int tn)) 105 (.lst (rot.map tkT))) 219 (.tag (21,0))).lookup 219=some (.tag (21,0)):=by rw[ae,if_pos rfl]
 have c217':(ar (ar (ar m1 218 (.int tn)) 105 (.lst (rot.map tkT))) 219 (.tag (21,0))).lookup 217=some (chV ch):=(L4 _ _ _ _ (by decide) (by decide) (by decide)).trans c217
 refine av (cf (cJ (ag c219 ⟨(21,0),_,rfl,a0,rfl,aC (fj (aS (ag c217' (az ?_))))⟩)))
 have proc:∀P1:MV→AS→Prop,(∀H3 nx3 t,nx+1≤nx3→H3 (21,0)=some (.inst 1 (eB (.tag t)))→H3 t=some (.list ((selL (dP n b) ch).map .str))→t.1≠20→(∀g i,(g=0∧(i<nx+1∨nx3≤i))∨(9<g∧g≠21)→H3 (g,i)=H2 (g,i))→CB n Ro (dP n b) H3→P1 .none ⟨H3,nx3,ar (ar (ar m1 218 (.int tn)) 105 (.lst (rot.map tkT))) 219 (.tag (21,0))⟩)→
   jau [.tag (21,0),selV ch] [] ⟨H2,nx+1,ar (ar (ar m1 218 (.int tn)) 105 (.lst (rot.map tkT))) 219 (.tag (21,0))⟩ P1:=fun P1 h=>by
  refine jh5 cb on ?_ (fun i hi=>(kk 0 i (.inl ⟨rfl,(qb4 hi)⟩)).trans (f.tmp i (Nat.le_of_lt hi))) (fun l hl=>?_) h
  ·refine dR f.tab fun ps p1 p2 p3=>?_
   exact⟨ps,(kk 9 0 (.inr ⟨by decide,by decide⟩)).trans p1,p2,p3⟩
  ·refine Za (hch l hl) fun h1 h2=>?_
   refine⟨fun j hj=>⟨h1 j hj,?_,(kk 6 j (.inr ⟨by decide,by decide⟩)).trans (f.none 6 j (by decide) (by decide) (by decide))⟩,h2⟩
   refine Zxa ((t1.ta j (h1 j hj)).opt) fun es e1 e2=>?_
   exact⟨es,(k2 1 j (by decide)).trans e1,e2⟩
 have fin:∀(H3:Tag→Option MObj)(nx3:Nat)(t:Tag),nx+1≤nx3→H3 (21,0)=some (.inst 1 (eB (.tag t)))→H3 t=some (.list ((selL (dP n b) ch).map .str))→t.1≠20→(∀g i,(g=0∧(i<nx+1∨nx3≤i))∨(9<g∧g≠21)→H3 (g,i)=H2 (g,i))→CB n Ro (dP n b) H3→
   ∀P1:aH→AS→Prop,(∀v,P1 (.ret v)=fun σ=>Q v ⟨σ.H,σ.nx,m⟩)→bD (bx 1 135 jak (ac 219) [] []) ⟨H3,nx3,ar (ar (ar m1 218 (.int tn)) 105 (.lst (rot.map tkT))) 219 (.tag (21,0))⟩ P1:=fun H3 nx3 t h1 h2 h3 h4 h5 h6 P1 hP=>by
  refine cC (cJ (ag c219 ⟨(21,0),_,rfl,h2,rfl,au (au ?_)⟩))
  have sl:(selL (dP n b) ch).length<900:=by
   cases ch with
   |none=>
    show(dP n b).length<900
    rw[perm.length_eq,List.length_range];exact Nk1 0 8 1 900 on rfl
   |some l=>
    refine Za (hch l rfl) fun g1 g2=>?_
    have:=bG g2 g1
    show l.length<900
    exact Nk2 0 0 0 8 1 900 this on rfl
  refine jeu (sel:=selL (dP n b) ch) (t:=t) h6 h2 (fun i=>(h5 20 i (.inr ⟨by decide,by decide⟩)).trans ((kk 20 i (.inr ⟨by decide,by decide⟩)).trans (f.none 20 i (by decide) (by decide) (by decide)))) (fun g i g1 g2=>(h5 g i (.inr ⟨g1,(qa7 (Nk1 0 16 1 21 g2 rfl))⟩)).trans ((kk g i (.inr ⟨(Nk1 10 0 6 0 g1 rfl),(qa7 (Nk1 0 16 1 21 g2 rfl))⟩)).trans (f.none g i (Nk1 10 0 1 0 g1 rfl) (qb4 g1) (Nk1 0 16 0 21 g2 rfl)))) (fun i hi=>(h5 0 i (.inl ⟨rfl,.inr hi⟩)).trans ((kk 0 i (.inl ⟨rfl,(qb4 (qb1 h1 hi))⟩)).trans (f.tmp i (Nat.le_of_lt (Nat.lt_of_lt_of_le h1 hi))))) h3 h4 sl fun H4 r4 k4=>?_
  try dsimp only[kRet]
  rw[hP]
  refine q H4 nx3 (Nat.le_of_lt h1) r4 fun i hi=>?_
  exact(k4 0 i (by decide)).trans ((h5 0 i (.inl ⟨rfl,.inl (Nk1 1 0 1 1 hi rfl)⟩)).trans (kk 0 i (.inl ⟨rfl,(qa7 hi)⟩)))
 cases ch with
 |none=>
  refine⟨true,rfl,rfl,az (au (au ?_))⟩
  exact proc _ fun H3 nx3 t h1 h2 h3 h4 h5 h6=>⟨rfl,fin H3 nx3 t h1 h2 h3 h4 h5 h6 _ fun v=>rfl⟩
 |some l=>
  refine Za (hch l rfl) fun g1 g2=>?_
  have ll:=bG g2 g1
  refine⟨false,rfl,rfl,?_⟩
  refine je5 (l:=l) (fun j hj=>by have:=g1 j hj;exact qb1 this on) (Nk2 0 0 0 8 0 100 ll on rfl) (fun A hA=>ag c217' hA) (au (au ?_))
  exact proc _ fun H3 nx3 t h1 h2 h3 h4 h5 h6=>⟨rfl,fin H3 nx3 t h1 h2 h3 h4 h5 h6 _ fun v=>rfl⟩
end
end
section
noncomputable def kindsL:List Nat:=[30,30,30,31,32,33,34,30]
noncomputable def dig(b:Int)(j:Nat):Int:=(b.fdiv (3 ^ j)).fmod 3
noncomputable def jdH(b:Int)(k:Nat):Rw:=⟨(List.range k).filter fun j=>dig b j == 1,(List.range k).filter fun j=>dig b j == 2&&(b.fdiv 6561).fmod 2 == 1,(kindsL[((b.fdiv 13122).fmod 8).toNat]?).getD 30⟩
section
variable {c:Cx}{H H':Tag→Option MObj}{nx:Nat}{m:List (Nat×MV)}{k j n:Nat}{Ro:Nat→Rw}{Q:MV→AS→Prop}{P:aH→AS→Prop}
theorem dO{f:Int→Int→Option Int}{a b:MEx}{x y r:Int}{P:MV→AS→Prop}(ha:∀A:MV→AS→Prop,A (.int x) ⟨H,nx,m⟩→a ⟨H,nx,m⟩ A)(hb:∀A:MV→AS→Prop,A (.int y) ⟨H,nx,m⟩→b ⟨H,nx,m⟩ A)(hf:f x y=some r)(h:P (.int r) ⟨H,nx,m⟩):bK f a b ⟨H,nx,m⟩ P:=
 jde (ha _ (hb _ ⟨x,y,r,rfl,rfl,hf,h⟩))
theorem jix{a:Nat}(ha:a<1000)(hj:j≤1000):fPow (a:Int) (j:Int)=some ((a:Int) ^ j):=by
 unfold fPow
 rw[if_pos ⟨(Int.natCast_nonneg _),(NJe hj),(Int.natCast_nonneg _),(NJe ha)⟩,Int.toNat_natCast]
theorem jcv{x y:Int}(h1:0<y)(h2:y<1000000000):dQ x y=some (x.fdiv y):=if_pos ⟨h1,h2⟩
theorem jb2{x y:Int}(h:y≠0):dH x y=some (x.fmod y):=if_neg h
theorem pow3(hj:j<8):0<(3:Int) ^ j∧(3:Int) ^ j<1000000000:=by
 have:∀j:Fin 8,0<(3:Int) ^ j.val∧(3:Int) ^ j.val<1000000000:=by decide
 exact this ⟨j,hj⟩
theorem jcc{x y:Int}{P:Bool→AS→Prop}(h:P (x == y) ⟨H,nx,m⟩):eqF (.int x) (.int y) ⟨H,nx,m⟩ P:=⟨_,rfl,h⟩
theorem u_dig{b:Int}{P:MV→AS→Prop}(hj:j<8)(h190:m.lookup 190=some (.int b))(h194:m.lookup 194=some (aD j))(h:P (.int (dig b j)) ⟨H,nx,m⟩) :
  bK dH (bK dQ (ac 190) (bK fPow (ah (.int 3)) (ac 194))) (ah (.int 3)) ⟨H,nx,m⟩ P:=by
 refine Za (pow3 hj) fun p1 p2=>?_
 refine dO (x:=b.fdiv (3 ^ j)) (y:=3) (fun A hA=>?_) (fun A hA=>az hA) (jb2 (by decide)) h
 refine dO (x:=b) (y:=3 ^ j) (fun A hA=>ag h190 hA) (fun A hA=>?_) (jcv p1 p2) hA
 exact dO (x:=3) (y:=(j:Int)) (fun A hA=>az hA) (fun A hA=>ag h194 hA) (jix (a:=3) (by decide) (Nk1 1 8 0 1000 hj rfl)) hA
theorem jhv{b:Int}{f:Nat→Bool}{t:MT}{P:MV→AS→Prop}(hk:k<8)(h190:m.lookup 190=some (.int b))(h191:m.lookup 191=some (aD k))
  (ht:∀j,j<8→∀m2:List (Nat×MV),m2.lookup 190=some (.int b)→m2.lookup 194=some (aD j)→∀P:Bool→AS→Prop,P (f j) ⟨H,nx,m2⟩→t ⟨H,nx,m2⟩ P)(h:P (.lst (((List.range k).filter f).map aD)) ⟨H,nx,m⟩) :
  cK [190] (eA (aW dW [(ac 191)])) (aG 194) t (ac 194) ⟨H,nx,m⟩ P:=by
 refine jb3 (jc5 (dF (aC (ag h191 (au ⟨(k:Int),rfl,(k:Int),rfl,Int.natCast_nonneg k,by omega,?_⟩)))))
 rw[jbg]
 show d7 _ _ _ _ _ _ _ ⟨H,nx,db [190] m⟩ _
 refine jbL (H:=H) (nx:=nx) (m0:=db [190] m) (g:=fun _=>True) aD f aD trivial (List.range k) [] _ (fun _ _=>rfl) (fun j hj m2 k2 kx=>⟨fun P1 hp=>ht j (by have:=List.mem_range.mp hj;exact Nat.lt_trans this hk) m2 ((k2 190 (by decide)).trans (jfd h190)) kx P1 hp,fun _ P1 hp=>ag kx hp⟩) (by simp;exact Nk1 1 8 0 900 hk rfl) ?_
 rw[List.nil_append]
 exact bj (by rw[List.length_map];exact qb1 (List.length_filter_le _ _) (by simp;exact Nk1 1 8 0 100000 hk rfl)) h
theorem jjC{i:Int}(h0:0≤i)(h8:i<8):([.str 30,.str 30,.str 30,.str 31,.str 32,.str 33,.str 34,.str 30]:List MV)[i.toNat]?=some (.str ((kindsL[i.toNat]?).getD 30)):=by
 have h:i.toNat<kindsL.length:=by show i.toNat<8;omega
 show(kindsL.map MV.str)[i.toNat]?=_
 rw[List.getElem?_map,List.getElem?_eq_getElem h];rfl
theorem jh6{b:Int}(hk:k<8)(q:Q (jdH b k).mv ⟨H,nx,m⟩):jcO [.int b,aD k] [] ⟨H,nx,m⟩ Q:=by
 refine⟨rfl,?_⟩
 unfold jfI
 show ao _ _ ⟨H,nx,[(190,.int b),(191,aD k)]⟩ _
 refine av (bn (jhv (b:=b) (f:=fun j=>dig b j == 1) hk rfl rfl (fun j hj m2 a1 a2 P1 hp=>?_) ?_))
 ·exact aS (u_dig hj a1 a2 (az (jcc hp)))
 show ao _ _ ⟨H,nx,[(190,.int b),(191,aD k),(192,.lst ((jdH b k).needs.map aD))]⟩ _
 refine av (bn (jhv (b:=b) (f:=fun j=>dig b j == 2&&(b.fdiv 6561).fmod 2 == 1) hk rfl rfl (fun j hj m2 a1 a2 P1 hp=>?_) ?_))
 ·refine dx (aS (u_dig hj a1 a2 (az (jcc ?_))))
  cases h1:(dig b j == 2) with
  |false=>
   rw[h1] at hp
   exact hp
  |true=>
   rw[h1] at hp
   refine dx (aS ?_)
   refine dO (x:=b.fdiv 6561) (y:=2) (fun A hA=>dO (x:=b) (y:=6561) (fun A hA=>ag a1 hA) (fun A hA=>az hA) (jcv (by decide) (by decide)) hA) (fun A hA=>az hA) (jb2 (by decide)) ?_
   refine az (jcc ?_)
   rw[Bool.true_and] at hp
   cases h2:((b.fdiv 6561).fmod 2 == 1) with
   |false=>rw[h2] at hp;exact hp
   |true=>rw[h2] at hp;exact hp
 show bD _ ⟨H,nx,[(190,.int b),(191,aD k),(192,.lst ((jdH b k).needs.map aD)),(193,.lst ((jdH b k).setups.map aD))]⟩ _
 refine cC (aC (ag rfl (aC (ag rfl (aC (jex (dA (au (au ⟨rfl,?_⟩)))))))))
 unfold jer
 refine cC (bO ?_)
 refine aC (az ?_)
 refine aC (az ?_)
 refine aC (az ?_)
 refine aC (az ?_)
 refine aC (az ?_)
 refine aC (az ?_)
 refine aC (az ?_)
 refine aC (az ?_)
 refine au (bj (by simp) ?_)
 have h0:0≤(b.fdiv 13122).fmod 8:=Int.fmod_nonneg_of_pos _ (by decide)
 have h8:(b.fdiv 13122).fmod 8<8:=Int.fmod_lt_of_pos _ (by decide)
 refine dO (x:=b.fdiv 13122) (y:=8) (fun A hA=>dO (x:=b) (y:=13122) (fun A hA=>ag rfl hA) (fun A hA=>az hA) (jcv (by decide) (by decide)) hA) (fun A hA=>az hA) (jb2 (by decide)) ?_
 refine⟨.str ((kindsL[((b.fdiv 13122).fmod 8).toNat]?).getD 30),?_,au ⟨by simp,q⟩⟩
 show(if 0≤(b.fdiv 13122).fmod 8 then _ else none)=_
 rw[if_pos h0]
 exact jjC h0 h8
theorem jjs(b:Int):fD (jdH b k).kd:=by
 have:∀x:Nat,fD ((kindsL[x]?).getD 30):=by
  intro x
  match x with
  |0=>exact .inl rfl
  |1=>exact .inl rfl
  |2=>exact .inl rfl
  |3=>exact .inr (.inl rfl)
  |4=>exact .inr (.inr (.inl rfl))
  |5=>exact .inr (.inr (.inr (.inl rfl)))
  |6=>exact .inr (.inr (.inr (.inr rfl)))
  |7=>exact .inl rfl
  |x+8=>exact .inl rfl
 exact this _
theorem jkg{f:Nat→Int}(hn:n≤8):RowsOK n fun k=>jdH (f k) k:=
 ⟨hn,fun k j hj=>List.mem_range.mp (List.mem_filter.mp hj).1,fun k j hj=>List.mem_range.mp (List.mem_filter.mp hj).1,fun k=>List.nodup_range.filter _,fun k=>List.nodup_range.filter _,fun k j hj hj2=>by
  have h1:=(List.mem_filter.mp hj).2
  have h2:=(List.mem_filter.mp hj2).2
  rw[beq_iff_eq] at h1
  rw[Bool.and_eq_true,beq_iff_eq,h1] at h2
  exact absurd h2.1 (by decide)⟩
end
end
section
noncomputable def eD(k:Nat):MV:=.tup [aD k,ndT k]
structure LI(n:Nat)(Ro:Nat→Rw)(sel:List Nat)(i0 i1:Nat)(mv:List Int) (hands:Int)(H:Tag→Option MObj)(nx:Nat)(m:List (Nat×MV))(st:St)(s:Nat→LS)(held:List Nat)(idle:Bool):Prop where
 l199:m.lookup 199=some (bz n Ro)
 l200:m.lookup 200=some (.tag (0,i0))
 l206:m.lookup 206=some (.tag (20,0))
 l222:m.lookup 222=some (.lst (mv.map .int))
 l223:m.lookup 223=some (.int hands)
 l224:m.lookup 224=some (.tag (0,i1))
 l225:m.lookup 225=some (.bool idle)
 ne:i0≠i1
 lt0:i0<nx
 lt1:i1<nx
 h0:H (0,i0)=some (.list (stL n s))
 h1:H (0,i1)=some (.list (held.map eD))
 r:R (dS n Ro) st H nx
 pi:PI n Ro sel st s held
 fr:idle=true→jcJ Ro n s=[]∧LC n Ro s
section
variable {c:Cx}{H H':Tag→Option MObj}{nx:Nat}{m:List (Nat×MV)}{k j n:Nat}{Ro:Nat→Rw}{sel held:List Nat}{i0 i1:Nat}{mv:List Int}{hands:Int}{st:St}{s:Nat→LS}{idle:Bool}{Q:MV→AS→Prop}{P:aH→AS→Prop}
theorem jhJ{xs:List Nat}{f:MEx}{σ:AS}{P:aH→AS→Prop}(h:f σ fun v σ1=>∃ys,v=.tup ys∧xs.length=ys.length∧P .next (jcd xs ys σ1)):jbz xs f σ P:=h
theorem i_mB{t:MT}{σ:AS}{P:MV→AS→Prop}(h:t σ (kB P)):mB t σ P:=h
theorem jeC{σ:AS}{P:Bool→AS→Prop}(h:P false σ):cy σ P:=h
theorem jjE{P:MV→AS→Prop}(hk:k<8)(h:P (aD k) ⟨H,nx,m⟩):jdq [.lst cF,.str k] ⟨H,nx,m⟩ P:=by
 refine⟨_,k,List.range 8,k,rfl,rfl,List.getElem?_range hk,?_,h⟩
 rw[List.take_range]
 simp
 exact Nat.min_le_left _ _
theorem jhG{l:List Nat}:dY (aD k) (l.map aD)=some (l.contains k):=by
 induction l with
 |nil=>rfl
 |cons a l ih=>
  show(match eG (aD a) (aD k),dY (aD k) (l.map aD) with|some b,some c=>some (b||c)|_,_=>none)=_
  rw[ih]
  show some (((a:Int) == (k:Int))||l.contains k)=_
  rw[List.contains_cons]
  congr 2
  by_cases h:a=k
  ·subst h;simp
  ·rw[beq_eq_false_iff_ne.mpr (by omega),beq_eq_false_iff_ne.mpr (Ne.symm h)]
theorem turn2(hN:jcL c)(o:RowsOK n Ro)(kd:∀k,fD (Ro k).kd){po:Option Nat}{idle0:Bool}(l199:m.lookup 199=some (bz n Ro))(l200:m.lookup 200=some (.tag (0,i0)))(l206:m.lookup 206=some (.tag (20,0)))(l222:m.lookup 222=some (.lst (mv.map .int)))(l223:m.lookup 223=some (.int hands))(l224:m.lookup 224=some (.tag (0,i1)))
  (l154:m.lookup 154=some (jew po))(ne:i0≠i1)(lt0:i0<nx)(lt1:i1<nx)(h0:H (0,i0)=some (.list (stL n s)))(h1:H (0,i1)=some (.list (held.map eD)))(r:R (dS n Ro) st H nx)(pok:jgG (dS n Ro) st po)(pi:PI n Ro sel (jcw po st) s held)
  (q:∀H' nx' m' st' s' held' idle',nx≤nx'→LI n Ro sel i0 i1 mv hands H' nx' m' st' s' held' idle'→Phi n s'+(if idle' then 0 else 1)≤Phi n s→P .next ⟨H',nx',m'⟩∧P .cont ⟨H',nx',m'⟩) :
  (ao (aI (bF jaT [(ac 199),(ac 200)] [])) (ao (jbz [228,26] (bF jaU [(ac 206),(ac 154)] [])) (ao (aL 227 (bF jaB [(ac 199),(ac 200)] [])) (ao (aL 225 (mB (aA neG (ac 228) (ah (.str 42))))) (ao (sIf (mTr (ac 225)) (ao (sIf (mOr (aA neL (ac 227) (bc [])) (mOr (aA neG (mB (aA eqF (ac 228) (ah (.str 40)))) (mB (aA neL (bF jaC [(ac 199),(ac 200)] []) (bc [])))) cy)) (bD (ah (.bool false))) aE) eO) aE) (ao (aL 191 (aV 1 jdq (ah (.lst cF)) [(aq (aq (ac 26) 42) 62)])) (ao (sIf (mOr (aA fe (ac 191) (ac 227)) (mOr (eU (mTr (bF jap [(ac 199),(ac 200),(ac 191),(ac 26)] []))) cy)) (bD (ah (.bool false))) aE) (ao (dv (ac 200) (ac 191) (mIf (aA eqF (aF (ac 200) (ac 191)) (ah (.str 24))) (ah (.str 23)) (ah (.str 22)))) (aI (aV 1 bg (ac 224) [(dg [(ac 191),(ac 26)])])))))))))) ⟨H,nx,m⟩ P:=by
 have o8:=o.n
 have hlt:∀k,n≤k→s k=.no:=fun k hk=>by
  cases hs:s k with
  |no=>rfl
  |_=>exact absurd (pi.lt k (by rw[hs];intro e;cases e)) (Nat.not_lt_of_le hk)
 refine Zaa (pi.reach o hlt) fun pi1 lc gr=>?_
 have eph:Phi n (reach Ro n s)=Phi n s:=jjT gr
 refine av (cf (dA (aC (ag l199 (aC (ag l200 (au (au (jjo o h0 ⟨rfl,?_⟩)))))))))
 rw[←eph] at q
 generalize reach Ro n s=s1 at pi1 lc q
 have a0:ay H (0,i0) (.list (stL n s1)) (0,i0)=some (.list (stL n s1)):=aB
 have a1:ay H (0,i0) (.list (stL n s1)) (0,i1)=some (.list (held.map eD)):=(af (ine ne.symm)).trans h1
 have r1:=r.tmpSet (nx':=nx) (i:=i0) (o:=.list (stL n s1)) (qa9 _) lt0
 generalize ay H (0,i0) (.list (stL n s1))=H1 at a0 a1 r1
 refine bt (pi1.sent o kd lc) fun res st' runs ok=>?_
 refine av (jhJ (dA (aC (ag l206 (aC (ag l154 (au (au ?_))))))))
 refine jg6 o.tok r1 pok runs fun H2 nx2 n2 r2 l2=>?_
 have b0:H2 (0,i0)=some (.list (stL n s1)):=(l2 i0 lt0).trans a0
 have b1:H2 (0,i1)=some (.list (held.map eD)):=(l2 i1 lt1).trans a1
 have cont:∀(w:Nat)(g:MV),resV res=.tup [.str w,g]→∀P1:aH→AS→Prop,(∀H3 m3,m3.lookup 228=some (.str w)→m3.lookup 26=some g→m3.lookup 227=some (.tag (0,nx2))→(∀y,y≠228→y≠26→y≠227→m3.lookup y=m.lookup y)→H3 (0,nx2)=some (.list ((jcJ Ro n s1).map aD))→H3 (0,i0)=some (.list (stL n s1))→H3 (0,i1)=some (.list (held.map eD))→R (dS n Ro) st' H3 (nx2+1)→P1 .next ⟨H3,nx2+1,m3⟩)→
   ∃ys,resV res=.tup ys∧([228,26]:List Nat).length=ys.length∧aL 227 (bF jaB [(ac 199),(ac 200)] []) (jcd [228,26] ys ⟨H2,nx2,m⟩) P1:=fun w g hw P1 h=>by
  refine⟨_,hw,rfl,?_⟩
  show aL 227 _ ⟨H2,nx2,ar (ar m 228 (.str w)) 26 g⟩ _
  have L:∀y,y≠228→y≠26→(ar (ar m 228 (.str w)) 26 g).lookup y=m.lookup y:=fun y h1 h2=>by rw[ae,if_neg h2,ae,if_neg h1]
  refine bn (dA (aC (ag ((L _ (by decide) (by decide)).trans l199) (aC (ag ((L _ (by decide) (by decide)).trans l200) (au (au ?_)))))))
  refine jkc o (qb1 lt0 n2) (r2.tmp nx2 (qa9 _)) b0 ?_
  refine h _ _ ?_ ?_ ?_ (fun y h1 h2 h3=>?_) aB ((af (ine (qa7 (qb1 lt0 n2)))).trans b0) ((af (ine (qa7 (qb1 lt1 n2)))).trans b1) (r2.tmpSet (Nat.le_succ _) (Nat.lt_succ_self _))
  ·rw[ae,if_neg (by decide),ae,if_neg (by decide),ae,if_pos rfl]
  ·rw[ae,if_neg (by decide),ae,if_pos rfl]
  ·rw[ae,if_pos rfl]
  ·rw[ae,if_neg h3];exact L y h1 h2
 have idleC:∀(w:Nat),resV res=.tup [.str w,.none]→(w != 42)=true→jfu n Ro sel st' s1 held res→((w == 40)=!(eX Ro n s1).isEmpty)→∀(rest:MS)(fin:MS),
   ∃ys,resV res=.tup ys∧([228,26]:List Nat).length=ys.length∧aL 227 (bF jaB [(ac 199),(ac 200)] []) (jcd [228,26] ys ⟨H2,nx2,m⟩) fun f σ1=>match f with
    |.next=>ao (aL 225 (mB (aA neG (ac 228) (ah (.str 42))))) (ao (sIf (mTr (ac 225)) (ao (sIf (mOr (aA neL (ac 227) (bc [])) (mOr (aA neG (mB (aA eqF (ac 228) (ah (.str 40)))) (mB (aA neL (bF jaC [(ac 199),(ac 200)] []) (bc [])))) cy)) (bD (ah (.bool false))) aE) eO) aE) rest) σ1 P
    |.brk=>P .brk σ1|.cont=>P .cont σ1|.ret v=>P (.ret v) σ1:=fun w hw h42 ok hwait rest fin=>by
  refine cont w .none hw _ fun H3 m3 m228 m26 m227 mo c2 c0 c1 r3=>?_
  have m199:=(mo 199 (by decide) (by decide) (by decide)).trans l199
  have m200:=(mo 200 (by decide) (by decide) (by decide)).trans l200
  refine av (bn (i_mB (aS (ag m228 (az (jeB ?_))))))
  rw[h42]
  have L5:∀y,y≠225→(ar m3 225 (.bool true)).lookup y=m3.lookup y:=fun y h=>by rw[ae,if_neg h]
  refine av (bp (cB (ag (by rw[ae,if_pos rfl]) ⟨true,rfl,?_⟩)))
  rw[ok.free] at c2
  refine av (bp (eN (aS (ag ((L5 _ (by decide)).trans m227) (bO (au (bj (by decide) ⟨[],[],true,bh c2,rfl,rfl,?_⟩)))))))
  refine eN (aS (i_mB (aS (ag ((L5 _ (by decide)).trans m228) (az (eI ?_))))))
  refine i_mB (aS (dA (aC (ag ((L5 _ (by decide)).trans m199) (aC (ag ((L5 _ (by decide)).trans m200) (au (au ?_))))))))
  refine jjm o (show i0<nx2+1 by omega) (r3.tmp (nx2+1) (qa9 _)) c0 ?_
  refine bO (au (bj (by decide) ?_))
  refine⟨_,[],_,bh aB,rfl,jc6,?_⟩
  have ew:((eX Ro n s1).map aD).isEmpty=(eX Ro n s1).isEmpty:=by cases eX Ro n s1<;>rfl
  rw[ew]
  refine .inr (.inr ⟨_,_,rfl,rfl,?_⟩)
  rw[hwait]
  have eb:((!(eX Ro n s1).isEmpty) != (!(eX Ro n s1).isEmpty))=false:=by simp
  rw[eb]
  refine jeC (cz ?_)
  have li:LI n Ro sel i0 i1 mv hands (ay H3 (0,nx2+1) (.list ((eX Ro n s1).map aD))) (nx2+1+1) (ar m3 225 (.bool true)) st' s1 held true:=
   ⟨(L5 _ (by decide)).trans m199,(L5 _ (by decide)).trans m200,(L5 _ (by decide)).trans ((mo 206 (by decide) (by decide) (by decide)).trans l206),(L5 _ (by decide)).trans ((mo 222 (by decide) (by decide) (by decide)).trans l222),(L5 _ (by decide)).trans ((mo 223 (by decide) (by decide) (by decide)).trans l223),(L5 _ (by decide)).trans ((mo 224 (by decide) (by decide) (by decide)).trans l224),by rw[ae,if_pos rfl],ne,(Nk2 1 0 0 0 1 2 lt0 n2 rfl),(Nk2 1 0 0 0 1 2 lt1 n2 rfl),
    (af (ine (qa7 (Nk2 1 0 0 0 1 1 lt0 n2 rfl)))).trans c0,(af (ine (qa7 (Nk2 1 0 0 0 1 1 lt1 n2 rfl)))).trans c1,r3.tmpSet (Nat.le_succ _) (Nat.lt_succ_self _),ok.pi,fun _=>⟨ok.free,lc⟩⟩
  exact(q _ _ _ _ _ _ _ (Nk1 0 0 0 2 n2 rfl) li (qa9 _)).2
 have wait_iff:∀b:Bool,(b=true↔eX Ro n s1≠[])→b=!(eX Ro n s1).isEmpty:=fun b hb=>by
  cases hw:eX Ro n s1 with
  |nil=>
   rw[hw] at hb
   cases b with
   |false=>rfl
   |true=>exact absurd rfl (hb.mp rfl)
  |cons a l=>
   rw[hw] at hb
   have:=hb.mpr (by simp)
   rw[this];rfl
 cases res with
 |hold=>exact idleC 40 rfl rfl ok (wait_iff true (by rw[←ok.hold];simp)) _ aE
 |fin=>exact idleC 41 rfl rfl ok (wait_iff false (by rw[←ok.hold];simp)) _ aE
 |give k=>
  refine fq ok.node fun d hd hbad hign hex=>?_
  have hk:=ok.lt
  refine cont 42 (ndT k) rfl _ fun H3 m3 m228 m26 m227 mo c2 c0 c1 r3=>?_
  have m199:=(mo 199 (by decide) (by decide) (by decide)).trans l199
  have m200:=(mo 200 (by decide) (by decide) (by decide)).trans l200
  refine av (bn (i_mB (aS (ag m228 (az (jeB ?_))))))
  show ao _ _ ⟨H3,nx2+1,ar m3 225 (.bool false)⟩ _
  have L5:∀y,y≠225→(ar m3 225 (.bool false)).lookup y=m3.lookup y:=fun y h=>by rw[ae,if_neg h]
  refine av (bp (cB (ag (by rw[ae,if_pos rfl]) ⟨false,rfl,cz ?_⟩)))
  refine av (bn (cH (az ⟨rfl,aC ?_⟩)))
  refine jbT (k:=k) r3 hd hk ((L5 _ (by decide)).trans m26) (au (jjE (qb1 hk o8) ?_))
  show ao _ _ ⟨H3,nx2+1,ar (ar m3 225 (.bool false)) 191 (aD k)⟩ _
  have L6:∀y,y≠225→y≠191→(ar (ar m3 225 (.bool false)) 191 (aD k)).lookup y=m3.lookup y:=fun y h1 h2=>by rw[ae,if_neg h2];exact L5 y h1
  have k191:(ar (ar m3 225 (.bool false)) 191 (aD k)).lookup 191=some (aD k):=by rw[ae,if_pos rfl]
  have hfree:(jcJ Ro n s1).contains k=true:=by
   rw[List.contains_eq_mem,decide_eq_true_eq]
   exact List.mem_filter.mpr ⟨List.mem_range.mpr hk,ok.free⟩
  refine av (bp (eN (aS (ag k191 (ag ((L6 _ (by decide) (by decide)).trans m227) ⟨true,?_,?_⟩)))))
  ·show(match cv H3 (.tag (0,nx2)) with|some xs=>dY (aD k) xs|none=>none)=_
   have:cv H3 (.tag (0,nx2))=some ((jcJ Ro n s1).map aD):=bh c2
   rw[this]
   show dY (aD k) _=_
   rw[jhG,hfree]
  refine eN (jfg (cB (dA (aC (ag ((L6 _ (by decide) (by decide)).trans m199) (aC (ag ((L6 _ (by decide) (by decide)).trans m200) (aC (ag k191 (aC (ag ((L6 _ (by decide) (by decide)).trans m26) (au (au ?_)))))))))))))
  refine jka hN o rfl hk r3 hd c0 hbad hign hex ⟨true,rfl,?_⟩
  refine jeC (cz ?_)
  have gv:∀P1:MV→AS→Prop,P1 (c7 s1 k).mv ⟨H3,nx2+1,ar (ar m3 225 (.bool false)) 191 (aD k)⟩→mIf (aA eqF (aF (ac 200) (ac 191)) (ah (.str 24))) (ah (.str 23)) (ah (.str 22)) ⟨H3,nx2+1,ar (ar m3 225 (.bool false)) 191 (aD k)⟩ P1:=fun P1 h=>by
   refine fj (aS (fu (n:=n) (s:=s1) ((L6 _ (by decide) (by decide)).trans m200) k191 hk c0 (az (eI ?_))))
   show(match ((s1 k).num == LS.num .asked) with|true=>_|false=>_)
   rw[LS.num_eq]
   by_cases e:s1 k=.asked
   ·rw[decide_eq_true e]
    have:c7 s1 k=.second:=if_pos e
    rw[this] at h
    exact az h
   ·rw[decide_eq_false e]
    have:c7 s1 k=.first:=if_neg e
    rw[this] at h
    exact az h
  refine av (jcu (gv _ (ag ((L6 _ (by decide) (by decide)).trans m200) (ag k191 (jeA (v:=c7 s1 k) hk c0 ?_)))))
  have c1':ay H3 (0,i0) (.list (stL n (upd s1 k (c7 s1 k)))) (0,i1)=some (.list (held.map eD)):=(af (ine ne.symm)).trans c1
  have hl:held.length<900:=by
   have:=bG ok.pi.hn fun a ha=>ok.pi.lt a (by
    rcases (ok.pi.hm a).mp ha with h|h<;>rw[h]<;>intro e<;>cases e)
   rw[List.length_append] at this
   omega
  refine cf (cH (ag ((L6 _ (by decide) (by decide)).trans ((mo 224 (by decide) (by decide) (by decide)).trans l224)) ⟨by simp only[cM,c1'],aC (aC (ag k191 (aC (ag ((L6 _ (by decide) (by decide)).trans m26) (au ⟨by simp,au (dK c1' (by rw[List.length_map];exact Nk1 1 900 1 1000 hl rfl) ⟨rfl,?_⟩)⟩)))))⟩))
  have eh:held.map eD++[.tup [aD k,ndT k]]=(held++[k]).map eD:=by rw[List.map_append];rfl
  rw[eh]
  have li:LI n Ro sel i0 i1 mv hands (ay (ay H3 (0,i0) (.list (stL n (upd s1 k (c7 s1 k))))) (0,i1) (.list ((held++[k]).map eD))) (nx2+1) (ar (ar m3 225 (.bool false)) 191 (aD k)) st' (upd s1 k (c7 s1 k)) (held++[k]) false:=
   ⟨(L6 _ (by decide) (by decide)).trans m199,(L6 _ (by decide) (by decide)).trans m200,(L6 _ (by decide) (by decide)).trans ((mo 206 (by decide) (by decide) (by decide)).trans l206),(L6 _ (by decide) (by decide)).trans ((mo 222 (by decide) (by decide) (by decide)).trans l222),(L6 _ (by decide) (by decide)).trans ((mo 223 (by decide) (by decide) (by decide)).trans l223),(L6 _ (by decide) (by decide)).trans ((mo 224 (by decide) (by decide) (by decide)).trans l224),by rw[ae,if_neg (by decide),ae,if_pos rfl],ne,(Nk2 1 0 0 0 1 1 lt0 n2 rfl),(Nk2 1 0 0 0 1 1 lt1 n2 rfl),
    (af (ine ne)).trans aB,aB,(r3.tmpSet (qa9 _) (Nk2 1 0 0 0 1 1 lt0 n2 rfl)).tmpSet (qa9 _) (Nk2 1 0 0 0 1 1 lt1 n2 rfl),ok.pi,fun h=>Xft h⟩
  refine(q _ _ _ _ _ _ _ (Nk1 0 0 0 1 n2 rfl) li ?_).1
  have:=jhO (s:=s1) (k:=k) (v:=c7 s1 k) hk
  have hw:wt (c7 s1 k)+1=wt (s1 k):=by
   have hf:=ok.free
   unfold dM at hf
   unfold c7
   cases hs:s1 k<;>rw[hs] at hf<;>first|(cases hf;done)|(simp[wt])
  simp
  omega
end
end
section
section
variable {c:Cx}{H H':Tag→Option MObj}{nx:Nat}{m:List (Nat×MV)}{k j n:Nat}{Ro:Nat→Rw}{sel held:List Nat}{i0 i1:Nat}{mv:List Int}{hands:Int}{st:St}{s:Nat→LS}{idle:Bool}{Q:MV→AS→Prop}{P:aH→AS→Prop}
theorem jcz:∀{l:List Nat}{i k:Nat},l.Nodup→l[i]?=some k→(l.eraseIdx i).Nodup∧∀a,a∈l.eraseIdx i↔a∈l∧a≠k
 |[],i,k,_,h=>Xns h
 |b::l,0,k,hn,h=>by
  refine Za (List.nodup_cons.mp hn) fun n1 n2=>?_
  simp at h
  subst h
  refine⟨n2,fun a=>?_⟩
  show a∈l↔a∈b::l∧a≠b
  constructor
  ·intro ha;exact⟨qa2 _ ha,fun e=>n1 (e▸ha)⟩
  ·intro zp1;refine Za zp1 fun ha hb=>?_;exact(List.mem_cons.mp ha).resolve_left hb
 |b::l,i+1,k,hn,h=>by
  refine Za (List.nodup_cons.mp hn) fun n1 n2=>?_
  have h':l[i]?=some k:=by simpa using h
  refine Za (jcz n2 h') fun a1 a2=>?_
  have hk:k∈l:=List.mem_of_getElem? h'
  have hbk:b≠k:=fun e=>n1 (e▸hk)
  show(b::l.eraseIdx i).Nodup∧∀a,a∈b::l.eraseIdx i↔a∈b::l∧a≠k
  refine⟨List.nodup_cons.mpr ⟨fun hb=>n1 ((a2 b).mp hb).1,a1⟩,fun a=>?_⟩
  rw[List.mem_cons,List.mem_cons,a2]
  constructor
  ·rintro (h|h)
   ·subst h;exact⟨.inl rfl,hbk⟩
   ·exact⟨.inr h.1,h.2⟩
  ·rintro ⟨h|h,h2⟩
   ·exact .inl h
   ·exact .inr ⟨h,h2⟩
theorem jen{f:Nat→MV}:∀{l:List Nat}{i:Nat},(l.map f).eraseIdx i=(l.eraseIdx i).map f
 |[],i=>List.nil_append _
 |a::l,0=>rfl
 |a::l,i+1=>by
  show f a::(l.map f).eraseIdx i=f a::(l.eraseIdx i).map f
  rw[jen]
theorem ji2(hs:s k=.first∨s k=.second):wt (cL Ro s k)+2≤wt (s k):=by
 unfold cL
 rcases hs with h|h
 ·rw[h]
  split<;>decide
 ·rw[h,if_neg (by intro q;exact LS.noConfusion q.1)]
  decide
noncomputable def jeG:MS:=(ao (aL 226 (bK fAdd (aF (ac 222) (bK dH (ac 218) (aW dE [(ac 222)]))) (ac 218))) (ao (aL 154 (ah .none)) (ao (sIf (cu (aA neL (ac 224) (bc [])) (cu (mOr (mTr (ac 225)) (mOr (aA eqF (aW dE [(ac 224)]) (ac 223)) (mOr (aA eqF (bK dH (ac 226) (ah (.int 3))) (ah (.int 0))) cy))) ck)) (ao (jbz [191,154] (aV 1 popM (ac 224) [(bK dH (bK dQ (ac 226) (ah (.int 3))) (aW dE [(ac 224)]))])) (aI (bF jbc [(ac 199),(ac 200),(ac 191),(ac 154)] []))) (sIf (mTr (ac 225)) sBrk aE)) (ao (aI (bF jaT [(ac 199),(ac 200)] [])) (ao (jbz [228,26] (bF jaU [(ac 206),(ac 154)] [])) (ao (aL 227 (bF jaB [(ac 199),(ac 200)] [])) (ao (aL 225 (mB (aA neG (ac 228) (ah (.str 42))))) (ao (sIf (mTr (ac 225)) (ao (sIf (mOr (aA neL (ac 227) (bc [])) (mOr (aA neG (mB (aA eqF (ac 228) (ah (.str 40)))) (mB (aA neL (bF jaC [(ac 199),(ac 200)] []) (bc [])))) cy)) (bD (ah (.bool false))) aE) eO) aE) (ao (aL 191 (aV 1 jdq (ah (.lst cF)) [(aq (aq (ac 26) 42) 62)])) (ao (sIf (mOr (aA fe (ac 191) (ac 227)) (mOr (eU (mTr (bF jap [(ac 199),(ac 200),(ac 191),(ac 26)] []))) cy)) (bD (ah (.bool false))) aE) (ao (dv (ac 200) (ac 191) (mIf (aA eqF (aF (ac 200) (ac 191)) (ah (.str 24))) (ah (.str 23)) (ah (.str 22)))) (aI (aV 1 bg (ac 224) [(dg [(ac 191),(ac 26)])])))))))))))))
theorem jjn(hN:jcL c)(o:RowsOK n Ro)(kd:∀k,fD (Ro k).kd){t:Nat}(h218:m.lookup 218=some (aD t))(hmv:mv≠[])(li:LI n Ro sel i0 i1 mv hands H nx m st s held idle)
  (qb:held=[]→idle=true→∀m',(∀y,y≠226→y≠154→m'.lookup y=m.lookup y)→P .brk ⟨H,nx,m'⟩)
  (q:∀H' nx' m' st' s' held' idle',nx≤nx'→LI n Ro sel i0 i1 mv hands H' nx' m' st' s' held' idle'→Phi n s'+(if idle' then 0 else 1)<Phi n s+(if idle then 0 else 1)→P .next ⟨H',nx',m'⟩∧P .cont ⟨H',nx',m'⟩) :
  jeG ⟨H,nx,m⟩ P:=by
 unfold jeG
 have o8:=o.n
 have ml:0<mv.length:=List.length_pos_iff.mpr hmv
 have hlm:((mv.map MV.int).length:Int)=mv.length:=by simp
 have hi0:0≤((t:Int)).fmod (mv.length:Int):=Int.fmod_nonneg_of_pos _ (NJe ml)
 have hilt:((t:Int)).fmod (mv.length:Int)<mv.length:=Int.fmod_lt_of_pos _ (NJe ml)
 obtain⟨x,hx⟩:∃x,mv[(((t:Int)).fmod (mv.length:Int)).toNat]?=some x:=⟨_,List.getElem?_eq_getElem (by omega)⟩
 refine av (bn (jde (jex (ag li.l222 (jde (ag h218 (jd7 li.l222 rfl ⟨(t:Int),mv.length,_,rfl,by rw[hlm],jb2 (Int.ne_of_gt (Int.ofNat_lt.mpr ml)),?_⟩)))))))
 refine⟨.int x,?_,ag h218 ⟨x,t,x+t,rfl,rfl,rfl,?_⟩⟩
 ·show(if 0≤_ then(mv.map MV.int)[_]? else none)=_
  rw[if_pos hi0,List.getElem?_map,hx];rfl
 generalize x+(t:Int)=move
 have L:∀y,y≠226→y≠154→(ar (ar m 226 (.int move)) 154 .none).lookup y=m.lookup y:=fun y h1 h2=>by rw[ae,if_neg h2,ae,if_neg h1]
 refine av (bn (az ?_))
 show ao _ _ ⟨H,nx,ar (ar m 226 (.int move)) 154 .none⟩ _
 have m226:(ar (ar m 226 (.int move)) 154 .none).lookup 226=some (.int move):=by rw[ae,if_neg (by decide),ae,if_pos rfl]
 have m154:(ar (ar m 226 (.int move)) 154 .none).lookup 154=some .none:=by rw[ae,if_pos rfl]
 have m199:=(L 199 (by decide) (by decide)).trans li.l199
 have m200:=(L 200 (by decide) (by decide)).trans li.l200
 have m206:=(L 206 (by decide) (by decide)).trans li.l206
 have m222:=(L 222 (by decide) (by decide)).trans li.l222
 have m223:=(L 223 (by decide) (by decide)).trans li.l223
 have m224:=(L 224 (by decide) (by decide)).trans li.l224
 have m225:=(L 225 (by decide) (by decide)).trans li.l225
 generalize ar (ar m 226 (.int move)) 154 .none=m1 at L m226 m154 m199 m200 m206 m222 m223 m224 m225
 have stay:(held≠[]→idle=false)→∀(rest:MS),(∀idle0:Bool,idle=false→rest ⟨H,nx,m1⟩ P)→sIf (mTr (ac 225)) sBrk aE ⟨H,nx,m1⟩ fun f σ1=>match f with|.next=>rest σ1 P|.brk=>P .brk σ1|.cont=>P .cont σ1|.ret v=>P (.ret v) σ1:=fun hh rest h=>by
  refine bp (cB (ag m225 ⟨idle,rfl,?_⟩))
  cases hid:idle with
  |true=>
   show P .brk ⟨H,nx,m1⟩
   refine qb ?_ hid m1 fun y h1 h2=>L y h1 h2
   cases hq:held with
   |nil=>rfl
   |cons a l=>have:=hh (by rw[hq];simp);rw[hid] at this;exact Xtf this
  |false=>exact cz (h true hid)
 have go2:idle=false→∀P1:aH→AS→Prop,P1=P→_:=fun hid P1 e=>turn2 (c:=c) (H:=H) (nx:=nx) (m:=m1) (P:=P1) (held:=held) (mv:=mv) (hands:=hands) (i0:=i0) (i1:=i1) (st:=st) (s:=s) (sel:=sel) hN o kd (po:=none) (idle0:=idle) m199 m200 m206 m222 m223 m224 m154 li.ne li.lt0 li.lt1 li.h0 li.h1 li.r trivial li.pi fun H' nx' m' st' s' held' idle' h1 h2 h3=>by
  subst e
  refine q H' nx' m' st' s' held' idle' h1 h2 ?_
  rw[hid]
  simp
  exact Nk1 0 0 1 1 h3 rfl
 have hh1:=li.h1
 have pop:held≠[]→∀(rest:MS),(∀(H2:Tag→Option MObj)(nx2:Nat)(m2:List (Nat×MV))(k:Nat)(d:Nd)(held':List Nat),nx≤nx2→(∀y,y≠191→y≠154→m2.lookup y=m1.lookup y)→m2.lookup 154=some (ndT k)→H2 (0,i0)=some (.list (stL n (upd s k (cL Ro s k))))→H2 (0,i1)=some (.list (held'.map eD))→
    R (dS n Ro) (st.setNd k { d with rs:=dC Ro s k }) H2 nx2→jfh (dS n Ro) (st.setNd k { d with rs:=dC Ro s k }) k { d with rs:=dC Ro s k }→PI n Ro sel (b9 k (st.setNd k { d with rs:=dC Ro s k })) (upd s k (cL Ro s k)) held'→Phi n (upd s k (cL Ro s k))+2≤Phi n s→rest ⟨H2,nx2,m2⟩ P)→
   ao (jbz [191,154] (aV 1 popM (ac 224) [(bK dH (bK dQ (ac 226) (ah (.int 3))) (aW dE [(ac 224)]))])) (aI (bF jbc [(ac 199),(ac 200),(ac 191),(ac 154)] [])) ⟨H,nx,m1⟩ fun f σ1=>match f with|.next=>rest σ1 P|.brk=>P .brk σ1|.cont=>P .cont σ1|.ret v=>P (.ret v) σ1:=fun hne rest h=>by
  have hl:0<held.length:=List.length_pos_iff.mpr hne
  have hlh:((held.map eD).length:Int)=held.length:=by simp
  have j0:0≤(move.fdiv 3).fmod (held.length:Int):=Int.fmod_nonneg_of_pos _ (NJe hl)
  have jlt:(move.fdiv 3).fmod (held.length:Int)<held.length:=Int.fmod_lt_of_pos _ (NJe hl)
  generalize hidx:(move.fdiv 3).fmod (held.length:Int)=idx at j0 jlt
  obtain⟨k,hk⟩:∃k,held[idx.toNat]?=some k:=⟨_,List.getElem?_eq_getElem (by omega)⟩
  refine Za (jcz li.pi.hn hk) fun hn' hm'=>?_
  have hkh:k∈held:=List.mem_of_getElem? hk
  refine av (jhJ (cH (ag m224 ⟨by simp only[cM,hh1],aC (jde (jde (ag m226 (az ⟨move,3,move.fdiv 3,rfl,rfl,rfl,?_⟩))))⟩)))
  refine jd7 m224 (bh hh1) ⟨move.fdiv 3,held.length,idx,rfl,by rw[hlh],by rw[←hidx];exact jb2 (Int.ne_of_gt (Int.ofNat_lt.mpr hl)),?_⟩
  refine au (.inr ⟨(0,i1),_,idx,eD k,rfl,hh1,j0,by rw[List.getElem?_map,hk];rfl,?_⟩)
  rw[jen]
  refine⟨[aD k,ndT k],rfl,rfl,?_⟩
  show aI _ ⟨ay H (0,i1) (.list ((held.eraseIdx idx.toNat).map eD)),nx,ar (ar m1 191 (aD k)) 154 (ndT k)⟩ _
  have L2:∀y,y≠191→y≠154→(ar (ar m1 191 (aD k)) 154 (ndT k)).lookup y=m1.lookup y:=fun y h1 h2=>by rw[ae,if_neg h2,ae,if_neg h1]
  have r1:=li.r.tmpSet (nx':=nx) (i:=i1) (o:=.list ((held.eraseIdx idx.toNat).map eD)) (qa9 _) li.lt1
  refine dR (li.pi.ends o hkh hn' hm') fun d hd up pi'=>?_
  have hs:=(li.pi.hm k).mp hkh
  have hkn:=li.pi.lt k (by rcases hs with h|h<;>rw[h]<;>intro e<;>cases e)
  refine cf (dA (aC (ag ((L2 _ (by decide) (by decide)).trans m199) (aC (ag ((L2 _ (by decide) (by decide)).trans m200) (aC (ag (by rw[ae,if_neg (by decide),ae,if_pos rfl]) (aC (ag (by rw[ae,if_pos rfl]) (au (au ?_)))))))))))
  refine jkd o hkn (kd k) r1 hd li.lt0 ((af (ine li.ne)).trans li.h0) fun H2 nx2 n2 r2 b0 l2=>⟨rfl,?_⟩
  refine h H2 nx2 _ k d _ n2 L2 (by rw[ae,if_pos rfl]) b0 ((l2 i1 li.lt1 li.ne.symm).trans aB) r2 up pi' ?_
  have:=jhO (s:=s) (k:=k) (v:=cL Ro s k) hkn
  have:=ji2 (Ro:=Ro) hs
  omega
 have popped:held≠[]→∀rest:MS,(rest=fun σ P1=>(ao (aI (bF jaT [(ac 199),(ac 200)] [])) (ao (jbz [228,26] (bF jaU [(ac 206),(ac 154)] [])) (ao (aL 227 (bF jaB [(ac 199),(ac 200)] [])) (ao (aL 225 (mB (aA neG (ac 228) (ah (.str 42))))) (ao (sIf (mTr (ac 225)) (ao (sIf (mOr (aA neL (ac 227) (bc [])) (mOr (aA neG (mB (aA eqF (ac 228) (ah (.str 40)))) (mB (aA neL (bF jaC [(ac 199),(ac 200)] []) (bc [])))) cy)) (bD (ah (.bool false))) aE) eO) aE) (ao (aL 191 (aV 1 jdq (ah (.lst cF)) [(aq (aq (ac 26) 42) 62)])) (ao (sIf (mOr (aA fe (ac 191) (ac 227)) (mOr (eU (mTr (bF jap [(ac 199),(ac 200),(ac 191),(ac 26)] []))) cy)) (bD (ah (.bool false))) aE) (ao (dv (ac 200) (ac 191) (mIf (aA eqF (aF (ac 200) (ac 191)) (ah (.str 24))) (ah (.str 23)) (ah (.str 22)))) (aI (aV 1 bg (ac 224) [(dg [(ac 191),(ac 26)])])))))))))) σ P1)→
   ao (jbz [191,154] (aV 1 popM (ac 224) [(bK dH (bK dQ (ac 226) (ah (.int 3))) (aW dE [(ac 224)]))])) (aI (bF jbc [(ac 199),(ac 200),(ac 191),(ac 154)] [])) ⟨H,nx,m1⟩ fun f σ1=>match f with|.next=>rest σ1 P|.brk=>P .brk σ1|.cont=>P .cont σ1|.ret v=>P (.ret v) σ1:=fun hne rest er=>pop hne rest fun H2 nx2 m2 k d held' n2 m2L m2154 b0 b1 r2 up pi' ph=>by
  rw[er]
  refine turn2 (po:=some k) (idle0:=idle) hN o kd ((m2L 199 (by decide) (by decide)).trans m199) ((m2L 200 (by decide) (by decide)).trans m200) ((m2L 206 (by decide) (by decide)).trans m206) ((m2L 222 (by decide) (by decide)).trans m222) ((m2L 223 (by decide) (by decide)).trans m223) ((m2L 224 (by decide) (by decide)).trans m224) m2154 li.ne (Nat.lt_of_lt_of_le li.lt0 n2) (Nat.lt_of_lt_of_le li.lt1 n2) b0 b1 r2 ⟨_,up⟩ pi' fun H' nx' m' st' s' held2 idle' h1 h2 h3=>?_
  refine q H' nx' m' st' s' held2 idle' (qb1 n2 h1) h2 ?_
  omega
 have hel:(held.map eD).isEmpty=held.isEmpty:=by cases held<;>rfl
 refine av (bp (dx (aS (ag m224 (bO (au (bj (by decide) ⟨_,[],_,bh hh1,rfl,jc6,?_⟩)))))))
 rw[hel]
 cases hq:held.isEmpty with
 |true=>
  have he:=List.isEmpty_iff.mp hq
  exact stay (fun h=>absurd he h) _ fun _ hid=>go2 hid P rfl
 |false=>
  have hne:held≠[]:=fun h=>by rw[h] at hq;exact Xtf hq
  refine dx (eN (cB (ag m225 ⟨idle,rfl,?_⟩)))
  cases hid:idle with
  |true=>exact popped hne _ rfl
  |false=>
   refine eN (aS (jd7 m224 (bh hh1) (ag m223 (jcc ?_))))
   cases h1:(((held.map eD).length:Int) == hands) with
   |true=>exact popped hne _ rfl
   |false=>
    refine eN (aS (dO (x:=move) (y:=3) (fun A hA=>ag m226 hA) (fun A hA=>az hA) (jb2 (by decide)) (az (jcc ?_))))
    cases h2:(move.fmod 3 == 0) with
    |true=>exact popped hne _ rfl
    |false=>exact jeC (stay (fun _=>hid) _ fun _ hid=>go2 hid P rfl)
end
end
section
section
variable {c:Cx}{H H':Tag→Option MObj}{nx:Nat}{m m':List (Nat×MV)}{k j n:Nat}{Ro:Nat→Rw}{sel held:List Nat}{i0 i1:Nat}{mv:List Int}{hands:Int}{st:St}{s:Nat→LS}{idle:Bool}{Q:MV→AS→Prop}{P:aH→AS→Prop}
theorem LI.frame(li:LI n Ro sel i0 i1 mv hands H nx m st s held idle)(h:∀y,199≤y→y≤225→y≠218→m'.lookup y=m.lookup y):LI n Ro sel i0 i1 mv hands H nx m' st s held idle:=
 ⟨(h 199 (by decide) (by decide) (by decide)).trans li.l199,(h 200 (by decide) (by decide) (by decide)).trans li.l200,(h 206 (by decide) (by decide) (by decide)).trans li.l206,(h 222 (by decide) (by decide) (by decide)).trans li.l222,(h 223 (by decide) (by decide) (by decide)).trans li.l223,(h 224 (by decide) (by decide) (by decide)).trans li.l224,(h 225 (by decide) (by decide) (by decide)).trans li.l225,
  li.ne,li.lt0,li.lt1,li.h0,li.h1,li.r,li.pi,li.fr⟩
theorem jjA(hN:jcL c)(o:RowsOK n Ro)(kd:∀k,fD (Ro k).kd)(hmv:mv≠[])(l:List Nat):∀(H:Tag→Option MObj)(nx:Nat)(m:List (Nat×MV))(st:St)(s:Nat→LS)(held:List Nat)(idle:Bool),LI n Ro sel i0 i1 mv hands H nx m st s held idle→Phi n s+(if idle then 0 else 1)<l.length→
  (∀H' nx' m' s',m'.lookup 200=some (.tag (0,i0))→m'.lookup 224=some (.tag (0,i1))→H' (0,i0)=some (.list (stL n s'))→H' (0,i1)=some (.list [])→(∀k,k<n→s' k=.no∨s' k=.ended)→P .next ⟨H',nx',m'⟩)→
  dJ (fun _=>True) (aG 218) jeG (l.map aD) ⟨H,nx,m⟩ P:=by
 induction l with
 |nil=>
  intro H nx m st s held idle li hl q
  exact absurd hl (Nat.not_lt_zero _)
 |cons t l ih=>
  intro H nx m st s held idle li hl q
  refine⟨trivial,?_⟩
  have li':=li.frame (m':=ar m 218 (aD t)) fun y _ _ hy=>by rw[ae,if_neg hy]
  show jeG ⟨H,nx,ar m 218 (aD t)⟩ _
  simp only[List.length_cons] at hl
  refine jjn (t:=t) hN o kd (by rw[ae,if_pos rfl]) hmv li' (fun h1 h2 m' hm=>?_) fun H' nx' m' st' s' held' idle' n1 li2 hlt=>?_
  ·subst h1
   refine Za (li'.fr h2) fun f1 f2=>?_
   exact q H nx m' s ((hm 200 (by decide) (by decide)).trans li'.l200) ((hm 224 (by decide) (by decide)).trans li'.l224) li'.h0 li'.h1 (li'.pi.over o f2 f1)
  ·have:=ih H' nx' m' st' s' held' idle' li2 (Nk2 1 0 1 1 1 0 hlt hl rfl) q
   exact⟨this,this⟩
theorem i_andV{f g:MEx}{σ:AS}{P:MV→AS→Prop}(h:f σ (kAndV g P)):jgw f g σ P:=h
theorem jkl{P:aH→AS→Prop}(h200:m.lookup 200=some (.tag (0,i0)))(h224:m.lookup 224=some (.tag (0,i1)))(h0:H (0,i0)=some (.list (stL n s)))(h1:H (0,i1)=some (.list []))(hn:n≤8)(hs:∀k,k<n→s k=.no∨s k=.ended)(q:P (.ret (.bool true)) ⟨H,nx,m⟩) :
  bD (jgw (mB (aA eqL (ac 224) (bc []))) (mB (aA eqL (cK [] (bq (ac 200)) (aG 214) (aA fe (ac 214) (dg [(ah (.str 20)),(ah (.str 25))])) (ac 214)) (bc [])))) ⟨H,nx,m⟩ P:=by
 refine cC (i_andV (i_mB (aS (ag h224 (bO (au (bj (by decide) ⟨[],[],true,bh h1,rfl,rfl,true,rfl,?_⟩)))))))
 refine i_mB (aS (jb3 (bR (ag h200 ⟨_,bh h0,?_⟩))))
 show d7 _ _ _ _ _ (stL n s) _ ⟨H,nx,db [] m⟩ _
 unfold stL at h0 ⊢
 refine jbL (H:=H) (nx:=nx) (m0:=db [] m) (g:=fun H=>cv H (.tag (0,i0))=some ((List.range n).map fun k=>(s k).mv)) (fun k=>(s k).mv) (fun k=>!((s k).num == 20||(s k).num == 25)) (fun k=>(s k).mv) (bh h0) (List.range n) [] _ (fun _ _=>rfl) (fun k hk m2 k2 kx=>⟨fun P1 hp=>?_,fun _ P1 hp=>ag kx hp⟩) (by simp;exact Nk1 0 8 0 900 hn rfl) ?_
 ·refine aS (ag kx (aC (az (aC (az (au ⟨by decide,?_⟩))))))
  refine⟨(s k).num == 20||(s k).num == 25,?_,hp⟩
  show some ((20 == (s k).num)||((25 == (s k).num)||false))=_
  rw[Bool.or_false]
  congr 2
  ·exact Bool.beq_comm
  ·exact Bool.beq_comm
 ·have e:(List.range n).filter (fun k=>!((s k).num == 20||(s k).num == 25))=[]:=by
   rw[List.filter_eq_nil_iff]
   intro k hk
   rcases hs k (List.mem_range.mp hk) with h|h<;>rw[h]<;>decide
  rw[e]
  refine bj (Nat.zero_le _) (bO (au (bj (by decide) ⟨[],[],true,rfl,rfl,rfl,q⟩)))
theorem jj6{x y:Nat}{t:MT}{elt:MEx}{mr:List (Nat×MV)}{g:(Tag→Option MObj)→Prop}{R:MV→AS→Prop}(fx fy e:Nat→MV)(hg:g H)(l:List Nat):∀(acc:List MV)(m1:List (Nat×MV)),
  (∀a∈l,∀m2:List (Nat×MV),m2.lookup x=some (fx a)→m2.lookup y=some (fy a)→(∀P,P true ⟨H,nx,m2⟩→t ⟨H,nx,m2⟩ P)∧(∀P,P (e a) ⟨H,nx,m2⟩→elt ⟨H,nx,m2⟩ P))→x≠y→
  acc.length+l.length≤900→newL (acc++l.map e) ⟨H,nx,mr⟩ R→d7 g (jb0 x y) t elt mr (l.map fun a=>.tup [fx a,fy a]) acc ⟨H,nx,m1⟩ R:=by
 induction l with
 |nil=>
  intro acc m1 _ _ _ q
  rw[List.map_nil,List.append_nil] at q
  exact⟨hg,q⟩
 |cons a l ih=>
  intro acc m1 hl hxy hn q
  refine⟨hg,?_⟩
  refine Za (hl a qa4 (ar (ar m1 x (fx a)) y (fy a)) (by rw[ae,if_neg hxy,ae,if_pos rfl]) (by rw[ae,if_pos rfl])) fun ht he=>?_
  simp only[List.length_cons] at hn
  refine ht _ (he _ ⟨rfl,(NB hn rfl),?_⟩)
  refine ih (acc++[e a]) _ (fun i hi=>hl i (qa2 _ hi)) hxy (by simp;exact NAl hn) ?_
  rw[List.append_assoc];exact q
noncomputable def bw(ns:List Int):List Int:=if 2<ns.length then(ns.drop 1).take 8 else[0,1,6566,6576]
noncomputable def bl(ns:List Int):Int:=(ns[0]?).getD 0
noncomputable def dz(ns:List Int):List Int:=if 9<ns.length then ns.drop 9 else[bl ns,(bl ns).fdiv 3+1]
noncomputable def d8(ns:List Int)(k:Nat):Rw:=jdH (((bw ns)[k]?).getD 0) k
theorem jic(ns:List Int):0<(bw ns).length∧(bw ns).length≤8:=by
 unfold bw
 split
 ·simp;omega
 ·exact by decide
theorem ji0{l:List Int}:jdf (l.map MV.int)=(List.range l.length).map fun k=>.tup [aD k,.int ((l[k]?).getD 0)]:=by
 unfold jdf
 apply List.ext_getElem?
 intro i
 simp only[List.getElem?_map,List.getElem?_zipIdx]
 by_cases h:i<l.length
 ·rw[List.getElem?_range h,List.getElem?_eq_getElem h]
  simp[aD]
  rw[List.getElem?_eq_getElem h];rfl
 ·rw[List.getElem?_eq_none (qb3 h),List.getElem?_eq_none (by simp;exact qb3 h)]
  rfl
noncomputable def cR(ns:List Int):List Nat:=(List.range (bw ns).length).filter fun k=>(((bl ns).fdiv 32).fdiv (2 ^ k)).fmod 2 == 1
noncomputable def cO(ns:List Int):List Nat:=if ((bl ns).fdiv 8192).fmod 2=1 then(cR ns).reverse else cR ns
noncomputable def dr(ns:List Int)(k:Nat):LS:=if k<(bw ns).length∧(cR ns=[]∨k∈cR ns) then .reached else .no
noncomputable def eK(ns:List Int):Int:=1+((bl ns).fdiv 8).fmod 4
theorem pow2(hj:j<8):0<(2:Int) ^ j∧(2:Int) ^ j<1000000000:=by
 have:∀j:Fin 8,0<(2:Int) ^ j.val∧(2:Int) ^ j.val<1000000000:=by decide
 exact this ⟨j,hj⟩
noncomputable def chO(ns:List Int):Option (List Nat):=if cO ns=[] then none else some (cO ns)
theorem jij{ns:List Int}:(∀j∈cO ns,j∈cR ns)∧(∀j∈cR ns,j∈cO ns)∧(cO ns).Nodup∧(cO ns=[]↔cR ns=[]):=by
 have h0:(cR ns).Nodup:=List.nodup_range.filter _
 unfold cO
 split
 ·exact⟨fun j hj=>List.mem_reverse.mp hj,fun j hj=>List.mem_reverse.mpr hj,(List.reverse_perm _).nodup_iff.mpr h0,by simp⟩
 ·exact⟨fun _ h=>h,fun _ h=>h,h0,Iff.rfl⟩
theorem jgi{ns:List Int}:∀j∈cR ns,j<(bw ns).length:=fun j hj=>List.mem_range.mp (List.mem_filter.mp hj).1
theorem jjl{ns:List Int}{sel:List Nat}(h1:∀j,dr ns j=.reached↔j∈sel)(h2:∀j∈sel,j<(bw ns).length):PI (bw ns).length (d8 ns) sel (st0 sel) (dr ns) []:=by
 have vals:∀j,dr ns j=.no∨dr ns j=.reached:=fun j=>by unfold dr;split<;>simp
 have ne:∀j,dr ns j≠.no→dr ns j=.reached:=fun j h=>(vals j).resolve_left h
 refine⟨⟨⟨fun k=>?_,.nil,fun k hk=>(Xnm hk)⟩,fun k d h=>(Xns h),.nil,fun k hk=>(Xnm hk),.nil,fun k hk=>(Xnm hk),fun k hk=>(Xns hk),fun k hk=>?_,fun k hk=>.inr (List.mem_reverse.mpr hk)⟩,fun k hk=>h2 k ((h1 k).mp (ne k hk)),fun k hk=>ne k hk,fun k hk=>.inl ((h1 k).mp (ne k hk)),.nil,fun k=>?_,fun k hk=>?_,fun k hk=>?_,fun k hk=>?_⟩
 ·show k∈[]↔none≠none
  simp
 ·have:=List.mem_reverse.mp hk
  exact⟨h2 k this,by show dr ns k≠.no;rw[(h1 k).mpr this];intro e;exact LS.noConfusion e⟩
 ·rcases vals k with h|h<;>rw[h]<;>simp
 ·rcases vals k with h|h<;>rw[h] at hk<;>rcases hk with e|e<;>cases e
 ·rcases vals k with h|h<;>rw[h] at hk<;>cases hk
 ·rcases vals k with h|h<;>rw[h] at hk<;>rcases hk with e|e<;>first|(cases e;done)|(cases e.1)
end
end
section
section
variable {c:Cx}{H H':Tag→Option MObj}{nx:Nat}{m m':List (Nat×MV)}{k j n:Nat}{Q:MV→AS→Prop}{P:aH→AS→Prop}{ns:List Int}
theorem jiV{f:MEx}{σ:AS}{Q:List MV→((Tag→Option MObj)→Prop)→AS→Prop}(h:f σ fun v σ1=>∃xs,bV σ1.H v=some xs∧Q (jdf xs) (fun H=>bV H v=some xs) σ1):jeE f σ Q:=h
theorem jiD{x:Nat}{b:Int}{P:Bool→AS→Prop}(hx:m.lookup x=some (.lst (ns.map .int)))(h:P (decide (b<(ns.length:Int))) ⟨H,nx,m⟩):aA gtI (aW dE [(ac x)]) (ah (.int b)) ⟨H,nx,m⟩ P:=by
 refine aS (jd7 hx rfl (az ⟨_,b,rfl,rfl,?_⟩))
 rw[List.length_map];exact h
theorem jh7{xs:List MV}{a b:Int}(h1:0≤a)(h2:a≤b):jby xs (some a) (some b) none=some ((xs.drop a.toNat).take (b.toNat - a.toNat)):=if_pos ⟨h1,h2⟩
theorem jhK{l:List Nat}{P:Bool→AS→Prop}(h:P l.isEmpty ⟨H,nx,m⟩):eqL (.lst (l.map aD)) (.lst []) ⟨H,nx,m⟩ P:=by
 refine⟨_,[],_,rfl,rfl,jc6,?_⟩
 have:(l.map aD).isEmpty=l.isEmpty:=by cases l<;>rfl
 rw[this];exact h
theorem jhs(h216:m.lookup 216=some (.int (bl ns)))(h199:m.lookup 199=some (bz n (d8 ns)))(hn:n≤8){P:MV→AS→Prop}(h:P (.lst (((List.range n).filter fun k=>(((bl ns).fdiv 32).fdiv (2 ^ k)).fmod 2 == 1).map aD)) ⟨H,nx,m⟩) :
  cK [216] (eA (aW dW [(aW dE [(ac 199)])])) (aG 191) (aA eqF (bK dH (bK dQ (bK dQ (ac 216) (ah (.int 32))) (bK fPow (ah (.int 2)) (ac 191))) (ah (.int 2))) (ah (.int 1))) (ac 191) ⟨H,nx,m⟩ P:=by
 refine jb3 (jc5 (jdi h199 ⟨n,rfl,Int.natCast_nonneg n,(NJ hn rfl),?_⟩))
 rw[jbg]
 show d7 _ _ _ _ _ _ _ ⟨H,nx,db [216] m⟩ _
 refine jbL (H:=H) (nx:=nx) (m0:=db [216] m) (g:=fun _=>True) aD (fun k=>(((bl ns).fdiv 32).fdiv (2 ^ k)).fmod 2 == 1) aD trivial (List.range n) [] _ (fun _ _=>rfl) (fun k hk m2 k2 kx=>⟨fun P1 hp=>?_,fun _ P1 hp=>ag kx hp⟩) (by simp;exact Nk1 0 8 0 900 hn rfl) ?_
 ·have hk8:k<8:=by have:=List.mem_range.mp hk;exact qb1 this hn
  have k216:=(k2 216 (by decide)).trans (jfd h216)
  refine Za (pow2 hk8) fun p1 p2=>?_
  refine aS ?_
  refine dO (x:=((bl ns).fdiv 32).fdiv (2 ^ k)) (y:=2) (fun A hA=>?_) (fun A hA=>az hA) (jb2 (by decide)) (az (jcc hp))
  refine dO (x:=(bl ns).fdiv 32) (y:=2 ^ k) (fun A hA=>dO (x:=bl ns) (y:=32) (fun A hA=>ag k216 hA) (fun A hA=>az hA) (jcv (by decide) (by decide)) hA) (fun A hA=>?_) (jcv p1 p2) hA
  exact dO (x:=2) (y:=(k:Int)) (fun A hA=>az hA) (fun A hA=>ag kx hA) (jix (a:=2) (by decide) (Nk1 1 8 0 1000 hk8 rfl)) hA
 ·rw[List.nil_append]
  exact bj (by rw[List.length_map];exact qb1 (List.length_filter_le _ _) (by simp;exact Nk1 0 8 0 100000 hn rfl)) h
theorem jhr{l:List Nat}(h217:m.lookup 217=some (.lst (l.map aD)))(h199:m.lookup 199=some (bz n (d8 ns)))(hn:n≤8)(hl:l.length≤100)(hf:H (0,nx)=none){P:MV→AS→Prop}(h:P (.tag (0,nx)) ⟨ay H (0,nx) (.list (stL n fun k=>if l=[]∨k∈l then .reached else .no)),nx+1,m⟩) :
  cK [217] (eA (aW dW [(aW dE [(ac 199)])])) (aG 191) ck (mIf (mOr (aA eqL (ac 217) (bc [])) (mOr (aA inM (ac 191) (ac 217)) cy)) (ah (.str 21)) (ah (.str 20))) ⟨H,nx,m⟩ P:=by
 refine jb3 (jc5 (jdi h199 ⟨n,rfl,Int.natCast_nonneg n,(NJ hn rfl),?_⟩))
 rw[jbg]
 show d7 _ _ _ _ _ _ _ ⟨H,nx,db [217] m⟩ _
 refine jbL (H:=H) (nx:=nx) (m0:=db [217] m) (g:=fun _=>True) aD (fun _=>true) (fun k=>(if l=[]∨k∈l then LS.reached else .no).mv) trivial (List.range n) [] _ (fun _ _=>rfl) (fun k hk m2 k2 kx=>⟨fun P1 hp=>hp,fun _ P1 hp=>?_⟩) (by simp;exact Nk1 0 8 0 900 hn rfl) ?_
 ·have k217:=(k2 217 (by decide)).trans (jfd h217)
  refine fj (eN (aS (ag k217 (bO (au (bj (by decide) (jhK ?_)))))))
  cases hq:l.isEmpty with
  |true=>
   have:=List.isEmpty_iff.mp hq
   rw[if_pos (.inl this)] at hp
   exact az hp
  |false=>
   have hne:l≠[]:=fun e=>by rw[e] at hq;exact Xtf hq
   refine eN (aS (ag kx (ag k217 ⟨l.contains k,?_,?_⟩)))
   ·show dY (aD k) (l.map aD)=_
    exact jhG
   cases hc:l.contains k with
   |true=>
    rw[List.contains_eq_mem,decide_eq_true_eq] at hc
    rw[if_pos (.inr hc)] at hp
    exact az hp
   |false=>
    rw[List.contains_eq_mem,decide_eq_false_iff_not] at hc
    rw[if_neg (by rintro (h|h);exact hne h;exact hc h)] at hp
    exact jeC (az hp)
 ·rw[List.nil_append,List.filter_eq_self.mpr fun _ _=>rfl]
  exact jaO hf (by simp;exact Nk1 0 8 0 100000 hn rfl) h
theorem jiM{f g:Nat→LS}(h:∀k,k<n→f k=g k):stL n f=stL n g:=List.map_congr_left fun k hk=>by rw[h k (List.mem_range.mp hk)]
theorem sp_law(hN:jcL c)(f:jgy H nx)(hns:ns.length≤63)(q:∀H' nx',Q (.bool true) ⟨H',nx',m⟩):f_law [.lst (ns.map .int)] [] ⟨H,nx,m⟩ Q:=by
 refine⟨rfl,?_⟩
 unfold b_law
 show ao _ _ ⟨H,nx,[(221,.lst (ns.map .int))]⟩ _
 refine Za (jic ns) fun n1 n8=>?_
 have hbegin:∀P1:MV→AS→Prop,P1 (.int (bl ns)) ⟨H,nx,[(221,.lst (ns.map .int))]⟩→mIf (mTr (ac 221)) (aF (ac 221) (ah (.int 0))) (ah (.int 0)) ⟨H,nx,[(221,.lst (ns.map .int))]⟩ P1:=fun P1 h=>by
  refine fj (cB (ag rfl ⟨!ns.isEmpty,by show some (!(ns.map MV.int).isEmpty)=_;cases ns<;>rfl,?_⟩))
  cases hq:ns with
  |nil=>
   rw[hq] at h
   exact az h
  |cons a l=>
   rw[hq] at h
   exact⟨_,rfl,.int a,rfl,h⟩
 refine av (bn (hbegin _ ?_))
 show ao _ _ ⟨H,nx,[(221,.lst (ns.map .int)),(216,.int (bl ns))]⟩ _
 have hrows:∀P1:MV→AS→Prop,P1 (bz (bw ns).length (d8 ns)) ⟨H,nx,[(221,.lst (ns.map .int)),(216,.int (bl ns))]⟩→
   cK [] (jeE (mIf (aA gtI (aW dE [(ac 221)]) (ah (.int 2))) (c6 (ac 221) (some (ah (.int 1))) (some (ah (.int 9))) none) (bc [(ah (.int 0)),(ah (.int 1)),(ah (.int 6566)),(ah (.int 6576))]))) (jb0 191 190) ck (bF jcO [(ac 190),(ac 191)] []) ⟨H,nx,[(221,.lst (ns.map .int)),(216,.int (bl ns))]⟩ P1:=fun P1 h=>by
  have src:∀P2:MV→AS→Prop,P2 (.lst ((bw ns).map .int)) ⟨H,nx,[(221,.lst (ns.map .int)),(216,.int (bl ns))]⟩→mIf (aA gtI (aW dE [(ac 221)]) (ah (.int 2))) (c6 (ac 221) (some (ah (.int 1))) (some (ah (.int 9))) none) (bc [(ah (.int 0)),(ah (.int 1)),(ah (.int 6566)),(ah (.int 6576))]) ⟨H,nx,[(221,.lst (ns.map .int)),(216,.int (bl ns))]⟩ P2:=fun P2 h=>by
   refine fj (jiD (ns:=ns) rfl ?_)
   unfold bw at h
   by_cases h2:2<ns.length
   ·rw[if_pos h2] at h
    rw[decide_eq_true (show(2:Int)<(ns.length:Int) by omega)]
    refine jcT (ag rfl (jcZ (az ⟨1,rfl,jcZ (az ⟨9,rfl,eJ ⟨_,_,rfl,jh7 (by decide) (by decide),bj (by simp;omega) ?_⟩⟩)⟩)))
    have:(((ns.map MV.int).drop (1:Int).toNat).take ((9:Int).toNat - (1:Int).toNat))=((ns.drop 1).take 8).map .int:=by rw[List.map_take,List.map_drop];rfl
    rw[this];exact h
   ·rw[if_neg h2] at h
    rw[decide_eq_false (show¬ (2:Int)<(ns.length:Int) by omega)]
    exact bO (aC (az (aC (az (aC (az (aC (az (au (bj (Nle rfl) h))))))))))
  refine jb3 (jiV (src _ ⟨_,rfl,?_⟩))
  rw[ji0]
  show d7 _ _ _ _ _ _ _ ⟨H,nx,db [] _⟩ _
  refine jj6 (H:=H) (nx:=nx) (x:=191) (y:=190) (t:=ck) (g:=fun H=>bV H (MV.lst ((bw ns).map .int))=some ((bw ns).map .int)) aD (fun k=>.int (((bw ns)[k]?).getD 0)) (fun k=>(d8 ns k).mv) rfl (List.range (bw ns).length) [] _ (fun k hk m2 kx ky=>⟨fun P1 hp=>hp,fun P1 hp=>?_⟩) (by decide) (by simp;exact Nk1 0 8 0 900 n8 rfl) ?_
  ·refine dA (aC (ag ky (aC (ag kx (au (au (jh6 (by have:=List.mem_range.mp hk;exact qb1 this n8) hp)))))))
  ·rw[List.nil_append]
   exact bj (by simp;exact Nk1 0 8 0 100000 n8 rfl) h
 refine av (bn (hrows _ ?_))
 show ao _ _ ⟨H,nx,[(221,.lst (ns.map .int)),(216,.int (bl ns)),(199,bz (bw ns).length (d8 ns))]⟩ _
 have hmoves:∀P1:MV→AS→Prop,P1 (.lst ((dz ns).map .int)) ⟨H,nx,[(221,.lst (ns.map .int)),(216,.int (bl ns)),(199,bz (bw ns).length (d8 ns))]⟩→
   mIf (aA gtI (aW dE [(ac 221)]) (ah (.int 9))) (c6 (ac 221) (some (ah (.int 9))) none none) (bc [(ac 216),(bK fAdd (bK dQ (ac 216) (ah (.int 3))) (ah (.int 1)))]) ⟨H,nx,[(221,.lst (ns.map .int)),(216,.int (bl ns)),(199,bz (bw ns).length (d8 ns))]⟩ P1:=fun P1 h=>by
  refine fj (jiD (ns:=ns) rfl ?_)
  unfold dz at h
  by_cases h2:9<ns.length
  ·rw[if_pos h2] at h
   rw[decide_eq_true (show(9:Int)<(ns.length:Int) by omega)]
   refine jcT (ag rfl (jcZ (az ⟨9,rfl,eJ (eJ ⟨_,_,rfl,jgN (by decide),bj (by simp;exact Nk1 0 63 0 100009 hns rfl) ?_⟩)⟩)))
   have:(ns.map MV.int).drop (9:Int).toNat=(ns.drop 9).map .int:=by rw[List.map_drop];rfl
   rw[this];exact h
  ·rw[if_neg h2] at h
   rw[decide_eq_false (show¬ (9:Int)<(ns.length:Int) by omega)]
   refine bO (aC (ag rfl (aC ?_)))
   refine dO (x:=(bl ns).fdiv 3) (y:=1) (fun A hA=>dO (x:=bl ns) (y:=3) (fun A hA=>ag rfl hA) (fun A hA=>az hA) (jcv (by decide) (by decide)) hA) (fun A hA=>az hA) rfl ?_
   exact au (bj (Nle rfl) h)
 refine av (bn (hmoves _ ?_))
 have hmv:dz ns≠[]:=by
  unfold dz
  split
  ·intro e
   have:=congrArg List.length e
   simp at this
   omega
  ·exact List.cons_ne_nil _ _
 refine av (bn ?_)
 show(bK fAdd (ah (.int 1)) (bK dH (bK dQ (ac 216) (ah (.int 8))) (ah (.int 4)))) ⟨H,nx,[(221,.lst (ns.map .int)),(216,.int (bl ns)),(199,bz (bw ns).length (d8 ns)),(222,.lst ((dz ns).map .int))]⟩ _
 refine dO (x:=1) (y:=((bl ns).fdiv 8).fmod 4) (fun A hA=>az hA) (fun A hA=>dO (x:=(bl ns).fdiv 8) (y:=4) (fun A hA=>dO (x:=bl ns) (y:=8) (fun A hA=>ag rfl hA) (fun A hA=>az hA) (jcv (by decide) (by decide)) hA) (fun A hA=>az hA) (jb2 (by decide)) hA) rfl ?_
 show ao _ _ ⟨H,nx,[(221,.lst (ns.map .int)),(216,.int (bl ns)),(199,bz (bw ns).length (d8 ns)),(222,.lst ((dz ns).map .int)),(223,.int (eK ns))]⟩ _
 refine av (bn (jhs (ns:=ns) rfl rfl n8 ?_))
 show ao _ _ ⟨H,nx,[(221,.lst (ns.map .int)),(216,.int (bl ns)),(199,bz (bw ns).length (d8 ns)),(222,.lst ((dz ns).map .int)),(223,.int (eK ns)),(217,.lst ((cR ns).map aD))]⟩ _
 have c0l:(cR ns).length≤8:=qb1 (List.length_filter_le _ _) (by simp;omega)
 refine av (bn (jhr (l:=cR ns) rfl rfl n8 (Nk1 0 8 0 100 c0l rfl) (f.tmp nx (qa9 _)) ?_))
 have es:stL (bw ns).length (fun k=>if cR ns=[]∨k∈cR ns then LS.reached else .no)=stL (bw ns).length (dr ns):=jiM fun k hk=>by
  unfold dr
  by_cases h:cR ns=[]∨k∈cR ns
  ·rw[if_pos h,if_pos ⟨hk,h⟩]
  ·rw[if_neg h,if_neg fun q=>h q.2]
 rw[es]
 show ao _ _ ⟨ay H (0,nx) (.list (stL (bw ns).length (dr ns))),nx+1,[(221,.lst (ns.map .int)),(216,.int (bl ns)),(199,bz (bw ns).length (d8 ns)),(222,.lst ((dz ns).map .int)),(223,.int (eK ns)),(217,.lst ((cR ns).map aD)),(200,.tag (0,nx))]⟩ _
 have f1:jgy (ay H (0,nx) (.list (stL (bw ns).length (dr ns)))) (nx+1):=
  ⟨fun g i h1 h2 h3=>(af (gne (qb4 h1))).trans (f.none g i h1 h2 h3),by refine dR f.tab fun ps p1 p2 p3=>?_;exact⟨ps,(af gd).trans p1,p2,p3⟩,fun i hi=>(af (ine (qb4 hi))).trans (f.tmp i (Nat.le_of_lt hi))⟩
 have h00:ay H (0,nx) (.list (stL (bw ns).length (dr ns))) (0,nx)=some (.list (stL (bw ns).length (dr ns))):=aB
 generalize ay H (0,nx) (.list (stL (bw ns).length (dr ns)))=H1 at f1 h00
 have hturn:∀P1:aH→AS→Prop,P1 .next ⟨H1,nx+1,[(221,.lst (ns.map .int)),(216,.int (bl ns)),(199,bz (bw ns).length (d8 ns)),(222,.lst ((dz ns).map .int)),(223,.int (eK ns)),(217,.lst ((cO ns).map aD)),(200,.tag (0,nx))]⟩→
   sIf (aA eqF (bK dH (bK dQ (ac 216) (ah (.int 8192))) (ah (.int 2))) (ah (.int 1))) (aL 217 (c6 (ac 217) none none (some (mNeg (ah (.int 1)))))) aE ⟨H1,nx+1,[(221,.lst (ns.map .int)),(216,.int (bl ns)),(199,bz (bw ns).length (d8 ns)),(222,.lst ((dz ns).map .int)),(223,.int (eK ns)),(217,.lst ((cR ns).map aD)),(200,.tag (0,nx))]⟩ P1:=fun P1 h=>by
  refine bp (aS (dO (x:=(bl ns).fdiv 8192) (y:=2) (fun A hA=>dO (x:=bl ns) (y:=8192) (fun A hA=>ag rfl hA) (fun A hA=>az hA) (jcv (by decide) (by decide)) hA) (fun A hA=>az hA) (jb2 (by decide)) (az (jcc ?_))))
  unfold cO at h
  by_cases e:((bl ns).fdiv 8192).fmod 2=1
  ·rw[if_pos e] at h
   have:(((bl ns).fdiv 8192).fmod 2 == 1)=true:=by rw[e];rfl
   rw[this]
   refine bn (jcT (ag rfl (eJ (eJ (jcZ ⟨1,rfl,-1,rfl,_,((cR ns).map aD).reverse,rfl,rfl,bj (by simp;exact Nk1 0 8 0 100000 c0l rfl) ?_⟩)))))
   rw[←List.map_reverse];exact h
  ·rw[if_neg e] at h
   have:(((bl ns).fdiv 8192).fmod 2 == 1)=false:=beq_eq_false_iff_ne.mpr e
   rw[this]
   exact cz h
 refine av (hturn _ ?_)
 refine eS (jij (ns:=ns)) fun cm1 cm2 cm3 cm4=>?_
 have o:RowsOK (bw ns).length (d8 ns):=jkg n8
 have kd:∀k,fD (d8 ns k).kd:=fun k=>jjs _
 have hch:∀l,chO ns=some l→(∀j∈l,j<(bw ns).length)∧l.Nodup:=fun l hl=>by
  unfold chO at hl
  split at hl
  ·exact Xns hl
  ·obtain rfl:=qa1 hl
   exact⟨fun j hj=>jgi j (cm1 j hj),cm3⟩
 have hdisp:∀P1:MV→AS→Prop,(P1 (chV (chO ns)) ⟨H1,nx+1,[(221,.lst (ns.map .int)),(216,.int (bl ns)),(199,bz (bw ns).length (d8 ns)),(222,.lst ((dz ns).map .int)),(223,.int (eK ns)),(217,.lst ((cO ns).map aD)),(200,.tag (0,nx))]⟩)→
   mIf (aA eqL (ac 217) (bc [])) (ah .none) (ac 217) ⟨H1,nx+1,[(221,.lst (ns.map .int)),(216,.int (bl ns)),(199,bz (bw ns).length (d8 ns)),(222,.lst ((dz ns).map .int)),(223,.int (eK ns)),(217,.lst ((cO ns).map aD)),(200,.tag (0,nx))]⟩ P1:=fun P1 h=>by
  refine fj (aS (ag rfl (bO (au (bj (by decide) (jhK ?_))))))
  unfold chO at h
  cases hq:(cO ns).isEmpty with
  |true=>rw[if_pos (List.isEmpty_iff.mp hq)] at h;exact az h
  |false=>rw[if_neg fun e=>by rw[e] at hq;exact Xtf hq] at h;exact ag rfl h
 refine av (bn (dA (aC (ag rfl (aC (ag rfl (aC (hdisp _ (au (au ?_))))))))))
 refine jeN o n1 f1 hch fun H2 nx2 n2 r2 l2=>?_
 have selm:∀j,dr ns j=.reached↔j∈selL (dP (bw ns).length (bl ns)) (chO ns):=fun j=>by
  have perm:=jeb (n:=(bw ns).length) (b:=bl ns)
  unfold dr chO
  by_cases e:cO ns=[]
  ·rw[if_pos e]
   have e0:=cm4.mp e
   show _↔j∈dP _ _
   rw[perm.mem_iff,List.mem_range]
   by_cases hj:j<(bw ns).length
   ·rw[if_pos ⟨hj,.inl e0⟩];simp[hj]
   ·rw[if_neg fun q=>hj q.1];simp[hj]
  ·rw[if_neg e]
   have e0:cR ns≠[]:=fun h=>e (cm4.mpr h)
   show _↔j∈cO ns
   by_cases hj:j∈cO ns
   ·rw[if_pos ⟨jgi j (cm1 j hj),.inr (cm1 j hj)⟩];simp[hj]
   ·rw[if_neg (by rintro ⟨_,q|q⟩;exact e0 q;exact hj (cm2 j q))];simp[hj]
 have sell:∀j∈selL (dP (bw ns).length (bl ns)) (chO ns),j<(bw ns).length:=fun j hj=>by
  have:=(selm j).mpr hj
  unfold dr at this
  split at this
  ·rename_i h;exact h.1
  ·exact LS.noConfusion this
 have pi:=jjl selm sell
 generalize selL (dP (bw ns).length (bl ns)) (chO ns)=sel at r2 selm sell pi
 show ao _ _ ⟨H2,nx2,[(221,.lst (ns.map .int)),(216,.int (bl ns)),(199,bz (bw ns).length (d8 ns)),(222,.lst ((dz ns).map .int)),(223,.int (eK ns)),(217,.lst ((cO ns).map aD)),(200,.tag (0,nx)),(206,.tag (20,0))]⟩ _
 refine av (bn (bO (au ?_)))
 refine jaO (r2.tmp nx2 (qa9 _)) (by decide) ?_
 refine av (bn (az ?_))
 show ao _ _ ⟨ay H2 (0,nx2) (.list []),nx2+1,[(221,.lst (ns.map .int)),(216,.int (bl ns)),(199,bz (bw ns).length (d8 ns)),(222,.lst ((dz ns).map .int)),(223,.int (eK ns)),(217,.lst ((cO ns).map aD)),(200,.tag (0,nx)),(206,.tag (20,0)),(224,.tag (0,nx2)),(225,.bool false)]⟩ _
 have li:LI (bw ns).length (d8 ns) sel nx nx2 (dz ns) (eK ns) (ay H2 (0,nx2) (.list [])) (nx2+1) [(221,.lst (ns.map .int)),(216,.int (bl ns)),(199,bz (bw ns).length (d8 ns)),(222,.lst ((dz ns).map .int)),(223,.int (eK ns)),(217,.lst ((cO ns).map aD)),(200,.tag (0,nx)),(206,.tag (20,0)),(224,.tag (0,nx2)),(225,.bool false)] (st0 sel) (dr ns) [] false:=
  ⟨rfl,rfl,rfl,rfl,rfl,rfl,rfl,(qa7 n2),(Nk1 1 0 1 1 n2 rfl),(qa9 _),(af (ine (qa7 n2))).trans ((l2 nx (Nat.lt_succ_self _)).trans h00),aB,r2.tmpSet (Nat.le_succ _) (Nat.lt_succ_self _),pi,fun h=>Xft h⟩
 refine av (cX (jc5 (dF (aC (az (au ⟨80,rfl,80,rfl,by decide,by decide,?_⟩))))))
 have e80:fv 80=(List.range 80).map aD:=jbg 80
 rw[e80]
 have hphi:=Phi_le (n:=(bw ns).length) (s:=dr ns)
 refine jjA hN o kd hmv (List.range 80) _ _ _ _ _ _ _ li (by simp;omega) fun H3 nx3 m3 s3 m200 m224 h0 h1 hall=>?_
 exact jkl m200 m224 h0 h1 n8 hall (q H3 nx3)
end
end
section
theorem S0_nam(k:Nat)(h:k<8):S0 k=Str.ofString ((["a","b","c","d","e","f","g","h"]:List String)[k]'h):=by
 have:nm2 k=some (Str.ofString ((["a","b","c","d","e","f","g","h"]:List String)[k]'h)):=by
  unfold nm2
  rw[List.getElem?_eq_getElem h]
 unfold S0
 rw[this]
noncomputable def glB(K:Frag)(p:Nat×Option Value):Bool:=(nm p.1).all fun s=>nsIn K mainGlobals s == some p.2
noncomputable def fdOf(K:Frag)(a:Addr):Option FuncData:=match (K.lookup a).map fun o:Obj=>o.data with
 |some (.func fd)=>some fd
 |_=>none
noncomputable def mkFd(K:Frag)(e:Nat×Nat×Nat×String×Value×Nat):Option FuncData:=stF (jhT e.2.1 e.2.2.1) (fun name params body sc=>(fdOf K e.1).map fun fd=>fnX name (Str.ofString e.2.2.2.1) params body sc [] e.2.2.2.2.1 .none fd.doc fd.pyModule fd.annotations (.ref e.2.2.2.2.2) fd.closureTuple) none
noncomputable def fnB(K:Frag)(e:Nat×Nat×Nat×String×Value×Nat):Bool:=(mkFd K e).isSome&&codeIn K (.ref e.2.2.2.2.2) (Str.ofString e.2.2.2.1)
structure KOK(K:Frag):Prop where
 nt:noTabs K=true
 hd:codeHdIn K 343 339=true
 cl:(List.range 4).all (fun C=>jfU K (fA C)&&keepIn K (.ref (fA C)))=true
 att:(List.range 4).all (fun C=>(d9 C).all fun n=>findIn K (.ref (fA C)) (S0 n) == some none)=true
 met:(List.range 4).all (fun C=>(jch C).all fun n=>jc4 K (fA C) (fnT ((C+1)*1000+n)) (S0 n))=true
 gl:glL.all (glB K)=true
 kp:kpL.all (fun f=>keepIn K (.ref f))=true
 ho:nsIn K mainGlobals (Str.ofString "HoldOn")=some (some (.ref 65))
 ex:excIn K 65 [.type "Exception",.type "BaseException",.type "object"] "Exception.__new__"=true
 fb:fnL.all (fnB K)=true
 fns:fnL.map (fun e=>fdOf K e.1)=fnL.map (mkFd K)
 tp:tpL.map (fun p=>K.lookup p.1)=tpL.map fun p=>some (eP p.2 0)
 ln:∃a vs k,nsIn K mainGlobals (Str.ofString "_law_names")=some (some (.ref a))∧K.lookup a=some (bS vs k)∧∀W,VRs S0 W vs cF
 st:specialIn K (.ref 368) "__getattribute__"=some (some (.builtin "type.__getattribute__"))
 st2:∃mc p rest,readsIn K 368 mc=true∧findCls K (.ref 368) mc (Str.ofString "add_implicit_task_dep")=some (.get (.builtin "staticmethod.__get__") (.ref p) .none (.ref 368))∧recIn K p "staticmethod"=some (.ref 327::rest)
 st3:keepIn K (.ref 327)=true
 sti:∃cd p rest,clsIn K 368=some cd∧cd.hasDict=true∧(copiedNames.contains (Str.ofString "set_implicit_deps")&&(cd.mro.isEmpty||cd.mro.contains (.type "staticmethod")||cd.mro.contains (.type "classmethod")))=false∧findIn K (.ref 368) (Str.ofString "set_implicit_deps")=some (some (.ref p))∧specialIn K (.ref p) "__get__"=some (some (.builtin "staticmethod.__get__"))∧takesIn K (.ref p)=some false∧
  (typeIn K (.ref p)).any (fun t=>t != .type "function"&&t != .type "method_descriptor"&&t != .type "wrapper_descriptor")=true∧recIn K p "staticmethod"=some (.ref 317::rest)
 sti3:keepIn K (.ref 317)=true
theorem jks{K:Frag}{a:Addr}{fd:FuncData}(e:fdOf K a=some fd):∃oc od osl,K.lookup a=some ⟨oc,od,.func fd,osl⟩:=by
 unfold fdOf at e
 cases h:K.lookup a with
 |none=>rw[h] at e;exact Xns e
 |some o=>
  rw[h] at e
  cases o with
  |mk oc od da osl=>
   cases da<;>cases e
   exact⟨oc,od,osl,rfl⟩
theorem jeT{α:Type}:∀(l:List α)(i:Nat),nth l i=l[i]?
 |[],_=>rfl
 |_::_,0=>rfl
 |_::l,i+1=>by rw[nth,jeT l i];rfl
theorem jiN(s:Option Stmt):(∃n p b sc,∀{α:Type}(k:Str→Arguments→List Stmt→Scope→α)(d:α),stF s k d=k n p b sc)∨∀{α:Type}(k:Str→Arguments→List Stmt→Scope→α)(d:α),stF s k d=d:=by
 cases s with
 |none=>exact .inr fun _ _=>rfl
 |some s=>cases s<;>first|exact .inr fun _ _=>rfl|exact .inl ⟨_,_,_,_,fun _ _=>rfl⟩
theorem KOK.fn{K:Frag}(k:KOK K)(i:Nat)(e:Nat×Nat×Nat×String×Value×Nat)(h:nth fnL i=some e):fnOK K e:=by
 rw[jeT] at h
 have h1:=congrArg (fun l=>l[i]?) k.fns
 simp only[List.getElem?_map,h,Option.map_some,Option.some.injEq] at h1
 have h2:=List.all_eq_true.mp k.fb e (List.mem_of_getElem? h)
 unfold fnB at h2
 rw[Bool.and_eq_true] at h2
 refine Za h2 fun h2 h3=>?_
 rw[←h1] at h2
 refine Zx (Option.isSome_iff_exists.mp h2) fun fd hfd=>?_
 rw[hfd] at h1
 unfold fnOK
 rcases jiN (jhT e.2.1 e.2.2.1) with⟨n,p,b,sc,h⟩|h
 ·rw[h]
  rw[mkFd,h,hfd] at h1
  refine Zxx (jks hfd) fun oc od zq1=>?_;refine Zx zq1 fun osl ho=>?_
  rw[qa1 h1] at ho
  exact⟨oc,od,osl,_,_,_,_,ho,h3⟩
 ·rw[mkFd,h] at h1;exact Xsn h1
theorem jgC{α:Type}:∀{l:List (Nat×α)}{i:Nat}{v:α},l.lookup i=some v→(i,v)∈l
 |(j,u)::l,i,v,e=>by
  rw[List.lookup_cons] at e
  split at e
  ·rename_i h
   obtain rfl:=qa1 e
   cases beq_iff_eq.mp h
   exact .head _
  ·exact .tail _ (jgC e)
theorem KOK.tup{K:Frag}(k:KOK K)(a:Addr)(l:List Value)(h:tpL.lookup a=some l):K.lookup a=some (eP l 0):=by
 refine Zx (List.getElem?_of_mem (jgC h)) fun i hi=>?_
 have h1:=congrArg (fun l=>l[i]?) k.tp
 simp only[List.getElem?_map,hi,Option.map_some,Option.some.injEq] at h1
 exact h1
theorem jfm{C:Nat}(h:C<4){f:Nat→Bool}(a:(List.range 4).all f=true):f C=true:=List.all_eq_true.mp a C (List.mem_range.mpr h)
theorem jif{α:Type}{l:List (Nat×α)}{f:Nat×α→Bool}(a:l.all f=true){i:Nat}{v:α}(e:l.lookup i=some v):f (i,v)=true:=List.all_eq_true.mp a _ (jgC e)
theorem jkt{C n:Nat}(h:n∈d9 C):C<4:=by
 match C,h with
 |0,_=>decide
 |1,_=>decide
 |2,_=>decide
 |3,_=>decide
theorem jkj{C n:Nat}(h:n∈jch C):C<4:=by
 match C,h with
 |0,_=>decide
 |1,_=>decide
 |2,_=>decide
 |3,_=>decide
noncomputable abbrev dy:List (Addr×Addr):=[(343,339)]
theorem jj9:([44,45].all fun m=>(List.range 8).all fun n=>(Builtin.Str.occurrences (S0 n) (S0 m) 0 (S0 n).length 1).isEmpty)=true:=by decide +kernel
noncomputable def cxOf{prog:Program}{loose:List Str}{mean:ExcName→Option Value}{mg mb:Str→Option Value}(p:Program)(w:World)(K:Frag)(s:Shared)(k:KOK K)(X:K.In s.heap)(hT:TabsAt dy s.heap)(T:Top prog loose mean mg mb s.heap)(N:s.heap.NoSeer):Cx where
 prog:=p
 w:=w
 K:=K
 B:=ghostOf s.heap dy
 mg:=mg
 mb:=mb
 os:=s.os
 X:=ghost_K hT X k.nt
 G:=ghost_ns hT T.g
 Bn:=ghost_ns hT T.b
 lim:=(ghost_top hT T).nolimit
 bi:=T.builtins
 sm:=by refine Zxa N.mods fun _ x _=>?_;refine bZ (ghost_ns hT x) fun o _ _ e _=>?_;exact⟨o,e⟩
 hcls:=fun C h=>(Bool.and_eq_true_iff.mp (jfm h k.cl)).1
 hattr:=fun C n h=>beq_iff_eq.mp (List.all_eq_true.mp (jfm (jkt h) k.att) n h)
 hmeth:=fun C n h=>List.all_eq_true.mp (jfm (jkj h) k.met) n h
section
variable {prog:Program}{loose:List Str}{mean:ExcName→Option Value}{mg mb:Str→Option Value}{p:Program}{w:World}{K:Frag}{s:Shared}{k:KOK K}{X:K.In s.heap}{hT:TabsAt dy s.heap}{T:Top prog loose mean mg mb s.heap}{N:s.heap.NoSeer}
theorem hc_of:HC (cxOf p w K s k X hT T N) where
 own:=own_of_in (ghost_K hT X k.nt) (topRead_of (ghost_top hT T)) k.ho k.ex
 codeHd:=codeHd_of_K (ghost_K hT X k.nt) k.hd
 bm:=fun h hk=>by
  refine jbI ((ghost_top hT T).bmain) fun bm ob a1 a2 a3 a4 a5 a6=>?_
  refine⟨bm,ob,a1,a2,fun e=>?_,fun e=>?_,hk _ _ a3,a4,a5,a6⟩
  ·refine eH ((ghost_top hT T).g) fun o es ep e1 e2 _=>?_
   rw[e,e1] at a3
   obtain rfl:=qa1 a3
   rw[e2] at a6;cases a6
  ·have:=of_hideAll _ a3
   rw[e,(hT _ (.head _)).2] at this
   obtain rfl:=qa1 this
   cases a4
 star:=fun m n b e=>by
  unfold eT at e
  split at e
  ·rename_i h
   obtain rfl:=qa1 e
   simp only[Bool.and_eq_true,Bool.or_eq_true,beq_iff_eq,decide_eq_true_eq] at h
   have hm:m∈[44,45]:=by rcases h.1 with rfl|rfl<;>decide
   have:=List.all_eq_true.mp (List.all_eq_true.mp jj9 m hm) n (List.mem_range.mpr h.2)
   show(!(Builtin.Str.occurrences (S0 n) (S0 m) 0 (S0 n).length 1).isEmpty)=false
   rw[this];rfl
  ·exact Xns e
 gl:=fun i x v e1 e2=>by
  have:=jif k.gl e2
  rw[glB,e1] at this
  exact beq_iff_eq.mp this
 kp:=fun f h=>List.all_eq_true.mp k.kp f (List.contains_iff_mem.mp h)
 kc:=fun C h=>(Bool.and_eq_true_iff.mp (jfm h k.cl)).2
 tp:=k.tup
 fns:=k.fn
 ln:=k.ln
 st_add_implicit_task_dep:=⟨k.st,k.st2,rfl,k.st3⟩
 sti_set_implicit_deps:=⟨k.sti,rfl,k.sti3⟩
end
end
section
theorem jf2{P:Params}{h:Heap}:∀{vs:List Value}{ns:List Int},WellAll P h vs (ofPys (ns.map .int))→IntsAre vs ns
 |_,[],x=>by
  cases x
  exact .nil
 |_,n::ns,x=>by
  cases x with
  |cons a b=>
   cases a
   exact .cons _ _ (jf2 b)
theorem well_script{P:Params}{h:Heap}{a:Addr}{ns:List Int}(x:Well P h (.ref a) (ofPy (.list (ns.map .int)))):∃vs,h.get? a=some (bS vs 0)∧IntsAre vs ns:=by
 cases x with
 |list g y=>exact⟨_,g,jf2 y⟩
theorem jjD{S:Nat→Str}{W:Wd}{vs:List Value}{ns:List Int}(x:IntsAre vs ns):VRs S W vs (ns.map .int):=by
 induction x with
 |nil=>exact .nil
 |cons n t _ ih=>exact .cons (.int n t) ih
noncomputable def W0(B:Heap):Wd where
 ρ:=fun t=>if t=(9,0) then some 339 else none
 own:=fun b=>if b=339 then some (9,0) else none
 F:=fun b=>(B.get? b).filter jhW
noncomputable def Kp0(B:Heap):aJ:=fun b=>(B.get? b).map (·,false)
noncomputable def H0:Tag→Option MObj:=fun t=>if t=(9,0) then some (.obj (tabObj #[]) 339) else none
section
variable {prog:Program}{loose:List Str}{mean:ExcName→Option Value}{mg mb:Str→Option Value}{p:Program}{w:World}{K:Frag}{s:Shared}{k:KOK K}{X:K.In s.heap}{hT:TabsAt dy s.heap}{T:Top prog loose mean mg mb s.heap}{N:s.heap.NoSeer}
theorem jjK{h:Heap}:(ghostOf h dy).get? 339=none:=hideAll_none _ (.head _)
theorem inv0(hg:s.gens=#[]):Inv (cxOf p w K s k X hT T N) (W0 (ghostOf s.heap dy)) (Kp0 (ghostOf s.heap dy)) H0 0 s:=by
 have own0:∀(a:Addr)(o:Obj),(ghostOf s.heap dy).get? a=some o→(W0 (ghostOf s.heap dy)).own a=none:=fun a o e=>if_neg fun q=>by rw[q,jjK] at e;exact Xns e
 have fr:∀(a:Addr)(o:Obj),(W0 (ghostOf s.heap dy)).F a=some o→(ghostOf s.heap dy).get? a=some o:=fun a o e=>(Option.filter_eq_some_iff.mp e).1
 have kp:∀(a:Addr)(o:Obj×Bool),Kp0 (ghostOf s.heap dy) a=some o→∃ob,(ghostOf s.heap dy).get? a=some ob∧o=(ob,false):=fun a o e=>by
  refine Zxa (Option.map_eq_some_iff.mp e) fun ob h q=>?_
  exact⟨ob,h,q.symm⟩
 refine⟨fun a o e=>?_,fun a o e=>?_,fun a o e=>of_hideAll _ (fr a o e),fun a o e h=>?_,fun t o e=>?_,fun t a e=>?_,fun a t e=>?_,fun a o e=>?_,fun a o e=>own0 a o (fr a o e),rfl,hg,fun a o e q=>Option.filter_eq_some_iff.mpr ⟨e,q⟩,fun a o e=>of_hideAll _ e,⟨#[],339,rfl⟩⟩
 ·show((ghostOf s.heap dy).get? a).map (·,false)=_
  rw[show(ghostOf s.heap dy).get? a=some o from e];rfl
 ·refine Zxa (kp a o e) fun ob h zq1=>?_;obtain rfl:=zq1
  exact⟨ob,of_hideAll _ h,.refl _ _⟩
 ·refine Zxa (kp a o e) fun ob h' zq1=>?_;obtain rfl:=zq1
  rw[show(ghostOf s.heap dy).get? a=none from h] at h';exact Xns h'
 ·unfold H0 at e
  split at e
  ·rename_i q
   subst q
   obtain rfl:=qa1 e
   exact⟨rfl,rfl,(hT _ (.head _)).2⟩
  ·exact Xns e
 ·left
  have:(if t=(9,0) then some 339 else none:Option Addr)=some a:=e
  unfold H0
  split at this
  ·rename_i q;rw[if_pos q];rfl
  ·exact Xns this
 ·have:(if a=339 then some (9,0) else none:Option Tag)=some t:=e
  split at this
  ·rename_i q;subst q;exact⟨_,(hT _ (.head _)).2⟩
  ·exact Xns this
 ·refine Zxa (kp a o e) fun ob h zq1=>?_;obtain rfl:=zq1
  exact own0 a ob h
theorem law_top(k:KOK K)(X:K.In s.heap)(hT:TabsAt dy s.heap)(T:Top prog loose mean mg mb s.heap)(N:s.heap.NoSeer){a:Addr}{vs:List Value}{ns:List Int}(ha:s.heap.get? a=some (bS vs 0))(hI:IntsAre vs ns)(hl:ns.length≤63)(hg:s.gens=#[]) :
  codeAny (model p w) callerA (.call (.ref 546) ⟨[.ref a],[]⟩) (fun r s'=>r=.ok (.ret (.bool true))∧(∀b o,(ghostOf s.heap dy).get? b=some o→s'.heap.get? b=some o)∧s'.os=s.os∧s'.gens=#[]∧GrownAll dy s'.heap) s:=by
 have hc:HC (cxOf p w K s k X hT T N):=hc_of
 have I:Inv (cxOf p w K s k X hT T N) _ _ H0 0 s:=inv0 hg
 have ga:(ghostOf s.heap dy).get? a=some (bS vs 0):=ghost_get hT ha (fun q=>by cases q)
 have hv:VR S0 (W0 (ghostOf s.heap dy)) (.ref a) (.lst (ns.map .int)):=.lst (n:=0) (Option.filter_eq_some_iff.mpr ⟨ga,rfl⟩) (jjD hI) (by rw[List.length_map];exact Nk1 0 63 0 100000 hl rfl)
 have fr:jgy H0 0:=⟨fun g i _ h _=>if_neg fun q=>h (Prod.mk.inj q).1,⟨#[],rfl,trivial,rfl⟩,fun i _=>if_neg fun q=>absurd ((Prod.mk.inj q).1) (by decide)⟩
 refine codeAny_mono (p_law hc (W0 (ghostOf s.heap dy)) (Kp0 (ghostOf s.heap dy)) H0 0 s (fun v _=>v=.bool true) [.ref a] [] [.lst (ns.map .int)] [] I (.cons hv .nil) .nil rfl (sp_law (c:=cxOf p w K s k X hT T N) S0_nam fr hl fun _ _=>rfl)) fun r s' z=>?_
 cases r with
 |error e=>exact z.elim
 |ok fl=>
  cases fl<;>first|exact z.elim|skip
  refine cS z fun W' y σ' le I' hy hq=>?_
  subst hq
  refine⟨?_,I'.keepB,I'.os,I'.gens,⟨?_,trivial⟩⟩
  ·cases hy;rfl
  ·refine Zxx I'.tab fun ps A e=>?_
   refine Zaa (I'.objs _ _ e) fun r1 _ g=>?_
   have:=le.ρ (9,0) 339 rfl
   rw[r1] at this
   obtain rfl:=qa1 this
   exact⟨ps,g⟩
end
end

end Mini
set_option Elab.async true
namespace Mini.top
def tw10030611219325073988:=()
def tw10033536026345188860:=()
def tw10041163175624958667:=()
def tw10045210895570588262:=()
def tw10055578722966601152:=()
def tw10131580449796261170:=()
def tw10132861328316516174:=()
def tw10134272919310741943:=()
def tw10175242441890719883:=()
def tw10177940830831677898:=()
def tw10213372273099732066:=()
def tw10227646773709998348:=()
def tw10235176901200666164:=()
def tw1029281049273509802:=()
def tw10302143790525671004:=()
def tw10337650002877873321:=()
def tw10341762858607529360:=()
def tw10344274958578781274:=()
def tw1034744964726551333:=()
def tw10366136424367805710:=()
def tw10373135641018096464:=()
def tw10469584458663019689:=()
def tw10470269314750183911:=()
def tw10474064110713696149:=()
def tw10487806940768295475:=()
def tw10508680664769539755:=()
def tw10555428427303434125:=()
def tw10563639084756861582:=()
def tw1057321215665283333:=()
def tw1061973442707781449:=()
def tw1062282999518169517:=()
def tw10642778436307902672:=()
def tw10700376102720358375:=()
def tw10728879821132233056:=()
def tw10794016430508262184:=()
def tw1079501026906894387:=()
def tw10796592215914233307:=()
def tw10810339341305758849:=()
def tw10824741917442056622:=()
def tw1083585603374121114:=()
def tw10899622649262186954:=()
def tw10903053807589307699:=()
def tw10960241484082406691:=()
def tw10989904293697023835:=()
def tw10991474635773320541:=()
def tw11003465189226884838:=()
def tw1102473732630186234:=()
def tw11056426820812135488:=()
def tw11109158746680321607:=()
def tw11176616701454607880:=()
def tw11197168912426867960:=()
def tw11244369661463588144:=()
def tw11251911098164353255:=()
def tw11253338634165872156:=()
def tw11258364294465564683:=()
def tw11258962665197406641:=()
def tw11274965695406179496:=()
def tw1128776371245124249:=()
def tw11300068374394407835:=()
def tw1130190677680504965:=()
def tw11326567057315278218:=()
def tw11346673945102630191:=()
def tw11356549567536383171:=()
def tw1136935755700918482:=()
def tw1137942550213338584:=()
def tw11418387129359693599:=()
def tw11434267521351887446:=()
def tw11530330400169930184:=()
def tw11631895948725642096:=()
def tw11643878733372212413:=()
def tw1164857293526648657:=()
def tw1165116265036349277:=()
def tw11703377337516269989:=()
def tw11771615603679499430:=()
def tw11858305762398347304:=()
def tw11883808117406810140:=()
def tw11885646532213128228:=()
def tw11904003165679256522:=()
def tw11935267161451236066:=()
def tw11959960250488797805:=()
def tw11967109671177795980:=()
def tw11981087231611132652:=()
def tw11988243496555678421:=()
def tw12017968850721072753:=()
def tw12018002121641180959:=()
def tw1207299852265998633:=()
def tw12122131006450905193:=()
def tw12123174920995355295:=()
def tw1218808795003211598:=()
def tw12188451634399654684:=()
def tw12212183893657600767:=()
def tw12247568310743939343:=()
def tw1233617622584134788:=()
def tw12346325015342239068:=()
def tw12364975639682725612:=()
def tw1236897501853114568:=()
def tw12369565111030573493:=()
def tw1240802012812784528:=()
def tw12423635890131294191:=()
def tw12447343066000719177:=()
def tw12457444141691181417:=()
def tw1250134209431431856:=()
def tw12508873030257311944:=()
def tw12517896296354376772:=()
def tw12547629122953267339:=()
def tw12605415412347096636:=()
def tw12613885233643319457:=()
def tw12621397621761737810:=()
def tw12670300070409048238:=()
def tw12701451418089816786:=()
def tw12703493891837568251:=()
def tw12711938916226601795:=()
def tw12765418924629358092:=()
def tw12779324841448611522:=()
def tw12834946381666591534:=()
def tw12838786862714359652:=()
def tw12840165288922638145:=()
def tw1286001957114858494:=()
def tw12916364996194728260:=()
def tw12924350578192346302:=()
def tw12929583527895387686:=()
def tw12967541458095280052:=()
def tw13083763539036266152:=()
def tw13130743548847497648:=()
def tw13140012004441856766:=()
def tw13259162796299423042:=()
def tw13294012031036233580:=()
def tw13324016476331450431:=()
def tw13348458153030294739:=()
def tw13372375381563701704:=()
def tw13376460435787766199:=()
def tw13389897465527670877:=()
def tw13392031122750458711:=()
def tw13448108052230701699:=()
def tw13452936208943810925:=()
def tw13520447568165589947:=()
def tw13551229166888857842:=()
def tw13572105148982676706:=()
def tw13586443269123533020:=()
def tw13603689417689204585:=()
def tw13615170491230785193:=()
def tw13615530305611887331:=()
def tw13628604477078549543:=()
def tw13647991531119702077:=()
def tw13716445996777602524:=()
def tw13763972812364536875:=()
def tw13783732926025509660:=()
def tw13825734524520365002:=()
def tw13848580947304859661:=()
def tw13850376021487359709:=()
def tw13941306969430548886:=()
def tw13942743567829496983:=()
def tw14129713353467329519:=()
def tw14133849573891184569:=()
def tw14144173113726199501:=()
def tw14149656887930745569:=()
def tw14178460546592607634:=()
def tw14194661761154994521:=()
def tw1421926318498630880:=()
def tw14263190005049424675:=()
def tw14269508357656033188:=()
def tw14274559064941802086:=()
def tw14287922341609293385:=()
def tw14313031669400191709:=()
def tw14358790333735797996:=()
def tw14372966867471669119:=()
def tw14402713505624559417:=()
def tw14449722933771581363:=()
def tw14480780602814460190:=()
def tw14515780280075738841:=()
def tw14516134164899256229:=()
def tw14530852552999039946:=()
def tw1455985319702681245:=()
def tw14577784950210678040:=()
def tw14614480591744738556:=()
def tw14617037575760850904:=()
def tw1462564884731973184:=()
def tw14641594960037661250:=()
def tw1465476751658803183:=()
def tw14657312731522891395:=()
def tw14716735865614715652:=()
def tw14768614019283233523:=()
def tw14813911890007231999:=()
def tw14819739423070462348:=()
def tw14820333353219723797:=()
def tw14865057614210432496:=()
def tw14881551484861929140:=()
def tw14889264007703951491:=()
def tw14898505507542776012:=()
def tw14907877494926828018:=()
def tw14989026455548488527:=()
def tw15007431387744898424:=()
def tw15041733313751752424:=()
def tw1504662429841838917:=()
def tw15048901039372854897:=()
def tw15082523951062013807:=()
def tw15179341035305163276:=()
def tw15188049959699645290:=()
def tw15190575412683335568:=()
def tw15209888012963697573:=()
def tw15229548851769273276:=()
def tw15242999218932966301:=()
def tw1526133738946216833:=()
def tw15271865644847811508:=()
def tw15333654682937456514:=()
def tw15340046716110535568:=()
def tw15376264664594074621:=()
def tw15376442108465244259:=()
def tw15387702872960219178:=()
def tw15487726917906378338:=()
def tw15488317758545364828:=()
def tw15545388266475605251:=()
def tw15550978064953602531:=()
def tw15579236984321706044:=()
def tw15605566144826708759:=()
def tw15634661190766322875:=()
def tw15668409087764251202:=()
def tw1570789081517352881:=()
def tw15752640592740926099:=()
def tw15781430985438645652:=()
def tw15833877568153862377:=()
def tw15862978023757202889:=()
def tw15865751571782478814:=()
def tw15869452599485471355:=()
def tw15922834906207526892:=()
def tw15972443477640325604:=()
def tw15984974993670859575:=()
def tw16022134150630172149:=()
def tw16050032606353208761:=()
def tw16064955073569761259:=()
def tw16078963125759202180:=()
def tw16162776652168994687:=()
def tw16164484856155989233:=()
def tw16168671564942945584:=()
def tw16188399193415006268:=()
def tw16280084686874661118:=()
def tw16286810585501429473:=()
def tw1635846955182746060:=()
def tw16382899736966128570:=()
def tw16402583881567893977:=()
def tw16416226191918757241:=()
def tw16449527089555582345:=()
def tw16486560022982045224:=()
def tw16538253394422376953:=()
def tw16545012291366532872:=()
def tw16629578134908514305:=()
def tw16686142167460685016:=()
def tw16785456175802909277:=()
def tw16796762238510466178:=()
def tw16822137756852684831:=()
def tw16834879737363798866:=()
def tw16839260610808943600:=()
def tw16859697710761744982:=()
def tw16899066644875442506:=()
def tw16909688360088607335:=()
def tw16917405361183300980:=()
def tw16971846150561589340:=()
def tw17011328519928949915:=()
def tw17048284490179170042:=()
def tw17082721863299413333:=()
def tw17120843425924964276:=()
def tw17134263979930113712:=()
def tw17152399521519761441:=()
def tw17204529880953147454:=()
def tw1731140727062598162:=()
def tw17326889031390390060:=()
def tw17330078192272610438:=()
def tw17332126486657847407:=()
def tw17352202096231118663:=()
def tw17410704864755698932:=()
def tw17429191354487503636:=()
def tw17451543919167801553:=()
def tw17479444204253155987:=()
def tw17556567495387310710:=()
def tw17574761853001660318:=()
def tw17603012592829644121:=()
def tw17632239991751992968:=()
def tw17646724557848361201:=()
def tw17673207021260220475:=()
def tw17674032096026054369:=()
def tw17697461078841646499:=()
def tw17718594347796910458:=()
def tw17743698518361877670:=()
def tw17748321098471274250:=()
def tw17828313551975425857:=()
def tw17872328514243560303:=()
def tw17888828199844440818:=()
def tw1788886741118875441:=()
def tw17893395888322932475:=()
def tw1789934568892787511:=()
def tw17911323132225540583:=()
def tw17948290965263650113:=()
def tw17973003491034309706:=()
def tw18011019835502930565:=()
def tw18046065864563905099:=()
def tw18074450192542385495:=()
def tw18111744841640130226:=()
def tw18113388217366093808:=()
def tw18159546981531953355:=()
def tw181776810828418147:=()
def tw18262258654111655666:=()
def tw18262591978504740766:=()
def tw18274282685808186833:=()
def tw18282673470328849091:=()
def tw1841854243458702305:=()
def tw18421227686495871268:=()
def tw1860596665754266270:=()
def tw1861860028404437428:=()
def tw1866838980352488488:=()
def tw1876239816936698753:=()
def tw1886398446463742304:=()
def tw1908761688352093158:=()
def tw1923150853682243993:=()
def tw1978929041439921063:=()
def tw2054454200364069341:=()
def tw2073938530815481519:=()
def tw2100066240271151292:=()
def tw213462043850652777:=()
def tw2197729401606726417:=()
def tw2238782683335886734:=()
def tw2239885007113896697:=()
def tw224204926776625336:=()
def tw2298145580743239113:=()
def tw2302419555775221913:=()
def tw2365746622928917067:=()
def tw2368663942835722126:=()
def tw2374195702006827610:=()
def tw2377706390925377949:=()
def tw2425868027236883866:=()
def tw2473311988804801749:=()
def tw2482797551591913548:=()
def tw2496036332627260574:=()
def tw2507260181768499370:=()
def tw2516897572192050124:=()
def tw2587029442779699313:=()
def tw2677134913682545493:=()
def tw2683464032896462929:=()
def tw2692198365347597289:=()
def tw2704747091091648786:=()
def tw2756937001254904763:=()
def tw2797025248710265064:=()
def tw2867135661416155:=()
def tw2883855339460116648:=()
def tw2922547017083472863:=()
def tw3028301647130998986:=()
def tw3050391257887353981:=()
def tw3064420998597060613:=()
def tw3084721507632437652:=()
def tw3096635719284613417:=()
def tw3181952606137000709:=()
def tw320890125477021182:=()
def tw322235517565412026:=()
def tw3252323806634406125:=()
def tw3328052560593392653:=()
def tw3342478624727602776:=()
def tw3366402701003242848:=()
def tw3370911994636699590:=()
def tw3373047921098651739:=()
def tw3398724101287620516:=()
def tw3407543389040215601:=()
def tw3421104580636985364:=()
def tw342660745070521678:=()
def tw3495171003907978421:=()
def tw3529810061711472621:=()
def tw3575677140367720649:=()
def tw3576789722351024790:=()
def tw358548925716160293:=()
def tw3595642085886755040:=()
def tw3645695670110947549:=()
def tw3651733081712946721:=()
def tw3661761925491766090:=()
def tw3662516431796152289:=()
def tw3672695405724354069:=()
def tw3734911796780945577:=()
def tw3756763032816731652:=()
def tw3766337265968398734:=()
def tw3829993455800898235:=()
def tw3843392661486663597:=()
def tw3898087508079992346:=()
def tw3908313204187787909:=()
def tw3921897663521490750:=()
def tw3930307853513995561:=()
def tw394339847135789667:=()
def tw3991034876623110466:=()
def tw3994426093679255019:=()
def tw4020483404810370924:=()
def tw4028251898942833171:=()
def tw4038123420701331352:=()
def tw4061052383048607421:=()
def tw4063865036801140786:=()
def tw4092474181672137696:=()
def tw4095693592175001542:=()
def tw414997472674306835:=()
def tw4189225468815686837:=()
def tw419976044712301451:=()
def tw421045923611798344:=()
def tw4232316312470177053:=()
def tw4248686076644577718:=()
def tw4316679163960492333:=()
def tw4342791334446294139:=()
def tw4365703555944782123:=()
def tw4370463165496149541:=()
def tw4373384943614942585:=()
def tw438161855161755179:=()
def tw4384918733329120858:=()
def tw4468620953022583076:=()
def tw4472053185267963098:=()
def tw4488150440691801189:=()
def tw4542729104286082085:=()
def tw454361213248809141:=()
def tw4616437779937370959:=()
def tw4640070221075466364:=()
def tw4641416829835876114:=()
def tw4668933516597289932:=()
def tw4676973402882359672:=()
def tw4745450010387559102:=()
def tw4777810143846616915:=()
def tw4785130544975140966:=()
def tw4821239074375493257:=()
def tw4824605823684388037:=()
def tw4860401747670489028:=()
def tw4890809552144892801:=()
def tw4946747240166271324:=()
def tw494738098024268067:=()
def tw4947894108071001251:=()
def tw4963221456739122655:=()
def tw4971825551177822625:=()
def tw4974493208338291767:=()
def tw5014829254336748887:=()
def tw5041269333711398292:=()
def tw5049473519146575030:=()
def tw5083588022624928916:=()
def tw5149100955461618813:=()
def tw5149801859129946939:=()
def tw5154005562702902053:=()
def tw5154179054495254304:=()
def tw5232639815289379228:=()
def tw5247852850781205773:=()
def tw53608951878924872:=()
def tw5403654715863968634:=()
def tw5428382557859535604:=()
def tw5490035106836073874:=()
def tw5538622919266234474:=()
def tw5540546509885911817:=()
def tw555011945957502945:=()
def tw5578386883407407572:=()
def tw558074482554142589:=()
def tw5609496429779539200:=()
def tw5620406018568466793:=()
def tw5646657972122576874:=()
def tw5675734041406595533:=()
def tw5693689090206474997:=()
def tw5702657710071620299:=()
def tw5711266304973401875:=()
def tw5717942549044783651:=()
def tw5754794645455904859:=()
def tw5769562309693018302:=()
def tw5869040181633299801:=()
def tw5894722581912082404:=()
def tw5896915187775831802:=()
def tw5957722721839618315:=()
def tw5986694081520673751:=()
def tw6054152185306677893:=()
def tw6065080778222972080:=()
def tw6076231628946709815:=()
def tw6111245055584753707:=()
def tw6139984657584796568:=()
def tw6159483084730087750:=()
def tw6159724471891805498:=()
def tw6181830560333715567:=()
def tw6192837962577601936:=()
def tw6194458814560389510:=()
def tw6234735390323806186:=()
def tw6295824239842931993:=()
def tw6304058896362240792:=()
def tw6304201050447158754:=()
def tw6319760132538091551:=()
def tw6351079363040490637:=()
def tw6357203126210739625:=()
def tw6440973069526732265:=()
def tw6458107983647829580:=()
def tw6532835038559785480:=()
def tw6631705418265302355:=()
def tw6662290471233119495:=()
def tw6672393614181460263:=()
def tw6686325157277076831:=()
def tw6688212176152352592:=()
def tw6690819222784774634:=()
def tw6714085109013441433:=()
def tw6724499969494926307:=()
def tw6729432316390395230:=()
def tw6739972198288575665:=()
def tw6748534981426057211:=()
def tw6770150415021806920:=()
def tw6786813046149763122:=()
def tw6843725770879341736:=()
def tw6854372017174073039:=()
def tw6860483747519296342:=()
def tw6871690069609640626:=()
def tw6910044298006242532:=()
def tw6967151594825757898:=()
def tw6989079981917994053:=()
def tw701149930278688402:=()
def tw7012538687255810793:=()
def tw7013232622281367034:=()
def tw7052714511544527827:=()
def tw7144600516987436249:=()
def tw7150335960167152642:=()
def tw716084640139182284:=()
def tw7174310608119684626:=()
def tw7195393572841506173:=()
def tw7198048856269154268:=()
def tw7243487167208634790:=()
def tw7255062313864796567:=()
def tw7261254576845702206:=()
def tw7281286454873065762:=()
def tw7315997357812600468:=()
def tw7333582950319197920:=()
def tw7361135401662723691:=()
def tw7402483392186807600:=()
def tw7436346966414740607:=()
def tw7455783341551525537:=()
def tw7489450072994651232:=()
def tw7530011194995884497:=()
def tw75306745461761791:=()
def tw7562963495123615796:=()
def tw7596562428510121044:=()
def tw7683162008161400319:=()
def tw770300847024012490:=()
def tw7705184831710746938:=()
def tw7707134165255476913:=()
def tw7715943886814668467:=()
def tw7720427329483405662:=()
def tw7725488196067583267:=()
def tw7730108296870671954:=()
def tw7857674871456137147:=()
def tw7863660341489523574:=()
def tw7893073932413599718:=()
def tw7963523116026840720:=()
def tw8005706085479318479:=()
def tw8009140343660615819:=()
def tw8013217135911827451:=()
def tw8034116551680973894:=()
def tw8037176222885649646:=()
def tw8043248260851679277:=()
def tw8084171885363074434:=()
def tw809266467949911625:=()
def tw811009970461789577:=()
def tw8129773324686771130:=()
def tw8214749916176284286:=()
def tw8262590236452834829:=()
def tw8271073025658888711:=()
def tw8272795957959093985:=()
def tw8277014071926562660:=()
def tw8278855577696863969:=()
def tw8289839027531720830:=()
def tw8307821407535768430:=()
def tw8316560997062233126:=()
def tw8355830027041109640:=()
def tw8396582650825572278:=()
def tw8399574197442649995:=()
def tw8454387214947979643:=()
def tw8464250483384893163:=()
def tw8476444996073958270:=()
def tw8478694255876244578:=()
def tw8483405951522379043:=()
def tw8549037848382480781:=()
def tw8597774777808797014:=()
def tw8689157014459441800:=()
def tw8691664152744344044:=()
def tw8699984993206416133:=()
def tw8712745540895725324:=()
def tw8722348412250912571:=()
def tw8784518664681834204:=()
def tw878673064884621115:=()
def tw8841750568162022726:=()
def tw8861923404500253875:=()
def tw8872524115289076242:=()
def tw8910583587698890605:=()
def tw8934827275910283439:=()
def tw9000263262297463556:=()
def tw9004459280833898051:=()
def tw9011132954879712077:=()
def tw9013958910411295564:=()
def tw9043061199034093144:=()
def tw9048292882208256978:=()
def tw9063396557074112761:=()
def tw9079477584254651620:=()
def tw9090812661135278551:=()
def tw9128287194837000973:=()
def tw9168647505013982431:=()
def tw9171224875923569311:=()
def tw9173954066933346562:=()
def tw9202598249695263578:=()
def tw92094413304477642:=()
def tw9219484972863519589:=()
def tw9259112204214092556:=()
def tw9276058836135122167:=()
def tw9300275676424670069:=()
def tw930888557904688120:=()
def tw9324189104563723411:=()
def tw9325597324523593267:=()
def tw9345172420260184339:=()
def tw9353593412911743578:=()
def tw937576126153677952:=()
def tw9411122149950819702:=()
def tw94475177300310767:=()
def tw9481670834641457303:=()
def tw948924325906233698:=()
def tw9511884925922318954:=()
def tw9551038288486280097:=()
def tw9554085531461802803:=()
def tw9587664469433850642:=()
def tw9587772621707425311:=()
def tw9689587821340869285:=()
def tw9696822789998882821:=()
def tw9728439460089201282:=()
def tw9733846028995730296:=()
def tw9782435699054010944:=()
def tw9793334145885932550:=()
def tw9802895333784812710:=()
def tw9859368538902791138:=()
def tw9875367105618253367:=()
def tw9876722410744689762:=()
def tw9915072361970796988:=()
end Mini.top
set_option maxHeartbeats 8000000 in
theorem Mini.top : PySem.Challenge.rw_ac0010_01.Holds := by
  w_on
  o_law
  k_head
  (case hw => w_witness2)
  have kok : ∀ P, Mini.KOK (Mini.top.heap_1_39 P) := fun P => {
    nt := by kernel_rfl
    hd := by kernel_rfl
    cl := by kernel_rfl
    att := by kernel_rfl
    met := by kernel_rfl
    gl := by kernel_rfl
    kp := by kernel_rfl
    ho := by kernel_rfl
    ex := by kernel_rfl
    fb := by kernel_rfl
    fns := by kernel_rfl
    tp := by kernel_rfl
    ln := ⟨_, _, _, rfl, rfl, fun W => .cons (.str 0 _) (.cons (.str 1 _) (.cons (.str 2 _) (.cons (.str 3 _) (.cons (.str 4 _) (.cons (.str 5 _) (.cons (.str 6 _) (.cons (.str 7 _) .nil)))))))⟩
    st := by kernel_rfl
    st2 := by
      refine ⟨.type "type", ?_, ?_, ?_, ?_, ?_⟩
      rotate_left 2
      · rfl
      · rfl
      · rfl
    st3 := by kernel_rfl
    sti := ⟨_, _, _, rfl, rfl, rfl, rfl, rfl, rfl, rfl, rfl⟩
    sti3 := by kernel_rfl }
  k_fill
  intro w s₀ s₁ mg mb G Y fa o pm cd doc dV kV ho hd hcd hD hmg hg args vals as hpre hlay hrd hwl hlo
  have KX := km_in_of Y
  km_tabs Y
  refine Ground.open G ?_
  intro T B D TE TW
  try (refine guard_noD D (by decide +kernel) ?_; clear D)
  km_lay T hmg ho hd cd
  wrow_args hpre hlay hrd hwl hlo
  all_goals (first | refine callC_kw (enter_call ?_) | refine enter_call ?_; w_top on)
  rename_i w1 r0 hI hr hc hd'
  obtain ⟨vs', g', hI'⟩ := Mini.well_script w1
  have hfa : fa = 546 := by
    have e : mg (Str.ofString "law") = some (.ref 546) := mg_of KX T.g (by kernel_rfl)
    rw [show mg (Str.ofString "law") = some (.ref fa) from hmg] at e
    cases e; rfl
  subst hfa
  refine kn_post hT9 (fun _ _ => rfl) (codeAny_mono (Mini.law_top (p := Challenge.rw_ac0010_01.row.prog) (kok _) KX hT9 T (T.seer (by decide +kernel)) g' hI' (by omega) hg) fun r s' z => ?_)
  obtain ⟨rfl, z1, z2, z3, z4⟩ := z
  refine ⟨⟨.inl ⟨_, .bool true, _, rfl, fun _ => rfl, .bool true, ?_, fun h => ⟨List.nodup_nil, fun _ h => nomatch h⟩⟩, z1, z2, z3⟩, z4⟩
  wrow_post

theorem PySem.Challenge.cw_ac0010_01_holds : PySem.Challenge.rw_ac0010_01.Holds :=
  Mini.top
