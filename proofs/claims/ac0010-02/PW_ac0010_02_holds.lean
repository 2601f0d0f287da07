import PyProof.Rows.All
import Wide.All
import OpenK.AllK
import Wide.FinOn
import PySem.Challenge.RW_ac0010_02
set_option Elab.async false
set_option genSizeOf false
set_option genSizeOfSpec false
set_option compiler.extract_closed false
set_option maxRecDepth 100000
set_option linter.all false
open PySem PySem.W PySem.Calls PyProof.Rows PySem.Spec
namespace Mini.Tactic
noncomputable def Zb.{u}:=@Option.some.inj.{u}
noncomputable def Zc.{u}:=@List.mem_cons_of_mem.{u}
noncomputable def Zd:=@Nat.le_of_eq
noncomputable def Ze.{u}:=@List.mem_cons_self.{u}
noncomputable def Zf:=@wpAny_bind
noncomputable def Zg:=@wpAny_mono
noncomputable def Zh:=@Nat.ne_of_lt
noncomputable def Zi:=@wpAny_pure
noncomputable def Zj:=@Nat.le_refl
noncomputable def Zk:=@Nat.le_trans
noncomputable def Zl:=@Heap.get?_push_of_some
noncomputable def Zm:=@Nat.le_of_not_lt
noncomputable def Zn:=@Nat.ne_of_gt
noncomputable def Zo:=@Nat.le_add_left
noncomputable def Zp:=@Nat.lt_of_lt_of_le
noncomputable def Zq:=@Heap.get?_push_size
noncomputable def Zr:=@Nat.lt_succ_self
noncomputable def Zs:=@Nat.lt_trans
noncomputable def Zt:=@Nat.le_of_ble_eq_true
noncomputable def Zu:=@Nat.sub_add_cancel
noncomputable def Zv:=@Nat.le_of_lt
noncomputable def Zw:=@Heap.SameBut.update
noncomputable def Zy:=@Heap.lt_size
noncomputable def Zz:=@Nat.le_succ
noncomputable def ZA:=@Nat.not_lt_zero
noncomputable def ZB:=@Nat.le_add_right
noncomputable def ZC.{u}:=@List.mem_of_getElem?.{u}
noncomputable def ZD:=@Nat.lt_of_le_of_lt
section
universe u
theorem Za{p1 q:Prop}{P:Prop}(h:p1/\q)(k:p1->q->P):P:=h.elim k
theorem Zx{b:Sort u}{q:b->Prop}{P:Prop}(h:∃a,q a)(k:∀a,q a->P):P:=h.elim k
theorem bM{p1 p2 q:Prop}{P:Prop}(h:p1/\p2/\q)(k:p1->p2->q->P):P:=Za h.2 (k h.1)
theorem ar{b:Sort u}{p1 q:b->Prop}{P:Prop}(h:∃a,p1 a/\q a)(k:∀a,p1 a->q a->P):P:=h.elim fun x h=>Za h (k x)
theorem jE{c d:Sort u}{q:c->d->Prop}{P:Prop}(h:∃a,∃b,q a b)(k:∀a,∀b,q a b->P):P:=h.elim fun x h=>Zx h (k x)
theorem gm{p1 p2 a q:Prop}{P:Prop}(h:p1/\p2/\a/\q)(k:p1->p2->a->q->P):P:=bM h.2 (k h.1)
theorem zq{b:Sort u}{p1:Prop}{p2 q:b->Prop}{P:Prop}(h:p1/\∃a,p2 a/\q a)(k:p1->∀a,p2 a->q a->P):P:=ar h.2 (k h.1)
theorem bz{b:Sort u}{p1 p2 q:b->Prop}{P:Prop}(h:∃a,p1 a/\p2 a/\q a)(k:∀a,p1 a->p2 a->q a->P):P:=h.elim fun x h=>bM h (k x)
theorem br{c d:Sort u}{p1 q:c->d->Prop}{P:Prop}(h:∃a,∃b,p1 a b/\q a b)(k:∀a,∀b,p1 a b->q a b->P):P:=h.elim fun x h=>ar h (k x)
theorem Bg{d e A3:Sort u}{q:d->e->A3->Prop}{P:Prop}(h:∃a,∃b,∃c,q a b c)(k:∀a,∀b,∀c,q a b c->P):P:=h.elim fun x h=>jE h (k x)
theorem je{p1 p2 a b q:Prop}{P:Prop}(h:p1/\p2/\a/\b/\q)(k:p1->p2->a->b->q->P):P:=gm h.2 (k h.1)
theorem oq{c:Sort u}{p1:Prop}{p2 b q:c->Prop}{P:Prop}(h:p1/\∃a,p2 a/\b a/\q a)(k:p1->∀a,p2 a->b a->q a->P):P:=bz h.2 (k h.1)
theorem eW{c:Sort u}{p1 p2 b q:c->Prop}{P:Prop}(h:∃a,p1 a/\p2 a/\b a/\q a)(k:∀a,p1 a->p2 a->b a->q a->P):P:=h.elim fun x h=>gm h (k x)
theorem Ap{c d:Sort u}{p1:c->Prop}{p2 q:c->d->Prop}{P:Prop}(h:∃a,p1 a/\∃b,p2 a b/\q a b)(k:∀a,p1 a->∀b,p2 a b->q a b->P):P:=h.elim fun x h=>zq h (k x)
theorem ci{c d:Sort u}{p1 p2 q:c->d->Prop}{P:Prop}(h:∃a,∃b,p1 a b/\p2 a b/\q a b)(k:∀a,∀b,p1 a b->p2 a b->q a b->P):P:=h.elim fun x h=>bz h (k x)
theorem dM{d e A3:Sort u}{p1 q:d->e->A3->Prop}{P:Prop}(h:∃a,∃b,∃c,p1 a b c/\q a b c)(k:∀a,∀b,∀c,p1 a b c->q a b c->P):P:=h.elim fun x h=>br h (k x)
theorem Ao{e f A3 A4:Sort u}{q:e->f->A3->A4->Prop}{P:Prop}(h:∃a,∃b,∃c,∃d,q a b c d)(k:∀a,∀b,∀c,∀d,q a b c d->P):P:=h.elim fun x h=>Bg h (k x)
theorem dc{p1 p2 a b c q:Prop}{P:Prop}(h:p1/\p2/\a/\b/\c/\q)(k:p1->p2->a->b->c->q->P):P:=je h.2 (k h.1)
theorem vl{d e:Sort u}{p1:Prop}{p2 c q:d->e->Prop}{P:Prop}(h:p1/\∃a,∃b,p2 a b/\c a b/\q a b)(k:p1->∀a,∀b,p2 a b->c a b->q a b->P):P:=ci h.2 (k h.1)
theorem rg{d:Sort u}{p1 p2 b c q:d->Prop}{P:Prop}(h:∃a,p1 a/\p2 a/\b a/\c a/\q a)(k:∀a,p1 a->p2 a->b a->c a->q a->P):P:=h.elim fun x h=>je h (k x)
theorem zP{d e:Sort u}{p1 p2 c q:d->e->Prop}{P:Prop}(h:∃a,∃b,p1 a b/\p2 a b/\c a b/\q a b)(k:∀a,∀b,p1 a b->p2 a b->c a b->q a b->P):P:=h.elim fun x h=>eW h (k x)
theorem oB{d e A3:Sort u}{p1:d->e->Prop}{p2 q:d->e->A3->Prop}{P:Prop}(h:∃a,∃b,p1 a b/\∃c,p2 a b c/\q a b c)(k:∀a,∀b,p1 a b->∀c,p2 a b c->q a b c->P):P:=h.elim fun x h=>Ap h (k x)
theorem eY{d e A3:Sort u}{p1 p2 q:d->e->A3->Prop}{P:Prop}(h:∃a,∃b,∃c,p1 a b c/\p2 a b c/\q a b c)(k:∀a,∀b,∀c,p1 a b c->p2 a b c->q a b c->P):P:=h.elim fun x h=>ci h (k x)
theorem dU{e f A3 A4:Sort u}{p1 q:e->f->A3->A4->Prop}{P:Prop}(h:∃a,∃b,∃c,∃d,p1 a b c d/\q a b c d)(k:∀a,∀b,∀c,∀d,p1 a b c d->q a b c d->P):P:=h.elim fun x h=>dM h (k x)
theorem zO{f g A3 A4 A5:Sort u}{q:f->g->A3->A4->A5->Prop}{P:Prop}(h:∃a,∃b,∃c,∃d,∃e,q a b c d e)(k:∀a,∀b,∀c,∀d,∀e,q a b c d e->P):P:=h.elim fun x h=>Ao h (k x)
theorem tq{p1 p2 a b c d q:Prop}{P:Prop}(h:p1/\p2/\a/\b/\c/\d/\q)(k:p1->p2->a->b->c->d->q->P):P:=dc h.2 (k h.1)
theorem yL{e:Sort u}{p1 p2 b c d q:e->Prop}{P:Prop}(h:∃a,p1 a/\p2 a/\b a/\c a/\d a/\q a)(k:∀a,p1 a->p2 a->b a->c a->d a->q a->P):P:=h.elim fun x h=>dc h (k x)
theorem yK{e f:Sort u}{p1 p2 c d q:e->f->Prop}{P:Prop}(h:∃a,∃b,p1 a b/\p2 a b/\c a b/\d a b/\q a b)(k:∀a,∀b,p1 a b->p2 a b->c a b->d a b->q a b->P):P:=h.elim fun x h=>rg h (k x)
theorem bW{e f A3:Sort u}{p1 p2 d q:e->f->A3->Prop}{P:Prop}(h:∃a,∃b,∃c,p1 a b c/\p2 a b c/\d a b c/\q a b c)(k:∀a,∀b,∀c,p1 a b c->p2 a b c->d a b c->q a b c->P):P:=h.elim fun x h=>zP h (k x)
theorem iw{e f A3 A4:Sort u}{p1 p2 q:e->f->A3->A4->Prop}{P:Prop}(h:∃a,∃b,∃c,∃d,p1 a b c d/\p2 a b c d/\q a b c d)(k:∀a,∀b,∀c,∀d,p1 a b c d->p2 a b c d->q a b c d->P):P:=h.elim fun x h=>eY h (k x)
theorem yJ{f g A3 A4 A5:Sort u}{p1 q:f->g->A3->A4->A5->Prop}{P:Prop}(h:∃a,∃b,∃c,∃d,∃e,p1 a b c d e/\q a b c d e)(k:∀a,∀b,∀c,∀d,∀e,p1 a b c d e->q a b c d e->P):P:=h.elim fun x h=>dU h (k x)
theorem yI{g i A3 A4 A5 A6:Sort u}{q:g->i->A3->A4->A5->A6->Prop}{P:Prop}(h:∃a,∃b,∃c,∃d,∃e,∃f,q a b c d e f)(k:∀a,∀b,∀c,∀d,∀e,∀f,q a b c d e f->P):P:=h.elim fun x h=>zO h (k x)
theorem rU{p1 p2 a b c d e q:Prop}{P:Prop}(h:p1/\p2/\a/\b/\c/\d/\e/\q)(k:p1->p2->a->b->c->d->e->q->P):P:=tq h.2 (k h.1)
theorem rT{f:Sort u}{p1 p2 b c d e q:f->Prop}{P:Prop}(h:∃a,p1 a/\p2 a/\b a/\c a/\d a/\e a/\q a)(k:∀a,p1 a->p2 a->b a->c a->d a->e a->q a->P):P:=h.elim fun x h=>tq h (k x)
theorem ip{f g:Sort u}{p1 p2 c d e q:f->g->Prop}{P:Prop}(h:∃a,∃b,p1 a b/\p2 a b/\c a b/\d a b/\e a b/\q a b)(k:∀a,∀b,p1 a b->p2 a b->c a b->d a b->e a b->q a b->P):P:=h.elim fun x h=>yL h (k x)
theorem io{f g A3:Sort u}{p1 p2 d e q:f->g->A3->Prop}{P:Prop}(h:∃a,∃b,∃c,p1 a b c/\p2 a b c/\d a b c/\e a b c/\q a b c)(k:∀a,∀b,∀c,p1 a b c->p2 a b c->d a b c->e a b c->q a b c->P):P:=h.elim fun x h=>yK h (k x)
theorem lU{g i A3 A4 A5 A6:Sort u}{p1 q:g->i->A3->A4->A5->A6->Prop}{P:Prop}(h:∃a,∃b,∃c,∃d,∃e,∃f,p1 a b c d e f/\q a b c d e f)(k:∀a,∀b,∀c,∀d,∀e,∀f,p1 a b c d e f->q a b c d e f->P):P:=h.elim fun x h=>yJ h (k x)
theorem xl{i j A3 A4 A5 A6 A7:Sort u}{q:i->j->A3->A4->A5->A6->A7->Prop}{P:Prop}(h:∃a,∃b,∃c,∃d,∃e,∃f,∃g,q a b c d e f g)(k:∀a,∀b,∀c,∀d,∀e,∀f,∀g,q a b c d e f g->P):P:=h.elim fun x h=>yI h (k x)
theorem vO{p1 p2 a b c d e f q:Prop}{P:Prop}(h:p1/\p2/\a/\b/\c/\d/\e/\f/\q)(k:p1->p2->a->b->c->d->e->f->q->P):P:=rU h.2 (k h.1)
theorem mK{g:Sort u}{p1 p2 b c d e f q:g->Prop}{P:Prop}(h:∃a,p1 a/\p2 a/\b a/\c a/\d a/\e a/\f a/\q a)(k:∀a,p1 a->p2 a->b a->c a->d a->e a->f a->q a->P):P:=h.elim fun x h=>rU h (k x)
theorem fL{g i A3:Sort u}{p1 p2 d e f q:g->i->A3->Prop}{P:Prop}(h:∃a,∃b,∃c,p1 a b c/\p2 a b c/\d a b c/\e a b c/\f a b c/\q a b c)(k:∀a,∀b,∀c,p1 a b c->p2 a b c->d a b c->e a b c->f a b c->q a b c->P):P:=h.elim fun x h=>ip h (k x)
theorem mJ{i j A3 A4 A5 A6 A7:Sort u}{p1 q:i->j->A3->A4->A5->A6->A7->Prop}{P:Prop}(h:∃a,∃b,∃c,∃d,∃e,∃f,∃g,p1 a b c d e f g/\q a b c d e f g)(k:∀a,∀b,∀c,∀d,∀e,∀f,∀g,p1 a b c d e f g->q a b c d e f g->P):P:=h.elim fun x h=>lU h (k x)
theorem qm{j l A3 A4 A5 A6 A7 A8:Sort u}{q:j->l->A3->A4->A5->A6->A7->A8->Prop}{P:Prop}(h:∃a,∃b,∃c,∃d,∃e,∃f,∃g,∃i,q a b c d e f g i)(k:∀a,∀b,∀c,∀d,∀e,∀f,∀g,∀i,q a b c d e f g i->P):P:=h.elim fun x h=>xl h (k x)
theorem ff{i:Sort u}{p1 p2 b c d e f g q:i->Prop}{P:Prop}(h:∃a,p1 a/\p2 a/\b a/\c a/\d a/\e a/\f a/\g a/\q a)(k:∀a,p1 a->p2 a->b a->c a->d a->e a->f a->g a->q a->P):P:=h.elim fun x h=>vO h (k x)
theorem uF{i j:Sort u}{p1 p2 c d e f g q:i->j->Prop}{P:Prop}(h:∃a,∃b,p1 a b/\p2 a b/\c a b/\d a b/\e a b/\f a b/\g a b/\q a b)(k:∀a,∀b,p1 a b->p2 a b->c a b->d a b->e a b->f a b->g a b->q a b->P):P:=h.elim fun x h=>mK h (k x)
theorem sF{j l A3:Sort u}{p1 p2 d e f g i q:j->l->A3->Prop}{P:Prop}(h:∃a,∃b,∃c,p1 a b c/\p2 a b c/\d a b c/\e a b c/\f a b c/\g a b c/\i a b c/\q a b c)(k:∀a,∀b,∀c,p1 a b c->p2 a b c->d a b c->e a b c->f a b c->g a b c->i a b c->q a b c->P):P:=h.elim fun x h=>uF h (k x)
theorem iQ{l m A3 A4:Sort u}{p1 p2 e f g i j q:l->m->A3->A4->Prop}{P:Prop}(h:∃a,∃b,∃c,∃d,p1 a b c d/\p2 a b c d/\e a b c d/\f a b c d/\g a b c d/\i a b c d/\j a b c d/\q a b c d)(k:∀a,∀b,∀c,∀d,p1 a b c d->p2 a b c d->e a b c d->f a b c d->g a b c d->i a b c d->j a b c d->q a b c d->P):P:=h.elim fun x h=>sF h (k x)
theorem av{a b:Nat}(c d x y:Nat)(h:a+c<=b+d)(e:Nat.ble (x+d) (c+y)=true):a+x<=b+y:=by
 have:=Zt e;omega
theorem bR{a b z:Nat}(c d f g x y:Nat)(h:a+c<=z+d)(i:z+f<=b+g)(e:Nat.ble (x+d+g) (c+f+y)=true):a+x<=b+y:=by
 have:=Zt e;omega
theorem y9{a:Nat}(c d:Nat)(h:a+c<=a+d)(e:Nat.ble c d=false):False:=by
 have:¬ c<=d:=fun q=>by rw[Nat.ble_eq_true_of_le q] at e;cases e
 omega
theorem xK{a z:Nat}(c d b f:Nat)(h:a+c<=z+d)(g:z+b<=a+f)(e:Nat.ble (c+b) (d+f)=false):False:=by
 refine y9 (a:=a+z) (c+b) (d+f) (by omega) e
theorem NA{a l n:Nat}(h:a+(l+1)<n):a+1+l<n:=by omega
theorem za{a l n:Nat}(h:a+(l+1)<=n):a+1+l<=n:=by omega
theorem NB{a l n m:Nat}(h:a+l<n)(e:Nat.ble n m=true):a<m:=by have:=Zt e;omega
theorem NC{a l n k x:Nat}(h:a+k*(l+1)<n)(e:Nat.ble x k=true):a+x+k*l<n:=by have:=Zt e;rw[Nat.mul_add] at h;omega
theorem AJ{a l n k m:Nat}(g:m<=l)(h:a+k*l<n):a+k*m<n:=by have:=Nat.mul_le_mul_left k g;omega
theorem ND{a b x y z:Nat}(h:a<=x)(g:b<y)(e:Nat.ble (x+y) z=true):b+a<z:=by have:=Zt e;omega
theorem xL{a b x y z:Nat}(h:a<=x)(g:b<=y)(e:Nat.ble (x+y) z=true):a+b<=z:=by have:=Zt e;omega
theorem pR{a n:Nat}(h:a<=n):(↑a:Int)<=↑n:=Int.ofNat_le.mpr h
theorem NJ{a n m:Nat}(h:a<=n)(e:Nat.ble n m=true):(↑a:Int)<=Int.ofNat m:=Int.ofNat_le.mpr (Zk h (Zt e))
theorem y'{a n m:Nat}(h:a<=n)(e:Nat.ble (n+1) m=true):(↑a:Int)<Int.ofNat m:=Int.ofNat_lt.mpr (ZD h (Zt e))
theorem aQ{a:Type u}{x:a}{P:Prop}(h:none=some x):P:=by cases h
theorem jF{a:Type u}{x:a}{P:Prop}(h:some x=none):P:=by cases h
theorem gY{a:Type u}{x:a}{P:Prop}(h:x∈[]):P:=by cases h
theorem xJ{a b:Nat}(h:Nat.ble (a+1) b=true):a<b:=Zt h
theorem bX{a b:Nat}(h:Nat.ble a b=true):a<=b:=Zt h
theorem NS{a i k:Nat}(h:a - i=k+1):a - (i+1)=k:=by rw[Nat.sub_add_eq,h,Nat.add_sub_cancel]
theorem NT{a b i x n:Nat}(h:a+(b - i)<=n)(c:i<b)(d:x<=a+1):x+(b - (i+1))<=n:=by
 have e:b - (i+1)+1=b - i:=by rw[Nat.sub_add_eq];exact Zu (Nat.sub_pos_of_lt c)
 rw[<-e] at h;exact Zk (Nat.add_le_add_right d _) (za h)
theorem Aw{n:Int}(h:0<=n):-2 ^ 62<=n:=by omega
theorem Av{n:Int}(h:n<=100000):n<2 ^ 62:=by omega
theorem yW{a n:Nat}{i:Int}(h:i.toNat<a)(g:a<=n)(e:Nat.ble n 9223372036854775807=true):i<2 ^ 63:=by have:=Zt e;omega
theorem qO{P:Prop}(h:true=false):P:=by cases h
theorem jU{P:Prop}(h:false=true):P:=by cases h
theorem gd{a b i j:Nat}(h:Nat.beq a b=false:=by rfl):((a,i):Nat×Nat)≠(b,j):=fun e=>Nat.ne_of_beq_eq_false h (Prod.mk.inj e).1
theorem jd{a b i j:Nat}(h:Nat.beq i j=false:=by rfl):((a,i):Nat×Nat)≠(b,j):=fun e=>Nat.ne_of_beq_eq_false h (Prod.mk.inj e).2
universe u0 u1 u2 u3 u4 u5 u6 u7
theorem E2{c:Sort u0}{d:Sort u1}{p:c->d->Prop}(a:c)(b:d)(h:p a b):∃a b,p a b:=⟨a,b,h⟩
theorem E3{d:Sort u0}{e:Sort u1}{f:Sort u2}{p:d->e->f->Prop}(a:d)(b:e)(c:f)(h:p a b c):∃a b c,p a b c:=⟨a,b,c,h⟩
theorem E4{e:Sort u0}{f:Sort u1}{g:Sort u2}{i:Sort u3}{p:e->f->g->i->Prop}(a:e)(b:f)(c:g)(d:i)(h:p a b c d):∃a b c d,p a b c d:=⟨a,b,c,d,h⟩
theorem E5{f:Sort u0}{g:Sort u1}{i:Sort u2}{j:Sort u3}{k:Sort u4}{p:f->g->i->j->k->Prop}(a:f)(b:g)(c:i)(d:j)(e:k)(h:p a b c d e):∃a b c d e,p a b c d e:=⟨a,b,c,d,e,h⟩
theorem E6{g:Sort u0}{i:Sort u1}{j:Sort u2}{k:Sort u3}{l:Sort u4}{m:Sort u5}{p:g->i->j->k->l->m->Prop}(a:g)(b:i)(c:j)(d:k)(e:l)(f:m)(h:p a b c d e f):∃a b c d e f,p a b c d e f:=⟨a,b,c,d,e,f,h⟩
theorem E7{i:Sort u0}{j:Sort u1}{k:Sort u2}{l:Sort u3}{m:Sort u4}{n:Sort u5}{o:Sort u6}{p:i->j->k->l->m->n->o->Prop}(a:i)(b:j)(c:k)(d:l)(e:m)(f:n)(g:o)(h:p a b c d e f g):∃a b c d e f g,p a b c d e f g:=⟨a,b,c,d,e,f,g,h⟩
theorem E8{j:Sort u0}{k:Sort u1}{l:Sort u2}{m:Sort u3}{n:Sort u4}{o:Sort u5}{q:Sort u6}{r:Sort u7}{p:j->k->l->m->n->o->q->r->Prop}(a:j)(b:k)(c:l)(d:m)(e:n)(f:o)(g:q)(i:r)(h:p a b c d e f g i):∃a b c d e f g i,p a b c d e f g i:=⟨a,b,c,d,e,f,g,i,h⟩
theorem A3{A B C:Prop}(a:A)(b:B)(c:C):A/\B/\C:=⟨a,b,c⟩
theorem A4{A B C D:Prop}(a:A)(b:B)(c:C)(d:D):A/\B/\C/\D:=⟨a,b,c,d⟩
theorem A5{A B C D E:Prop}(a:A)(b:B)(c:C)(d:D)(e:E):A/\B/\C/\D/\E:=⟨a,b,c,d,e⟩
theorem A6{A B C D E F:Prop}(a:A)(b:B)(c:C)(d:D)(e:E)(f:F):A/\B/\C/\D/\E/\F:=⟨a,b,c,d,e,f⟩
theorem A7{A B C D E F G:Prop}(a:A)(b:B)(c:C)(d:D)(e:E)(f:F)(g:G):A/\B/\C/\D/\E/\F/\G:=⟨a,b,c,d,e,f,g⟩
theorem A8{A B C D E F G I:Prop}(a:A)(b:B)(c:C)(d:D)(e:E)(f:F)(g:G)(i:I):A/\B/\C/\D/\E/\F/\G/\I:=⟨a,b,c,d,e,f,g,i⟩
theorem A9{A B C D E F G I J:Prop}(a:A)(b:B)(c:C)(d:D)(e:E)(f:F)(g:G)(i:I)(j:J):A/\B/\C/\D/\E/\F/\G/\I/\J:=⟨a,b,c,d,e,f,g,i,j⟩
theorem gq{a b e f:Nat}(h0:a<=b)(w:e+b<=f+a:=by simp +arith):e<=f:=(Nat.le_of_add_le_add_right (Zk w (Nat.add_le_add_left h0 _)))
theorem nA{a b e f:Nat}(h0:a<=b)(w:e+1+b<=f+a:=by simp +arith):e<f:=gq h0 w
theorem AL{a b:Nat}(h0:a<=b)(w:1+b<=0+a:=by simp +arith):False:=ZA 0 (gq h0 w)
theorem iG{a c b d e f:Nat}(h0:a<=b)(g:c<=d)(w:e+b+d<=f+a+c:=by simp +arith):e<=f:=gq h0 (Nat.le_of_add_le_add_right (Zk w (Nat.add_le_add_left g _)))
theorem uV{a c b d e f:Nat}(h0:a<=b)(g:c<=d)(w:e+1+b+d<=f+a+c:=by simp +arith):e<f:=iG h0 g w
theorem Bx{a c b d:Nat}(h0:a<=b)(e:c<=d)(w:1+b+d<=0+a+c:=by simp +arith):False:=ZA 0 (iG h0 e w)
theorem kQ{a c x b d y e f:Nat}(h0:a<=b)(g:c<=d)(h:x<=y)(w:e+b+d+y<=f+a+c+x:=by simp +arith):e<=f:=iG h0 g (Nat.le_of_add_le_add_right (Zk w (Nat.add_le_add_left h _)))
theorem xN{a c x b d y e f:Nat}(h0:a<=b)(g:c<=d)(h:x<=y)(w:e+1+b+d+y<=f+a+c+x:=by simp +arith):e<f:=kQ h0 g h w
theorem Bw{a c x b d y:Nat}(h0:a<=b)(e:c<=d)(f:x<=y)(w:1+b+d+y<=0+a+c+x:=by simp +arith):False:=ZA 0 (kQ h0 e f w)
theorem mo{a c x u b d y v e f:Nat}(h0:a<=b)(g:c<=d)(h:x<=y)(i:u<=v)(w:e+b+d+y+v<=f+a+c+x+u:=by simp +arith):e<=f:=kQ h0 g h (Nat.le_of_add_le_add_right (Zk w (Nat.add_le_add_left i _)))
theorem xM{a c x u b d y v e f:Nat}(h0:a<=b)(g:c<=d)(h:x<=y)(i:u<=v)(w:e+1+b+d+y+v<=f+a+c+x+u:=by simp +arith):e<f:=mo h0 g h i w
theorem Bv{a c x u b d y v:Nat}(h0:a<=b)(e:c<=d)(f:x<=y)(g:u<=v)(w:1+b+d+y+v<=0+a+c+x+u:=by simp +arith):False:=ZA 0 (mo h0 e f g w)
theorem zf{a c x u q b d y v r e f:Nat}(h0:a<=b)(g:c<=d)(h:x<=y)(i:u<=v)(j:q<=r)(w:e+b+d+y+v+r<=f+a+c+x+u+q:=by simp +arith):e<=f:=mo h0 g h i (Nat.le_of_add_le_add_right (Zk w (Nat.add_le_add_left j _)))
theorem AK{a c x u q b d y v r e f:Nat}(h0:a<=b)(g:c<=d)(h:x<=y)(i:u<=v)(j:q<=r)(w:e+1+b+d+y+v+r<=f+a+c+x+u+q:=by simp +arith):e<f:=zf h0 g h i j w
theorem Bu{a c x u q b d y v r:Nat}(h0:a<=b)(e:c<=d)(f:x<=y)(g:u<=v)(h:q<=r)(w:1+b+d+y+v+r<=0+a+c+x+u+q:=by simp +arith):False:=ZA 0 (zf h0 e f g h w)
theorem sL{e f:Nat}(w:e<=f:=by simp +arith):e<=f:=w
theorem xO{e f:Nat}(w:e<f:=by simp +arith):e<f:=w
end
section
theorem wA{a:Type}{M:Model}{A B:Around}{m:Sem a}{Q:a->Shared->Prop}{E:Value->Shared->Prop}{s:Shared}(h:A=B)(k:wpAny M B m Q E s):wpAny M A m Q E s:=h▸k
noncomputable def nmTab:List (List (Option String)):=[
 [none,none,none,none,none,none,none,none,none,none,none,none,none,none,none,none],
 [none,none,none,none,some "",some "reached",some "first",some "second",some "asked",some "ended",some "given",none,none,none,some "well",some "up-to-date"],
 [some "failure",some "late",some "ignore",some "successful",some "run",none,none,none,some "hold on",some "end",some "task",some "wait",some "=",some "*",some "made_",none],
 [none,none,some "task_dep",some "file_dep",some "calc_dep",some "uptodate",none,none,none,none,none,none,some "__init__",some "self",some "name",some "actions"],
 [some "targets",some "setup",some "subtask_of",some "has_subtask",some "getargs",some "options",some "setup_tasks",some "value_savers",some "result",some "values",some "executed",some "list",some "_init_deps",some "_init_uptodate",some "_init_targets",some "InvalidTask"],
 [some "extend",some "Task '",some "_init_getargs",some "dep_changed",some "wild_dep",some "_expand_file_dep",some "_expand_task_dep",some "_expand_calc_dep",some "items",some "target",some "isinstance",some "str",some "append",some "item",some "result_dep",some "configure_task"],
 [some "bool",some "dep",some "update_deps",some "deps",some "dep_values",some "_extend_uptodate",some "init_options",some "args",some "task_list",some "tasks",some "_def_order",some "selected_tasks",some "pattern",some "_check_dep_names",some "set_implicit_deps",some "msg"],
 [some "Task",some "InvalidDodoFile",some "_get_wild_tasks",some "setup_task",some "'.",some "staticmethod",some "add_implicit_task_dep",some "TaskControl",some "deps_list",some "_process_filter",some "add_filtered_task",some "task_selection",some "filter_list",some "seq",some "f_name",some "the_task"],
 [some "pop",some "task_name",some "_filter_tasks",some "selected_task",some "filter_",some "InvalidCommand",some "process",some "task_dispatcher",some "TaskDispatcher",some "parent",some "ancestors",some "wait_select",some "wait_run",some "wait_run_calc",some "waiting_me",some "run_status"],
 [some "bad_deps",some "ignored_deps",some "phase",some "set",some "parent_status",some "parent_node",some "nodes",some "waiting",some "ready",some "tasks_to_run",some "node",some "reversed",some "_gen_node",some "get",some "cycle",some "ExecNode"],
 [some "join",some " -> ",some "_add_ready",some "new_node",some "_node_add_wait_run",some "calc",some "wait_for",some "dep_node",some "update",some "_process_calc_dep_results",some "_add_task",some "this_task",some "calc_dep_list",some "task_dep_list",some "_get_next_node",some "_update_waiting"],
 [some "processed",some "waiting_node",some "is_ready",some "remove",some "len_task_deps",some "old_calc_dep",some "new_task_dep",some "new_calc_dep",some "len",some "send",some "next_step",some "HoldOn",some "_law_kinds",some "_law_row",some "number",some "k"],
 [some "needs",some "setups",some "j",some "range",some "_law_is_run",some "row",some "_law_reach",some "rows",some "states",some "wanted",some "_law_free",some "found",some "_law_waits",some "_law_given",some "dispatcher",some "_law_ends"],
 [some "kind",some "_law_told_right",some "failed",some "ignored",some "_law_names",some "sorted",some "one",some "_law_dispatcher",some "begin",some "chosen",some "turn",some "control",some "law",some "script",some "moves",some "hands"],
 [some "held",some "idle",some "move",some "free",some "word",some "index",some "enumerate",some "_law_calculates",some "calcs",some "told",some "rest",some "_law_all",some "files",some "todo",some "_law_values",some "_law_named"]]
noncomputable def dO:Nat->List Nat
 |0=>[62,69,70,63,68,71,53,64,66,67,72,73,74,83,51,50,84,52]
 |1=>[105,64,106,107]
 |2=>[42,50,52,138,139,140,141,142,143,144,145,146]
 |3=>[105,64,107,150,151,152,153,154]
 |_=>[]
noncomputable def gN:Nat->List Nat
 |0=>[60,76,78,77,85,86,87,98,102]
 |1=>[60,109,121,130,134,135]
 |2=>[60,148]
 |3=>[60,156,162,164,170,174,175,169,185]
 |_=>[]
noncomputable def nm(n:Nat):Option Str:=((nmTab[n / 16]?).bind fun r=>(r[n % 16]?).join).map Str.ofString
noncomputable def ny(n:Nat):Option Str:=match ((["a","b","x","c","y","d","e","z","made_a","made_b","made_x","made_c","made_y","made_d","made_e","made_z"]:List String)[n]?) with
 |some x=>some (Str.ofString x)
 |none=>nm n
noncomputable def S0(n:Nat):Str:=match ny n with
 |some x=>x
 |none=>⟨(List.replicate (n+1000) 0).toArray⟩
theorem z7{n:Nat}(h:256<=n):nm n=none:=by
 delta nm;have a:nmTab.length<=16:=by decide
 have:nmTab[n / 16]?=none:=List.getElem?_eq_none (by omega);refine this▸?_;rfl
theorem z6:∀n,n<16->nm n=none:=by decide +kernel
theorem va{n:Nat}(h:16<=n):ny n=nm n:=by
 delta ny;rw[List.getElem?_eq_none (by show 16<=n;omega)]
theorem q9{n:Nat}{x:Str}(e:ny n=some x):n<256:=by
 cases Nat.lt_or_ge n 256 with
 |inl h=>exact h
 |inr h=>rw[va (Zk (Zo _ _) h),z7 h] at e;exact aQ e
noncomputable def key(x:Str):Nat:=x.cps.toList.foldl (fun a c=>a*1114113+c+1) 0
noncomputable def kk(n:Nat):Nat:=match ny n with
 |some x=>2*key x
 |none=>2*n+1
theorem wV:((List.range 256).map kk).Nodup:=by decide +kernel
theorem zG{i j:Nat}(a:i<256)(b:j<256)(e:kk i=kk j):i=j:=by
 have h:=wV;rw[List.Nodup,List.pairwise_map,List.pairwise_iff_getElem] at h;simp only[List.getElem_range,List.length_range] at h;rcases Nat.lt_trichotomy i j with q|q|q;·exact absurd e (h i j a b q)
 ·exact q
 ·exact absurd e.symm (h j i b a q)
theorem vy:((List.range 256).all fun n=>match ny n with
 |some x=>decide (x.cps.size<1000)
 |none=>true)=true:=by decide +kernel
theorem rF{n:Nat}{x:Str}(e:ny n=some x):x.cps.size<1000:=by
 have h:=List.all_eq_true.mp vy n (List.mem_range.mpr (q9 e));rw[e,decide_eq_true_eq] at h;exact h
theorem zQ(i j:Nat)(e:S0 i=S0 j):i=j:=by
 delta S0 at e;cases b:ny i with
 |some x=>
  have l1:=rF b;cases a:ny j with
  |some y=>
   rw[b,a] at e;refine zG (q9 b) (q9 a) ?_;delta kk;rw[b,a,show x=y from e]
  |none=>
   replace e:=a▸b▸e;rw[show x=_ from e] at l1;simp at l1;exact False.elim (AL l1)
 |none=>
  cases a:ny j with
  |some y=>
   have l1:=rF a;rw[b,a] at e;rw[show y=_ from e.symm] at l1;simp at l1;exact False.elim (AL l1)
  |none=>
   replace e:=a▸b▸e;have:=congrArg (fun x:Str=>x.cps.size) e;simpa using this
theorem Aq(n:Nat)(x:Str)(e:nm n=some x):S0 n=x:=by
 have a:16<=n:=Zm fun q=>by rw[z6 n q] at e;exact aQ e
 delta S0;rw[va a,e]
noncomputable def iV:Nat->Addr
 |0=>223|1=>368|2=>396|_=>474
noncomputable def fnL':List (Nat×Addr):=[(1060,137),(1076,144),(1078,151),(1077,158),(1085,165),(1086,172),(1087,179),(1101,186),(1098,193),(1102,201),(1082,206),(2060,303),(2109,310),(2110,317),(2118,327),(2114,337),(2121,344),(2130,351),(2134,358),(2135,365),(3060,386),(3148,393),(4060,414),(4156,421),(4162,428),(4164,436),(4170,443),(4174,450),(4175,457),(4169,464),(4185,471)]
noncomputable def d6(n:Nat):Addr:=(fnL'.lookup n).getD 0
abbrev aq:=Nat×Nat
inductive MV where
 |none
 |bool (b:Bool)
 |int (i:Int)
 |str (n:Nat)
 |tag (t:aq)
 |lst (xs:List MV)
 |tup (xs:List MV)
 |rng (n:Int)
 |view (b:Bool)(t:aq)
 |raw (v:Value)
inductive MObj where
 |inst (C:Nat)(es:List (Nat×MV))
 |list (xs:List MV)
 |dict (es:List (Nat×MV))(eo:Option Obj:=none)
 |set (xs:List Nat)
 |obj (o:Obj)(at_:Addr)
set_option genInjectivity false in
structure Wd where
 ρ:aq->Option Addr
 own:Addr->Option aq
 F:Addr->Option Obj
structure Wd.le(W W':Wd):Prop where
 ρ:∀t a,W.ρ t=some a->W'.ρ t=some a
 own:∀a t,W.own a=some t->W'.own a=some t
 F:∀a o,W.F a=some o->W'.F a=some o
theorem Wd.le.refl(W:Wd):W.le W:=⟨fun _ _ e=>e,fun _ _ e=>e,fun _ _ e=>e⟩
theorem Wd.le.trans{W b a:Wd}(x:W.le b)(y:b.le a):W.le a:=
 ⟨fun _ _ e=>y.ρ _ _ (x.ρ _ _ e),fun _ _ e=>y.own _ _ (x.own _ _ e),fun _ _ e=>y.F _ _ (x.F _ _ e)⟩
noncomputable abbrev bg(vs:List Value)(n:Nat):Obj:={ cls:=.type "list",data:=.seq vs.toArray n }
noncomputable abbrev fG(vs:List Value)(n:Nat):Obj:={ cls:=.type "tuple",data:=.seq vs.toArray n }
inductive All2{α β:Type}(R:α->β->Prop):List α->List β->Prop
 |nil:All2 R [] []
 |cons {v:α}{x:β}{vs:List α}{xs:List β}(h:R v x)(hs:All2 R vs xs):All2 R (v::vs) (x::xs)
inductive VR(S:Nat->Str)(W:Wd):Value->MV->Prop
 |none:VR S W .none .none
 |bool (b:Bool):VR S W (.bool b) (.bool b)
 |int (i:Int)(tk:Tok):VR S W (.int i tk) (.int i)
 |str (n:Nat)(tk:Tok):VR S W (.str (S n) tk) (.str n)
 |tag {t:aq}{a:Addr}(h:W.ρ t=some a):VR S W (.ref a) (.tag t)
 |lst {a:Addr}{vs:List Value}{xs:List MV}{n:Nat}(h:W.F a=some (bg vs n))(hv:All2 (VR S W) vs xs)(hl:xs.length<=100000):VR S W (.ref a) (.lst xs)
 |tup {a:Addr}{vs:List Value}{xs:List MV}{n:Nat}(h:W.F a=some (fG vs n))(hv:All2 (VR S W) vs xs)(hl:xs.length<=100000):VR S W (.ref a) (.tup xs)
 |rng {a:Addr}{n:Int}{t u v:Tok}(h:W.F a=some { cls:=.type "range",data:=.fields #[.int 0 t,.int n u,.int 1 v] }):VR S W (.ref a) (.rng n)
 |view {a d:Addr}{b:Bool}{t:aq}(h:W.F a=some { cls:=.type (if b then "dict_items" else "dict_values"),data:=.fields #[.ref d] })(hd:W.ρ t=some d):VR S W (.ref a) (.view b t)
 |raw (v:Value):VR S W v (.raw v)
abbrev VRs(S:Nat->Str)(W:Wd):List Value->List MV->Prop:=All2 (VR S W)
theorem VR.mono{S:Nat->Str}{W a:Wd}(le:W.le a){v:Value}{x:MV}(h:VR S W v x):VR S a v x:=
 VR.rec (motive_1:=fun v x _=>VR S a v x) (motive_2:=fun vs xs _=>All2 (VR S a) vs xs) .none .bool .int .str (fun h=>.tag (le.ρ _ _ h)) (fun h _ b c=>.lst (le.F _ _ h) c b) (fun h _ b c=>.tup (le.F _ _ h) c b) (fun h=>.rng (le.F _ _ h)) (fun h hd=>.view (le.F _ _ h) (le.ρ _ _ hd)) .raw .nil (fun _ _ h d=>.cons h d) h
section
variable {d f:Type}{R:d->f->Prop}{vs vs':List d}{xs c:List f}
theorem All2.imp{e:d->f->Prop}(k:∀{a b},R a b->e a b)(h:All2 R vs xs):All2 e vs xs:=by
 induction h with
 |nil=>exact .nil
 |cons h _ g=>exact .cons (k h) g
theorem All2.length(h:All2 R vs xs):vs.length=xs.length:=by
 induction h with
 |nil=>rfl
 |cons _ _ a=>exact congrArg Nat.succ a
theorem All2.append(h:All2 R vs xs)(h':All2 R vs' c):All2 R (vs++vs') (xs++c):=by
 induction h with
 |nil=>exact h'
 |cons h _ a=>exact .cons h a
theorem All2.get(h:All2 R vs xs):∀{i:Nat}{x:f},xs[i]?=some x->∃v,vs[i]?=some v/\R v x:=by
 induction h with
 |nil=>intro i x e;exact aQ e
 |cons h _ a=>
  intro i x e;induction i with
  |zero=>obtain rfl:=Zb e;exact⟨_,rfl,h⟩
  |succ i=>exact a e
theorem All2.flip(h:All2 R vs xs):All2 (fun b a=>R a b) xs vs:=by
 induction h with
 |nil=>exact .nil
 |cons h _ e=>exact .cons h e
theorem All2.getV(h:All2 R vs xs){i:Nat}{v:d}(e:vs[i]?=some v):∃x,xs[i]?=some x/\R v x:=h.flip.get e
theorem All2.set{v:d}{x:f}(r:R v x)(h:All2 R vs xs):∀i,All2 R (vs.set i v) (xs.set i x):=by
 induction h with
 |nil=>exact fun _=>.nil
 |cons h a b=>exact fun i=>match i with
  |0=>.cons r a
  |i+1=>.cons h (b i)
theorem All2.eraseIdx(h:All2 R vs xs):∀i,All2 R (vs.eraseIdx i) (xs.eraseIdx i):=by
 induction h with
 |nil=>exact fun _=>.nil
 |cons h a b=>exact fun i=>match i with
  |0=>a
  |i+1=>.cons h (b i)
theorem All2.drop(h:All2 R vs xs):∀i,All2 R (vs.drop i) (xs.drop i):=by
 induction h with
 |nil=>intro i;refine List.drop_nil.symm▸List.drop_nil.symm▸?_;exact .nil
 |cons h a b=>exact fun i=>match i with
  |0=>.cons h a
  |i+1=>b i
theorem All2.take(h:All2 R vs xs):∀i,All2 R (vs.take i) (xs.take i):=by
 induction h with
 |nil=>intro i;refine List.take_nil.symm▸List.take_nil.symm▸?_;exact .nil
 |cons h b a=>exact fun i=>match i with
  |0=>.nil
  |i+1=>.cons h (a i)
theorem All2.rev(h:All2 R vs xs):All2 R vs.reverse xs.reverse:=by
 induction h with
 |nil=>exact .nil
 |cons h b a=>rw[List.reverse_cons,List.reverse_cons];exact a.append (.cons h .nil)
end
theorem VRs.mono{S:Nat->Str}{W a:Wd}(le:W.le a){vs:List Value}{xs:List MV}(h:VRs S W vs xs):VRs S a vs xs:=h.imp fun h=>h.mono le
inductive KVR(S:Nat->Str)(W:Wd):List (Str×Value)->List (Nat×MV)->Prop
 |nil:KVR S W [] []
 |cons {n:Nat}{v:Value}{x:MV}{kvs:List (Str×Value)}{es:List (Nat×MV)}(h:VR S W v x)(hs:KVR S W kvs es):KVR S W ((S n,v)::kvs) ((n,x)::es)
theorem KVR.mono{S:Nat->Str}{W a:Wd}(le:W.le a){kvs:List (Str×Value)}{es:List (Nat×MV)}(h:KVR S W kvs es):KVR S a kvs es:=by
 induction h with
 |nil=>exact .nil
 |cons h _ b=>exact .cons (h.mono le) b
theorem KVR.length{S:Nat->Str}{W:Wd}{kvs:List (Str×Value)}{es:List (Nat×MV)}(h:KVR S W kvs es):kvs.length=es.length:=by
 induction h with
 |nil=>rfl
 |cons _ _ a=>exact congrArg Nat.succ a
noncomputable def pD(K:Frag)(C:Addr):Bool:=
 (clsIn K C).any (·.hasDict)&&findIn K (.ref C) "__getattribute__" == some (some (.builtin "object.__getattribute__"))&&findIn K (.ref C) "__setattr__" == some (some (.builtin "object.__setattr__"))&&
 findIn K (.ref C) "__getattr__" == some none&&findIn K (.ref C) "__bool__" == some none&&findIn K (.ref C) "__len__" == some none&&plainOver K C&&makesIn K C
noncomputable def j9(K:Frag)(C f:Addr)(n:Str):Bool:=findIn K (.ref C) n == some (some (.ref f))&&fnIn K f&&typeIn K (.ref f) == some (.type "function")
set_option genInjectivity false in
structure Cx where
 prog:Program
 w:World
 K:Frag
 B:Heap
 mg:Str->Option Value
 mb:Str->Option Value
 os:OsState
 X:K.In B
 G:B.Ns mainGlobals mg
 Bn:B.Ns builtinsNs mb
 lim:B.NoLimit
 bi:∀x:Str,x≠"__name__"->mb x=bootBuiltins x
 sm:∃o,B.get? sysModules=some o
 hcls:∀C,C<4->pD K (iV C)=true
 hattr:∀C n,n∈dO C->findIn K (.ref (iV C)) (S0 n)=some none
 hmeth:∀C n,n∈gN C->j9 K (iV C) (d6 ((C+1)*1000+n)) (S0 n)=true
noncomputable abbrev Cx.S(_:Cx):Nat->Str:=S0
noncomputable abbrev Cx.cls(_:Cx):Nat->Addr:=iV
noncomputable abbrev Cx.fn(_:Cx):Nat->Addr:=d6
theorem Cx.inj(c:Cx):∀i j,c.S i=c.S j->i=j:=zQ
theorem Cx.hS(c:Cx):∀n x,nm n=some x->c.S n=x:=Aq
noncomputable abbrev Cx.M(c:Cx):Model:=model c.prog c.w
noncomputable abbrev Cx.knd(c:Cx):KeyKind c.prog c.w Str:=strKind c.prog c.w
def OR(c:Cx)(W:Wd)(t:aq)(o:MObj)(h:Heap):Prop:=match o with
 |.inst C es=>∃a d kvs,W.ρ t=some a/\W.own a=some t/\W.own d=some t/\h.get? a=some (instObj (c.cls C) d)/\h.DictOf c.knd d kvs/\KVR c.S W kvs es/\C<4/\es.length<=1000
 |.list xs=>∃a vs n,W.ρ t=some a/\W.own a=some t/\h.get? a=some (bg vs n)/\VRs c.S W vs xs/\xs.length<=100000
 |.dict es eo=>∃a kvs,W.ρ t=some a/\W.own a=some t/\h.DictOf c.knd a kvs/\KVR c.S W kvs es/\es.length<=100000/\∀o,eo=some o->h.get? a=some o
 |.set xs=>∃a,W.ρ t=some a/\W.own a=some t/\h.SetOf c.knd a (fun k=>xs.any fun n=>decide (c.S n=k)) xs.length/\xs.length<=1000
 |.obj o a=>W.ρ t=some a/\W.own a=some t/\h.get? a=some o
theorem OR.frame{c:Cx}{W s:Wd}{t:aq}{o:MObj}{h h':Heap}(x:OR c W t o h)(le:W.le s)(k:∀b w,W.own b=some t->h.get? b=some w->h'.get? b=some w):OR c s t o h':=by
 induction o with
 |inst C es=>
  refine fL x fun a d kvs r e u g hd p=>?_;refine Za p fun m y=>?_;refine dM hd fun od es' ep f i=>?_;exact⟨a,E2 d kvs (A7 (le.ρ _ _ r) (le.own _ _ e) (le.own _ _ u) (k _ _ e g) ⟨od,E2 es' ep ⟨k _ _ u f,i⟩⟩ (m.mono le) y)⟩
 |list xs=>
  refine io x fun a vs n r e g v j=>?_;exact⟨a,E2 vs n (A5 (le.ρ _ _ r) (le.own _ _ e) (k _ _ e g) (v.mono le) j)⟩
 |dict es B=>
  refine ip x fun a kvs r e hd m j l=>?_;refine dM hd fun od es' ep f i=>?_;exact⟨a,kvs,A6 (le.ρ _ _ r) (le.own _ _ e) ⟨od,E2 es' ep ⟨k _ _ e f,i⟩⟩ (m.mono le) j (fun o q=>k _ _ e (l o q))⟩
 |set xs=>
  refine eW x fun a r e hd j=>?_;refine dU hd fun od es' ep A f i=>?_;exact⟨a,A4 (le.ρ _ _ r) (le.own _ _ e) ⟨od,E3 es' ep A ⟨k _ _ e f,i⟩⟩ j⟩
 |obj z a=>
  exact⟨le.ρ _ _ x.1,le.own _ _ x.2.1,k _ _ x.2.1 x.2.2⟩
abbrev aA:=Addr->Option (Obj×Bool)
def UpS(o o':Obj):Prop:=∃a,o'={ o with slots:=a }
theorem UpS.refl(o:Obj):UpS o o:=⟨o.slots,rfl⟩
theorem UpS.trans{a b d:Obj}(x:UpS a b)(y:UpS b d):UpS a d:=by refine Zx x fun s1 c=>?_;obtain rfl:=c;refine Zx y fun e c=>?_;obtain rfl:=c;exact⟨e,rfl⟩
theorem UpS.symm{a b:Obj}(x:UpS a b):UpS b a:=by refine Zx x fun s1 c=>?_;obtain rfl:=c;exact⟨a.slots,rfl⟩
theorem UpS.data{o o':Obj}(x:UpS o o'):o'.data=o.data/\o'.cls=o.cls/\o'.dict=o.dict:=by refine Zx x fun s1 a=>?_;obtain rfl:=a;exact A3 rfl rfl rfl
def SlotEq(k:Obj×Bool)(o':Obj):Prop:=UpS k.1 o'/\(k.2=false->o'=k.1)
theorem SlotEq.refl(o:Obj)(b:Bool):SlotEq (o,b) o:=⟨.refl o,fun _=>rfl⟩
theorem SlotEq.exact{o o':Obj}(x:SlotEq (o,false) o'):o'=o:=x.2 rfl
noncomputable def tS(o:Obj):Bool:=match o.data with
 |.seq _ _=>true
 |_=>false
structure Inv(c:Cx)(W:Wd)(Kp:aA)(H:aq->Option MObj)(nx:Nat)(s:Shared):Prop where
 base:∀a o,c.B.get? a=some o->Kp a=some (o,false)
 kept:∀a o,Kp a=some o->∃o',s.heap.get? a=some o'/\SlotEq o o'
 frz:∀a o,W.F a=some o->s.heap.get? a=some o
 kpF:∀a o,Kp a=some o->c.B.get? a=none->W.F a=none
 objs:∀t o,H t=some o->OR c W t o s.heap
 dom:∀t a,W.ρ t=some a->(H t).isSome=true\/(t.1=0/\t.2<nx)
 old:∀a t,W.own a=some t->∃o,s.heap.get? a=some o
 kpOwn:∀a o,Kp a=some o->W.own a=none
 fOwn:∀a o,W.F a=some o->W.own a=none
 os:s.os=c.os
 gens:s.gens=#[]
 emp:∀a o,c.B.get? a=some o->tS o=true->W.F a=some o
 keepB:∀a o,c.B.get? a=some o->s.heap.get? a=some o
 tab:∃ps A,H (9,0)=some (.obj (tabObj ps) A)
section
variable {c:Cx}{W:Wd}{Kp:aA}{H:aq->Option MObj}{nx:Nat}{s:Shared}
theorem Inv.keeps(I:Inv c W Kp H nx s):∀b o,c.B.get? b=some o->s.heap.get? b=some o:=I.keepB
theorem Inv.KIn(I:Inv c W Kp H nx s):c.K.In s.heap:=fun a o e=>I.keeps a o (c.X a o e)
theorem Inv.glob(I:Inv c W Kp H nx s):s.heap.Ns mainGlobals c.mg:=c.G.keeps I.keeps
theorem Inv.bns(I:Inv c W Kp H nx s):s.heap.Ns builtinsNs c.mb:=c.Bn.keeps I.keeps
theorem Inv.lim(I:Inv c W Kp H nx s):s.heap.NoLimit:=c.lim.keeps I.keeps
theorem Inv.tok(I:Inv c W Kp H nx s)(t:Nat):Inv c W Kp H nx { s with toks:=t }:=⟨I.base,I.kept,I.frz,I.kpF,I.objs,I.dom,I.old,I.kpOwn,I.fOwn,I.os,I.gens,I.emp,I.keepB,I.tab⟩
theorem Inv.lt_of_kept(I:Inv c W Kp H nx s){a:Addr}{o:Obj×Bool}(e:Kp a=some o):a<s.heap.objs.size:=by refine ar (I.kept a o e) fun _ g _=>?_;exact Zy g
theorem Inv.grown{h':Heap}{tk:Nat}(I:Inv c W Kp H nx s)(k:∀b o,((W.own b).isSome=true\/(Kp b).isSome=true\/(W.F b).isSome=true)->s.heap.get? b=some o->h'.get? b=some o) :Inv c W Kp H nx { s with heap:=h',toks:=tk }:=
 ⟨I.base,fun a o e=>by refine ar (I.kept a o e) fun o' g q=>?_;exact⟨o',k a o' (.inr (.inl (by rw[e];rfl))) g,q⟩,fun a o e=>k a o (.inr (.inr (by rw[e];rfl))) (I.frz a o e),I.kpF,
  fun t o e=>(I.objs t o e).frame (Wd.le.refl W) fun b d f g=>k b d (.inl (by rw[f];rfl)) g,I.dom,fun a t e=>by refine Zx (I.old a t e) fun o g=>?_;exact⟨o,k a o (.inl (by rw[e];rfl)) g⟩,I.kpOwn,I.fOwn,I.os,I.gens,I.emp,fun a o e=>k a o (.inr (.inl (by rw[I.base a o e];rfl))) (I.keepB a o e),I.tab⟩
noncomputable def af(H:aq->Option MObj)(t:aq)(o:MObj):aq->Option MObj:=fun u=>if u=t then some o else H u
@[simp] theorem du (H:aq->Option MObj)(t:aq)(o:MObj):af H t o t=some o:=if_pos rfl
theorem ae{H:aq->Option MObj}{t u:aq}{o:MObj}(h:u≠t):af H t o u=H u:=if_neg h
theorem pb{H:aq->Option MObj}{t:aq}{o o':MObj}(x:∃a A,H (9,0)=some (.obj (tabObj a) A))(e:H t=some o)(f:∀a A,o=.obj (tabObj a) A->∃b,o'=.obj (tabObj b) A):∃a A,af H t o' (9,0)=some (.obj (tabObj a) A):=by
 refine jE x fun a A q=>?_;by_cases h:(9,0)=t
 ·subst h;replace e:=q.symm.trans e;obtain rfl:=Zb e;refine Zx (f a A rfl) fun b d=>?_;obtain rfl:=d;exact E2 b A (du ..)
 ·exact E2 a A ((ae h).trans q)
theorem sP{H:aq->Option MObj}{t:aq}{o:MObj}(x:∃a A,H (9,0)=some (.obj (tabObj a) A))(e:H t=none):∃a A,af H t o (9,0)=some (.obj (tabObj a) A):=by
 refine jE x fun a A q=>?_;exact E2 a A ((ae fun h=>by rw[h,e] at q;exact aQ q).trans q)
theorem Inv.changed{t:aq}{o o':MObj}{a:Addr}{h':Heap}{tk:Nat}(I:Inv c W Kp H nx s)(e:H t=some o)(f:W.own a=some t)(i:Heap.SameBut a s.heap h')(x:OR c W t o' h')(m:∃d,h'.get? a=some d)(n:∀r A,o=.obj (tabObj r) A->∃k,o'=.obj (tabObj k) A:=by intro _ _ e;cases e) :
  Inv c W Kp (af H t o') nx { s with heap:=h',toks:=tk }:=by
 refine⟨I.base,fun b d q=>(I.kept b d q).elim fun o' x=>⟨o',(i.2 b fun z=>?_).trans x.1,x.2⟩,fun b d q=>(i.2 b fun z=>?_).trans (I.frz b d q),I.kpF,fun u p q=>?_,fun u b q=>?_,fun b u q=>?_,I.kpOwn,I.fOwn,I.os,I.gens,I.emp,fun b d q=>(i.2 b fun z=>?_).trans (I.keepB b d q),pb I.tab e n⟩;·subst z;rw[I.kpOwn _ _ q] at f;exact aQ f
 ·subst z;rw[I.fOwn _ _ q] at f;exact aQ f
 ·by_cases h:u=t;·subst h;rw[du] at q;obtain rfl:=Zb q;exact x
  ·replace q:=(ae h)▸q;refine(I.objs u p q).frame (Wd.le.refl W) fun b d j g=>(i.2 b fun z=>?_).trans g;subst z;rw[f] at j;obtain rfl:=Zb j;exact h rfl
 ·by_cases h:u=t;·subst h;left;rw[du];rfl
  ·refine(ae h)▸?_;exact I.dom u b q
 ·by_cases l:b=a;·subst l;exact m
  ·refine Zx (I.old b u q) fun d g=>?_;exact⟨d,(i.2 b l).trans g⟩
 ·subst z;rw[I.kpOwn _ _ (I.base _ _ q)] at f;exact aQ f
end
section
variable {c:Cx}{W:Wd}{Kp:aA}{H:aq->Option MObj}{nx:Nat}{s:Shared}
theorem Inv.changedE{t:aq}{o o':MObj}{a:Addr}{h':Heap}{tk:Nat}(I:Inv c W Kp H nx s)(e:H t=some o)(f:W.own a=some t)(i:∀b d,b≠a->s.heap.get? b=some d->h'.get? b=some d)(x:OR c W t o' h')(m:∃d,h'.get? a=some d)(n:∀r A,o=.obj (tabObj r) A->∃k,o'=.obj (tabObj k) A:=by intro _ _ e;cases e) :
  Inv c W Kp (af H t o') nx { s with heap:=h',toks:=tk }:=by
 refine⟨I.base,fun b d q=>(I.kept b d q).elim fun o' x=>⟨o',i b _ (fun z=>?_) x.1,x.2⟩,fun b d q=>i b _ (fun z=>?_) (I.frz b d q),I.kpF,fun u p q=>?_,fun u b q=>?_,fun b u q=>?_,I.kpOwn,I.fOwn,I.os,I.gens,I.emp,fun b d q=>i b _ (fun z=>?_) (I.keepB b d q),pb I.tab e n⟩;·obtain rfl:=z.symm;rw[I.kpOwn _ _ q] at f;exact aQ f
 ·subst z;rw[I.fOwn _ _ q] at f;exact aQ f
 ·by_cases h:u=t;·subst h;rw[du] at q;obtain rfl:=Zb q;exact x
  ·replace q:=(ae h)▸q;refine(I.objs u p q).frame (Wd.le.refl W) fun b d j g=>i b _ (fun z=>?_) g;obtain rfl:=z.symm;rw[f] at j;obtain rfl:=Zb j;exact h rfl
 ·by_cases h:u=t;·subst h;left;rw[du];rfl
  ·refine(ae h)▸?_;exact I.dom u b q
 ·by_cases l:b=a;·subst l;exact m
  ·refine Zx (I.old b u q) fun d g=>?_;exact⟨d,i b _ l g⟩
 ·subst z;rw[I.kpOwn _ _ (I.base _ _ q)] at f;exact aQ f
end
noncomputable def Wd.add(W:Wd)(t:aq)(a:Addr)(as:List Addr):Wd:={ W with ρ:=fun u=>if u=t then some a else W.ρ u,own:=fun b=>if b=a\/b∈as then some t else W.own b }
noncomputable def Wd.freeze(W:Wd)(a:Addr)(o:Obj):Wd:={ W with F:=fun b=>if b=a then some o else W.F b }
def fJ(H:aq->Option MObj)(nx:Nat)(t:aq):Prop:=H t=none/\(t.1≠0\/nx<=t.2)
noncomputable def cf(nx:Nat)(t:aq):Nat:=if t.1=0 then max nx (t.2+1) else nx
section
variable {c:Cx}{W:Wd}{Kp:aA}{H:aq->Option MObj}{nx:Nat}{s:Shared}
theorem Inv.unused{t:aq}(I:Inv c W Kp H nx s)(f:fJ H nx t):W.ρ t=none:=by
 cases q:W.ρ t with
 |none=>rfl
 |some a=>
  rcases I.dom t a q with h|⟨b,d⟩
  ·replace h:=f.1▸h;exact jU h
  ·rcases f.2 with h|h;·exact absurd b h
   ·exact absurd d (Nat.not_lt.mpr h)
theorem Inv.fresh_own(I:Inv c W Kp H nx s){a:Addr}(h:s.heap.objs.size<=a):W.own a=none:=by
 cases q:W.own a with
 |none=>rfl
 |some t=>refine Zx (I.old a t q) fun o g=>?_;exact absurd (Zy g) (Nat.not_lt.mpr h)
theorem Inv.fresh_kp(I:Inv c W Kp H nx s){a:Addr}(h:s.heap.objs.size<=a):Kp a=none:=by
 cases q:Kp a with
 |none=>rfl
 |some o=>exact absurd (I.lt_of_kept q) (Nat.not_lt.mpr h)
theorem Inv.fresh_F(I:Inv c W Kp H nx s){a:Addr}(h:s.heap.objs.size<=a):W.F a=none:=by
 cases q:W.F a with
 |none=>rfl
 |some o=>exact absurd (Zy (I.frz a o q)) (Nat.not_lt.mpr h)
theorem Wd.le_add{t:aq}{a:Addr}{as:List Addr}(I:Inv c W Kp H nx s)(f:fJ H nx t)(g:s.heap.objs.size<=a)(d:∀b∈as,s.heap.objs.size<=b):W.le (W.add t a as):=by
 refine⟨fun u b e=>?_,fun b u e=>?_,fun _ _ e=>e⟩
 ·show(if u=t then some a else W.ρ u)=some b;rw[if_neg];exact e;intro z;subst z;rw[I.unused f] at e;exact aQ e
 ·show(if b=a\/b∈as then some t else W.own b)=some u;rw[if_neg];exact e;rintro (z|z);·subst z;rw[I.fresh_own g] at e;exact aQ e
  ·rw[I.fresh_own (d _ z)] at e;exact aQ e
theorem Wd.le_freeze{a:Addr}{o:Obj}(h:W.F a=none):W.le (W.freeze a o):=
 ⟨fun _ _ e=>e,fun _ _ e=>e,fun b d e=>by
  show(if b=a then some o else W.F b)=some d;rw[if_neg];exact e;intro z;subst z;rw[h] at e;exact aQ e⟩
theorem Inv.alloc{t:aq}{o:MObj}{a:Addr}{as:List Addr}{h':Heap}{tk:Nat}(I:Inv c W Kp H nx s)(f:fJ H nx t)(m:s.heap.objs.size<=a)(h:∀b∈as,s.heap.objs.size<=b)(n:∃d,h'.get? a=some d)(j:∀b∈as,∃d,h'.get? b=some d)(k:∀b d,s.heap.get? b=some d->h'.get? b=some d)(x:OR c (W.add t a as) t o h') :Inv c (W.add t a as) Kp (af H t o) (cf nx t) { s with heap:=h',toks:=tk }:=by
 have le:=Wd.le_add I f m h;refine⟨I.base,fun b d q=>by refine ar (I.kept b d q) fun o' g r=>?_;exact⟨o',k _ _ g,r⟩,fun b d q=>k _ _ (I.frz b d q),I.kpF,fun u v q=>?_,fun u b q=>?_,fun b u q=>?_,fun b d q=>?_,fun b d q=>?_,I.os,I.gens,I.emp,fun b d q=>k _ _ (I.keepB b d q),sP I.tab f.1⟩
 ·by_cases i:u=t;·obtain rfl:=i.symm;rw[du] at q;obtain rfl:=Zb q;exact x
  ·rw[ae i] at q;exact(I.objs u v q).frame le fun b d _ g=>k _ _ g
 ·by_cases i:u=t;·obtain rfl:=i.symm;left;rw[du];rfl
  ·refine(ae i)▸?_;have e:W.ρ u=some b:=by
    have:(if u=t then some a else W.ρ u)=some b:=q
    rwa [if_neg i] at this
   refine(I.dom u b e).imp id fun l=>⟨l.1,?_⟩;have p:=l.2;delta cf;split;·exact Zp p (Nat.le_max_left ..)
   ·exact p
 ·have:(if b=a\/b∈as then some t else W.own b)=some u:=q;split at this
  ·rename_i z;rcases z with z|z;·obtain rfl:=z.symm;exact n
   ·exact j _ z
  ·refine Zx (I.old b u this) fun d g=>?_;exact⟨d,k b d g⟩
 ·show(if b=a\/b∈as then some t else W.own b)=none;rw[if_neg];exact I.kpOwn b d q;rintro (z|z);·subst z;replace q:=(I.fresh_kp m).symm.trans q;exact aQ q
  ·replace q:=(I.fresh_kp (h _ z)).symm.trans q;exact aQ q
 ·show(if b=a\/b∈as then some t else W.own b)=none;rw[if_neg];exact I.fOwn b d q;rintro (z|z);·subst z;have e:W.F b=some d:=q;replace e:=(I.fresh_F m).symm.trans e;exact aQ e
  ·have e:W.F b=some d:=q;replace e:=(I.fresh_F (h _ z)).symm.trans e;exact aQ e
theorem Inv.freeze{a:Addr}{o:Obj}{h':Heap}{tk:Nat}(I:Inv c W Kp H nx s)(e:s.heap.objs.size<=a)(g:h'.get? a=some o)(hd:∃vs n,o.data=.seq vs n)(k:∀b d,s.heap.get? b=some d->h'.get? b=some d) :Inv c (W.freeze a o) Kp H nx { s with heap:=h',toks:=tk }:=by
 have le:W.le (W.freeze a o):=Wd.le_freeze (I.fresh_F e);refine⟨I.base,fun b d q=>by refine ar (I.kept b d q) fun o' g r=>?_;exact⟨o',k _ _ g,r⟩,fun b d q=>?_,fun b d q h=>?_,fun u f q=>(I.objs u f q).frame le fun b d _ g=>k _ _ g,I.dom,fun b u q=>by refine Zx (I.old b u q) fun d g=>?_;exact⟨d,k b d g⟩,I.kpOwn,fun b d q=>?_,I.os,I.gens,fun b n q z=>le.F _ _ (I.emp b n q z),fun b d q=>k _ _ (I.keepB b d q),I.tab⟩
 ·have:(if b=a then some o else W.F b)=some d:=q;split at this;·rename_i z;subst z;obtain rfl:=Zb this;exact g
  ·exact k _ _ (I.frz b d this)
 ·show(if b=a then some o else W.F b)=none;rw[if_neg];·exact I.kpF b d q ‹_›
  ·intro z;subst z;replace q:=(I.fresh_kp e).symm.trans q;exact aQ q
 ·have:(if b=a then some o else W.F b)=some d:=q;split at this;·rename_i z;subst z;exact I.fresh_own e
  ·exact I.fOwn b d this
def y8(W:Wd)(Kp:aA)(a:Addr):Prop:=W.own a=none/\W.F a=none/\Kp a=none
theorem Wd.le_adopt{t:aq}{a:Addr}(e:W.ρ t=none)(d:W.own a=none):W.le (W.add t a []):=by
 refine⟨fun u b q=>?_,fun b u q=>?_,fun _ _ q=>q⟩
 ·show(if u=t then some a else W.ρ u)=some b;rw[if_neg];exact q;intro z;subst z;rw[e] at q;exact aQ q
 ·show(if b=a\/b∈[] then some t else W.own b)=some u;rw[if_neg];exact q;rintro (z|z);·subst z;rw[d] at q;exact aQ q
  ·exact gY z
theorem Inv.adopt{t:aq}{o:MObj}{a:Addr}(I:Inv c W Kp H nx s)(f:fJ H nx t)(j:y8 W Kp a)(k:∃e,s.heap.get? a=some e)(x:OR c (W.add t a []) t o s.heap) :Inv c (W.add t a []) Kp (af H t o) (cf nx t) s:=by
 have le:=Wd.le_adopt (I.unused f) j.1;refine⟨I.base,I.kept,I.frz,I.kpF,fun u m q=>?_,fun u b q=>?_,fun b u q=>?_,fun b e q=>?_,fun b e q=>?_,I.os,I.gens,I.emp,I.keepB,sP I.tab f.1⟩
 ·by_cases h:u=t;·subst h;rw[du] at q;obtain rfl:=Zb q;exact x
  ·replace q:=(ae h).symm.trans q;exact(I.objs u m q).frame le fun b e _ g=>g
 ·by_cases h:u=t;·subst h;left;rw[du];rfl
  ·refine(ae h)▸?_;have i:W.ρ u=some b:=by
    have:(if u=t then some a else W.ρ u)=some b:=q
    rwa [if_neg h] at this
   refine(I.dom u b i).imp id fun d=>⟨d.1,?_⟩;have l:=d.2;delta cf;split;·exact Zp l (Nat.le_max_left ..)
   ·exact l
 ·have:(if b=a\/b∈[] then some t else W.own b)=some u:=q;split at this
  ·rename_i z;rcases z with z|z;·obtain rfl:=z.symm;exact k
   ·exact gY z
  ·exact I.old b u this
 ·show(if b=a\/b∈[] then some t else W.own b)=none;rw[if_neg];exact I.kpOwn b e q;rintro (z|z);·subst z;replace q:=j.2.2.symm.trans q;exact aQ q
  ·exact gY z
 ·show(if b=a\/b∈[] then some t else W.own b)=none;rw[if_neg];exact I.fOwn b e q;rintro (z|z);·subst z;have i:W.F b=some e:=q;replace i:=j.2.1.symm.trans i;exact aQ i
  ·exact gY z
theorem Inv.adoptF{a:Addr}{o:Obj}(I:Inv c W Kp H nx s)(e:y8 W Kp a)(g:s.heap.get? a=some o):Inv c (W.freeze a o) Kp H nx s:=by
 have le:W.le (W.freeze a o):=Wd.le_freeze e.2.1;refine⟨I.base,I.kept,fun b d q=>?_,fun b d q f=>?_,fun u h q=>(I.objs u h q).frame le fun b d _ g=>g,I.dom,I.old,I.kpOwn,fun b d q=>?_,I.os,I.gens,fun b n q z=>le.F _ _ (I.emp b n q z),I.keepB,I.tab⟩
 ·have:(if b=a then some o else W.F b)=some d:=q;split at this;·rename_i z;subst z;obtain rfl:=Zb this;exact g
  ·exact I.frz b d this
 ·show(if b=a then some o else W.F b)=none;rw[if_neg];·exact I.kpF b d q f
  ·intro z;subst z;replace q:=e.2.2.symm.trans q;exact aQ q
 ·have:(if b=a then some o else W.F b)=some d:=q;split at this;·rename_i z;subst z;exact e.1
  ·exact I.fOwn b d this
end
end
section
def FA(c:Cx)(a:Env)(b:Addr):Prop:=b=a.locals\/∃x,a.kindOf (c.S x)=some .cell/\a.cells.lookup (c.S x)=some b
structure Fm(c:Cx)(W:Wd)(Kp:aA)(env:Env)(m:List (Nat×MV))(h:Heap):Prop where
 out:∀b,FA c env b->W.own b=none/\W.F b=none/\Kp b=none
 ns:∃mm,h.Ns env.locals mm/\∀x v,m.lookup x=some v->env.kindOf (c.S x)=some .local->∃u,mm (c.S x)=some u/\VR c.S W u v
 cell:∀x v,m.lookup x=some v->env.kindOf (c.S x)=some .cell\/env.kindOf (c.S x)=some .free->∃b u,env.cells.lookup (c.S x)=some b/\h.IsCell b (some u)/\VR c.S W u v
 own:∀x,env.kindOf (c.S x)=some .cell->∃b u,env.cells.lookup (c.S x)=some b/\h.IsCell b u
 apart:∀x y b,env.kindOf (c.S x)=some .cell->env.kindOf (c.S y)=some .cell->env.cells.lookup (c.S x)=some b->env.cells.lookup (c.S y)=some b->x=y
 free:∀x,env.kindOf (c.S x)=some .free->∃b o,env.cells.lookup (c.S x)=some b/\Kp b=some o
structure cv(env:Env):Prop where
 kind:env.scope.kind=.function
 globals:env.globals=mainGlobals
 builtins:env.builtins=builtinsNs
 gen:env.scope.isGenerator=false
 co:env.scope.isCoroutine=false
theorem Fm.move{c:Cx}{W i:Wd}{Kp:aA}{d:Env}{m:List (Nat×MV)}{h h':Heap}(f:Fm c W Kp d m h)(le:W.le i)(y:∀b,FA c d b->i.own b=none/\i.F b=none)(k:∀b o,(FA c d b\/(Kp b).isSome=true)->h.get? b=some o->h'.get? b=some o):Fm c i Kp d m h':=by
 refine ar f.ns fun mm n A=>?_;refine dM n fun o es ep e r=>?_;refine⟨fun b l=>(A3 ((y b l).1) ((y b l).2) ((f.out b l).2.2)),⟨mm,⟨o,E2 es ep ⟨k _ _ (.inl (.inl rfl)) e,r⟩⟩,fun x v a b=>?_⟩,fun x v a b=>?_,fun x a=>?_,f.apart,f.free⟩;·refine ar (A x v a b) fun u p q=>?_;exact⟨u,p,q.mono le⟩
 ·refine ci (f.cell x v a b) fun j u p g r=>?_;refine ar g fun o' t w=>?_;refine E2 j u (A3 p ⟨o',k _ _ ?_ t,w⟩ (r.mono le));rcases b with b|b;·exact .inl (.inr ⟨x,b,p⟩)
  ·refine br (f.free x b) fun z B s C=>?_;replace s:=p.symm.trans s;obtain rfl:=Zb s;exact .inr (C▸rfl)
 ·refine br (f.own x a) fun j u p g=>?_;refine ar g fun o' t w=>?_;exact E2 j u ⟨p,⟨o',k _ _ (.inl (.inr ⟨x,a,p⟩)) t,w⟩⟩
theorem Fm.moveS{c:Cx}{W j:Wd}{Kp:aA}{d:Env}{m:List (Nat×MV)}{h h':Heap}(f:Fm c W Kp d m h)(le:W.le j)(B:∀b,FA c d b->j.own b=none/\j.F b=none)(k:∀b o,(FA c d b\/(Kp b).isSome=true)->h.get? b=some o->∃o',h'.get? b=some o'/\UpS o o'):Fm c j Kp d m h':=by
 refine ar f.ns fun mm t E=>?_;refine eY t fun o es ep e hd r=>?_;refine⟨fun b n=>(A3 ((B b n).1) ((B b n).2) ((f.out b n).2.2)),⟨mm,?_,fun x v a b=>?_⟩,fun x v a b=>?_,fun x a=>?_,f.apart,f.free⟩
 ·refine ar (k _ _ (.inl (.inl rfl)) e) fun o' D q=>?_;exact⟨o',E2 es ep (A3 D (q.data.1.trans hd) r)⟩
 ·refine ar (E x v a b) fun u p q=>?_;exact⟨u,p,q.mono le⟩
 ·refine ci (f.cell x v a b) fun i u p g r=>?_;refine ar g fun o' z A=>?_;have s:FA c d i\/(Kp i).isSome=true:=by
   rcases b with b|b;·exact .inl (.inr ⟨x,b,p⟩)
   ·refine br (f.free x b) fun C G y H=>?_;replace y:=p.symm.trans y;obtain rfl:=Zb y;exact .inr (H▸rfl)
  refine ar (k _ _ s z) fun w l q=>?_;exact E2 i u (A3 p ⟨w,l,q.data.1.trans A⟩ (r.mono le))
 ·refine br (f.own x a) fun i u p g=>?_;refine ar g fun o' z A=>?_;refine ar (k _ _ (.inl (.inr ⟨x,a,p⟩)) z) fun w l q=>?_;exact E2 i u ⟨p,⟨w,l,q.data.1.trans A⟩⟩
structure AS where
 H:aq->Option MObj
 nx:Nat
 m:List (Nat×MV)
structure InvF(c:Cx)(W:Wd)(Kp:aA)(env:Env)(σ:AS)(s:Shared):Prop where
 inv:Inv c W Kp σ.H σ.nx s
 fm:Fm c W Kp env σ.m s.heap
theorem Fm.lt{c:Cx}{W:Wd}{Kp:aA}{a:Env}{m:List (Nat×MV)}{h:Heap}(f:Fm c W Kp a m h){b:Addr}(e:FA c a b):b<h.objs.size:=by
 rcases e with rfl|⟨x,i,g⟩
 ·refine ar f.ns fun mm d _=>?_;exact d.lt
 ·refine br (f.own x i) fun j u p q=>?_;replace p:=g.symm.trans p;obtain rfl:=Zb p;exact q.lt
structure AOK(c:Cx)(lv:Nat)(A:Around)(Kp:aA)(env:Env):Prop where
 depth:A.depth+8*lv<900
 units:A.units+40*lv<9000
 handled:A.handled=none
 frames:∃fr,A.frames=some fr/\∀e∈fr,e.scope.kind≠.module/\∃L,e.frame=some L/\c.B.get? L=none/\(L=env.locals\/∃o,Kp L=some (o,true)/\∀vs,o.data≠.fields vs)
abbrev ap:=AS->(MV->AS->Prop)->Prop
def PE(c:Cx)(W:Wd)(Kp:aA)(b:Env)(Q:MV->AS->Prop)(v:Value)(d:Shared):Prop:=
 ∃a mv σ',W.le a/\InvF c a Kp b σ' d/\VR c.S a v mv/\Q mv σ'
theorem PE.ex{c:Cx}{W:Wd}{Kp:aA}{g:Env}{Q:MV->AS->Prop}{v:Value}{s:Shared}{p:Prop}(z:PE c W Kp g Q v s)(k:∀f y σ',W.le f->InvF c f Kp g σ' s->VR c.S f v y->Q y σ'->p):p:=
 by refine bW z fun f y σ' a b d e=>?_;exact k f y σ' a b d e
def CE(c:Cx)(sc:Scope)(lv:Nat)(e:Expr)(f:ap):Prop:=
 ∀(a:Env)(A:Around)(W:Wd)(Kp:aA)(b:AS)(s:Shared)(Q:MV->AS->Prop)(E:Value->Shared->Prop),
  a.scope=sc->cv a->AOK c lv A Kp a->InvF c W Kp a b s->f b Q->wpAny c.M A (eval e a) (PE c W Kp a Q) E s
theorem PE.here{c:Cx}{W:Wd}{Kp:aA}{a:Env}{Q:MV->AS->Prop}{v:Value}{mv:MV}{b:AS}{s:Shared}(I:InvF c W Kp a b s)(d:VR c.S W v mv)(q:Q mv b):PE c W Kp a Q v s:=
 ⟨W,E2 mv b (A4 (.refl W) I d q)⟩
theorem PE.le{c:Cx}{W h:Wd}{Kp:aA}{f:Env}{Q:MV->AS->Prop}{v:Value}{s:Shared}(le:W.le h)(x:PE c h Kp f Q v s):PE c W Kp f Q v s:=by
 refine bW x fun g mv i a b d e=>?_;exact⟨g,E2 mv i (A4 (le.trans a) b d e)⟩
theorem InvF.tok{c:Cx}{W:Wd}{Kp:aA}{a:Env}{b:AS}{s:Shared}(I:InvF c W Kp a b s)(t:Nat):InvF c W Kp a b { s with toks:=t }:=⟨I.inv.tok t,I.fm⟩
theorem CE.use{c:Cx}{sc:Scope}{lv:Nat}{e:Expr}{f:ap}(h:CE c sc lv e f){g:Env}{A:Around}{W:Wd}{Kp:aA}{l:AS}{s:Shared}{Q:MV->AS->Prop}{E:Value->Shared->Prop}{R:Value->Shared->Prop}(o:g.scope=sc)(n:cv g)(m:AOK c lv A Kp g)(I:InvF c W Kp g l s)(p:f l Q)(k:∀i mv σ' v j,W.le i->InvF c i Kp g σ' j->VR c.S i v mv->Q mv σ'->R v j):wpAny c.M A (eval e g) R E s:=
 Zg (h g A W Kp l s Q E o n m I p) (fun v j r=>r.ex fun i mv σ' a b d q=>k i mv σ' v j a b d q) fun _ _ x=>x
section
variable {c:Cx}{sc:Scope}{lv:Nat}
def ac(x:Nat):ap:=fun a Q=>∃v,a.m.lookup x=some v/\Q v a
theorem vo{n:Str}{pos:Pos}(x:Nat)(o:c.S x=n)(a:sc.names.lookup n=some .local\/sc.names.lookup n=some .cell\/sc.names.lookup n=some .free)(hd:(n == ("__debug__" : Str))=false)(k:(n == ("__classdict__" : Str))=false):CE c sc lv (.Name n pos) (ac x):=by
 subst o;intro j A W Kp w s Q E l d t I i;refine ar i fun v h q=>?_;subst l;rcases a with a|a|a
 ·refine ar I.fm.ns fun mm g m=>?_;refine ar (m x v h a) fun u p r=>?_;exact wpAny_Name (wpAny_loadName_local d.kind a g p (PE.here I r q)) hd
 ·refine ci (I.fm.cell x v h (.inl a)) fun b u f e r=>?_;exact wpAny_Name (wpAny_loadName_cell d.kind a f e (PE.here I r q)) hd
 ·refine ci (I.fm.cell x v h (.inr a)) fun b u f e r=>?_;exact wpAny_Name (wpAny_loadName_free d.kind a f e (PE.here I r q) k) hd
def ie(v:Value):ap:=fun a Q=>Q (.raw v) a
theorem yQ{n:Str}{pos:Pos}{v:Value}(f:sc.names.lookup n=some .globalImplicit)(e:nsIn c.K mainGlobals n=some (some v))(hd:(n == ("__debug__" : Str))=false):CE c sc lv (.Name n pos) (ie v):=by
 intro b A W Kp h s Q E d a g I q;subst d;refine Name_function_global a.kind f (loadGlobal_global (mg:=c.mg) (a.globals▸I.inv.glob) (mg_of c.X c.G e) ?_) hd;exact PE.here I (.raw v) q
theorem uK{n:Str}{pos:Pos}{v:Value}(g:sc.names.lookup n=some .globalImplicit)(f:nsIn c.K mainGlobals n=some none)(d:bootBuiltins n=some v)(h:n≠"__name__")(hd:(n == ("__debug__" : Str))=false):CE c sc lv (.Name n pos) (ie v):=by
 intro b A W Kp j s Q E e a i I q;subst e;refine Name_function_global a.kind g (loadGlobal_builtin (mg:=c.mg) (mb:=c.mb) (by rw[a.globals];exact I.inv.glob) (mg_none_of c.X c.G f) (by rw[a.builtins];exact I.inv.bns) ((c.bi n h).trans d) ?_) hd;exact PE.here I (.raw v) q
def ax(v:MV):ap:=fun a Q=>Q v a
theorem bE{k:Nat}{pos:Pos}:CE c sc lv (.Constant .none k pos) (ax .none):=by
 intro a A W Kp f s Q E e d b I q;exact Zi (PE.here I .none q)
theorem ef{b:Bool}{k:Nat}{pos:Pos}:CE c sc lv (.Constant (.bool b) k pos) (ax (.bool b)):=by
 intro a A W Kp g s Q E f e d I q;exact Zi (PE.here I (.bool b) q)
theorem aD{i:Int}{k:Nat}{pos:Pos}:CE c sc lv (.Constant (.int i) k pos) (ax (.int i)):=by
 intro a A W Kp f s Q E e d b I q;exact wpAny_Constant_int (PE.here (I.tok _) (.int i _) q)
theorem zU{n:Str}{k:Nat}{pos:Pos}(x:Nat)(b:c.S x=n):CE c sc lv (.Constant (.str n) k pos) (ax (.str x)):=by
 subst b;intro a A W Kp g s Q E f e d I q;exact wpAny_mkText (PE.here (I.tok _) (.str x _) q)
def dG(f:Int->Int->Option Int)(a b:ap):ap:=fun g Q=>a g fun x d=>b d fun y e=>∃i j r,x=.int i/\y=.int j/\f i j=some r/\Q (.int r) e
def Bs(S:Nat->Str)(W:Wd)(v:Value)(x:MV):Prop:=MV.casesOn x (v=.none) (fun b=>v=.bool b) (fun i=>∃tk,v=.int i tk) (fun n=>∃tk,v=.str (S n) tk) (fun t=>∃a,v=.ref a/\W.ρ t=some a)
 (fun xs=>∃a vs n,v=.ref a/\W.F a=some (bg vs n)/\VRs S W vs xs/\xs.length<=100000) (fun xs=>∃a vs n,v=.ref a/\W.F a=some (fG vs n)/\VRs S W vs xs/\xs.length<=100000)
 (fun n=>∃a t u w,v=.ref a/\W.F a=some { cls:=.type "range",data:=.fields #[.int 0 t,.int n u,.int 1 w] })
 (fun b t=>∃a d,v=.ref a/\W.F a=some { cls:=.type (if b then "dict_items" else "dict_values"),data:=.fields #[.ref d] }/\W.ρ t=some d) (fun u=>v=u)
theorem VR.inv{S:Nat->Str}{W:Wd}{v:Value}{x:MV}(h:VR S W v x):Bs S W v x:=by
 cases h with
 |none=>exact rfl
 |bool b=>exact rfl
 |int i tk=>exact⟨tk,rfl⟩
 |str n tk=>exact⟨tk,rfl⟩
 |tag h=>exact⟨_,rfl,h⟩
 |lst h d a=>exact⟨_,E2 _ _ (A4 rfl h d a)⟩
 |tup h d a=>exact⟨_,E2 _ _ (A4 rfl h d a)⟩
 |rng h=>exact⟨_,E3 _ _ _ ⟨rfl,h⟩⟩
 |view h hd=>exact⟨_,_,A3 rfl h hd⟩
 |raw v=>exact rfl
theorem VR.of_int{S:Nat->Str}{W:Wd}{v:Value}{i:Int}(h:VR S W v (.int i)):∃tk,v=.int i tk:=h.inv
theorem VR.of_str{S:Nat->Str}{W:Wd}{v:Value}{n:Nat}(h:VR S W v (.str n)):∃tk,v=.str (S n) tk:=h.inv
theorem VR.of_bool{S:Nat->Str}{W:Wd}{v:Value}{b:Bool}(h:VR S W v (.bool b)):v=.bool b:=h.inv
theorem VR.of_none{S:Nat->Str}{W:Wd}{v:Value}(h:VR S W v .none):v=.none:=h.inv
theorem VR.of_raw{S:Nat->Str}{W:Wd}{v u:Value}(h:VR S W v (.raw u)):v=u:=h.inv
theorem VR.of_tag{S:Nat->Str}{W:Wd}{v:Value}{t:aq}(h:VR S W v (.tag t)):∃a,v=.ref a/\W.ρ t=some a:=h.inv
theorem VR.of_lst{S:Nat->Str}{W:Wd}{v:Value}{xs:List MV}(h:VR S W v (.lst xs)):∃a vs n,v=.ref a/\W.F a=some (bg vs n)/\VRs S W vs xs/\xs.length<=100000:=h.inv
theorem VR.of_tup{S:Nat->Str}{W:Wd}{v:Value}{xs:List MV}(h:VR S W v (.tup xs)):∃a vs n,v=.ref a/\W.F a=some (fG vs n)/\VRs S W vs xs/\xs.length<=100000:=h.inv
theorem VR.strK{S:Nat->Str}{W:Wd}{v:Value}{n:Nat}{P:Value->Prop}(h:VR S W v (.str n))(k:∀t,P (.str (S n) t)):P v:=Zx h.of_str fun t e=>e▸k t
theorem VR.intK{S:Nat->Str}{W:Wd}{v:Value}{i:Int}{P:Value->Prop}(h:VR S W v (.int i))(k:∀t,P (.int i t)):P v:=Zx h.of_int fun t e=>e▸k t
theorem CE.two{p q:Expr}{a b:ap}(C:CE c sc lv p a)(D:CE c sc lv q b){g:MV->MV->AS->(MV->AS->Prop)->Prop}{t:Value->Value->Sem Value}{e:Expr}(G:∀d A R E s,wpAny c.M A (eval p d) (fun u s1=>wpAny c.M A (eval q d) (fun v o=>wpAny c.M A (t u v) R E o) E s1) E s->wpAny c.M A (eval e d) R E s)(H:∀d A W Kp i s Q E u v x y,d.scope=sc->cv d->AOK c lv A Kp d->InvF c W Kp d i s->VR c.S W u x->VR c.S W v y->g x y i Q->wpAny c.M A (t u v) (PE c W Kp d Q) E s) :CE c sc lv e (fun i Q=>a i fun x j=>b j fun y f=>g x y f Q):=by
 intro d A W Kp i s Q E m l k I F;refine G d A _ E s (C.use m l k I F fun O x j u s1 n r L J=>?_);refine D.use m l k r J fun B y f v o h w N K=>?_;exact Zg (H d A B Kp f o Q E u v x y m l k w (L.mono h) N K) (fun _ _ z=>(z.le (n.trans h))) fun _ _ z=>z
theorem oG{g k:Expr}{o:Operator}{pos:Pos}{a b:ap}{f:Int->Int->Option Int}(m:CE c sc lv g a)(n:CE c sc lv k b)(G:∀{A:Around}{E:Value->Shared->Prop}{s:Shared}{i j r:Int}{t u:Tok}{Q:Value->Shared->Prop},f i j=some r->A.units<cLine->(∀tk d,d={ s with toks:=d.toks }->Q (.int r tk) d)->wpAny c.M A (binaryOp o (.int i t) (.int j u)) Q E s) :CE c sc lv (.BinOp g o k pos) (dG f a b):=
 CE.two m n (fun _ _ _ _ _ h=>wpAny_BinOp h) fun l A W Kp L s Q E u v x y J H p I B C e=>by
  refine bW e fun i j r D F w q=>?_;subst D F;apply B.intK;intro t;apply C.intK;intro K;refine G w (by have:=p.units;refine cLine_is.symm▸?_;exact NB this rfl) fun tk d z=>?_;refine z.symm▸?_;exact PE.here (I.tok _) (.int r tk) q
end
end
section
theorem k7{n:Nat}(h:n<=100000):n<=sizeLine:=by exact av 0 100000 0 16777216 h rfl
noncomputable def ka(o:Option MObj):Option (List MV):=Option.casesOn o none fun o=>MObj.casesOn o (fun _ _=>none) (fun xs=>some xs) (fun _ _=>none) (fun _=>none) (fun _ _=>none)
noncomputable def bc(H:aq->Option MObj)(v:MV):Option (List MV):=MV.casesOn v none (fun _=>none) (fun _=>none) (fun _=>none) (fun t=>ka (H t)) (fun xs=>some xs) (fun _=>none) (fun _=>none) (fun _ _=>none) (fun _=>none)
theorem ay{H:aq->Option MObj}{t:aq}{xs:List MV}(h:H t=some (.list xs)):bc H (.tag t)=some xs:=by show ka (H t)=_;refine h▸?_;rfl
theorem gO{c:Cx}{W:Wd}{Kp:aA}{H:aq->Option MObj}{nx:Nat}{s:Shared}{v:Value}{x:MV}{xs:List MV}(I:Inv c W Kp H nx s)(r:VR c.S W v x)(e:bc H x=some xs) :∃a vs n,v=.ref a/\s.heap.get? a=some (bg vs n)/\VRs c.S W vs xs/\xs.length<=100000:=by
 cases x<;>first|exact aQ e|skip
 ·rename_i t;cases q:H t with
  |none=>dsimp only[bc] at e;rw[q] at e;exact aQ e
  |some o=>
   dsimp only[bc] at e;replace e:=q▸e;induction o<;>first|exact aQ e|skip
   obtain rfl:=Zb e;refine ar r.of_tag fun a b k=>?_;obtain rfl:=b;refine io (I.objs _ _ q) fun l vs n j _ g f d=>?_;rw[k] at j;obtain rfl:=Zb j;exact E3 a vs n (A4 rfl g f d)
 ·obtain rfl:=Zb e;refine dM r.of_lst fun a vs n b i=>?_;obtain rfl:=b;refine bM i fun h f d=>?_;exact E3 a vs n (A4 rfl (I.frz _ _ h) f d)
theorem cR{c:Cx}{W:Wd}{Kp:aA}{H:aq->Option MObj}{nx:Nat}{s:Shared}{v:Value}{x:MV}{xs:List MV}{P:Value->Prop}(I:Inv c W Kp H nx s)(r:VR c.S W v x)(e:bc H x=some xs)(k:∀a vs n,s.heap.get? a=some (bg vs n)->VRs c.S W vs xs->xs.length<=100000->P (.ref a)):P v:=
 bW (gO I r e) fun a vs n h b d f=>h▸k a vs n b d f
theorem aT{h:Heap}{a:Addr}{vs:List Value}{n:Nat}(g:h.get? a=some (bg vs n)):h.IsList a vs.toArray:=⟨_,g,rfl,n,rfl⟩
def newL(xs:List MV)(a:AS)(Q:MV->AS->Prop):Prop:=
 xs.length<=100000/\(Q (.lst xs) a\/∃t,fJ a.H a.nx t/\Q (.tag t) { a with H:=af a.H t (.list xs),nx:=cf a.nx t })
def newT(xs:List MV)(a:AS)(Q:MV->AS->Prop):Prop:=xs.length<=100000/\Q (.tup xs) a
section
variable {c:Cx}{W:Wd}{Kp:aA}{d:Env}{i:AS}{s:Shared}{Q:MV->AS->Prop}
theorem Fm.alloc{a:Wd}{h':Heap}(f:Fm c W Kp d i.m s.heap)(le:W.le a)(h:∀b,b<s.heap.objs.size->a.own b=W.own b/\a.F b=W.F b)(k:∀b j,s.heap.get? b=some j->h'.get? b=some j) :Fm c a Kp d i.m h':=
 f.move le (fun b g=>(((h b (f.lt g)).1)▸((h b (f.lt g)).2)▸⟨(f.out b g).1,(f.out b g).2.1⟩)) fun b o _ e=>k b o e
theorem Wd.add_old{t:aq}{a:Addr}{as:List Addr}{n:Nat}(g:n<=a)(e:∀b∈as,n<=b):∀b,b<n->(W.add t a as).own b=W.own b/\(W.add t a as).F b=W.F b:=fun b f=>by
 refine⟨?_,rfl⟩;show(if b=a\/b∈as then some t else W.own b)=W.own b;rw[if_neg];rintro (z|z);·exact xK 0 0 1 0 (bR 0 0 0 0 0 0 g (Zd z.symm) rfl) f rfl
 ·have:=e _ z;exact Nat.not_le_of_lt f this
theorem Wd.freeze_old{a:Addr}{o:Obj}{n:Nat}(e:n<=a):∀b,b<n->(W.freeze a o).own b=W.own b/\(W.freeze a o).F b=W.F b:=fun b f=>by
 refine⟨rfl,?_⟩;show(if b=a then some o else W.F b)=W.F b;exact(if_neg (Zh (Zk f e)))
theorem PE.newL{a:Addr}{vs:List Value}{xs:List MV}{n tk:Nat}{h':Heap}(I:InvF c W Kp d i s)(l:VRs c.S W vs xs)(q:newL xs i Q)(f:s.heap.objs.size<=a)(g:h'.get? a=some (bg vs n))(k:∀b m,s.heap.get? b=some m->h'.get? b=some m):PE c W Kp d Q (.ref a) { s with heap:=h',toks:=tk }:=by
 have e:=q.1;rcases q.2 with q|⟨t,j,q⟩
 ·have le:W.le (W.freeze a (bg vs n)):=Wd.le_freeze (I.inv.fresh_F f);refine⟨W.freeze a (bg vs n),E2 (.lst xs) i (A4 le ⟨I.inv.freeze f g (E2 _ _ rfl) k,I.fm.alloc le (Wd.freeze_old f) k⟩ (.lst (n:=n) ?_ (l.mono le) e) q)⟩;show(if a=a then _ else _)=_;exact(if_pos rfl)
 ·have le:W.le (W.add t a []):=Wd.le_add I.inv j f (fun _ h=>nomatch h);have p:=I.inv.alloc (o:=.list xs) (as:=[]) (tk:=tk) j f (fun _ h=>nomatch h) ⟨_,g⟩ (fun _ h=>nomatch h) k ⟨a,E2 vs n (A5 (by show(if t=t then _ else _)=_;rw[if_pos rfl]) (by show(if a=a\/a∈[] then _ else _)=_;rw[if_pos (.inl rfl)]) g (l.mono le) e)⟩;refine⟨W.add t a [],E2 (.tag t) ({ i with H:=af i.H t (.list xs),nx:=cf i.nx t }) (A4 le ⟨p,I.fm.alloc le (Wd.add_old f (fun _ h=>nomatch h)) k⟩ (.tag ?_) q)⟩;show(if t=t then _ else _)=_;rw[if_pos rfl]
theorem PE.newT{a:Addr}{vs:List Value}{xs:List MV}{n tk:Nat}{h':Heap}(I:InvF c W Kp d i s)(h:VRs c.S W vs xs)(q:newT xs i Q)(e:s.heap.objs.size<=a)(g:h'.get? a=some (fG vs n))(k:∀b f,s.heap.get? b=some f->h'.get? b=some f):PE c W Kp d Q (.ref a) { s with heap:=h',toks:=tk }:=by
 have le:W.le (W.freeze a (fG vs n)):=Wd.le_freeze (I.inv.fresh_F e);refine⟨W.freeze a (fG vs n),E2 (.tup xs) i (A4 le ⟨I.inv.freeze e g (E2 _ _ rfl) k,I.fm.alloc le (Wd.freeze_old e) k⟩ (.tup (n:=n) ?_ (h.mono le) q.1) q.2)⟩;show(if a=a then _ else _)=_;exact(if_pos rfl)
theorem PE.pushL{vs:List Value}{xs:List MV}{n tk:Nat}(I:InvF c W Kp d i s)(a:VRs c.S W vs xs)(q:Mini.Tactic.newL xs i Q) :PE c W Kp d Q (.ref s.heap.objs.size) { s with heap:=s.heap.push (bg vs n),toks:=tk }:=
 .newL I a q (Zj _) (Zq _ rfl) fun _ _ e=>Zl _ e
theorem PE.pushT{vs:List Value}{xs:List MV}{n tk:Nat}(I:InvF c W Kp d i s)(a:VRs c.S W vs xs)(q:Mini.Tactic.newT xs i Q) :PE c W Kp d Q (.ref s.heap.objs.size) { s with heap:=s.heap.push (fG vs n),toks:=tk }:=
 .newT I a q (Zj _) (Zq _ rfl) fun _ _ e=>Zl _ e
end
def bV:List ap->AS->(List MV->AS->Prop)->Prop
 |[],σ,Q=>Q [] σ
 |f::fs,σ,Q=>f σ fun v a=>bV fs a fun vs b=>Q (v::vs) b
def PEs(c:Cx)(W:Wd)(Kp:aA)(b:Env)(Q:List MV->AS->Prop)(vs:List Value)(d:Shared):Prop:=
 ∃a xs σ',W.le a/\InvF c a Kp b σ' d/\VRs c.S a vs xs/\Q xs σ'
theorem PEs.ex{c:Cx}{W:Wd}{Kp:aA}{g:Env}{Q:List MV->AS->Prop}{vs:List Value}{s:Shared}{p:Prop}(z:PEs c W Kp g Q vs s)(k:∀f xs σ',W.le f->InvF c f Kp g σ' s->VRs c.S f vs xs->Q xs σ'->p):p:=
 by refine bW z fun f y σ' a b d e=>?_;exact k f y σ' a b d e
inductive CEs(c:Cx)(sc:Scope)(lv:Nat):List Expr->List ap->Prop
 |nil:CEs c sc lv [] []
 |cons {e:Expr}{es:List Expr}{f:ap}{fs:List ap}(h:CE c sc lv e f)(t:CEs c sc lv es fs)(hs:∀rest env,starEach (e::rest) env=(false,eval e env)::starEach rest env:=by intros;rfl):CEs c sc lv (e::es) (f::fs)
section
variable {c:Cx}{sc:Scope}{lv:Nat}
theorem CEs.spliced{pos:Pos}{es:List Expr}{fs:List ap}(h:CEs c sc lv es fs){a:Env}{A:Around}{Kp:aA}{E:Value->Shared->Prop}(m:a.scope=sc)(l:cv a)(k:AOK c lv A Kp a) :∀{W:Wd}{e:AS}{s:Shared}{Q:List MV->AS->Prop},InvF c W Kp a e s->bV fs e Q->wpAny c.M A (PySem.spliced (backTo pos (starEach es a))) (PEs c W Kp a Q) E s:=by
 induction h with
 |nil=>exact fun I q=>Zi ⟨_,E2 ([]) _ (A4 (.refl _) I .nil q)⟩
 |cons h t n o=>
  intro W e s Q I q;rw[n];refine Zf (h.use m l k I q fun B x y v s1 d g u p=>?_);refine Zf (Zi (Zf (wpAny_holding (Zg (o g p) (fun vs C z=>?_) fun _ _ z=>z))));refine bW z fun j xs f b i w r=>?_;exact Zi ⟨j,E2 (x::xs) f (A4 (d.trans b) i (.cons (u.mono b) w) r)⟩
def dJ(fs:List ap):ap:=fun b Q=>bV fs b fun xs a=>newL xs a Q
theorem aY{es:List Expr}{fs:List ap}{pos:Pos}(h:CEs c sc lv es fs):CE c sc lv (.List es pos) (dJ fs):=by
 intro f A W Kp o s Q E j i g I q;refine List_ (Zg (h.spliced j i g I q) (fun vs s1 k=>k.ex fun m xs l a e d b=>?_) fun _ _ z=>z);refine wpAny_newList ?_ (k7 (d.length▸b.1));exact(PE.pushL (n:=0) e d b).le a
def mx(fs:List ap):ap:=fun b Q=>bV fs b fun xs a=>newT xs a Q
theorem eE{es:List Expr}{fs:List ap}{k:Nat}{pos:Pos}(h:CEs c sc lv es fs):CE c sc lv (.Tuple es k pos) (mx fs):=by
 intro f A W Kp p s Q E j i g I q;refine Tuple_ (Zg (h.spliced j i g I q) (fun vs s1 l=>l.ex fun o xs m a e d b=>?_) fun _ _ z=>z);refine wpAny_newTuple ?_ (k7 (d.length▸b.1));exact(PE.pushT (n:=0) e d b).le a
end
noncomputable def ah(es:List (Nat×MV))(n:Nat)(x:MV):List (Nat×MV):=if es.any (fun p=>p.1 == n) then es.map (fun p=>if p.1 == n then(p.1,x) else p) else es++[(n,x)]
noncomputable def nL(es:List (Nat×MV))(n:Nat):List (Nat×MV):=es.filter fun p=>!(p.1 == n)
theorem Cx.dec(c:Cx)(k n:Nat):decide (c.S k=c.S n)=(k == n):=by
 by_cases q:k=n;·rw[q,decide_eq_true rfl,beq_self_eq_true]
 ·rw[decide_eq_false fun e=>q (c.inj _ _ e),beq_eq_false_iff_ne.mpr q]
theorem KVR.at{c:Cx}{W:Wd}{kvs:List (Str×Value)}{es:List (Nat×MV)}(h:KVR c.S W kvs es)(n:Nat):(es.lookup n=none/\valueAt kvs (c.S n)=none)\/∃x v,es.lookup n=some x/\valueAt kvs (c.S n)=some v/\VR c.S W v x:=by
 induction h with
 |nil=>exact .inl ⟨rfl,rfl⟩
 |cons h b a=>
  rename_i k v x kvs es;unfold valueAt at a ⊢;rw[List.lookup_cons,List.find?_cons,c.dec k n,show(n == k)=(k == n) from Bool.beq_comm];cases k == n with
  |true=>exact .inr (E2 x v (A3 rfl rfl h))
  |false=>exact a
theorem KVR.some{c:Cx}{W:Wd}{kvs:List (Str×Value)}{es:List (Nat×MV)}{n:Nat}{x:MV}(h:KVR c.S W kvs es)(e:es.lookup n=some x):∃v,valueAt kvs (c.S n)=some v/\VR c.S W v x:=by
 rcases h.at n with⟨q,_⟩|⟨x',v,q,a,r⟩
 ·replace q:=e▸q;exact jF q
 ·rw[e] at q;obtain rfl:=Zb q;exact⟨v,a,r⟩
theorem KVR.none{c:Cx}{W:Wd}{kvs:List (Str×Value)}{es:List (Nat×MV)}{n:Nat}(h:KVR c.S W kvs es)(e:es.lookup n=none):valueAt kvs (c.S n)=none:=by
 rcases h.at n with⟨_,q⟩|⟨x',v,q,_⟩
 ·exact q
 ·replace q:=e▸q;exact aQ q
theorem KVR.append{S:Nat->Str}{W:Wd}{kvs:List (Str×Value)}{es:List (Nat×MV)}{a:List (Str×Value)}{es':List (Nat×MV)}(h:KVR S W kvs es)(h':KVR S W a es'):KVR S W (kvs++a) (es++es'):=by
 induction h with
 |nil=>exact h'
 |cons h _ b=>exact .cons h b
theorem KVR.any{c:Cx}{W:Wd}(n:Nat){kvs:List (Str×Value)}{es:List (Nat×MV)}(h:KVR c.S W kvs es):(kvs.any fun b=>decide (b.1=c.S n))=es.any fun p=>p.1 == n:=by
 induction h with
 |nil=>rfl
 |cons h _ a=>rw[List.any_cons,List.any_cons,a,c.dec]
theorem Ah(c:Cx){d:Type}(k n:Nat)(a b:d):(if c.S k=c.S n then a else b)=if (k == n)=true then a else b:=by
 rw[<-c.dec];by_cases q:c.S k=c.S n;·rw[if_pos q,if_pos (decide_eq_true q)]
 ·rw[if_neg q,if_neg fun e=>q (of_decide_eq_true e)]
theorem KVR.setAll{c:Cx}{W:Wd}(n:Nat){v:Value}{x:MV}(r:VR c.S W v x){kvs:List (Str×Value)}{es:List (Nat×MV)}(h:KVR c.S W kvs es) :KVR c.S W (kvs.map fun a=>if a.1=c.S n then(a.1,v) else a) (es.map fun p=>if p.1 == n then(p.1,x) else p):=by
 induction h with
 |nil=>exact .nil
 |cons h d b=>
  rename_i k e x' kvs es;rw[List.map_cons,List.map_cons];rw[Ah];cases k == n with
  |true=>exact .cons r b
  |false=>exact .cons h b
theorem KVR.put{c:Cx}{W:Wd}{kvs:List (Str×Value)}{es:List (Nat×MV)}(n:Nat){v:Value}{x:MV}(h:KVR c.S W kvs es)(r:VR c.S W v x):KVR c.S W (stored kvs (c.S n) v) (ah es n x):=by
 delta stored ah;refine(h.any n)▸?_;split;·exact h.setAll n r
 ·exact h.append (.cons r .nil)
theorem KVR.del{c:Cx}{W:Wd}(n:Nat){kvs:List (Str×Value)}{es:List (Nat×MV)}(h:KVR c.S W kvs es):KVR c.S W (without kvs (c.S n)) (nL es n):=by
 induction h with
 |nil=>exact .nil
 |cons h b a=>
  rename_i k v x kvs es;unfold without nL at a ⊢;rw[List.filter_cons,List.filter_cons];refine(show decide (c.S k≠c.S n)=!(k == n) by rw[<-c.dec,decide_not]).symm▸?_;cases k == n with
  |true=>exact a
  |false=>exact .cons h a
theorem sd{c:Cx}{o:Obj}{a:Array DictEntry}{ep:Nat}{kvs:List (Str×Value)}(hd:o.data=.dict a ep)(f:KeysOf c.knd a)(i:Pairs c.knd a.toList kvs)(name:Str):lookIn name o=some (valueAt kvs name):=by
 have e:=i.find name;have q:(fun d:DictEntry=>c.knd.is name d.key)=fun d=>d.key.isStr name:=funext fun d=>(isStr_of name d.key).symm;rw[q] at e;delta lookIn;refine hd▸?_;dsimp only;refine e▸?_;cases h:a.toList.find? (fun d=>d.key.isStr name) with
 |some d=>rfl
 |none=>
  have:a.toList.any (·.refKey)=false:=by
   refine List.any_eq_false.mpr ?_;intro d g;refine ar (f d (Array.mem_toList_iff.mp g)) fun k b _=>?_;have:Value.isStrOf k d.key=true:=b;refine Zx (Value.isStrOf_shape this) fun t j=>?_;simp[DictEntry.refKey,j]
  simp only[this,Bool.false_eq_true,if_false,Option.map_none]
structure xu(K:Frag)(C:Addr):Prop where
 ga:findIn K (.ref C) "__getattribute__"=some (some (.builtin "object.__getattribute__"))
 sa:findIn K (.ref C) "__setattr__"=some (some (.builtin "object.__setattr__"))
 gat:findIn K (.ref C) "__getattr__"=some none
 bo:findIn K (.ref C) "__bool__"=some none
 le:findIn K (.ref C) "__len__"=some none
 pl:plainOver K C=true
 make:makesIn K C=true
 cd:∃cd,clsIn K C=some cd/\cd.hasDict=true
theorem Cx.cls_facts(c:Cx){C:Nat}(h:C<4):xu c.K (c.cls C):=by
 have e:=c.hcls C h;unfold pD at e;simp only[Bool.and_eq_true,beq_iff_eq] at e;refine Za e fun a l=>?_;refine Za a fun a k=>?_;obtain⟨⟨⟨⟨⟨b,d⟩,f⟩,g⟩,i⟩,j⟩:=a;exact⟨d,f,g,i,j,k,l,any_some b⟩
structure x0(c:Cx)(W:Wd)(h:Heap)(t:aq)(a d:Addr)(C:Nat)(es:List (Nat×MV))(kvs:List (Str×Value))(od:Obj):Prop where
 at_:h.get? a=some (instObj (c.cls C) d)
 dict:h.DictOf c.knd d kvs
 kv:KVR c.S W kvs es
 inst:InstAt h a (instObj (c.cls C) d) (c.cls C) (some od)
 look:∀name,lookIn name od=some (valueAt kvs name)
 owd:W.own d=some t
 C4:C<4
 len:es.length<=1000
theorem pA{c:Cx}{W:Wd}{Kp:aA}{H:aq->Option MObj}{nx:Nat}{s:Shared}{v:Value}{t:aq}{C:Nat}{es:List (Nat×MV)}(I:Inv c W Kp H nx s)(r:VR c.S W v (.tag t))(e:H t=some (.inst C es)) :∃a d kvs od,v=.ref a/\W.ρ t=some a/\W.own a=some t/\x0 c W s.heap t a d C es kvs od:=by
 refine ar r.of_tag fun a b k=>?_;obtain rfl:=b;refine fL (I.objs _ _ e) fun y d kvs i w x g hd b=>?_;refine bM b fun u q f=>?_;replace i:=k▸i;obtain rfl:=Zb i;have h:=hd;refine fL hd fun o j ep l z m n p A=>?_;exact E4 a d kvs o ⟨rfl,k,w,g,h,u,⟨g,rfl,rfl,l⟩,sd m n p,x,q,f⟩
theorem kb{c:Cx}{W:Wd}{Kp:aA}{H:aq->Option MObj}{nx:Nat}{s:Shared}{v:Value}{t:aq}{C:Nat}{es:List (Nat×MV)}{P:Value->Prop}(I:Inv c W Kp H nx s)(r:VR c.S W v (.tag t))(e:H t=some (.inst C es))(k:∀a d kvs od,W.ρ t=some a->W.own a=some t->x0 c W s.heap t a d C es kvs od->P (.ref a)):P v:=
 dU (pA I r e) fun a d kvs od h z=>h▸k a d kvs od z.1 z.2.1 z.2.2
noncomputable def qK:MV->Bool
 |.raw v=>handedIn v
 |_=>true
theorem VR.handed{S:Nat->Str}{W:Wd}{v:Value}{x:MV}(r:VR S W v x)(h:qK x=true):handedIn v=true:=by
 cases r<;>first|rfl|exact h
theorem qC{c:Cx}{C n:Nat}{od:Obj}{v:Value}(d:C<4)(f:n∈dO C)(e:lookIn (c.S n) od=some (some v)):findObj c.K (c.cls C) (some od) (c.S n)=some (.value v):=
 ar ((c.cls_facts d).cd) fun cd a b=>findObj_own (show(clsIn c.K (c.cls C)).any _=true from a.symm▸b) (c.hattr C n f) rfl e
theorem sW{K:Frag}{f:Addr}(h:fnIn K f=true):keepIn K (.ref f)=true:=by
 delta keepIn;dsimp only;delta fnIn at h;revert h;generalize K.lookup f=x;intro h;rcases x with _|⟨_,_,d,_⟩
 ·exact jU h
 ·cases d<;>first|rfl|exact jU h
section
variable {c:Cx}{sc:Scope}{lv:Nat}
def wa(v:MV)(n:Nat)(a:AS)(Q:MV->AS->Prop):Prop:=∃t C es x,v=.tag t/\a.H t=some (.inst C es)/\n∈dO C/\es.lookup n=some x/\qK x=true/\Q x a
def aB(a:ap)(n:Nat):ap:=fun d Q=>a d fun v b=>wa v n b Q
theorem yc{A:Around}{W:Wd}{Kp:aA}{e:Env}{i:AS}{s:Shared}{Q:MV->AS->Prop}{E:Value->Shared->Prop}{v:Value}{x:MV}{n:Nat}{b:Bool}(I:InvF c W Kp e i s)(r:VR c.S W v x)(q:wa x n i Q) :
  wpAny c.M A (getAttr v (c.S n) b) (PE c W Kp e Q) E s:=by
 refine dU q fun t C es y f g=>?_;obtain rfl:=f;refine je g fun j k l m q=>?_;apply kb I.inv r j;intro a d kvs od _ _ X;refine ar (X.kv.some l) fun u o h=>?_;refine get_value I.inv.KIn X.inst (c.cls_facts X.C4).ga (qC X.C4 k ((X.look _).trans (congrArg _ o))) (h.handed m) ?_;exact PE.here (I.tok _) h q
def vk(e:Expr)(x:Str)(pos:Pos):Prop:=∀a:Env,eval (.Attribute e x pos) a=(do
   let o <-eval e a
   standAt pos.atName
   let r <-holding [o] (getAttr o x true)
   letTemporaryGo e o r
   pure r)
def fW(o:Expr)(x:Str)(b pos:Pos)(es:List Expr)(ks:List Keyword):Prop:=∀a:Env,∃pl,eval (.Call (.Attribute o x b) es ks pos) a=(do
   let ov <-eval o a
   standAt b.atName
   let (f,first) <-holding [ov] (getMethod ov x pl)
   callWith pos f first (backTo pos (starEach es a)) (backToKw pos (keywordEach ks a)))
theorem yT{e:Expr}{a:ap}{x:Str}{pos:Pos}(n:Nat)(l:c.S n=x)(h:CE c sc lv e a)(j:vk e x pos):CE c sc lv (.Attribute e x pos) (aB a n):=by
 subst l;intro b A W Kp t s Q E k i g I q;refine Attribute_any_ (h.use k i g I q fun r y p v s1 d f o m=>?_) (j b);exact Zg (yc f o m) (fun _ _ z=>z.le d) fun _ _ z=>z
end
end
section
noncomputable def b6(H:aq->Option MObj)(v:MV):Option (List MV):=MV.casesOn v none (fun _=>none) (fun _=>none) (fun _=>none) (fun t=>ka (H t)) (fun xs=>some xs) (fun xs=>some xs) (fun _=>none) (fun _ _=>none) (fun _=>none)
theorem nC{H:aq->Option MObj}{v:MV}{xs:List MV}(h:b6 H v=some xs):v=.tup xs\/((∀H',b6 H' v=bc H' v)/\bc H v=some xs):=by
 cases v with
 |tup ys=>left;obtain rfl:=Zb h;rfl
 |_=>right;exact⟨fun _=>rfl,h⟩
noncomputable def jO(n:Nat)(o:Option MObj):Option MV:=Option.casesOn o none fun o=>MObj.casesOn o (fun _ _=>none) (fun _=>none) (fun es _=>es.lookup n) (fun _=>none) (fun _ _=>none)
noncomputable def px(H:aq->Option MObj)(n:Nat)(v:MV):Option MV:=MV.casesOn v none (fun _=>none) (fun _=>none) (fun _=>none) (fun t=>jO n (H t)) (fun _=>none) (fun _=>none) (fun _=>none) (fun _ _=>none) (fun _=>none)
noncomputable def iL(H:aq->Option MObj)(v w:MV):Option MV:=MV.casesOn w none (fun _=>none)
 (fun k=>match b6 H v with
  |some xs=>if 0<=k then xs[k.toNat]? else none
  |none=>none) (fun n=>px H n v) (fun _=>none) (fun _=>none) (fun _=>none) (fun _=>none) (fun _ _=>none) (fun _=>none)
theorem zC{c:Cx}{W:Wd}{Kp:aA}{H:aq->Option MObj}{nx:Nat}{s:Shared}{v:Value}{x:MV}{xs:List MV}(I:Inv c W Kp H nx s)(r:VR c.S W v x)(e:b6 H x=some xs) :∃a vs n,v=.ref a/\(s.heap.get? a=some (bg vs n)\/s.heap.get? a=some (fG vs n))/\VRs c.S W vs xs/\xs.length<=100000:=by
 rcases nC e with rfl|h
 ·refine dM r.of_tup fun a vs n b d=>?_;obtain rfl:=b;refine bM d fun h l k=>?_;exact E3 a vs n (A4 rfl (.inr (I.frz _ _ h)) l k)
 ·refine bW (gO I r h.2) fun a vs n f g i j=>?_;exact E3 a vs n (A4 f (.inl g) i j)
theorem m7{c:Cx}{W:Wd}{Kp:aA}{H:aq->Option MObj}{nx:Nat}{s:Shared}{v:Value}{x:MV}{xs:List MV}{P:Value->Prop}(I:Inv c W Kp H nx s)(r:VR c.S W v x)(e:b6 H x=some xs)(k:∀a vs n,(s.heap.get? a=some (bg vs n)\/s.heap.get? a=some (fG vs n))->VRs c.S W vs xs->xs.length<=100000->P (.ref a)):P v:=
 bW (zC I r e) fun a vs n h b d f=>h▸k a vs n b d f
theorem gB{h:Heap}{a:Addr}{vs:List Value}{n:Nat}(g:h.get? a=some (fG vs n)):IsTup h a vs.toArray:=⟨_,g,rfl,n,rfl⟩
theorem te{c:Cx}{W:Wd}{Kp:aA}{H:aq->Option MObj}{nx:Nat}{s:Shared}{v:Value}{t:aq}{es:List (Nat×MV)}{h:Option Obj}(I:Inv c W Kp H nx s)(r:VR c.S W v (.tag t))(e:H t=some (.dict es h)) :∃a kvs,v=.ref a/\W.ρ t=some a/\W.own a=some t/\s.heap.DictOf c.knd a kvs/\KVR c.S W kvs es/\es.length<=100000/\(a == sysModules)=false:=by
 refine ar r.of_tag fun a d f=>?_;obtain rfl:=d;refine ip (I.objs _ _ e) fun l kvs g b hd k i _=>?_;rw[f] at g;obtain rfl:=Zb g;refine E2 a kvs (A7 rfl f b hd k i ?_);refine Zx c.sm fun o j=>?_;exact beq_eq_false_iff_ne.mpr fun e=>by rw[e,I.kpOwn _ _ (I.base _ _ j)] at b;exact aQ b
theorem gC{c:Cx}{W:Wd}{Kp:aA}{H:aq->Option MObj}{nx:Nat}{s:Shared}{v:Value}{t:aq}{es:List (Nat×MV)}{b:Option Obj}{P:Value->Prop}(I:Inv c W Kp H nx s)(r:VR c.S W v (.tag t))(e:H t=some (.dict es b))(k:∀a kvs,W.ρ t=some a->W.own a=some t->s.heap.DictOf c.knd a kvs->KVR c.S W kvs es->es.length<=100000->(a == sysModules)=false->P (.ref a)):P v:=
 br (te I r e) fun a kvs h z=>h▸k a kvs z.1 z.2.1 z.2.2.1 z.2.2.2.1 z.2.2.2.2.1 z.2.2.2.2.2
theorem zB{c:Cx}{W:Wd}{Kp:aA}{H:aq->Option MObj}{nx:Nat}{s:Shared}{v:Value}{t:aq}{xs:List Nat}(I:Inv c W Kp H nx s)(r:VR c.S W v (.tag t))(e:H t=some (.set xs)) :∃a,v=.ref a/\W.ρ t=some a/\W.own a=some t/\s.heap.SetOf c.knd a (fun k=>xs.any fun n=>decide (c.S n=k)) xs.length/\xs.length<=1000:=by
 refine ar r.of_tag fun a b d=>?_;obtain rfl:=b;refine eW (I.objs _ _ e) fun i f h hd g=>?_;rw[d] at f;obtain rfl:=Zb f;exact⟨a,A5 rfl d h hd g⟩
theorem k8{c:Cx}{W:Wd}{Kp:aA}{H:aq->Option MObj}{nx:Nat}{s:Shared}{v:Value}{t:aq}{xs:List Nat}{P:Value->Prop}(I:Inv c W Kp H nx s)(r:VR c.S W v (.tag t))(e:H t=some (.set xs))(k:∀a,W.ρ t=some a->W.own a=some t->s.heap.SetOf c.knd a (fun k=>xs.any fun n=>decide (c.S n=k)) xs.length->xs.length<=1000->P (.ref a)):P v:=
 ar (zB I r e) fun a h z=>h▸k a z.1 z.2.1 z.2.2.1 z.2.2.2
theorem fI(c:Cx)(n:Nat)(tk:Tok):c.knd.is (c.S n) (.str (c.S n) tk)=true:=strKind_is c.prog c.w (c.S n) tk
theorem mP{k:Int}{n:Nat}(h0:0<=k)(h:k.toNat<n):seqIndex? k n=some k.toNat:=by
 delta seqIndex?;have a:¬ k<0:=Int.not_lt.mpr h0;simp only[a,if_false];exact(if_pos (by simp;omega))
section
variable {c:Cx}{sc:Scope}{lv:Nat}
def zp(v w:MV)(a:AS)(Q:MV->AS->Prop):Prop:=∃x,iL a.H v w=some x/\Q x a
def bG(a i:ap):ap:=fun e Q=>a e fun v b=>i b fun w d=>zp v w d Q
theorem aS{e i:Expr}{a b:ap}{pos:Pos}(J:CE c sc lv e a)(K:CE c sc lv i b)(B:∀o k,subscripted i false o k=operate [o,k] (getItem o k):=by intros;rfl):CE c sc lv (.Subscript e i pos) (bG a b):=
 CE.two J K (t:=subscriptTail e i) (fun _ _ _ _ _ h=>Subscript_ h) fun G A W Kp O s Q E u v x y S R P I D F C=>by
  refine ar C fun z d q=>?_;cases y<;>first|exact aQ d|skip
  ·apply F.intK;intro tk;dsimp only[iL] at d;split at d
   ·rename_i xs m;split at d
    ·rename_i h0;apply m7 I.inv D m;intro a vs n g j r;refine ar (j.get d) fun w p l=>?_;have f:=(List.getElem?_eq_some_iff.mp p).1;rw[j.length] at f;rcases g with g|g;·exact tail_any (aT g).typeIs slot_list_getitem.lookup (wpAny_getItem_list (aT g) h0 (yW f r rfl) (by simpa using p) (PE.here I l q)) (B _ _)
     ·have M:vs.toArray.size=xs.length:=by simp[j.length]
      refine item_tupleT (gB g) (by omega) (yW f r rfl) ?_ p (PE.here I l q) (B _ _);exact mP h0 (by rw[j.length];exact f)
    ·exact aQ d
   ·exact aQ d
  ·apply F.strK;intro tk;cases x<;>first|exact aQ d|skip
   rename_i t;cases m:O.H t with
   |none=>dsimp only[iL,px] at d;replace d:=m▸d;exact aQ d
   |some o=>
    dsimp only[iL,px] at d;replace d:=m▸d;induction o<;>first|exact aQ d|skip
    apply gC I.inv D m;intro a kvs _ _ hd N r L;refine ar (N.some d) fun w p l=>?_;exact tail_any hd.typeIs slot_dict_getitem.lookup (wpAny_getItem_of (fI c _ tk) hd.mapOf p (PE.here (I.tok _) l q)) (B _ _)
abbrev MT:=AS->(Bool->AS->Prop)->Prop
def ma(c:Cx)(lv:Nat)(f:CmpOp)(g:MV->MV->MT):Prop:=
 ∀(a:Env)(A:Around)(W:Wd)(Kp:aA)(e:AS)(s:Shared)(Q:Bool->AS->Prop)(E:Value->Shared->Prop)(u v:Value)(x y:MV),cv a->AOK c lv A Kp a->InvF c W Kp a e s->VR c.S W u x->VR c.S W v y->g x y e Q->
  wpAny c.M A (compareOp f u v) (fun r h=>∃b,r=.bool b/\∃d σ',W.le d/\InvF c d Kp a σ' h/\Q b σ') E s
noncomputable def fV:MV->MV->Option Bool
 |.int i,.int j=>some (i == j)
 |.str a,.str b=>some (a == b)
 |.bool a,.bool b=>some (a == b)
 |.none,.none=>some true
 |.none,.str _=>some false
 |.str _,.none=>some false
 |.none,.int _=>some false
 |_,_=>none
theorem ot(c:Cx)(a b:Nat):(c.S a == c.S b)=(a == b):=by
 by_cases h:a=b;·subst h;simp
 ·rw[beq_eq_false_iff_ne.mpr h,beq_eq_false_iff_ne.mpr fun e=>h (c.inj _ _ e)]
inductive FE:MV->MV->Bool->Prop
 |int (i j:Int):FE (.int i) (.int j) (i == j)
 |str (a b:Nat):FE (.str a) (.str b) (a == b)
 |bool (a b:Bool):FE (.bool a) (.bool b) (a == b)
 |none:FE .none .none true
 |noneStr (a:Nat):FE .none (.str a) false
 |strNone (a:Nat):FE (.str a) .none false
 |noneInt (i:Int):FE .none (.int i) false
theorem mG{x y:MV}{b:Bool}(e:fV x y=some b):FE x y b:=by
 cases x<;>first|exact aQ e|(cases y<;>first|exact aQ e|(obtain rfl:=Zb e;constructor))
theorem vi{c:Cx}{W:Wd}{A:Around}{s:Shared}{u v:Value}{x y:MV}{b:Bool}(a:VR c.S W u x)(d:VR c.S W v y)(e:fV x y=some b):SeqAt.EqAt A s u v b:=by
 cases mG e;·apply a.intK;intro t;apply d.intK;intro f;exact SeqAt.EqAt.int_int _ _ _ _
 ·apply a.strK;intro t;apply d.strK;intro f;rw[<-ot c];exact SeqAt.EqAt.str_str _ _ _ _
 ·refine a.of_bool▸d.of_bool▸?_;exact SeqAt.EqAt.bool_bool _ _
 ·refine a.of_none▸d.of_none▸?_;exact SeqAt.EqAt.same _
 ·rw[a.of_none];apply d.strK;intro f;exact SeqAt.EqAt.none_str _ _
 ·refine d.of_none▸?_;apply a.strK;intro f;exact SeqAt.EqAt.str_none _ _
 ·rw[a.of_none];apply d.intK;intro f;exact SeqAt.EqAt.none_int _ _
def gT(x y:MV):MT:=fun a Q=>∃b,fV x y=some b/\Q b a
theorem bD:ma c lv .Eq gT:=by
 intro l A W Kp C s Q E u v x y G F I f h m;refine ar m fun b e q=>?_;have a:∀i k,i.heap=s.heap->i.os=s.os->i.gens=s.gens->k=b->∃b,Value.bool k=.bool b/\∃n σ',W.le n/\InvF c n Kp l σ' i/\Q b σ':=fun i k o p r w=>by
  subst w;refine⟨k,rfl,E2 W C (A3 (.refl W) ?_ q)⟩;obtain⟨H,g,d,t,os⟩:=i;obtain⟨z,D,d',j,B⟩:=s;dsimp only at o p r;subst o p r;exact⟨⟨I.inv.base,I.inv.kept,I.inv.frz,I.inv.kpF,I.inv.objs,I.inv.dom,I.inv.old,I.inv.kpOwn,I.inv.fOwn,I.inv.os,I.inv.gens,I.inv.emp,I.inv.keepB,I.inv.tab⟩,I.fm⟩
 cases mG e;·apply f.intK;intro t;apply h.intK;intro j;exact PyProof.Rows.eq_int (a _ _ rfl rfl rfl rfl)
 ·apply f.strK;intro t;apply h.strK;intro j;exact PyProof.Rows.eq_str (a _ _ rfl rfl rfl (ot c _ _))
 ·refine f.of_bool▸h.of_bool▸?_;exact PyProof.Rows.eq_bool (a _ _ rfl rfl rfl rfl)
 ·refine f.of_none.symm▸h.of_none.symm▸?_;exact EqNone.eq_none_none (a _ _ rfl rfl rfl rfl)
 ·rw[f.of_none];apply h.strK;intro j;exact EqNone.eq_none_str (a _ _ rfl rfl rfl rfl)
 ·refine h.of_none.symm▸?_;apply f.strK;intro j;exact EqNone.eq_str_none (a _ _ rfl rfl rfl rfl)
 ·rw[f.of_none];apply h.intK;intro j;exact EqNone.eq_none_int (a _ _ rfl rfl rfl rfl)
def qM(x y:MV):MT:=fun a Q=>(∃i j,x=.int i/\y=.int j/\Q (i != j) a)\/(∃i j,x=.str i/\y=.str j/\Q (i != j) a)\/(∃i j,x=.bool i/\y=.bool j/\Q (i != j) a)
theorem ng:ma c lv .NotEq qM:=by
 intro e A W Kp d s Q E u v x y h g I a b q;rcases q with⟨i,j,rfl,rfl,q⟩|⟨i,j,rfl,rfl,q⟩|⟨i,j,rfl,rfl,q⟩
 ·apply a.intK;intro t;apply b.intK;intro f;exact PyProof.Rows.ne_int ⟨_,rfl,E2 W d (A3 (.refl W) I q)⟩
 ·apply a.strK;intro t;apply b.strK;intro f;refine PyProof.Rows.ne_str ⟨_,rfl,E2 W d (A3 (.refl W) I ?_)⟩;have:(c.S i != c.S j)=(i != j):=by unfold bne;rw[ot]
  refine this▸?_;exact q
 ·refine a.of_bool▸b.of_bool▸?_;exact PyProof.Rows.ne_bool ⟨_,rfl,E2 W d (A3 (.refl W) I q)⟩
def uT(x y:MV):MT:=fun a Q=>∃i j,x=.int i/\y=.int j/\Q (decide (j<i)) a
theorem tx:ma c lv .Gt uT:=by
 intro b A W Kp h s Q E u v x y l k I d e a;refine ci a fun i j f g q=>?_;subst f g;apply d.intK;intro t;apply e.intK;intro m;exact PyProof.Rows.gt_int ⟨_,rfl,E2 W h (A3 (.refl W) I q)⟩
theorem zl{f:Bool->Bool->Bool}{a b:Option Bool}{z:Bool}(h:(match a,b with|some x,some y=>some (f x y)|_,_=>none)=some z):∃x y,a=some x/\b=some y/\f x y=z:=by
 induction a with
 |none=>exact aQ h
 |some x=>induction b with
  |none=>exact aQ h
  |some y=>exact E2 x y (A3 rfl rfl (Zb h))
noncomputable def jQ:List MV->List MV->Option Bool
 |[],[]=>some true
 |x::xs,y::ys=>match fV x y,jQ xs ys with
  |some b,some c=>some (b&&c)
  |_,_=>none
 |[],_::_=>some false
 |_::_,[]=>some false
noncomputable def nK(xs ys:List MV):Option Bool:=if xs.length=ys.length then jQ xs ys else some false
def pP(x y:MV):MT:=fun a Q=>∃xs ys b,bc a.H x=some xs/\bc a.H y=some ys/\nK xs ys=some b/\Q b a
def sI(x y:MV):MT:=fun a Q=>∃xs ys b,bc a.H x=some xs/\bc a.H y=some ys/\nK xs ys=some b/\Q (!b) a
noncomputable def mw(xs ys:List MV)(j:Nat):Bool:=match xs[j]? with
 |some x=>match ys[j]? with
  |some y=>(fV x y).getD false
  |none=>false
 |none=>false
theorem qB{xs:List MV}:∀{ys:List MV}{b:Bool},jQ xs ys=some b->xs.length=ys.length->(∀j (x y:MV),xs[j]?=some x->ys[j]?=some y->fV x y=some (mw xs ys j))/\((List.range xs.length).all (mw xs ys))=b:=by
 induction xs with
 |nil=>
  intro ys b h a;induction ys with
  |nil=>obtain rfl:=Zb h;exact⟨fun j x y e=>aQ e,rfl⟩
  |cons y ys=>exact absurd a (Nat.succ_ne_zero _).symm
 |cons x xs n=>
  intro ys b h a;cases ys with
  |nil=>exact absurd a (Nat.succ_ne_zero _)
  |cons y ys=>
   refine ci (zl (f:=fun b c=>b&&c) h) fun d o k m e=>?_;refine Za (n m (Nat.succ.inj a)) fun i1 i2=>?_;have l:mw (x::xs) (y::ys) 0=d:=by show(fV x y).getD false=d;refine k▸?_;rfl
   constructor
   ·intro j u v g i;induction j with
    |zero=>obtain rfl:=Zb g;obtain rfl:=Zb i;refine l▸?_;exact k
    |succ j=>exact i1 j u v g i
   ·rw[List.length_cons,List.range_succ_eq_map,List.all_cons,List.all_map,l,<-e,<-i2];rfl
theorem rI{W:Wd}{A:Around}{s:Shared}{vs a:List Value}{xs ys:List MV}{b:Bool}(g:VRs c.S W vs xs)(m:VRs c.S W a ys)(l:xs.length=ys.length)(e:jQ xs ys=some b) :
  vs.toArray.size=a.toArray.size/\(∀j (h:j<vs.toArray.size)(k:j<a.toArray.size),SeqAt.EqAt A s vs.toArray[j] a.toArray[j] (mw xs ys j))/\(List.range vs.toArray.size).all (mw xs ys)=b:=by
 refine Za (qB e l) fun h k=>?_;have t:vs.toArray.size=xs.length:=by simp[g.length]
 refine A3 (by simp[g.length,m.length,l]) (fun j o p=>?_) (t▸k);have d:j<vs.length:=(o)
 have f:j<a.length:=(p)
 refine ar (g.getV (i:=j) (v:=vs[j]) (by simp[d])) fun x ex q=>?_;refine ar (m.getV (i:=j) (v:=a[j]) (by simp[f])) fun y n r=>?_;have:=vi (A:=A) (s:=s) q r (h j x y ex n);exact this
theorem jR:ma c lv .Eq pP:=by
 intro l A W Kp k s Q E u v x y B o I d p f;refine bW f fun xs ys b m n a q=>?_;apply cR I.inv d m;intro a1 vs C g i l1;apply cR I.inv p n;intro z F D h j l2;have d:A.units<cLine:=by have:=o.units;exact NB this rfl
 unfold nK at a;split at a
 ·rename_i e;refine bM (rI (A:=A.in1) (s:=s) i j e a) fun r t w=>?_;exact SeqAt.eq_listAt (aT g) (aT h) r d t ⟨_,rfl,E2 W k (A3 (.refl W) I (w▸q))⟩
 ·rename_i e;obtain rfl:=Zb a;exact SeqAt.eq_list_lengthsAt (aT g) (aT h) (by simp[i.length,j.length,e]) d ⟨_,rfl,E2 W k (A3 (.refl W) I q)⟩
theorem iZ:ma c lv .NotEq sI:=by
 intro l A W Kp k s Q E u v x y C o I d p f;refine bW f fun xs ys b m n a q=>?_;apply cR I.inv d m;intro a1 vs D g i l1;apply cR I.inv p n;intro B G F h j l2;have d:A.units<cLine:=by have:=o.units;exact NB this rfl
 unfold nK at a;split at a
 ·rename_i e;refine bM (rI (A:=A.in1) (s:=s) i j e a) fun r t z=>?_;exact SeqAt.RcNeAt.lists (aT g) (aT h) r d t c.prog c.w E _ ⟨_,rfl,E2 W k (A3 (.refl W) I (z▸q))⟩
 ·rename_i e;obtain rfl:=Zb a;exact SeqAt.RcNeAt.lists_lengths (aT g) (aT h) (by simp[i.length,j.length,e]) d c.prog c.w E _ ⟨_,rfl,E2 W k (A3 (.refl W) I q)⟩
noncomputable def dT(x:MV):List MV->Option Bool
 |[]=>some false
 |y::ys=>match fV y x,dT x ys with
  |some b,some c=>some (b||c)
  |_,_=>none
noncomputable def xY(n:Nat)(o:Option MObj):Option Bool:=Option.casesOn o none fun o=>MObj.casesOn o (fun _ _=>none) (fun _=>none) (fun es _=>some (es.lookup n).isSome) (fun xs=>some (xs.contains n)) (fun _ _=>none)
noncomputable def xX(H:aq->Option MObj)(n:Nat)(v:MV):Option Bool:=MV.casesOn v none (fun _=>none) (fun _=>none) (fun _=>none) (fun t=>xY n (H t)) (fun _=>none) (fun _=>none) (fun _=>none) (fun _ _=>none) (fun _=>none)
noncomputable def gy(H:aq->Option MObj)(x y:MV):Option Bool:=match b6 H y with
 |some xs=>dT x xs
 |none=>MV.casesOn x none (fun _=>none) (fun _=>none) (fun n=>xX H n y) (fun _=>none) (fun _=>none) (fun _=>none) (fun _=>none) (fun _ _=>none) (fun _=>none)
theorem lO{H:aq->Option MObj}{x y:MV}{xs:List MV}(h:b6 H y=some xs):gy H x y=dT x xs:=by delta gy;rw[h]
theorem rL{H:aq->Option MObj}{n:Nat}{t:aq}(h:b6 H (.tag t)=none):gy H (.str n) (.tag t)=xY n (H t):=by delta gy;refine h▸?_;rfl
def ko(x y:MV):MT:=fun a Q=>∃b,gy a.H x y=some b/\Q b a
def lB(x y:MV):MT:=fun a Q=>∃b,gy a.H x y=some b/\Q (!b) a
noncomputable def lq(v y:Value):Bool:=match y,v with
 |.int i _,.int j _=>i == j
 |.str a _,.str b _=>a == b
 |.bool a,.bool b=>a == b
 |.none,.none=>true
 |_,_=>false
theorem oP{W:Wd}{v y:Value}{x z:MV}{b:Bool}(a:VR c.S W v x)(d:VR c.S W y z)(e:fV z x=some b):lq v y=b:=by
 cases mG e;·apply a.intK;intro t;apply d.intK;intro f;rfl
 ·apply a.strK;intro t;apply d.strK;intro f;exact ot c _ _
 ·refine a.of_bool▸d.of_bool▸?_;rfl
 ·refine a.of_none.symm▸d.of_none.symm▸?_;rfl
 ·rw[d.of_none];apply a.strK;intro f;rfl
 ·refine a.of_none.symm▸?_;apply d.strK;intro f;rfl
 ·rw[d.of_none];apply a.intK;intro f;rfl
theorem un{W:Wd}{v:Value}{x:MV}(g:VR c.S W v x)(A:Around)(s:Shared){vs:List Value}{xs:List MV}(j:VRs c.S W vs xs):∀{b:Bool},dT x xs=some b->(∀y∈vs,SeqAt.EqAt A s y v (lq v y))/\vs.any (lq v)=b:=by
 induction j with
 |nil=>intro b h;obtain rfl:=Zb h;exact⟨fun _ h=>gY h,rfl⟩
 |cons i j l=>
  intro b h;refine ci (zl (f:=fun b c=>b||c) h) fun m n a k e=>?_;refine Za (l k) fun i1 i2=>?_;refine⟨fun u d=>?_,(List.any_cons▸i2▸(oP g i a)▸e)⟩;rcases List.mem_cons.mp d with rfl|d;·refine(oP g i a).symm▸?_;exact vi i g a
  ·exact i1 u d
theorem sT(xs:List Nat)(n:Nat):(xs.any fun m=>decide (c.S m=c.S n))=xs.contains n:=by
 induction xs with
 |nil=>rfl
 |cons m xs a=>
  rw[List.any_cons,List.contains_cons,a]
  congr 1
  by_cases h:m=n;·obtain rfl:=h.symm;simp
  ·have:c.S m≠c.S n:=fun e=>h (c.inj _ _ e);simp[this,Ne.symm h]
theorem sX{A:Around}{W:Wd}{Kp:aA}{i:AS}{s:Shared}{E:Value->Shared->Prop}{R:Value->Shared->Prop}{u v:Value}{x y:MV}{b:Bool}(F:VR c.S W u x)(w:VR c.S W v y)(I:Inv c W Kp i.H i.nx s)(e:gy i.H x y=some b)(d:Bool)(q:∀tk,R (.bool (b^^d)) { s with toks:=tk }):wpAny c.M A (compareOp (if d then .NotIn else .In) u v) R E s:=by
 have k:∀xs,b6 i.H y=some xs->dT x xs=some b->wpAny c.M A (compareOp (if d then .NotIn else .In) u v) R E s:=fun xs l m=>by
  apply m7 I w l;intro a vs n g z D;refine Za (un F A.in1 s z m) fun i1 i2=>?_;have f:∀y,y∈vs.toArray->SeqAt.EqAt A.in1 s y u (lq u y):=fun y G=>i1 y (by simpa using G);have h:vs.toArray.any (lq u)=b:=by simpa using i2
  have r:=q s.toks;rcases g with g|g<;>induction d;·exact SeqAt.in_listAt _ (aT g) f (by rw[h];simpa using r)
  ·exact SeqAt.notIn_listAt _ (aT g) f (by rw[h];simpa using r)
  ·exact SeqAt.in_tupleAt _ (gB g) f (by rw[h];simpa using r)
  ·exact SeqAt.notIn_tupleAt _ (gB g) f (by rw[h];simpa using r)
 cases B:b6 i.H y with
 |some xs=>replace e:=(lO B).symm.trans e;exact k xs B e
 |none=>
  delta gy at e;replace e:=B▸e;cases x<;>first|exact aQ e|skip
  rename_i n;cases y<;>first|exact aQ e|skip
  rename_i t;dsimp only[xX] at e;cases p:i.H t with
  |none=>rw[p] at e;exact aQ e
  |some o=>
   replace e:=p▸e;apply F.strK;intro tk;induction o<;>first|exact aQ e|skip
   ·obtain rfl:=Zb e;rename_i es K;apply gC I w p;intro a kvs _ _ hd J D j;have C:(valueAt kvs (c.S n)).isSome=(es.lookup n).isSome:=by
     rcases J.at n with⟨l,m⟩|⟨x,v,l,m,_⟩<;>rw[l,m]<;>rfl
    induction d;·exact wpAny_in_of (fI c n tk) j hd.mapOf (by rw[C];simpa using q (s.toks+1))
    ·exact wpAny_notIn_of (fI c n tk) j hd.mapOf (by rw[C];simpa using q (s.toks+1))
   ·obtain rfl:=Zb e;apply k8 I w p;intro a _ _ hd D;cases d;·exact wpAny_inSet_of (fI c n tk) rfl hd (by rw[sT];simpa using q (s.toks+1))
    ·exact wpAny_notInSet_of (fI c n tk) rfl hd (by rw[sT];simpa using q (s.toks+1))
theorem dD:ma c lv .In ko:=by
 intro d A W Kp h s Q E u v x y j i I f g a;refine ar a fun b e q=>?_;exact sX f g I.inv e false fun tk=>⟨_,rfl,E2 W h (A3 (.refl W) (I.tok tk) (by simpa using q))⟩
theorem eD:ma c lv .NotIn lB:=by
 intro d A W Kp h s Q E u v x y j i I f g a;refine ar a fun b e q=>?_;exact sX f g I.inv e true fun tk=>⟨_,rfl,E2 W h (A3 (.refl W) (I.tok tk) (by simpa using q))⟩
noncomputable def py:MV->Option Bool
 |.none=>some true
 |.raw _=>none
 |_=>some false
theorem qd{W:Wd}{v:Value}{x:MV}{b:Bool}(h:VR c.S W v x)(e:py x=some b):(v == Value.none)=b:=by
 cases h<;>first|exact aQ e|(obtain rfl:=Zb e;rfl)
def yZ(x y:MV):MT:=fun a Q=>∃b,y=.none/\py x=some b/\Q b a
def Ba(x y:MV):MT:=fun a Q=>∃b,y=.none/\py x=some b/\Q (!b) a
theorem ix:ma c lv .Is yZ:=by
 intro d A W Kp i s Q E u v x y k j I f g a;refine bz a fun b h e q=>?_;subst h;rw[g.of_none];exact is_none_gen ⟨_,rfl,E2 W i (A3 (.refl W) I ((qd f e)▸q))⟩
theorem nW:ma c lv .IsNot Ba:=by
 intro d A W Kp i s Q E u v x y k j I f g a;refine bz a fun b h e q=>?_;subst h;rw[g.of_none];exact isnot_none_gen ⟨_,rfl,E2 W i (A3 (.refl W) I ((qd f e)▸q))⟩
noncomputable def nO(o:Option MObj):Option Bool:=Option.casesOn o none fun o=>MObj.casesOn o (fun _ _=>some true) (fun xs=>some (!xs.isEmpty)) (fun es _=>some (!es.isEmpty)) (fun xs=>some (!xs.isEmpty)) (fun _ _=>none)
noncomputable def de(H:aq->Option MObj)(v:MV):Option Bool:=MV.casesOn v (some false) (fun b=>some b) (fun i=>some (i != 0)) (fun _=>none) (fun t=>nO (H t)) (fun xs=>some (!xs.isEmpty)) (fun xs=>some (!xs.isEmpty)) (fun _=>none) (fun _ _=>none) (fun _=>none)
theorem tN{H:aq->Option MObj}{t:aq}{o:Option MObj}(h:H t=o):de H (.tag t)=nO o:=congrArg nO h
theorem KVR.isEmpty{W:Wd}{kvs:List (Str×Value)}{es:List (Nat×MV)}(h:KVR c.S W kvs es):kvs.isEmpty=es.isEmpty:=by induction h<;>rfl
theorem VRs.isEmpty{W:Wd}{vs:List Value}{xs:List MV}(h:VRs c.S W vs xs):vs.toArray.isEmpty=xs.isEmpty:=by induction h<;>exact rfl
theorem oM:typeLookup (.type "set") "__bool__"=pure none:=by kernel_rfl
theorem tV{A:Around}{E:Value->Shared->Prop}{s:Shared}{a:Addr}{f:Str->Bool}{n:Nat}{Q:Bool->Shared->Prop}(hS:s.heap.SetOf c.knd a f n)(u:n<=1000)(h:∀tk,Q (n != 0) { s with toks:=tk }) :
  wpAny c.M A (truthy (.ref a)) Q E s:=by
 refine iQ hS fun o es ep t m g hd _ _ _ q l=>?_;have k:s.TypeIs (.ref a) "set":=⟨o,m,g.1⟩
 have i:((es.size:Int) != 0)=(n != 0):=by rw[l];induction n<;>simp<;>omega
 have key:wpAny c.M A (runValue (.builtin "len" ⟨[.ref a],[]⟩)) (fun r d=>r=.int es.size (s.toks+1)/\Q (n != 0) d) E s:=by
  refine wpAny_runValue (codeAny_builtin entry_len ?_);exact Zg (wpAny_len_body_set (Q:=fun r d=>r=.int es.size (s.toks+1)/\Q (n != 0) d) m g hd q (by omega) ⟨rfl,h _⟩)
   (fun p d h'=>by refine ar h' fun r b j=>?_;obtain rfl:=b;exact j) fun _ _ e=>e
 first
  |refine Zf (wpAny_callSpecial?_none (name:=Str.ofString "__bool__") k oM ?_)
  |refine Zf (Zi (Zf (wpAny_callSpecial?_none (name:=Str.ofString "__bool__") k oM ?_)))
 first
  |refine Zf (wpAny_specialOf (name:=Str.ofString "__len__") k F.slot_set_len.lookup ?_)
  |refine Zf (Zi (Zf (wpAny_specialOf (name:=Str.ofString "__len__") k F.slot_set_len.lookup ?_)))
 first
  |exact Zf (Zg key (fun r d h'=>by refine Za h' fun b j=>?_;obtain rfl:=b;exact Zi (i▸j)) fun _ _ e=>e)
  |exact Zf (Zi (Zf (Zg key (fun r d h'=>by obtain⟨rfl,j⟩:=h';exact Zi (i▸j)) fun _ _ e=>e)))
theorem su{a:Type}(xs:List a):(xs.length != 0)=!xs.isEmpty:=by induction xs<;>rfl
theorem lI{A:Around}{W:Wd}{Kp:aA}{l:AS}{s:Shared}{E:Value->Shared->Prop}{R:Bool->Shared->Prop}{v:Value}{x:MV}{b:Bool}(f:VR c.S W v x)(I:Inv c W Kp l.H l.nx s)(e:de l.H x=some b)(q:∀tk,R b { s with toks:=tk }):wpAny c.M A (truthy v) R E s:=by
 have i:∀xs,b6 l.H x=some xs->(!xs.isEmpty)=b->wpAny c.M A (truthy v) R E s:=fun xs y r=>by
  apply m7 I f y;intro a vs n g h k;have u:(vs.toArray.size:Int)<2 ^ 63:=by simp[h.length];exact y' k rfl
  rcases g with g|g;·exact wpAny_truthy_list (aT g) u (by rw[h.isEmpty,r];exact q _)
  ·exact truthy_tuple (gB g) u (by rw[h.isEmpty,r];exact q _)
 cases x<;>first|exact aQ e|skip
 ·obtain rfl:=Zb e;refine f.of_none▸?_;exact truthy_none (q s.toks)
 ·obtain rfl:=Zb e;refine f.of_bool▸?_;exact wpAny_truthy_bool (q s.toks)
 ·obtain rfl:=Zb e;apply f.intK;intro t;exact PyProof.Rows.truthy_int (q s.toks)
 ·rename_i t;cases j:l.H t with
  |none=>exact aQ ((tN j).symm.trans e)
  |some o=>
  replace e:=(tN j).symm.trans e;induction o with
  |list xs=>obtain rfl:=Zb e;exact i xs (ay j) rfl
  |dict es _=>
   obtain rfl:=Zb e;apply gC I f j;intro a kvs _ _ hd w k p;exact wpAny_truthy_dict p hd (w.length▸y' k rfl) (w.isEmpty▸q _)
  |set xs=>
   obtain rfl:=Zb e;apply k8 I f j;intro a _ _ hd k;exact tV hd k fun tk=>by rw[su];exact q tk
  |inst C es=>
   obtain rfl:=Zb e;apply kb I f j;intro a d kvs od _ _ X;have F:=c.cls_facts X.C4;refine Zf (m:=callSpecial? (.ref a) (Str.ofString "__bool__")) (Zf (Zf (X.inst.type.here ((looks_findIn I.KIn F.bo).here (Zi ?_)))));refine Zf (Zf (X.inst.type.here ((looks_findIn I.KIn F.le).here ?_)));exact Zi (q s.toks)
  |obj=>exact aQ e
 ·obtain rfl:=Zb e;exact i _ rfl rfl
 ·obtain rfl:=Zb e;exact i _ rfl rfl
end
end
section
def PT(c:Cx)(W:Wd)(Kp:aA)(a:Env)(Q:Bool->AS->Prop)(b:Bool)(e:Shared):Prop:=
 ∃d σ',W.le d/\InvF c d Kp a σ' e/\Q b σ'
theorem PT.ex{c:Cx}{W:Wd}{Kp:aA}{d:Env}{Q:Bool->AS->Prop}{b:Bool}{s:Shared}{p:Prop}(z:PT c W Kp d Q b s)(k:∀f σ',W.le f->InvF c f Kp d σ' s->Q b σ'->p):p:=
 by refine ci z fun f σ' a b e=>?_;exact k f σ' a b e
def CT(c:Cx)(sc:Scope)(lv:Nat)(e:Expr)(g:MT):Prop:=
 ∀(a:Env)(A:Around)(W:Wd)(Kp:aA)(b:AS)(s:Shared)(Q:Bool->AS->Prop)(E:Value->Shared->Prop),
  a.scope=sc->cv a->AOK c lv A Kp a->InvF c W Kp a b s->g b Q->wpAny c.M A (PySem.isTrue e a (eval e a)) (PT c W Kp a Q) E s
theorem PT.le{c:Cx}{W g:Wd}{Kp:aA}{e:Env}{Q:Bool->AS->Prop}{b:Bool}{s:Shared}(le:W.le g)(x:PT c g Kp e Q b s):PT c W Kp e Q b s:=by
 refine ci x fun f h a b d=>?_;exact⟨f,h,A3 (le.trans a) b d⟩
theorem CT.use{c:Cx}{sc:Scope}{lv:Nat}{e:Expr}{g:MT}(h:CT c sc lv e g){d:Env}{A:Around}{W:Wd}{Kp:aA}{j:AS}{s:Shared}{Q:Bool->AS->Prop}{E:Value->Shared->Prop}{R:Bool->Shared->Prop}(n:d.scope=sc)(m:cv d)(l:AOK c lv A Kp d)(I:InvF c W Kp d j s)(o:g j Q)(k:∀f σ' b i,W.le f->InvF c f Kp d σ' i->Q b σ'->R b i):wpAny c.M A (PySem.isTrue e d (eval e d)) R E s:=
 Zg (h d A W Kp j s Q E n m l I o) (fun v i p=>p.ex fun f σ' a b q=>k f σ' v i a b q) fun _ _ x=>x
section
variable {c:Cx}{sc:Scope}{lv:Nat}
def mB(t:MT):ap:=fun d Q=>t d fun b a=>Q (.bool b) a
def bh(g:MV->MV->MT)(a b:ap):MT:=fun f Q=>a f fun x d=>b d fun y e=>g x y e Q
theorem j7{t e:Expr}{l:CmpOp}{pos:Pos}{a b:ap}{g:MV->MV->MT}(M:ma c lv l g)(H:CE c sc lv t a)(J:CE c sc lv e b)(L:behindInMarks l e=false:=by rfl) :
  CE c sc lv (.Compare t [l] [e] pos) (mB (bh g a b)):=by
 intro f A W Kp Y s Q E w i h I q;refine wpAny_Compare1 (H.use w i h I q fun V x U u s1 j B R N=>?_) L;refine J.use w i h B N fun F y o v T d C S O=>?_;refine Zg (M f A F Kp o T _ E u v x y i h C (R.mono d) S O) (fun r X m=>?_) fun _ _ z=>z;refine ar m fun b K n=>?_;obtain⟨G,p,k,D,P⟩:=n;subst K;exact⟨G,E2 _ p (A4 ((j.trans d).trans k) D (.bool b) P)⟩
theorem aC{t e:Expr}{l:CmpOp}{pos:Pos}{a b:ap}{g:MV->MV->MT}(M:ma c lv l g)(H:CE c sc lv t a)(J:CE c sc lv e b)(L:behindInMarks l e=false:=by rfl) :
  CT c sc lv (.Compare t [l] [e] pos) (bh g a b):=by
 intro f A W Kp Y s Q E w i h I q;refine wpAny_isTrue_Compare1 (H.use w i h I q fun V x U u s1 j B R N=>?_) L;refine J.use w i h B N fun F y o v T d C S O=>?_;refine Zg (M f A F Kp o T _ E u v x y i h C (R.mono d) S O) (fun r X m=>?_) fun _ _ z=>z;refine ar m fun b K n=>?_;obtain⟨G,p,k,D,P⟩:=n;subst K;exact wpAny_truthy_bool ⟨G,p,A3 ((j.trans d).trans k) D P⟩
def c9(f:ap):MT:=fun d Q=>f d fun v a=>∃b,de a.H v=some b/\Q b a
theorem bx{e:Expr}{f:ap}(h:CE c sc lv e f)(p:∀a:Env,PySem.isTrue e a (eval e a)=(do let v <-eval e a;standAt e.pos;holding [v] (truthy v)):=by intros;rfl):CT c sc lv e (c9 f):=by
 intro a A W Kp u s Q E o m l I q;refine isTrue_plain (h.use o m l I q fun k x i v s1 d j t g=>?_) (p a);refine ar g fun b n r=>?_;exact lI t j.inv n fun tk=>⟨k,i,A3 d (j.tok tk) r⟩
def kI(t:MT):MT:=fun d Q=>t d fun b a=>Q (!b) a
theorem jj{e:Expr}{t:MT}{pos:Pos}(h:CT c sc lv e t):CT c sc lv (.UnaryOp .Not e pos) (kI t):=by
 intro i A W Kp n s Q E l k j I q;exact wpAny_isTrue_Not (h.use l k j I q fun g d b s1 a f m=>⟨g,d,A3 a f m⟩)
def jv(a b:MT):MT:=fun e Q=>a e fun x d=>match x with|true=>b d Q|false=>Q false d
def fS(a b:MT):MT:=fun e Q=>a e fun x d=>match x with|true=>Q true d|false=>b d Q
def fN:MT:=fun a Q=>Q true a
def eX:MT:=fun a Q=>Q false a
inductive CTs(c:Cx)(sc:Scope)(lv:Nat)(op:BoolOp):List Expr->MT->Prop
 |nilA (h:op=.And):CTs c sc lv op [] fN
 |nilO (h:op=.Or):CTs c sc lv op [] eX
 |consA {e:Expr}{es:List Expr}{a b:MT}(ho:op=.And)(h:CT c sc lv e a)(t:CTs c sc lv op es b):CTs c sc lv op (e::es) (jv a b)
 |consO {e:Expr}{es:List Expr}{a b:MT}(ho:op=.Or)(h:CT c sc lv e a)(t:CTs c sc lv op es b):CTs c sc lv op (e::es) (fS a b)
theorem CTs.all{p:BoolOp}{es:List Expr}{t:MT}(h:CTs c sc lv p es t){a:Env}{A:Around}{Kp:aA}{E:Value->Shared->Prop}(o:a.scope=sc)(n:cv a)(m:AOK c lv A Kp a) :∀{W:Wd}{j:AS}{s:Shared}{Q:Bool->AS->Prop},InvF c W Kp a j s->t j Q->wpAny c.M A (allTrue p es a) (PT c W Kp a Q) E s:=by
 induction h with
 |nilA e=>subst e;exact fun I q=>wpAny_allTrue_And_nil ⟨_,_,A3 (.refl _) I q⟩
 |nilO e=>subst e;exact fun I q=>wpAny_allTrue_Or_nil ⟨_,_,A3 (.refl _) I q⟩
 |consA e h t l=>
  subst e;intro W j s Q I q;refine wpAny_allTrue_And_cons (h.use o n m I q fun k f b s1 d g i=>?_);cases b;·exact⟨k,f,A3 d g i⟩
  ·exact Zg (l g i) (fun _ _ z=>z.le d) fun _ _ z=>z
 |consO e h t l=>
  subst e;intro W j s Q I q;refine wpAny_allTrue_Or_cons (h.use o n m I q fun k f b s1 d g i=>?_);cases b;·exact Zg (l g i) (fun _ _ z=>z.le d) fun _ _ z=>z
  ·exact⟨k,f,A3 d g i⟩
theorem cG{a:BoolOp}{es:List Expr}{t:MT}{pos:Pos}(h:CTs c sc lv a es t):CT c sc lv (.BoolOp a es pos) t:=by
 intro b A W Kp g s Q E f e d I q;exact wpAny_isTrue_BoolOp (h.all f e d I q)
def pN(t:MT)(a b:ap):ap:=fun e Q=>t e fun r d=>match r with|true=>a d Q|false=>b d Q
theorem fQ{e n o:Expr}{t:MT}{a b:ap}{pos:Pos}(h:CT c sc lv e t)(u:CE c sc lv n a)(v:CE c sc lv o b):CE c sc lv (.IfExp e n o pos) (pN t a b):=by
 intro d A W Kp w s Q E k j i I q;refine wpAny_IfExp (h.use k j i I q fun m g r s1 f l p=>?_);induction r;·exact Zg (v d A m Kp g s1 Q E k j i l p) (fun _ _ z=>z.le f) fun _ _ z=>z
 ·exact Zg (u d A m Kp g s1 Q E k j i l p) (fun _ _ z=>z.le f) fun _ _ z=>z
def tP(f:ap):ap:=fun d Q=>f d fun v a=>∃b,de a.H v=some b/\Q (.bool (!b)) a
theorem zV{e:Expr}{f:ap}{pos:Pos}(h:CE c sc lv e f):CE c sc lv (.UnaryOp .Not e pos) (tP f):=by
 intro k A W Kp t s Q E o m l I q;refine Zf (h.use o m l I q fun j x g v s1 a i r d=>?_);refine ar d fun b n p=>?_;refine Zf (wpAny_standAt (wpAny_holding (not_of ?_)));exact lI r i.inv n fun tk=>⟨j,E2 _ g (A4 a (i.tok tk) (.bool _) p)⟩
def v7(f g:ap):ap:=fun d Q=>f d fun v a=>∃b,de a.H v=some b/\match b with|true=>Q v a|false=>g a Q
def tQ(f g:ap):ap:=fun d Q=>f d fun v a=>∃b,de a.H v=some b/\match b with|true=>g a Q|false=>Q v a
theorem x9{k l:Expr}{f g:ap}{pos:Pos}(t:CE c sc lv k f)(u:CE c sc lv l g):CE c sc lv (.BoolOp .Or [k,l] pos) (v7 f g):=by
 intro h A W Kp y s Q E o n m I q;refine Zf (t.use o n m I q fun j x d v s1 a e r i=>?_);refine ar i fun b w p=>?_;refine Zf (wpAny_standAt (Zf (wpAny_holding (lI r e.inv w fun tk=>?_))));induction b;·exact Zg (u h A j Kp d _ Q E o n m (e.tok tk) p) (fun _ _ z=>z.le a) fun _ _ z=>z
 ·exact Zi ⟨j,E2 x d (A4 a (e.tok tk) r p)⟩
theorem zW{k l:Expr}{f g:ap}{pos:Pos}(t:CE c sc lv k f)(u:CE c sc lv l g):CE c sc lv (.BoolOp .And [k,l] pos) (tQ f g):=by
 intro h A W Kp y s Q E o n m I q;refine Zf (t.use o n m I q fun j x d v s1 a e r i=>?_);refine ar i fun b w p=>?_;refine Zf (wpAny_standAt (Zf (wpAny_holding (lI r e.inv w fun tk=>?_))));induction b;·exact Zi ⟨j,E2 x d (A4 a (e.tok tk) r p)⟩
 ·exact Zg (u h A j Kp d _ Q E o n m (e.tok tk) p) (fun _ _ z=>z.le a) fun _ _ z=>z
theorem CEs.plainArgs{es:List Expr}{fs:List ap}(h:CEs c sc lv es fs)(pos:Pos)(a:Env):(backTo pos (starEach es a)).any (·.1)=false/\(backTo pos (starEach es a)).all (!·.1)=true:=by
 induction h with
 |nil=>exact⟨rfl,rfl⟩
 |cons _ _ d b=>
  rw[d];exact⟨(b.1),(b.2)⟩
theorem CEs.evalArgs{es:List Expr}{fs:List ap}(h:CEs c sc lv es fs){pos:Pos}{f:Value}{e:Env}{A:Around}{W:Wd}{Kp:aA}{j:AS}{s:Shared}{Q:List MV->AS->Prop}{E:Value->Shared->Prop}{R:Args->Shared->Prop}(n:e.scope=sc)(m:cv e)(l:AOK c lv A Kp e)(I:InvF c W Kp e j s)(q:bV fs j Q)(k:∀g vs xs σ' i,W.le g->InvF c g Kp e σ' i->VRs c.S g vs xs->Q xs σ'->R ⟨vs,[]⟩ i) :
  wpAny c.M A (PySem.evalArgs f true (backTo pos (starEach es e)) []) R E s:=by
 have key:=h.spliced (pos:=pos) (E:=E) n m l I q;induction h with
 |nil=>
  refine evalArgs_nil3 ?_;exact k W [] [] j s (.refl W) I .nil q
 |cons _ _ o=>
  rw[o] at key ⊢;exact evalArgs_plain (Zg key (fun vs i p=>p.ex fun g xs σ' a b d q=>k g vs xs σ' i a b d q) fun _ _ z=>z)
def ir(c:Cx)(lv:Nat)(f:Value)(g:List MV->ap):Prop:=
 ∀(a:Env)(A:Around)(W:Wd)(Kp:aA)(b:AS)(s:Shared)(Q:MV->AS->Prop)(E:Value->Shared->Prop)(vs:List Value)(xs:List MV),cv a->AOK c lv A Kp a->InvF c W Kp a b s->VRs c.S W vs xs->g xs b Q->
  wpAny c.M A (call f vs) (PE c W Kp a Q) E s
noncomputable def q8:Value->Bool
 |.builtin _|.type _=>true
 |_=>false
theorem eF{M:Model}{f:Value}(h:q8 f=true)(a:Heap):∃k,(k=Keeper.frame\/k=Keeper.machine\/k=Keeper.boundFrame)/\Looks M a (keeperOf f) k:=by
 induction f<;>first|exact jU h|exact⟨.machine,.inr (.inl rfl),Looks.of_pure rfl⟩
def cC(g:List MV->ap)(fs:List ap):ap:=fun b Q=>bV fs b fun xs a=>g xs a Q
theorem xF{n:Str}{m pos:Pos}{es:List Expr}{fs:List ap}{f:Value}{g:List MV->ap}(w:CE c sc lv (.Name n m) (ie f))(C:q8 f=true)(x:ir c lv f g)(h:CEs c sc lv es fs) :CE c sc lv (.Call (.Name n m) es [] pos) (cC g fs):=by
 intro a A W Kp J s Q E l d b I q;refine wpAny_Call_NameR (w.use (Q:=fun v σ'=>v=.raw f/\σ'=J) l d b I ⟨rfl,rfl⟩ fun L y K v s1 e o F j=>?_);refine Za j fun t u=>?_;subst t u;refine F.of_raw▸?_;refine callWith_of (P:=fun _=>True) (by rw[(h.plainArgs pos a).1];rfl) (fun B _=>eF C B) ?_;refine h.evalArgs l d b o q fun r vs xs k H i p G D=>⟨trivial,?_⟩
 exact Zg (x a A r Kp k H Q E vs xs d b p G D) (fun _ _ z=>z.le (e.trans i)) fun _ _ z=>z
noncomputable def pw(o:Option MObj):Nat:=Option.casesOn o 0 fun o=>MObj.casesOn o (fun _ _=>4) (fun _=>1) (fun _ _=>2) (fun _=>3) (fun _ _=>5)
noncomputable def lE(H:aq->Option MObj)(v:MV):Nat:=MV.casesOn v 0 (fun _=>0) (fun _=>0) (fun _=>0) (fun t=>pw (H t)) (fun _=>1) (fun _=>0) (fun _=>0) (fun _ _=>0) (fun _=>0)
theorem kN{H:aq->Option MObj}{t:aq}{o:Option MObj}(h:H t=o):lE H (.tag t)=pw o:=congrArg pw h
noncomputable def tR:Nat->String
 |1=>"list"
 |2=>"dict"
 |_=>"set"
theorem yB{W:Wd}{Kp:aA}{m:AS}{s:Shared}{v:Value}{x:MV}{k:Nat}(I:Inv c W Kp m.H m.nx s)(r:VR c.S W v x)(e:lE m.H x=k)(u:k=1\/k=2\/k=3) :
  s.TypeIs v (tR k)/\∀a,v=.ref a->∃o,s.heap.get? a=some o/\o.dict=none:=by
 have p:∀xs,bc m.H x=some xs->s.TypeIs v "list"/\∀a,v=.ref a->∃o,s.heap.get? a=some o/\o.dict=none:=fun xs h=>by
  refine dM (gO I r h) fun a vs n d f=>?_;obtain rfl:=d;refine Za f fun g _=>?_;exact⟨(aT g).typeIs,fun b e=>by cases e;exact⟨_,g,rfl⟩⟩
 have no:∀{P:Prop}{j:Nat},j=k->(j=0\/j=4\/j=5)->P:=fun e h=>by subst e;rcases u with z|z|z<;>(subst z;rcases h with h|h|h<;>cases h)
 cases x<;>first|exact no e (.inl rfl)|skip
 ·rename_i t;cases l:m.H t with
  |none=>exact no ((kN l).symm.trans e) (.inl rfl)
  |some o=>
  replace e:=(kN l).symm.trans e;induction o with
  |list xs=>obtain rfl:=e;exact p _ (ay l)
  |dict es _=>
   obtain rfl:=e;refine br (te I r l) fun a kvs d f=>?_;obtain rfl:=d;refine gm f fun _ _ hd _=>?_;exact⟨hd.typeIs,hd.mapOf.noDict⟩
  |set xs=>
   obtain rfl:=e;apply k8 I r l;intro a _ _ hd _;refine iw hd fun o es ep t q i _=>?_;exact⟨⟨o,q,i.1⟩,fun b e=>by cases e;exact⟨o,q,i.2.1⟩⟩
  |inst=>exact no e (.inr (.inl rfl))
  |obj=>exact no e (.inr (.inr rfl))
 ·obtain rfl:=e;exact p _ rfl
theorem zD:(k:Nat)->PlainAttrs (tR k)
 |0=>F.plainAttrs_set
 |1=>F.plainAttrs_list
 |2=>F.plainAttrs_dict
 |_+3=>F.plainAttrs_set
def b9(k:Nat)(g:List MV->ap)(a:ap)(fs:List ap):ap:=fun e Q=>a e fun x b=>lE b.H x=k/\bV fs b fun xs d=>g (x::xs) d Q
theorem gR{o:Expr}{x:Str}{b pos:Pos}{es:List Expr}{a:ap}{fs:List ap}{id:String}{g:List MV->ap}(k:Nat)(J:k=1\/k=2\/k=3)(f:Slot (tR k) x id)(n:typeOf (.builtin id)=pure (.type "method_descriptor"))(G:ir c lv (.builtin id) g)(h0:CE c sc lv o a)(h:CEs c sc lv es fs)(l:fW o x b pos es []) :CE c sc lv (.Call (.Attribute o x b) es [] pos) (b9 k g a fs):=by
 intro d A W Kp S s Q E w j i I q;refine Zx (l d) fun pl l=>?_;refine methodCall_KW (pl:=pl) (h0.use w j i I q fun R y O v s1 p u B r=>?_) l;refine Za r fun m K=>?_;refine Za (yB u.inv B m J) fun F hd=>?_;refine getMethod_builtin F (zD k) f n hd ?_;refine callWith_of (P:=fun _=>True) (keywords:=[]) (by rw[(h.plainArgs pos d).1];rfl) (fun H _=>eF rfl H) ?_;refine h.evalArgs w j i u K fun D vs xs t N e C M L=>⟨trivial,?_⟩
 exact Zg (G d A D Kp t N Q E (v::vs) (y::xs) j i C (.cons (B.mono e) M) L) (fun _ _ z=>z.le (p.trans e)) fun _ _ z=>z
end
end
section
open PySem PySem.W PySem.Calls PyProof.Rows PySem.Spec Builtin Builtin.ObjectAttr
theorem qy{c:Cx}{h:Heap}{d:Addr}{kvs:List (Str×Value)}{name:Str}{v:Value}{tk:Tok}(G:h.DictOf c.knd d kvs) :(h.update d (Obj.putName name (PyData.keyHash c.w.params name) (.str name tk) v)).DictOf c.knd d (stored kvs name v):=by
 refine fL G fun o es ep A D hd z r q=>?_;have f:(es.findIdx? fun e=>c.knd.is name e.key)=kvs.findIdx? fun n=>decide (n.1=name):=by
  refine Eq.trans ?_ (r.findIdx name);obtain⟨l⟩:=es;simp
 have B:(fun e:DictEntry=>e.key.isStr name)=fun e=>c.knd.is name e.key:=funext fun e=>isStr_of name e.key;obtain⟨I,od,H,J⟩:=o;subst hd;refine bM D fun t u x=>?_;dsimp only at t u x;subst t u x;cases m:es.findIdx? fun e=>c.knd.is name e.key with
 |some i=>
  have e:Obj.putName name (PyData.keyHash c.w.params name) (.str name tk) v ⟨.type "dict",none,.dict es ep,#[]⟩=⟨.type "dict",none,.dict (es.modify i fun e=>{ e with val:=v }) ep,#[]⟩:=by
   simp only[Obj.putName_eq,Obj.putNameByArray,B,m]
  refine⟨_,E2 _ ep (A6 ((Heap.get?_update_self _ A (by rw[e];rfl)).trans (congrArg _ e)) ⟨rfl,rfl,rfl⟩ rfl (z.modify _ _) ?_ ?_)⟩
  ·rw[stored,if_pos (any_of_findIdx_some (f▸m))];have F:(es.toList.findIdx? fun e=>c.knd.is name e.key)=some i:=by rw[<-m];obtain⟨l⟩:=es;simp
   have:=r.modify q F v;obtain⟨l⟩:=es;simpa using this
  ·rw[stored,if_pos (any_of_findIdx_some (f▸m)),keys_map_store];exact q
 |none=>
  have j:name∉kvs.map (·.1):=not_mem_of_findIdx_none (f▸m);have g:¬ (kvs.any fun n=>decide (n.1=name))=true:=by
   rw[List.any_eq_true];intro s;refine ar s fun n p E=>?_;exact j (List.mem_map.mpr ⟨n,p,of_decide_eq_true E⟩)
  have e:Obj.putName name (PyData.keyHash c.w.params name) (.str name tk) v ⟨.type "dict",none,.dict es ep,#[]⟩=⟨.type "dict",none,.dict (es.push ⟨PyData.keyHash c.w.params name,.str name tk,v⟩) (ep+1),#[]⟩:=by
   simp only[Obj.putName_eq,Obj.putNameByArray,B,m]
  refine⟨_,E2 _ (ep+1) (A6 ((Heap.get?_update_self _ A (by rw[e];rfl)).trans (congrArg _ e)) ⟨rfl,rfl,rfl⟩ rfl ?_ ?_ ?_)⟩;·exact z.push (k:=name) (strKind_is c.prog c.w name tk) v
  ·rw[stored,if_neg g];have:=r.append (k:=name) (strKind_is c.prog c.w name tk) (PyData.keyHash c.w.params name) v;simpa using this
  ·rw[stored,if_neg g,List.map_append,List.nodup_append];refine A3 q (by simp) (fun a C b y=>?_);simp at y;obtain rfl:=y.symm;intro e;obtain rfl:=e.symm;exact j C
inductive aE where
 |next|brk|cont
 |ret (v:MV)
abbrev MS:=AS->(aE->AS->Prop)->Prop
inductive FR(S:Nat->Str)(W:Wd):Flow->aE->Prop
 |next:FR S W .next .next
 |brk:FR S W .brk .brk
 |cont:FR S W .cont .cont
 |ret {v:Value}{x:MV}(h:VR S W v x):FR S W (.ret v) (.ret x)
def PS(c:Cx)(W:Wd)(Kp:aA)(b:Env)(Q:aE->AS->Prop)(f:Flow)(d:Shared):Prop:=
 ∃a g σ',W.le a/\InvF c a Kp b σ' d/\FR c.S a f g/\Q g σ'
theorem PS.ex{c:Cx}{W:Wd}{Kp:aA}{i:Env}{Q:aE->AS->Prop}{f:Flow}{s:Shared}{p:Prop}(z:PS c W Kp i Q f s)(k:∀h g σ',W.le h->InvF c h Kp i σ' s->FR c.S h f g->Q g σ'->p):p:=
 by refine bW z fun h y σ' a b d e=>?_;exact k h y σ' a b d e
theorem PS.le{c:Cx}{W j:Wd}{Kp:aA}{h:Env}{Q:aE->AS->Prop}{f:Flow}{s:Shared}(le:W.le j)(x:PS c j Kp h Q f s):PS c W Kp h Q f s:=by
 refine bW x fun i g k a b d e=>?_;exact⟨i,E2 g k (A4 (le.trans a) b d e)⟩
def CS(c:Cx)(sc:Scope)(lv:Nat)(st:Stmt)(g:MS):Prop:=
 ∀(a:Env)(A:Around)(W:Wd)(Kp:aA)(b:AS)(s:Shared)(Q:aE->AS->Prop)(E:Value->Shared->Prop),
  a.scope=sc->cv a->AOK c lv A Kp a->InvF c W Kp a b s->g b Q->wpAny c.M A (exec st a) (PS c W Kp a Q) E s
def CSs(c:Cx)(sc:Scope)(lv:Nat)(b:List Stmt)(g:MS):Prop:=
 ∀(a:Env)(A:Around)(W:Wd)(Kp:aA)(d:AS)(s:Shared)(Q:aE->AS->Prop)(E:Value->Shared->Prop),
  a.scope=sc->cv a->AOK c lv A Kp a->InvF c W Kp a d s->g d Q->wpAny c.M A (execs b a) (PS c W Kp a Q) E s
theorem pJ{a:Env}(h:cv a):interactive a=false:=by delta interactive;refine h.kind▸?_;rfl
section
variable {c:Cx}{sc:Scope}{lv:Nat}
def bn:MS:=fun a Q=>Q .next a
def az(a b:MS):MS:=fun e Q=>a e fun f d=>match f with|.next=>b d Q|.brk=>Q .brk d|.cont=>Q .cont d|.ret v=>Q (.ret v) d
theorem iY:CSs c sc lv [] bn:=by
 intro a A W Kp b s Q E f e d I q;exact wpAny_execs_nil ⟨W,E2 _ b (A4 (.refl W) I .next q)⟩
theorem ad{st:Stmt}{i:List Stmt}{a b:MS}(h:CS c sc lv st a)(t:CSs c sc lv i b):CSs c sc lv (st::i) (az a b):=by
 intro j A W Kp v s Q E p o n I q;refine wpAny_execs_cons (Zg (h j A W Kp v s _ E p o n I q) (fun f s1 u=>u.ex fun l g e d k r m=>?_) fun _ _ z=>z);induction r with
 |next=>exact Zg (t j A l Kp e s1 Q E p o n k m) (fun _ _ z=>z.le d) fun _ _ z=>z
 |brk=>exact⟨l,E2 _ e (A4 d k .brk m)⟩
 |cont=>exact⟨l,E2 _ e (A4 d k .cont m)⟩
 |ret h=>exact⟨l,E2 _ e (A4 d k (.ret h) m)⟩
theorem am{st:Stmt}{a:MS}(h:CS c sc lv st a):CSs c sc lv [st] a:=by
 intro k A W Kp r s Q E n m l I q;refine wpAny_execs_cons (Zg (h k A W Kp r s _ E n m l I q) (fun f s1 p=>p.ex fun i g d b e o j=>?_) fun _ _ z=>z);induction o with
 |next=>exact wpAny_execs_nil ⟨i,E2 _ d (A4 b e .next j)⟩
 |brk=>exact⟨i,E2 _ d (A4 b e .brk j)⟩
 |cont=>exact⟨i,E2 _ d (A4 b e .cont j)⟩
 |ret h=>exact⟨i,E2 _ d (A4 b e (.ret h) j)⟩
def mW:MS:=fun _ _=>False
theorem cY{a:List Stmt}:CSs c sc lv a mW:=fun _ _ _ _ _ _ _ _ _ _ _ _ q=>q.elim
def vZ:MS:=fun a Q=>Q .brk a
def jI:MS:=fun a Q=>Q .cont a
theorem zT{pos:Pos}:CS c sc lv (.Break pos) vZ:=fun a A W Kp b s Q E f e d I q=>Zf (wpAny_standAt (Zi ⟨W,E2 _ b (A4 (.refl W) I .brk q)⟩))
theorem lx{pos:Pos}:CS c sc lv (.Continue pos) jI:=fun a A W Kp b s Q E f e d I q=>Zf (wpAny_standAt (Zi ⟨W,E2 _ b (A4 (.refl W) I .cont q)⟩))
def fj(f:ap):MS:=fun b Q=>f b fun v a=>Q (.ret v) a
theorem bB{e:Expr}{f:ap}{pos:Pos}(h:CE c sc lv e f):CS c sc lv (.Return (some e) pos) (fj f):=by
 intro i A W Kp o s Q E l k j I q;exact wpAny_Return_some (h.use l k j I q fun g x b v s1 a d n m=>⟨g,E2 _ b (A4 a d (.ret n) m)⟩)
theorem tv{pos:Pos}:CS c sc lv (.Return none pos) (fj (ax .none)):=by
 intro a A W Kp b s Q E f e d I q;exact wpAny_Return_none ⟨W,E2 _ b (A4 (.refl W) I (.ret .none) q)⟩
def bK(f:ap):MS:=fun b Q=>f b fun v a=>v=.none/\Q .next a
theorem aM{e:Expr}{f:ap}{pos:Pos}(h:CE c sc lv e f)(n:∀a,swapsWith e none pos.line a=pure false:=by intros;rfl):CS c sc lv (.Expr e pos) (bK f):=by
 intro a A W Kp t s Q E m i l I q;refine wpAny_Expr (h.use m i l I q fun k x g v s1 b j r d=>?_) (pJ i) (n a);refine Za d fun o p=>?_;subst o;refine r.of_none▸?_;exact⟨k,E2 _ g (A4 b j .next p)⟩
def ca(t:MT)(a b:MS):MS:=fun e Q=>t e fun r d=>match r with|true=>a d Q|false=>b d Q
theorem fC{e:Expr}{n o:List Stmt}{t:MT}{a b:MS}{pos:Pos}(h:CT c sc lv e t)(u:CSs c sc lv n a)(v:CSs c sc lv o b):CS c sc lv (.If e n o pos) (ca t a b):=by
 intro d A W Kp w s Q E k j i I q;refine wpAny_If (h.use k j i I q fun m g r s1 f l p=>?_);induction r;·exact Zg (v d A m Kp g s1 Q E k j i l p) (fun _ _ z=>z.le f) fun _ _ z=>z
 ·exact Zg (u d A m Kp g s1 Q E k j i l p) (fun _ _ z=>z.le f) fun _ _ z=>z
def k9(t:MT):MS:=fun b Q=>t b fun r a=>r=true/\Q .next a
theorem mM{e:Expr}{b:Option Expr}{t:MT}{pos:Pos}(h:CT c sc lv e t):CS c sc lv (.Assert e b pos) (k9 t):=by
 intro j A W Kp p s Q E m l k I q;exact wpAny_Assert_holds (h.use m l k I q fun i f r s1 a g d=>by refine Za d fun n o=>?_;exact⟨n,i,E2 _ f (A4 a g .next o)⟩)
theorem aG(m:List (Nat×MV))(x y:Nat)(v:MV):(ah m x v).lookup y=if y=x then some v else m.lookup y:=by
 delta ah;split
 ·rename_i h;induction m with
  |nil=>simp at h
  |cons p m g=>
   obtain⟨k,u⟩:=p;rw[List.map_cons];by_cases e:k=x
   ·obtain rfl:=e.symm;simp only[beq_self_eq_true,if_true];by_cases a:y=x;·obtain rfl:=a.symm;simp
    ·rw[List.lookup_cons,beq_eq_false_iff_ne.mpr a,if_neg a,List.lookup_cons,beq_eq_false_iff_ne.mpr a];by_cases f:(m.any fun p=>p.1 == x)=true;·rw[g f,if_neg a]
     ·have:m.map (fun p=>if (p.1 == x)=true then(p.1,v) else p)=m:=by
       refine map_eq_self fun q j=>?_;rw[if_neg];intro d;exact f (List.any_eq_true.mpr ⟨q,j,d⟩)
      exact congrArg _ this
   ·have b:(k == x)=false:=beq_eq_false_iff_ne.mpr e;simp only[b,Bool.false_eq_true,if_false];rw[List.any_cons,b,Bool.false_or] at h;rw[List.lookup_cons,List.lookup_cons,g h];by_cases a:y=k;·subst a;simp[e]
    ·rw[beq_eq_false_iff_ne.mpr a]
 ·rename_i h;refine List.lookup_append.trans ?_;by_cases a:y=x
  ·obtain rfl:=a.symm;have:m.lookup x=none:=by
    refine List.lookup_eq_none_iff.mpr ?_;intro p i;refine bne_iff_ne.mpr ?_;intro d;exact h (List.any_eq_true.mpr ⟨p,i,(beq_iff_eq.mpr (d.symm))⟩)
   refine this▸?_;simp
  ·have:List.lookup y [(x,v)]=none:=by rw[List.lookup_cons,beq_eq_false_iff_ne.mpr a];rfl
   refine this.symm▸?_;simp[a]
theorem pE{h:Heap}{a b:Addr}{m:Str->Option Value}{v:Option Value}(n:h.Ns a m)(x:h.IsCell b v):b≠a:=by
 intro e;subst e;refine eY n fun o es ep g i _=>?_;refine ar x fun o' d f=>?_;replace d:=g.symm.trans d;obtain rfl:=Zb d;replace f:=i▸f;cases f
theorem ij{A:Around}{W:Wd}{Kp:aA}{h:Env}{G:AS}{s:Shared}{E:Value->Shared->Prop}{R:Unit->Shared->Prop}{v:Value}{mv:MV}{x:Nat}(H:cv h)(I:InvF c W Kp h G s)(r:VR c.S W v mv)(j:h.kindOf (c.S x)=some .local\/h.kindOf (c.S x)=some .cell)(k:∀N,InvF c W Kp h { G with m:=ah G.m x mv } N->R () N):wpAny c.M A (storeName h (c.S x) v) R E s:=by
 refine ar I.fm.ns fun mm l K=>?_;rcases j with j|j
 ·refine wpAny_storeName_local j l (fun h' Q t=>k _ ?_) (H.kind▸rfl);have out:=I.fm.out h.locals (.inl rfl);have ne:∀b,((W.own b).isSome=true\/(Kp b).isSome=true\/(W.F b).isSome=true)->b≠h.locals:=fun b n e=>by
   subst e;rw[out.1,out.2.1,out.2.2] at n;simp at n
  refine⟨I.inv.grown (fun b o n g=>(t.2 b (ne b n)).trans g),I.fm.out,⟨_,Q,fun y u f i=>?_⟩,fun y u f i=>?_,fun y i=>?_,I.fm.apart,I.fm.free⟩
  ·rw[aG] at f;by_cases e:y=x
   ·subst e;rw[if_pos rfl] at f;obtain rfl:=Zb f;exact⟨v,if_pos rfl,r⟩
   ·rw[if_neg e] at f;refine ar (K y u f i) fun B p q=>?_;exact⟨B,((if_neg fun P=>e (c.inj _ _ P))▸p),q⟩
  ·rw[aG] at f;by_cases e:y=x;·subst e;rw[j] at i;rcases i with i|i<;>cases i
   ·rw[if_neg e] at f;refine ci (I.fm.cell y u f i) fun b B p q D=>?_;exact E2 b B (A3 p (q.sameBut t (pE l q)) D)
  ·refine br (I.fm.own y i) fun b u p q=>?_;exact E2 b u ⟨p,q.sameBut t (pE l q)⟩
 ·refine br (I.fm.own x j) fun b O i J=>?_;refine wpAny_storeName_cell H.kind j i J fun h' z t=>k _ ?_;have out:=I.fm.out b (.inr ⟨x,j,i⟩);have ne:∀d,((W.own d).isSome=true\/(Kp d).isSome=true\/(W.F d).isSome=true)->d≠b:=fun d n e=>by
   obtain rfl:=e.symm;rw[out.1,out.2.1,out.2.2] at n;simp at n
  refine⟨I.inv.grown (tk:=s.toks) (fun d o n g=>(t.2 d (ne d n)).trans g),I.fm.out,⟨mm,l.sameBut t (Ne.symm (pE l J)),fun y u f a=>?_⟩,fun y u f a=>?_,fun y a=>?_,I.fm.apart,I.fm.free⟩
  ·rw[aG] at f;by_cases e:y=x;·subst e;replace a:=j▸a;cases a
   ·rw[if_neg e] at f;exact K y u f a
  ·rw[aG] at f;by_cases e:y=x
   ·subst e;rw[if_pos rfl] at f;obtain rfl:=Zb f;exact E2 b v (A3 i z r)
   ·rw[if_neg e] at f;refine ci (I.fm.cell y u f a) fun d B p q D=>?_;have w:d≠b:=by
     intro hd;subst hd;rcases a with a|a;·exact e (I.fm.apart y x d a j p i)
     ·refine br (I.fm.free y a) fun d' o L C=>?_;rw[p] at L;obtain rfl:=Zb L;replace C:=out.2.2.symm.trans C;exact aQ C
    exact E2 d B (A3 p (q.sameBut t w) D)
  ·by_cases e:y=x;·obtain rfl:=e.symm;exact E2 b (some v) ⟨i,z⟩
   ·refine br (I.fm.own y a) fun d u p q=>?_;have w:d≠b:=by
     intro hd;subst hd;exact e (I.fm.apart y x d a j p i)
    exact E2 d u ⟨p,q.sameBut t w⟩
def cJ(x:Nat)(f:ap):MS:=fun b Q=>f b fun v a=>Q .next { a with m:=ah a.m x v }
theorem vm{n:Str}{i pos:Pos}{e:Expr}{f:ap}(x:Nat)(p:c.S x=n)(o:sc.names.lookup n=some .local\/sc.names.lookup n=some .cell)(h:CE c sc lv e f)(r:∀a,a.scope=sc->cv a->swapsWith e (some (.Name n i)) pos.line a=pure false:=by intros;rfl):CS c sc lv (.Assign [.Name n i] e pos) (cJ x f):=by
 subst p;intro a A W Kp B s Q E d b m I q;refine wpAny_Assign_Name (h.use d b m I q fun l y w v s1 g k u t=>?_) (r a d b);exact ij b k u (by subst d;exact o) fun z j=>⟨l,E2 _ _ (A4 g j .next t)⟩
theorem hU(es:List (Nat×MV))(n:Nat)(x:MV):(ah es n x).length<=es.length+1:=by
 delta ah;split;·simp
 ·simp
def o5(o:MV)(n:Nat)(x:MV)(a:AS)(Q:AS->Prop):Prop:=
 ∃t C es,o=.tag t/\a.H t=some (.inst C es)/\n∈dO C/\es.length<1000/\Q { a with H:=af a.H t (.inst C (ah es n x)) }
theorem Fm.own_change{W:Wd}{Kp:aA}{i:Env}{m:List (Nat×MV)}{h h':Heap}{a:Addr}{t:aq}(f:Fm c W Kp i m h)(j:W.own a=some t)(k:Kp a=none)(l:Heap.SameBut a h h'):Fm c W Kp i m h':=by
 refine f.move (Wd.le.refl W) (fun b d=>⟨(f.out b d).1,(f.out b d).2.1⟩) fun b o d g=>(l.2 b fun e=>?_).trans g;subst e;rcases d with d|d;·replace j:=((f.out b d).1).symm.trans j;exact aQ j
 ·rw[k] at d;exact jU d
theorem Inv.own_kp{W:Wd}{Kp:aA}{H:aq->Option MObj}{nx:Nat}{s:Shared}{a:Addr}{t:aq}(I:Inv c W Kp H nx s)(b:W.own a=some t):Kp a=none:=by
 cases q:Kp a with
 |none=>rfl
 |some o=>replace b:=(I.kpOwn a o q).symm.trans b;exact aQ b
theorem InvF.changed{W:Wd}{Kp:aA}{b:Env}{d:AS}{s:Shared}{t:aq}{o o':MObj}{a:Addr}{h':Heap}{tk:Nat}(I:InvF c W Kp b d s)(e:d.H t=some o)(f:W.own a=some t)(h:Heap.SameBut a s.heap h')(x:OR c W t o' h')(i:∃k,h'.get? a=some k)(j:∀l A,o=.obj (tabObj l) A->∃g,o'=.obj (tabObj g) A:=by intro _ _ e;cases e) :
  InvF c W Kp b { d with H:=af d.H t o' } { s with heap:=h',toks:=tk }:=
 ⟨I.inv.changed e f h x i j,I.fm.own_change f (I.inv.own_kp f) h⟩
theorem yb{A:Around}{W:Wd}{Kp:aA}{i:Env}{σ:AS}{s:Shared}{E:Value->Shared->Prop}{R:Unit->Shared->Prop}{Q:AS->Prop}{o v:Value}{x y:MV}{n:Nat}(I:InvF c W Kp i σ s)(ro:VR c.S W o x)(Z:VR c.S W v y)(q:o5 x n y σ Q)(k:∀σ' s',InvF c W Kp i σ' s'->Q σ'->R () s'):wpAny c.M A (setAttr o (c.S n) v) R E s:=by
 refine dM q fun t C es J L=>?_;obtain rfl:=J;refine gm L fun U h2 V q=>?_;apply kb I.inv ro U;intro a d kvs od ha H X;have l:=c.cls_facts X.C4;refine ar l.cd fun cd p h=>?_;refine set_plain I.inv.KIn X.inst l.sa ?_;have O:=I.tok (s.toks+1);have ht:takerIn c.K (c.cls C) (c.S n)=some none:=by unfold takerIn;refine(c.hattr C n h2).symm▸?_;rfl
 refine osa_open (s:={ s with toks:=s.toks+1 }) O.inv.KIn X.inst l.pl ht fun b=>?_;obtain⟨G,hcl,hno,u⟩:=X.inst;have D:=X.dict;have D0:=X.dict;refine fL D fun o' g ep j e2 P e4 e5 e6=>?_;have hod:od=o':=by
  have:=u;dsimp only at this;replace this:=j.symm.trans this;exact(Zb this).symm
 refine Zf (Zi (Zf (Zf (wpAny_loadPart G (Zf ((looks_clsIn O.inv.KIn p).here ?_))))));refine h.symm▸?_;refine Zi (a:=some d) (Zf (Zi (Zf ?_)));refine Zf (Zf (wpAny_askSetting (Zi (Zf (wpAny_mkText (Zf (wpAny_loadPart j ?_)))))));refine P▸?_;dsimp only;have hc:(!g.any (·.key.isStr (c.S n))&&g.any (·.refKey))=false:=by
  have:g.any (·.refKey)=false:=by
   refine Array.any_eq_false'.mpr ?_;intro e he;refine ar (e4 e he) fun k z _=>?_;refine Zx (Value.isStrOf_shape (show Value.isStrOf k e.key=true from z)) fun tt F=>?_;simp[DictEntry.refKey,F]
  rw[this,Bool.and_false]
 rw[aRefKeyMayBeTheName_at,hc];refine wpAny_updatePart j ?_;have Y:Heap.SameBut d s.heap (s.heap.update d (Obj.putName (c.S n) (PyData.keyHash c.w.params (c.S n)) (.str (c.S n) (s.toks+1)) v)):=Zw ..;have N:=qy (c:=c) (name:=c.S n) (v:=v) (tk:=s.toks+1) D0;have D1:=N;refine fL N fun o2 f ep2 T f2 f3 f4 f5 f6=>?_;have B:f.size<=sizeLine+1:=by
  have l1:=f5.length;have l2:=(X.kv.put n Z).length;have l3:=hU es n y;refine sizeLine_eq▸?_;have:f.toList.length=f.size:=rfl;exact zf V (Zd l1) (Zd l2) l3 (Zd this.symm)
 refine Zf (wpAny_lookBehind T (f3▸pastItsLine_dict B) ?_);refine Zi ?_;have r:d≠a:=by
  intro e;subst e;rw[j] at G;obtain rfl:=Zb G;cases P
 have m:OR c W t (.inst C (ah es n y)) (s.heap.update d (Obj.putName (c.S n) (PyData.keyHash c.w.params (c.S n)) (.str (c.S n) (s.toks+1)) v)):=
  ⟨a,E2 d _ (A8 ha H X.owd ((Y.2 a (Ne.symm r)).trans X.at_) D1 (X.kv.put n Z) X.C4 (by have:=hU es n y;exact bR 0 1 1 1000 0 1000 this V rfl))⟩
 exact k _ _ (I.changed U X.owd Y m ⟨_,T⟩) q
def eH(o:ap)(n:Nat)(f:ap):MS:=fun e Q=>f e fun v a=>o a fun u b=>o5 u n v b fun d=>Q .next d
theorem yO{d e:Expr}{x:Str}{l pos:Pos}{o f:ap}(n:Nat)(w:c.S n=x)(B:CE c sc lv d o)(h:CE c sc lv e f)(C:∀a,swapsWith e (some (.Attribute d x l)) pos.line a=pure false:=by intros;rfl):CS c sc lv (.Assign [.Attribute d x l] e pos) (eH o n f):=by
 subst w;intro a A W Kp P s Q E k j i I q;refine plainObj_wpAny_Assign_Attribute (h.use k j i I q fun M y K v s1 g p H F=>?_) (C a);refine B.use k j i p F fun t z L u O b r J G=>?_;exact yb r J (H.mono b) G fun σ' N m D=>⟨t,E2 _ σ' (A4 (g.trans b) m .next D)⟩
def ty(o i x:MV)(a:AS)(Q:AS->Prop):Prop:=
 (∃t xs k,o=.tag t/\i=.int k/\a.H t=some (.list xs)/\0<=k/\k.toNat<xs.length/\Q { a with H:=af a.H t (.list (xs.set k.toNat x)) })\/
 (∃t es b n,o=.tag t/\i=.str n/\a.H t=some (.dict es b)/\es.length<1000/\Q { a with H:=af a.H t (.dict (ah es n x)) })
theorem mj{A:Around}{E:Value->Shared->Prop}{s:Shared}{l:Addr}{items:Array Value}{k:Int}{t:Tok}{v:Value}{Q:Unit->Shared->Prop}(m:s.heap.PlainList l items)(h0:0<=k)(b:k<2 ^ 63)(o:k<items.size)(i:∀h',h'.PlainList l (items.setIfInBounds k.toNat v)->Heap.SameBut l s.heap h'->Q () { s with heap:=h' }) :
  wpAny c.M A (setItem (.ref l) (.int k t) v) Q E s:=by
 refine Zx (id m) fun ne f=>?_;have d:=m.isList.typeIs (s:=s);delta setItem;try with_reducible refine wpAny_holding ?_
 first|refine Zf (Zi ?_)|skip
 refine Zf (wpAny_sequenceKey d (by decide) ?_);refine Zf (wpAny_callSpecial?_slot (name:=Str.ofString "__setitem__") d slot_list_setitem
  (wpAny_call_entry slot_list_setitem d entry_list_setitem ?_ (args_list_setitem _ _ _)))
 show wpAny _ _ (Builtin.List.listSubscript? (.int k t) >>= _) _ _ s;refine Zf (wpAny_listSubscript_int (fitsIndex_of h0 b) ?_);clear b;refine Zx (Int.eq_ofNat_of_zero_le h0) fun j h=>?_;obtain rfl:=h;have n:j<items.size:=Int.ofNat_lt.mp o;have g:items[j]?=some items[j]:=Array.getElem?_eq_getElem n;refine Zf (Zf (wpAny_seqItemAt f rfl (Zi ?_)));refine g▸?_;have e:Obj.mapSeq (·.setIfInBounds j v) { cls:=.type "list",data:=.seq items ne }={ cls:=.type "list",data:=.seq (items.setIfInBounds j v) ne }:=by
  simp[Obj.mapSeq]
 have a:(s.heap.update l (Obj.mapSeq (·.setIfInBounds j v))).PlainList l (items.setIfInBounds j v):=
  ⟨ne,by rw[Heap.get?_update_self _ f (by rw[e];rfl),e]⟩
 refine Zf (wpAny_setSeqItemAt f rfl ?_);first
  |exact Zf (Zi (Zi ⟨.none,rfl,Zi (i _ a (Zw ..))⟩))
  |exact Zi ⟨.none,rfl,Zi (i _ a (Zw ..))⟩
theorem nQ{h:Heap}{a:Addr}{vs:List Value}{n:Nat}(g:h.get? a=some (bg vs n)):h.PlainList a vs.toArray:=⟨n,g⟩
theorem wM{W:Wd}{Kp:aA}{H:aq->Option MObj}{nx:Nat}{s:Shared}{v:Value}{t:aq}{xs:List MV}(I:Inv c W Kp H nx s)(r:VR c.S W v (.tag t))(e:H t=some (.list xs)) :∃a vs n,v=.ref a/\W.ρ t=some a/\W.own a=some t/\s.heap.get? a=some (bg vs n)/\VRs c.S W vs xs/\xs.length<=100000:=by
 refine ar r.of_tag fun a b d=>?_;obtain rfl:=b;refine io (I.objs _ _ e) fun k vs n f j g i h=>?_;rw[d] at f;obtain rfl:=Zb f;exact E3 a vs n (A6 rfl d j g i h)
theorem jm{W:Wd}{Kp:aA}{H:aq->Option MObj}{nx:Nat}{s:Shared}{v:Value}{t:aq}{xs:List MV}{P:Value->Prop}(I:Inv c W Kp H nx s)(r:VR c.S W v (.tag t))(e:H t=some (.list xs))(k:∀a vs n,W.ρ t=some a->W.own a=some t->s.heap.get? a=some (bg vs n)->VRs c.S W vs xs->xs.length<=100000->P (.ref a)):P v:=
 dM (wM I r e) fun a vs n h z=>h▸k a vs n z.1 z.2.1 z.2.2.1 z.2.2.2.1 z.2.2.2.2
theorem OR.list{W:Wd}{t:aq}{a:Addr}{vs:List Value}{xs:List MV}{h:Heap}(b:W.ρ t=some a)(e:W.own a=some t)(p:h.PlainList a vs.toArray)(r:VRs c.S W vs xs)(d:xs.length<=100000):OR c W t (.list xs) h:=by
 refine Zx p fun n g=>?_;exact⟨a,E2 vs n (A5 b e g r d)⟩
theorem ya{A:Around}{W:Wd}{Kp:aA}{b:Env}{L:AS}{s:Shared}{E:Value->Shared->Prop}{R:Unit->Shared->Prop}{Q:AS->Prop}{o i v:Value}{x y z:MV}(I:InvF c W Kp b L s)(H:VR c.S W o x)(G:VR c.S W i y)(J:VR c.S W v z)(q:ty x y z L Q)(k:∀σ' K,InvF c W Kp b σ' K->Q σ'->R () K):wpAny c.M A (setItem o i v) R E s:=by
 rcases q with⟨t,xs,j,rfl,rfl,d,r,N,q⟩|⟨t,es,P,n,rfl,rfl,d,r,q⟩
 ·apply jm I.inv H d;intro a vs n u h g C l;apply G.intK;intro tk;have B:=C.length;refine mj (nQ g) r (yW N l rfl) (by rw[List.size_toArray];omega) fun h' p w=>?_;have F:h'.PlainList a (vs.set j.toNat v).toArray:=by
   have e:vs.toArray.setIfInBounds j.toNat v=(vs.set j.toNat v).toArray:=by simp
   refine e▸?_;exact p
  have m:=I.changed (tk:=s.toks) (o':=.list (xs.set j.toNat z)) d h w (OR.list u h F (All2.set J C _) (by rw[List.length_set];exact l)) (by refine Zx F fun _ e=>?_;exact⟨_,e⟩);exact k _ _ m q
 ·apply gC I.inv H d;intro a kvs u h hd D l O;apply G.strK;intro tk;refine wpAny_setItem_pairs (fI c n tk) hd (fun h' f w=>?_) (D.length▸k7 l);have m:=I.changed (tk:=s.toks+1) (o':=.dict (ah es n z)) d h w ⟨a,_,A6 u h f (D.put n J) (by have:=hU es n z;exact bR 0 1 1 1000 0 100000 this r rfl) (fun _ q=>nomatch q)⟩ (by refine dM f fun _ _ _ e _=>?_;exact⟨_,e⟩);exact k _ _ m q
def hZ(o i f:ap):MS:=fun g Q=>f g fun v a=>o a fun u b=>i b fun w d=>ty u w v d fun e=>Q .next e
theorem gQ{j g e:Expr}{p pos:Pos}{o i f:ap}(D:CE c sc lv j o)(C:CE c sc lv g i)(h:CE c sc lv e f)(F:∀a,swapsWith e (some (.Subscript j g p)) pos.line a=pure false:=by intros;rfl):CS c sc lv (.Assign [.Subscript j g p] e pos) (hZ o i f):=by
 intro a A W Kp σ s Q E m l k I q;refine wpAny_Assign_Subscript (h.use m l k I q fun S y O v s1 n t L H=>?_) (F a);refine D.use m l k t H fun T z P u V d w M J=>?_;refine C.use m l k w J fun B Z R Y X b x N K=>?_;exact ya x (M.mono b) N (L.mono (d.trans b)) K fun σ' U r G=>⟨B,E2 _ σ' (A4 ((n.trans d).trans b) r .next G)⟩
noncomputable def k6:List Nat->List MV->AS->AS
 |x::xs,v::vs,σ=>k6 xs vs { σ with m:=ah σ.m x v }
 |_,_,σ=>σ
inductive NTs(c:Cx)(sc:Scope):List Expr->List Nat->Prop
 |nil:NTs c sc [] []
 |cons {n:Str}{p:Pos}{es:List Expr}{xs:List Nat}(x:Nat)(hn:c.S x=n)(hk:sc.names.lookup n=some .local\/sc.names.lookup n=some .cell)(t:NTs c sc es xs):NTs c sc (.Name n p::es) (x::xs)
theorem NTs.each{es:List Expr}{xs:List Nat}(h:NTs c sc es xs)(a:Env):(assignEach es a).length=xs.length/\(assignEach es a).findIdx? (·.1)=none:=by
 induction h with
 |nil=>exact⟨rfl,rfl⟩
 |cons x e d t b=>exact⟨congrArg (·+1) b.1,by show List.findIdx? _ ((false,_)::assignEach _ a)=none;refine(List.findIdx?_cons).trans ?_;simp[b.2]⟩
theorem NTs.stores{a:Env}{A:Around}{W:Wd}{Kp:aA}{E:Value->Shared->Prop}{R:Unit->Shared->Prop}(j:a.scope=sc)(i:cv a){es:List Expr}{xs:List Nat}(h:NTs c sc es xs):∀{vs:List Value}{ys:List MV}{e:AS}{s:Shared},VRs c.S W vs ys->InvF c W Kp a e s->xs.length=ys.length->(∀f,InvF c W Kp a (k6 xs ys e) f->R () f)->wpAny c.M A (assignInOrder ((assignEach es a).map (·.2)) vs) R E s:=by
 induction h with
 |nil=>
  intro vs ys e s b I d k;induction b with
  |nil=>exact Zi (k s I)
  |cons _ _=>cases d
 |cons x m l t n=>
  intro vs ys e s b I d k;induction b with
  |nil=>cases d
  |cons r b=>
   subst m;refine Zf (wpAny_holding (wpAny_assign_Name (ij i I r (by unfold Env.kindOf;refine j.symm▸?_;exact l) fun f g=>?_)));exact n b g (Nat.succ.inj d) k
theorem tU{d:Env}{A:Around}{W:Wd}{Kp:aA}{t:AS}{s:Shared}{E:Value->Shared->Prop}{R:Unit->Shared->Prop}{es:List Expr}{xs:List Nat}{k:Nat}{pos:Pos}{v:Value}{ys:List MV}(z:d.scope=sc)(y:cv d)(x:AOK c lv A Kp d)(h:NTs c sc es xs)(I:InvF c W Kp d t s)(r:VR c.S W v (.tup ys))(j:xs.length=ys.length)(q:∀p,InvF c W Kp d (k6 xs ys t) p->R () p):wpAny c.M A (assign (.Tuple es k pos) d v) R E s:=by
 refine dM r.of_tup fun a vs n f i=>?_;obtain rfl:=f;refine bM i fun g l _=>?_;refine Za (h.each d) fun u w=>?_;refine wpAny_assign_Tuple x.handled (gB (I.inv.frz _ _ g)) (by rw[u,j,List.size_toArray,l.length]) w fun h' B=>?_;have m:∀b e,s.heap.get? b=some e->h'.get? b=some e:=fun b e g=>B b e (Zh (Zy g)) g;exact h.stores z y l (s:={ s with heap:=h' }) ⟨I.inv.grown (tk:=s.toks) (fun b o _ g=>m b o g),I.fm.alloc (.refl W) (fun _ _=>⟨rfl,rfl⟩) m⟩ j q
def jX(xs:List Nat)(f:ap):MS:=fun b Q=>f b fun v a=>∃ys,v=.tup ys/\xs.length=ys.length/\Q .next (k6 xs ys a)
theorem i6{es:List Expr}{k:Nat}{b pos:Pos}{e:Expr}{f:ap}{xs:List Nat}(u:NTs c sc es xs)(h:CE c sc lv e f)(r:∀a,swapsWithSole [.Tuple es k b] e pos.line a=pure false:=by intros;rfl)(t:∀a,swappedStores [.Tuple es k b] e a=pure none:=by intros;rfl) :
  CS c sc lv (.Assign [.Tuple es k b] e pos) (jX xs f):=by
 intro a A W Kp D s Q E l j i I q;refine Assign_Tuple (h.use l j i I q fun o y B v s1 d n z g=>?_) (r a) (t a);refine bz g fun ys w p x=>?_;subst w;exact tU l j i u n z p fun C m=>⟨o,E2 _ _ (A4 d m .next x)⟩
end
end
section
section
variable {c:Cx}{W j:Wd}{Kp:aA}{d:Env}{g:AS}{s i:Shared}{m:List (Nat×MV)}{h:Heap}{lv:Nat}{A:Around}
theorem Fm.obj(f:Fm c W Kp d m h){b:Addr}(k:FA c d b):∃o,h.get? b=some o/\(∀vs n,o.data≠.seq vs n)/\∀vs,o.data≠.fields vs:=by
 rcases k with rfl|⟨x,r,l⟩
 ·refine ar f.ns fun mm a _=>?_;refine eY a fun o es ep e hd _=>?_;exact⟨o,A3 e (fun _ _ q=>(by rw[hd] at q;cases q)) (fun _ q=>(by rw[hd] at q;cases q))⟩
 ·refine oB (f.own x r) fun t u p o e hd=>?_;replace p:=l▸p;obtain rfl:=Zb p;exact⟨o,A3 e (fun _ _ q=>(by rw[hd] at q;cases q)) (fun _ q=>(by rw[hd] at q;cases q))⟩
open Classical in
noncomputable def jV(c:Cx)(d:Env)(Kp:aA)(h:Heap):aA:=fun b=>if FA c d b then(h.get? b).map (·,true) else Kp b
theorem oE{b:Addr}(a:FA c d b):jV c d Kp h b=(h.get? b).map (·,true):=by exact(if_pos a)
theorem kW{b:Addr}(a:¬ FA c d b):jV c d Kp h b=Kp b:=by exact(if_neg a)
theorem InvF.kpx(I:InvF c W Kp d g s){b:Addr}{o:Obj×Bool}(e:Kp b=some o):jV c d Kp s.heap b=some o:=by
 by_cases a:FA c d b;·rw[(I.fm.out b a).2.2] at e;exact aQ e
 ·exact(kW a).trans (e)
theorem InvF.enter(I:InvF c W Kp d g s):Inv c W (jV c d Kp s.heap) g.H g.nx s:=by
 refine⟨fun a o e=>I.kpx (I.inv.base a o e),fun a o e=>?_,I.inv.frz,fun a o e f=>?_,I.inv.objs,I.inv.dom,I.inv.old,fun a o e=>?_,I.inv.fOwn,I.inv.os,I.inv.gens,I.inv.emp,I.inv.keepB,I.inv.tab⟩
 ·by_cases b:FA c d a
  ·replace e:=(oE b)▸e;cases q:s.heap.get? a with
   |none=>rw[q] at e;exact aQ e
   |some o'=>rw[q] at e;obtain rfl:=Zb e;exact⟨o',rfl,.refl _ _⟩
  ·rw[kW b] at e;exact I.inv.kept a o e
 ·by_cases b:FA c d a;·exact(I.fm.out a b).2.1
  ·rw[kW b] at e;exact I.inv.kpF a o e f
 ·by_cases b:FA c d a;·exact(I.fm.out a b).1
  ·rw[kW b] at e;exact I.inv.kpOwn a o e
theorem InvF.back(I:InvF c W Kp d g s)(le:W.le j){H':aq->Option MObj}{nx':Nat}(f:Inv c j (jV c d Kp s.heap) H' nx' i):InvF c j Kp d ⟨H',nx',g.m⟩ i:=by
 have p:∀b,FA c d b->∀o,s.heap.get? b=some o->jV c d Kp s.heap b=some (o,true):=fun b l o e=>by rw[oE l,e];rfl
 refine⟨⟨I.inv.base,fun a o e=>f.kept a o (I.kpx e),f.frz,fun a o e v=>f.kpF a o (I.kpx e) v,f.objs,f.dom,f.old,fun a o e=>f.kpOwn a o (I.kpx e),f.fOwn,f.os,f.gens,f.emp,f.keepB,f.tab⟩,?_⟩;refine I.fm.moveS le (fun b l=>?_) fun b o l e=>?_
 ·refine ar (I.fm.obj l) fun o e _=>?_;have k:=p b l o e;refine⟨f.kpOwn b _ k,f.kpF b _ k ?_⟩;cases q:c.B.get? b with
  |none=>rfl
  |some o'=>have:=I.inv.base b o' q;rw[(I.fm.out b l).2.2] at this;exact aQ this
 ·rcases l with l|l
  ·refine ar (f.kept b _ (p b l o e)) fun o' t x=>?_;exact⟨o',t,x.1⟩
  ·refine Zx (Option.isSome_iff_exists.mp l) fun o' n=>?_;refine ar (I.inv.kept b o' n) fun C r y=>?_;rw[e] at r;obtain rfl:=Zb r;refine ar (f.kept b o' (I.kpx n)) fun w u z=>?_;exact⟨w,u,y.1.symm.trans z.1⟩
theorem AOK.mono{a:Nat}(b:AOK c lv A Kp d)(h:a<=lv):AOK c a A Kp d:=⟨by have:=b.depth;exact AJ h this,by have:=b.units;exact AJ h this,b.handled,b.frames⟩
theorem AOK.deeper{env':Env}(a:AOK c (lv+1) A Kp d)(I:InvF c W Kp d g s)(u:env'.frame=some env'.locals)(x:env'.scope.kind=.function)(y:s.heap.objs.size<=env'.locals) :AOK c lv (A.deeper env') (jV c d Kp s.heap) env':=by
 refine ar a.frames fun l v w=>?_;refine⟨by have:=a.depth;show A.depth+1+8*lv<900;exact NC this rfl,by have:=a.units;show A.units+3+40*lv<9000;exact NC this rfl,a.handled,env'::l,?_,fun e k=>?_⟩;·show A.frames.map _=_;refine v▸?_;rfl
 ·rcases List.mem_cons.mp k with rfl|k
  ·refine⟨by rw[x];decide,e.locals,A3 u ?_ (.inl rfl)⟩;cases q:c.B.get? e.locals with
   |none=>rfl
   |some o=>exact absurd (Zy (I.inv.keeps _ _ q)) (Nat.not_lt.mpr y)
  ·refine oq (w e k) fun n L p r f=>?_;refine⟨n,L,A3 p r (.inr ?_)⟩;rcases f with rfl|⟨o,f,t⟩
   ·refine bz (I.fm.obj (b:=d.locals) (.inl rfl)) fun o e _ z=>?_;exact⟨o,((oE (.inl rfl))▸e▸rfl),z⟩
   ·exact⟨o,I.kpx f,t⟩
theorem nH{k:Str->Option NameKind}{n:Str}:∀{l:List (Str×Value)}{mm:Str->Option Value},(∀p∈l,p.1≠n)->bindL k l mm n=mm n
 |[],_,_=>rfl
 |(a,v)::l,mm,h=>by
  show bindL k l _ n=_;refine(nH fun p b=>h p (Zc _ b))▸?_;split
  ·show(if n=a then _ else _)=_;rw[if_neg];exact fun e=>h (a,v) Ze e.symm
  ·rfl
theorem nI{k:Str->Option NameKind}{n:Str}:∀{l:List (Str×Value)}{mm:Str->Option Value},(∀p∈l,p.1≠n)->bindC k l mm n=mm n
 |[],_,_=>rfl
 |(a,v)::l,mm,h=>by
  show bindC k l _ n=_;refine(nI fun p b=>h p (Zc _ b))▸?_;split;·rfl
  ·show(if n=a then _ else _)=_;rw[if_neg];exact fun e=>h (a,v) Ze e.symm
noncomputable def cH(S:Nat->Str)(a:List Nat)(vs:List Value):List (Str×Value):=(a.map S).zip vs
theorem dZ{S:Nat->Str}:∀{a:List Nat}{vs:List Value}{p:Str×Value},p∈cH S a vs->∃n∈a,p.1=S n
 |[],_,_,h=>gY h
 |n::a,[],_,h=>gY h
 |n::a,v::vs,p,h=>by
  rcases List.mem_cons.mp h with rfl|h;·exact⟨n,Ze,rfl⟩
  ·refine ar (dZ h) fun f b e=>?_;exact⟨f,Zc _ b,e⟩
theorem rP(c:Cx){k:Str->Option NameKind}{f:List Nat}{vs:List Value}{xs:List MV}{W:Wd}(nd:f.Nodup)(B:VRs c.S W vs xs):∀{mm:Str->Option Value}{x:Nat}{v:MV},(f.zip xs).lookup x=some v->k (c.S x)=some .local->∃u,bindL k (cH c.S f vs) mm (c.S x)=some u/\VR c.S W u v:=by
 induction B generalizing f with
 |nil=>intro mm x v h l;induction f<;>exact aQ h
 |@cons v y vs xs r rs ih=>
  intro mm x z h l;cases f with
  |nil=>exact aQ h
  |cons p f=>
   refine Za (List.nodup_cons.mp nd) fun o t=>?_;by_cases e:x=p
   ·obtain rfl:=e.symm;simp at h;subst h;refine⟨v,?_,r⟩;show bindL k (cH c.S f vs) _ (c.S p)=_;rw[nH,if_pos l,if_pos rfl];intro q w;refine ar (dZ w) fun n a b=>?_;refine b▸?_;intro e;exact o (c.inj _ _ e▸a)
   ·rw[List.zip_cons_cons,List.lookup_cons,beq_eq_false_iff_ne.mpr e] at h;exact ih t h l
theorem rQ(c:Cx){k:Str->Option NameKind}{f:List Nat}{vs:List Value}{xs:List MV}{W:Wd}(nd:f.Nodup)(B:VRs c.S W vs xs):∀{mm:Str->Option Value}{x:Nat}{v:MV},(f.zip xs).lookup x=some v->k (c.S x)=some .cell->∃u,bindC k (cH c.S f vs) mm (c.S x)=some u/\VR c.S W u v:=by
 induction B generalizing f with
 |nil=>intro mm x v h l;induction f<;>exact aQ h
 |@cons v y vs xs r rs ih=>
  intro mm x z h l;cases f with
  |nil=>exact aQ h
  |cons p f=>
   refine Za (List.nodup_cons.mp nd) fun o t=>?_;by_cases e:x=p
   ·obtain rfl:=e.symm;simp at h;subst h;refine⟨v,?_,r⟩;show bindC k (cH c.S f vs) _ (c.S p)=_;rw[nI,if_neg (by rw[l];decide),if_pos rfl];intro q w;refine ar (dZ w) fun n a b=>?_;refine b▸?_;intro e;exact o (c.inj _ _ e▸a)
   ·rw[List.zip_cons_cons,List.lookup_cons,beq_eq_false_iff_ne.mpr e] at h;exact ih t h l
theorem Fm.fresh{env':Env}{p:List Nat}{vs:List Value}{xs:List MV}(I:InvF c W Kp d g s)(x:InCallC s env'.locals (bindL env'.kindOf (cH c.S p vs) fun _=>none) env'.cells (bindC env'.kindOf (cH c.S p vs) fun _=>none) i)(nd:p.Nodup)(w:VRs c.S W vs xs)(o:∀x,env'.kindOf (c.S x)≠some .free)(a:∀x,env'.kindOf (c.S x)=some .cell->∃b,env'.cells.lookup (c.S x)=some b) :Fm c W (jV c d Kp s.heap) env' (p.zip xs) i.heap:=by
 have k:∀b,FA c env' b->s.heap.objs.size<=b:=fun b l=>by
  rcases l with rfl|⟨n,_,f⟩
  ·exact x.toInCall.fresh
  ·exact Zk x.toInCall.fresh (Zv (x.above _ _ (mem_of_lookup f)))
 refine⟨fun b l=>(A3 (I.inv.fresh_own (k b l)) (I.inv.fresh_F (k b l)) ?_),⟨_,x.toInCall.ns,fun n v h e=>rP c nd w h e⟩,fun n v h e=>?_,fun n e=>?_,fun n C b t z f q=>?_,fun n t=>absurd t (o n)⟩
 ·refine(kW fun y=>absurd (I.fm.lt y) (Nat.not_lt.mpr (k b l)))▸?_;exact I.inv.fresh_kp (k b l)
 ·rcases e with e|e
  ·refine Zx (a n e) fun b f=>?_;refine ar (rQ c nd w (mm:=fun _=>none) h e) fun u B r=>?_;exact E2 b u (A3 f (B▸x.cell _ _ f) r)
  ·exact absurd e (o n)
 ·refine Zx (a n e) fun b f=>?_;exact E2 b _ ⟨f,x.cell _ _ f⟩
 ·exact c.inj _ _ (name_of_addr x.apart (mem_of_lookup f) (mem_of_lookup q))
end
noncomputable def i9:aE->MV
 |.ret v=>v
 |_=>.none
def PC(c:Cx)(W:Wd)(Kp:aA)(a:Env)(Q:MV->AS->Prop)(E:Value->Shared->Prop)(r:Result)(b:Shared):Prop:=match r with
 |.ok (.ret v)=>PE c W Kp a Q v b
 |.ok _=>False
 |.error e=>E e b
def FOp(c:Cx)(lv:Nat)(f:Value)(b:List Str)(g:List MV->List MV->ap):Prop:=
 ∀(a:Env)(A:Around)(W:Wd)(Kp:aA)(d:AS)(s:Shared)(Q:MV->AS->Prop)(E:Value->Shared->Prop)(vs ks:List Value)(xs ys:List MV),cv a->AOK c lv A Kp a->InvF c W Kp a d s->VRs c.S W vs xs->VRs c.S W ks ys->ys.length=b.length->g xs ys d Q->
  codeAny c.M A (.call f ⟨vs,b.zip ks⟩) (PC c W Kp a Q E) s
theorem FOp.call{c:Cx}{lv:Nat}{f:Value}{b:List Str}{g:List MV->List MV->ap}(h:FOp c lv f b g){a:Env}{A:Around}{W:Wd}{Kp:aA}{d:AS}{s:Shared}{Q:MV->AS->Prop}{E:Value->Shared->Prop}{vs ks:List Value}{xs ys:List MV}(k:cv a)(j:AOK c lv A Kp a)(I:InvF c W Kp a d s)(n:VRs c.S W vs xs)(l:VRs c.S W ks ys)(m:ys.length=b.length)(q:g xs ys d Q):wpAny c.M A (PySem.call f vs (b.zip ks)) (PE c W Kp a Q) E s:=
 wpAny_call (codeAny_mono (h a A W Kp d s Q E vs ks xs ys k j I n l m q) fun r o z=>by
  induction r with
  |ok i=>induction i<;>exact z
  |error e=>exact z)
def iU(n:Nat)(c:List Nat)(bm:List MV->List MV->List MV)(body:MS):List MV->List MV->ap:=fun xs ys a Q=>
 xs.length=n/\body ⟨a.H,a.nx,c.zip (bm xs ys)⟩ fun b σ'=>Q (i9 b) ⟨σ'.H,σ'.nx,a.m⟩
structure Binds(c:Cx)(fd:FuncData)(n:Nat)(kn:List Str)(ps:List Nat)(bm:List MV->List MV->List MV):Prop where
 nd:ps.Nodup
 go:∀(W:Wd)(s:Shared)(vs ks:List Value)(xs ys:List MV),c.K.In s.heap->(∀a o,c.B.get? a=some o->tS o=true->W.F a=some o)->VRs c.S W vs xs->VRs c.S W ks ys->xs.length=n->ys.length=kn.length->
  ∃us,BindsTo s fd ⟨vs,kn.zip ks⟩ (cH c.S ps us)/\VRs c.S W us (bm xs ys)
noncomputable def fY(sc:Scope):Bool:=decide (sc.kind=.function)&&!sc.isCoroutine&&!sc.isGenerator&&sc.names.all fun p=>!(p.2 == .free)
theorem iO{sc:Scope}{P:Prop}(a:fY sc=true)(k:sc.kind=.function->sc.isCoroutine=false->sc.isGenerator=false->(sc.names.all fun p=>!(p.2 == .free))=true->P):P:=by
 delta fY at a;simp only[Bool.and_eq_true,Bool.not_eq_true'] at a;exact k (of_decide_eq_true a.1.1.1) a.1.1.2 a.1.2 a.2
def psOK(c:Cx)(sc:Scope)(a:List Nat):Prop:=∀p∈a,sc.names.lookup (c.S p)=some .local\/sc.names.lookup (c.S p)=some .cell
theorem fh{names:List (Str×NameKind)}(h:names.all (fun p=>!(p.2 == .free))=true)(x:Str):names.lookup x≠some .free:=fun e=>by
 have:=List.all_eq_true.mp h _ (mem_of_lookup e);exact jU this
theorem yN{c:Cx}{lv:Nat}{f:Addr}{kn:List Str}{n:Nat}{D:List Nat}{bm:List MV->List MV->List MV}{name a:Str}{d:Arguments}{j:List Stmt}{sc:Scope}{J Y l pm i G oc:Value}{F od:Option Addr}{Z:Array (Option Value)}{body:MS}(ho:c.K.lookup f=some ⟨oc,od,.func (fnX name a d j sc [] J Y l pm F i G),Z⟩)(O:codeIn c.K i a=true)(hb:Binds c (fnX name a d j sc [] J Y l pm F i G) n kn D bm)(U:fY sc=true)(T:psOK c sc D)(h:CSs c sc lv j body) :FOp c (lv+1) (.ref f) kn (iU n D bm body):=by
 refine iO U ?_;intro P v k t;intro L A W Kp σ s Q E vs ks xs ys hE hA I hv S R zp1;refine Za zp1 fun hn q=>?_;refine ar (hb.go W s vs ks xs ys I.inv.KIn I.inv.emp hv S hn R) fun us N V=>?_;refine codeAny_call_function (fd:=fnX name a d j sc [] J Y l pm F i G) (body:=j) (by have:=hA.depth;show A.depth<1000;exact NB this rfl) (I.inv.KIn _ _ ho) rfl v k rfl (codeRec_of I.inv.KIn O) (N _ _ _ _ ?_);refine wpAny_newFunctionEnv_cells P (fun p hp=>?_) fun env' he s1 x=>?_
 ·refine ar (dZ hp) fun y X e=>?_;refine e▸?_;exact(T y X).imp id fun z=>⟨z,cellsFrom_some _ _ _ (.inl z)⟩
 subst he;refine⟨I.inv.lim.keeps x.toInCall.keep,codeAny_func ?_⟩;refine br x.done fun w tk zq1 u=>?_;obtain rfl:=zq1;have I1:InvF c W (jV c L Kp s.heap) (newEnv sc s.heap.objs.size mainGlobals (cellsFrom (s.heap.objs.size+1) sc.names []) (a++".<locals>.") (some f) i none builtinsNs) ⟨σ.H,σ.nx,D.zip (bm xs ys)⟩ { s with heap:=w,toks:=tk }:=
  ⟨I.enter.grown fun b o _ e=>u b o e,Fm.fresh I x hb.nd V (fun y=>fh t _) fun y X=>Option.isSome_iff_exists.mp (cellsFrom_some _ _ _ (.inl X))⟩
 have M:=hA.deeper (env':=newEnv sc s.heap.objs.size mainGlobals (cellsFrom (s.heap.objs.size+1) sc.names []) (a++".<locals>.") (some f) i none builtinsNs) I rfl P (Zj _);refine Zg (h _ _ W _ _ _ _ _ rfl ⟨P,rfl,rfl,k,v⟩ M I1 q) (fun fl s2 z0=>z0.ex fun W2 g C B I2 r2 q2=>?_) fun _ _ z=>z;refine⟨W2,E2 (i9 g) ⟨C.H,C.nx,σ.m⟩ (A4 B (I.back B I2.inv) ?_ q2)⟩;induction r2 with
 |next=>exact .none
 |brk=>exact .none
 |cont=>exact .none
 |ret r=>exact r
theorem FOp.mono{c:Cx}{lv a:Nat}{f:Value}{e:List Str}{g:List MV->List MV->ap}(h:FOp c lv f e g)(l:lv<=a):FOp c a f e g:=
 fun b A W Kp n s Q E vs ks xs ys j i I m k d q=>h b A W Kp n s Q E vs ks xs ys j (i.mono l) I m k d q
section
variable {c:Cx}{sc:Scope}{lv:Nat}
inductive KEs(c:Cx)(sc:Scope)(lv:Nat):List Keyword->List Str->List ap->Prop
 |nil:KEs c sc lv [] [] []
 |cons {n:Str}{e:Expr}{p:Pos}{ks:List Keyword}{kn:List Str}{f:ap}{fs:List ap}(h:CE c sc lv e f)(t:KEs c sc lv ks kn fs):KEs c sc lv (⟨some n,e,p⟩::ks) (n::kn) (f::fs)
theorem KEs.names{ks:List Keyword}{f:List Str}{fs:List ap}(h:KEs c sc lv ks f fs)(pos:Pos)(e:Env) :(backToKw pos (keywordEach ks e)).all (·.1.isSome)=true/\(backToKw pos (keywordEach ks e)).any (·.1.isNone)=false/\(backToKw pos (keywordEach ks e)).filterMap (·.1)=f:=by
 induction h with
 |nil=>exact A3 rfl rfl rfl
 |cons _ _ g=>
  refine bM g fun a b d=>?_;refine A3 ?_ ?_ ?_;·exact a
  ·exact b
  ·exact congrArg (List.cons _) d
theorem KEs.all{pos:Pos}{ks:List Keyword}{g:List Str}{fs:List ap}(h:KEs c sc lv ks g fs){a:Env}{A:Around}{Kp:aA}{E:Value->Shared->Prop}(o:a.scope=sc)(n:cv a)(m:AOK c lv A Kp a) :∀{W:Wd}{e:AS}{s:Shared}{Q:List MV->AS->Prop},InvF c W Kp a e s->bV fs e Q->wpAny c.M A (evalAll ((backToKw pos (keywordEach ks a)).map (·.2))) (PEs c W Kp a fun xs σ'=>xs.length=g.length/\Q xs σ') E s:=by
 induction h with
 |nil=>exact fun I q=>kwAll_nil ⟨_,E2 ([]) _ (A5 (.refl _) I .nil rfl q)⟩
 |cons h t p=>
  intro W e s Q I q;refine kwAll_cons (h.use o n m I q fun B x y v s1 d j u r=>?_);exact Zg (p j r) (fun vs C z=>z.ex fun l xs f b k w i=>⟨l,E2 (x::xs) f (A5 (d.trans b) k (.cons (u.mono b) w) (congrArg Nat.succ i.1) i.2)⟩) fun _ _ z=>z
theorem CEs.evalArgsK{es:List Expr}{fs:List ap}(h:CEs c sc lv es fs){ks:List Keyword}{m:List Str}{l:List ap}(N:KEs c sc lv ks m l){pos:Pos}{f:Value}{a:Env}{A:Around}{W:Wd}{Kp:aA}{C:AS}{s:Shared}{Q:List MV->List MV->AS->Prop}{E:Value->Shared->Prop}{R:Args->Shared->Prop}(w:a.scope=sc)(v:cv a)(u:AOK c lv A Kp a)(I:InvF c W Kp a C s)(q:bV fs C fun xs b=>bV l b fun ys d=>Q xs ys d)(k:∀r vs xs us ys σ' H,W.le r->InvF c r Kp a σ' H->VRs c.S r vs xs->VRs c.S r us ys->ys.length=m.length->Q xs ys σ'->R ⟨vs,m.zip us⟩ H) :
  wpAny c.M A (PySem.evalArgs f true (backTo pos (starEach es a)) (backToKw pos (keywordEach ks a))) R E s:=by
 cases N with
 |nil=>exact h.evalArgs w v u I q fun D vs xs b s1 g t y x=>k D vs xs [] [] b s1 g t y .nil rfl x
 |cons L t1=>
  rename_i n e p ks m f fs;have j:KEs c sc lv (⟨some n,e,p⟩::ks) (n::m) (f::fs):=.cons L t1;refine bM (j.names pos a) fun F _ O=>?_;have key:=h.spliced (pos:=pos) (E:=E) w v u I q;have i:∀(vs:List Value)(s1:Shared),PEs c W Kp a (fun xs b=>bV (f::fs) b fun ys d=>Q xs ys d) vs s1->wpAny c.M A (evalAll ((backToKw pos (keywordEach (⟨some n,e,p⟩::ks) a)).map (·.2))) (fun us B=>R ⟨vs,((backToKw pos (keywordEach (⟨some n,e,p⟩::ks) a)).filterMap (·.1)).zip us⟩ B) E s1:=fun vs s1 U=>U.ex fun D xs b g t y x=>by
   refine O▸?_;exact Zg (j.all w v u t x) (fun us B z=>z.ex fun K ys d o J T G=>k K vs xs us ys d B (g.trans o) J (y.mono o) T G.1 G.2) fun _ _ z=>z
  induction h with
  |nil=>exact evalArgs_kw2_nil F (i [] s ⟨W,E2 ([]) C (A4 (.refl W) I .nil q)⟩)
  |cons _ _ P=>
   rw[P] at key ⊢;exact evalArgs_kw F (Zg key i fun _ _ z=>z)
def db(g:List MV->List MV->ap)(fs a:List ap):ap:=fun e Q=>bV fs e fun xs b=>bV a b fun ys d=>g xs ys d Q
theorem rV{n:Str}{u pos:Pos}{es:List Expr}{fs:List ap}{ks:List Keyword}{t:List Str}{b:List ap}{f:Value}{g:List MV->List MV->ap}(C:CE c sc lv (.Name n u) (ie f))(i:keepIn c.K f=true)(D:FOp c lv f t g)(h:CEs c sc lv es fs)(r:KEs c sc lv ks t b) :CE c sc lv (.Call (.Name n u) es ks pos) (db g fs b):=by
 intro a A W Kp M s Q E p e d I q;refine wpAny_Call_Name_kw (C.use (Q:=fun v σ'=>v=.raw f/\σ'=M) p e d I ⟨rfl,rfl⟩ fun R y N v s1 j w J m=>?_);refine Za m fun x B=>?_;subst x B;refine J.of_raw▸?_;refine callWith_of (P:=fun h=>c.K.In h) (by rw[(h.plainArgs pos a).1,(r.names pos a).2.1];rfl) (fun F X=>keeps_K i F X) ?_;refine h.evalArgsK r p e d w q fun S vs xs us ys O T k o L l G H=>⟨o.inv.KIn,?_⟩
 exact Zg (D.call e d o L l G H) (fun _ _ z=>z.le (j.trans k)) fun _ _ z=>z
def cr(C n:Nat)(g:List MV->List MV->ap)(a:ap)(fs d:List ap):ap:=fun h Q=>a h fun x b=>∃t es,x=.tag t/\b.H t=some (.inst C es)/\es.lookup n=none/\bV fs b fun xs e=>bV d e fun ys f=>g (x::xs) ys f Q
theorem xE{o:Expr}{x:Str}{e pos:Pos}{es:List Expr}{ks:List Keyword}{N:List Str}{a:ap}{fs j:List ap}{g:List MV->List MV->ap}(C n:Nat)(hn:c.S n=x)(Z:n∈gN C)(V:FOp c lv (.ref (c.fn ((C+1)*1000+n))) N g)(h0:CE c sc lv o a)(h:CEs c sc lv es fs)(M:KEs c sc lv ks N j)(r:fW o x e pos es ks) :CE c sc lv (.Call (.Attribute o x e) es ks pos) (cr C n g a fs j):=by
 subst hn;intro f A W Kp σ s Q E L p m I q;refine Zx (r f) fun pl r=>?_;refine methodCall_KW (pl:=pl) (h0.use L p m I q fun W1 y σ1 v s1 B l O F=>?_) r;refine ci F fun t es' hy ht b=>?_;obtain⟨w,q1⟩:=b;obtain rfl:=hy.symm;refine dU (pA l.inv O ht) fun R d kvs od b G=>?_;obtain rfl:=b;refine bM G fun ha ho X=>?_;have H:=c.cls_facts X.C4;have i:=c.hmeth C n Z;unfold j9 at i;simp only[Bool.and_eq_true,beq_iff_eq] at i;refine Za i fun b m3=>?_;refine Za b fun m1 m2=>?_;refine method_fn l.inv.KIn X.inst H.ga H.gat m1 m3 ?_ ?_
 ·show(lookIn (c.S n) od).map _=_;have T:=X.look (c.S n);have U:=X.kv.none w;refine T▸U▸?_;rfl
 ·have u:=sW m2;refine callWith_of (P:=fun h=>c.K.In h) (by rw[(h.plainArgs pos f).1,(M.names pos f).2.1];rfl) (fun Y X=>keeps_K u Y X) ?_;refine h.evalArgsK M L p m l q1 fun W2 vs xs us ys σ2 s2 k J r2 D w q2=>⟨J.inv.KIn,?_⟩
  exact Zg (V.call (vs:=.ref R::vs) p m J (.cons (O.mono k) r2) D w q2) (fun _ _ z=>z.le (B.trans k)) fun _ _ z=>z
def o9(C:Nat)(g:List MV->List MV->ap):List MV->List MV->ap:=fun xs ys a Q=>
 ∃t,fJ a.H a.nx t/\g (.tag t::xs) ys ⟨af a.H t (.inst C []),cf a.nx t,a.m⟩ fun v σ'=>v=.none/\Q (.tag t) σ'
theorem AOK.under_make{A:Around}{Kp:aA}{a:Env}{C:Addr}{vs:List Value}{d:List (Str×Value)}(b:AOK c (lv+1) A Kp a):AOK c lv (A.under (.builtin "type.__call__" ⟨.ref C::vs,d⟩)) Kp a:=by
 refine⟨?_,?_,b.handled,b.frames⟩;·have:=b.depth;exact NC this rfl
 ·show A.units+_+40*lv<9000;have:Code.cUnits (.builtin "type.__call__" ⟨.ref C::vs,d⟩)=1:=rfl;have:=b.units;exact NC this rfl
theorem yM{O:List Str}{g:List MV->List MV->ap}(C:Nat)(N:C<4)(w:60∈gN C)(D:c.S 60="__init__")(hg:FOp c lv (.ref (c.fn ((C+1)*1000+60))) O g):FOp c (lv+1) (.ref (c.cls C)) O (o9 C g):=by
 intro f A W Kp K s Q E vs ks xs ys hE Z I hv y x G;refine ar G fun t L q=>?_;have R:=c.cls_facts N;have d:=c.hmeth C 60 w;unfold j9 at d;simp only[Bool.and_eq_true,beq_iff_eq] at d;refine Za d fun J m3=>?_;refine Za J fun P m2=>?_;rw[show S0 60=_ from D] at P;obtain⟨a,Y,dd,tt,os⟩:=s;refine make_core (makes_of I.inv.KIn R.make) (looks_findIn I.inv.KIn P) (fun self=>bind_fn I.inv.KIn self m3) (.inl rfl) ?_;have k:∀b F,a.get? b=some F->((a.push emptyDict).push (instObj (c.cls C) a.objs.size)).get? b=some F:=fun b F e=>Zl _ (Zl _ e);have gd:((a.push emptyDict).push (instObj (c.cls C) a.objs.size)).get? a.objs.size=some emptyDict:=Zl _ (Zq _ rfl);have M:((a.push emptyDict).push (instObj (c.cls C) a.objs.size)).get? (a.objs.size+1)=some (instObj (c.cls C) a.objs.size):=by
  have:=Zq (a.push emptyDict) (o:=instObj (c.cls C) a.objs.size) rfl
  rwa [Heap.size_push] at this
 have le:W.le (W.add t (a.objs.size+1) [a.objs.size]):=Wd.le_add I.inv L (Zz _) (fun b j=>((List.mem_singleton.mp j)▸Zj _));have i:∀b∈[a.objs.size],a.objs.size<=b:=fun b j=>((List.mem_singleton.mp j)▸Zj _)
 have hd:((a.push emptyDict).push (instObj (c.cls C) a.objs.size)).DictOf c.knd a.objs.size []:=⟨emptyDict,E2 (#[]) 0 (A6 gd ⟨rfl,rfl,rfl⟩ rfl (fun _ h=>by simp at h) .nil List.nodup_nil)⟩
 have u:(W.add t (a.objs.size+1) [a.objs.size]).ρ t=some (a.objs.size+1):=by show(if t=t then _ else _)=_;exact(if_pos rfl)
 have U:=I.inv.alloc (o:=.inst C []) (as:=[a.objs.size]) (tk:=tt) (h':=(a.push emptyDict).push (instObj (c.cls C) a.objs.size)) L (Zz _) i ⟨_,M⟩ (fun b j=>by rw[List.mem_singleton.mp j];exact⟨_,gd⟩) k
  ⟨a.objs.size+1,E2 a.objs.size ([]) (A8 u (by show(if _\/_ then _ else _)=_;rw[if_pos (.inl rfl)]) (by show(if _\/_ then _ else _)=_;rw[if_pos (.inr Ze)]) M hd .nil N (Nat.zero_le _))⟩
 have p:InvF c (W.add t (a.objs.size+1) [a.objs.size]) Kp f ⟨af K.H t (.inst C []),cf K.nx t,K.m⟩ ⟨(a.push emptyDict).push (instObj (c.cls C) a.objs.size),Y,dd,tt,os⟩:=
  ⟨U,I.fm.alloc le (Wd.add_old (n:=a.objs.size) (Zz _) i) k⟩
 refine codeAny_mono (hg f _ _ Kp _ _ _ E (.ref (a.objs.size+1)::vs) ks (.tag t::xs) ys hE Z.under_make p (.cons (.tag u) (hv.mono le)) (y.mono le) x q) fun r s' z=>?_;induction r with
 |error e=>exact z
 |ok X=>
  induction X with
  |ret v=>
   refine io z fun V mv σ' l T r' B q'=>?_;subst B;exact⟨r'.of_none,V,E2 (.tag t) σ' (A4 (le.trans l) T (.tag (l.ρ _ _ u)) q')⟩
  |next=>exact z
  |brk=>exact z
  |cont=>exact z
end
end
section
section
variable {c:Cx}{W l:Wd}{Kp:aA}{d:Env}{f σ':AS}{s j:Shared}{m:List (Nat×MV)}{h:Heap}{lv:Nat}{A:Around}{fp:List Addr}
def Offs(c:Cx)(fp:List Addr)(W:Wd)(Kp:aA)(d:Env):Prop:=∀b∈fp,y8 W Kp b/\¬ FA c d b
theorem Offs.fresh(I:InvF c W Kp d f s)(a:∀b∈fp,s.heap.objs.size<=b):Offs c fp W Kp d:=fun b h=>
 ⟨⟨I.inv.fresh_own (a b h),I.inv.fresh_F (a b h),I.inv.fresh_kp (a b h)⟩,fun e=>absurd (I.fm.lt e) (Nat.not_lt.mpr (a b h))⟩
theorem InvF.offChange{h':Heap}{tk:Nat}(I:InvF c W Kp d f s)(i:Offs c fp W Kp d)(k:∀b o,b∉fp->s.heap.get? b=some o->h'.get? b=some o):InvF c W Kp d f { s with heap:=h',toks:=tk }:=by
 refine⟨I.inv.grown fun b o a g=>k b o (fun n=>?_) g,I.fm.move (.refl W) (fun b a=>⟨(I.fm.out b a).1,(I.fm.out b a).2.1⟩) fun b o a g=>k b o (fun n=>?_) g⟩
 ·refine Za (i b n) fun e _=>?_;refine bM e fun r t p=>?_;rcases a with a|a|a;·rw[r] at a;exact jU a
  ·rw[p] at a;exact jU a
  ·rw[t] at a;exact jU a
 ·refine Za (i b n) fun e q=>?_;refine bM e fun _ _ p=>?_;rcases a with a|a;·exact q a
  ·rw[p] at a;exact jU a
theorem InvF.grow{h':Heap}{tk:Nat}(I:InvF c W Kp d f s)(k:∀b o,s.heap.get? b=some o->h'.get? b=some o):InvF c W Kp d f { s with heap:=h',toks:=tk }:=
 I.offChange (fp:=[]) (fun _ h=>nomatch h) fun b o _ e=>k b o e
noncomputable def kq(Kp:aA)(fp:List Addr)(h:Heap):aA:=fun b=>if b∈fp then(h.get? b).map (·,false) else Kp b
theorem rj{b:Addr}(a:b∈fp):kq Kp fp h b=(h.get? b).map (·,false):=by exact(if_pos a)
theorem jZ{b:Addr}(a:b∉fp):kq Kp fp h b=Kp b:=by exact(if_neg a)
theorem Offs.kp(a:Offs c fp W Kp d){b:Addr}{o:Obj×Bool}(e:Kp b=some o):b∉fp:=fun g=>by rw[(a b g).1.2.2] at e;exact aQ e
theorem Offs.kpH(a:Offs c fp W Kp d){b:Addr}{o:Obj×Bool}(e:Kp b=some o):kq Kp fp h b=some o:=by refine(jZ (a.kp e))▸?_;exact e
theorem InvF.hold(I:InvF c W Kp d f s)(i:Offs c fp W Kp d):InvF c W (kq Kp fp s.heap) d f s:=by
 refine⟨⟨fun a o e=>i.kpH (I.inv.base a o e),fun a o e=>?_,I.inv.frz,fun a o e r=>?_,I.inv.objs,I.inv.dom,I.inv.old,fun a o e=>?_,I.inv.fOwn,I.inv.os,I.inv.gens,I.inv.emp,I.inv.keepB,I.inv.tab⟩,
  ⟨fun b g=>(A3 ((I.fm.out b g).1) ((I.fm.out b g).2.1) ?_),I.fm.ns,I.fm.cell,I.fm.own,I.fm.apart,fun x t=>?_⟩⟩
 ·by_cases g:a∈fp
  ·replace e:=(rj g)▸e;cases q:s.heap.get? a with
   |none=>rw[q] at e;exact aQ e
   |some o'=>rw[q] at e;obtain rfl:=Zb e;exact⟨o',rfl,.refl _ _⟩
  ·rw[jZ g] at e;exact I.inv.kept a o e
 ·by_cases g:a∈fp;·exact(i a g).1.2.1
  ·rw[jZ g] at e;exact I.inv.kpF a o e r
 ·by_cases g:a∈fp;·exact(i a g).1.1
  ·rw[jZ g] at e;exact I.inv.kpOwn a o e
 ·by_cases k:b∈fp;·exact absurd g (i b k).2
  ·refine(jZ k)▸?_;exact(I.fm.out b g).2.2
 ·refine br (I.fm.free x t) fun b o n p=>?_;exact E2 b o ⟨n,i.kpH p⟩
theorem AOK.hold(a:AOK c lv A Kp d)(b:Offs c fp W Kp d):AOK c lv A (kq Kp fp h) d:=by
 refine ar a.frames fun i v w=>?_;refine⟨a.depth,a.units,a.handled,i,v,fun e u=>?_⟩;refine oq (w e u) fun k L n r t=>?_;exact⟨k,L,A3 n r (t.imp id fun g=>by refine ar g fun o p q=>?_;exact⟨o,b.kpH p,q⟩)⟩
theorem InvF.drop(I:InvF c W Kp d f s)(i:Offs c fp W Kp d)(g:InvF c l (kq Kp fp s.heap) d σ' j):InvF c l Kp d σ' j:=
 ⟨⟨I.inv.base,fun a o e=>g.inv.kept a o (i.kpH e),g.inv.frz,fun a o e n=>g.inv.kpF a o (i.kpH e) n,g.inv.objs,g.inv.dom,g.inv.old,fun a o e=>g.inv.kpOwn a o (i.kpH e),g.inv.fOwn,g.inv.os,g.inv.gens,g.inv.emp,g.inv.keepB,g.inv.tab⟩,
  ⟨fun b k=>(A3 ((g.fm.out b k).1) ((g.fm.out b k).2.1) ((I.fm.out b k).2.2)),g.fm.ns,g.fm.cell,g.fm.own,g.fm.apart,I.fm.free⟩⟩
theorem InvF.held(I:InvF c W Kp d f s)(k:Offs c fp W Kp d)(a:InvF c l (kq Kp fp s.heap) d σ' j){b:Addr}(i:b∈fp){o:Obj}(e:s.heap.get? b=some o):j.heap.get? b=some o:=by
 refine ar (a.inv.kept b (o,false) ((rj i)▸e▸rfl)) fun o' g q=>?_;replace g:=q.exact▸g;exact g
theorem InvF.heldX(I:InvF c W Kp d f s)(a:Offs c fp W Kp d)(g:InvF c l (kq Kp fp s.heap) d σ' j){b:Addr}(k:b∈fp){o:Obj}(e:s.heap.get? b=some o)(i:o.cls≠.type "frame"):j.heap.get? b=some o:=I.held a g k e
theorem Offs.held(I:InvF c W Kp d f s)(a:Offs c fp W Kp d)(live:∀b∈fp,∃o,s.heap.get? b=some o)(i:InvF c l (kq Kp fp s.heap) d σ' j):Offs c fp l Kp d:=fun b g=>by
 refine Zx (live b g) fun o e=>?_;have k:kq Kp fp s.heap b=some (o,false):=((rj g)▸e▸rfl)
 refine⟨⟨i.inv.kpOwn b _ k,i.inv.kpF b _ k ?_,(a b g).1.2.2⟩,(a b g).2⟩;cases q:c.B.get? b with
 |none=>rfl
 |some o'=>have:=I.inv.base b o' q;replace this:=((a b g).1.2.2).symm.trans this;exact aQ this
structure Itr(c:Cx)(sc:Scope)(target:Expr)(xs:List MV)(st:MV->AS->AS)(g:(aq->Option MObj)->Prop)(W0:Wd)(fp:List Addr)(I:Addr)(J:Nat->Heap->Prop):Prop where
 frame:∀i h h',J i h->(∀b∈fp,∀o,h.get? b=some o->h'.get? b=some o)->J i h'
 live:∀i h,J i h->∀b∈fp,∃o,h.get? b=some o/\o.cls≠.type "frame"
 step:∀(d:Env)(A:Around)(W:Wd)(Kp:aA)(f:AS)(s:Shared)(i:Nat)(x:MV)(E:Value->Shared->Prop),d.scope=sc->cv d->A.handled=none->W0.le W->InvF c W Kp d f s->g f.H->Offs c fp W Kp d->J i s.heap->xs[i]?=some x->
  wpAny c.M A (pyNext (.ref I)) (fun r s1=>∃v,r=some v/\wpAny c.M A (letOwnedTupleGo target (.ref I) v) (fun _ s2=>wpAny c.M A (assign target d v) (fun _ s3=>InvF c W Kp d (st x f) s3/\J (i+1) s3.heap) E s2) E s1) E s
 done:∀(d:Env)(A:Around)(W:Wd)(Kp:aA)(f:AS)(s:Shared)(i:Nat)(E:Value->Shared->Prop),d.scope=sc->cv d->A.handled=none->W0.le W->InvF c W Kp d f s->g f.H->Offs c fp W Kp d->J i s.heap->xs[i]?=none->
  wpAny c.M A (pyNext (.ref I)) (fun r s1=>r=none/\InvF c W Kp d f s1) E s
 self:∀(A:Around)(i:Nat)(s:Shared)(E:Value->Shared->Prop)(Q:Value->Shared->Prop),J i s.heap->Q (.ref I) s->wpAny c.M A (pyIter (.ref I)) Q E s
 stH:∀x f,(st x f).H=f.H/\(st x f).nx=f.nx
 stm:∀x f n,sc.names.lookup (c.S n)≠some .local->(st x f).m.lookup n=f.m.lookup n
end
abbrev ii:=AS->(List MV->((aq->Option MObj)->Prop)->AS->Prop)->Prop
def jy(c:Cx)(sc h:Scope)(lv:Nat)(b e:Expr)(st:MV->AS->AS)(f:ii):Prop:=
 ∀(a:Env)(A:Around)(W:Wd)(Kp:aA)(j:AS)(s:Shared)(Q:List MV->((aq->Option MObj)->Prop)->AS->Prop)(E:Value->Shared->Prop),a.scope=sc->cv a->AOK c lv A Kp a->InvF c W Kp a j s->f j Q->
  wpAny c.M A (eval e a) (fun x s1=>wpAny c.M A (pyIter x) (fun it i=>∃d σ' xs g fp I J,it=.ref I/\W.le d/\InvF c d Kp a σ' i/\Itr c h b xs st g d fp I J/\J 0 i.heap/\Offs c fp d Kp a/\Q xs g σ') E s1) E s
def dq(g:(aq->Option MObj)->Prop)(st:MV->AS->AS)(body:MS):List MV->MS
 |[],σ,Q=>g σ.H/\Q .next σ
 |x::r,σ,Q=>g σ.H/\body (st x σ) fun f σ'=>match f with
  |.next=>dq g st body r σ' Q
  |.cont=>dq g st body r σ' Q
  |.brk=>Q .next σ'
  |.ret v=>Q (.ret v) σ'
def js(f:ii)(st:MV->AS->AS)(body:MS):MS:=fun b Q=>f b fun xs g a=>dq g st body xs a Q
section
variable {c:Cx}{sc:Scope}{lv:Nat}
theorem mR{prog:Program}{w:World}{A:Around}{R:Result->Shared->Prop}{s:Shared}{a:Expr}{it:Value}{body:List Stmt}{h:Env}(k:∀E,wpAny (model prog w) A (pyNext it) (fun r b=>match r with
   |none=>R (.ok .next) b
   |some v=>wpAny (model prog w) A (letOwnedTupleGo a it v) (fun _ b=>wpAny (model prog w) A (assign a h v) (fun _ i=>wpAny (model prog w) A (execs body h) (fun f g=>match f with
      |.next|.cont=>codeAny (model prog w) A (.forLoop a it body [] h) R g
      |.brk=>R (.ok .next) g
      |.ret v=>R (.ok (.ret v)) g) E i) E b) E b) E s):codeAny (model prog w) A (.forLoop a it body [] h) R s:=by
 refine codeAny_of_tree ?_;show wpAny _ A ((forTurn a it body [] h).onRaise (fun x=>do noteFrame x h;theTreesLotGoes x)) _ _ s;refine wpAny_noted ?_;refine Zf (wpAny_standAt (Zf (wpAny_onRaise (Zg (k _) (fun r b d=>?_) fun _ _ h'=>wpAny_standAt h'))));induction r with
 |none=>exact Zi ⟨rfl,codeAny_block (wpAny_execs_nil d)⟩
 |some v=>
  refine Zf (Zg d (fun _ b d=>Zf (Zg d (fun _ i j=>Zf (Zg j (fun f g e=>?_) fun _ _ h'=>h')) fun _ _ h'=>h')) fun _ _ h'=>h');induction f with
  |next=>exact Zi ⟨rfl,e⟩
  |cont=>exact Zi ⟨rfl,e⟩
  |brk=>exact Zi e
  |ret v=>exact Zi e
theorem Itr.kept{a:Expr}{xs:List MV}{st:MV->AS->AS}{g:(aq->Option MObj)->Prop}{W0 W m:Wd}{fp:List Addr}{k:Addr}{J:Nat->Heap->Prop}{d:Env}{Kp:aA}{p σ':AS}{s h:Shared}{i:Nat}(it:Itr c sc a xs st g W0 fp k J)(l:J i s.heap)(I:InvF c W Kp d p s)(f:Offs c fp W Kp d)(j:InvF c m (kq Kp fp s.heap) d σ' h) :J i h.heap:=it.frame _ _ _ l fun b n o e=>I.held f j n e
theorem Itr.lives{a:Expr}{xs:List MV}{st:MV->AS->AS}{g:(aq->Option MObj)->Prop}{W0:Wd}{fp:List Addr}{d:Addr}{J:Nat->Heap->Prop}{h:Heap}{i:Nat}(it:Itr c sc a xs st g W0 fp d J)(f:J i h):∀b∈fp,∃o,h.get? b=some o:=fun b j=>(it.live _ _ f b j).imp fun _ e=>e.1
theorem mS{a:Type}{xs l:List a}{i:Nat}{x:a}(hd:xs.drop i=x::l):xs[i]?=some x/\xs.drop (i+1)=l:=⟨by rw[<-List.head?_drop,hd];rfl,by rw[<-List.tail_drop,hd];rfl⟩
theorem vI{h:Expr}{body:List Stmt}{st:MV->AS->AS}{b:MS}{a:Env}{A:Around}{W0 F:Wd}{Kp:aA}{xs:List MV}{g:(aq->Option MObj)->Prop}{fp:List Addr}{t:Addr}{J:Nat->Heap->Prop}{Q:aE->AS->Prop}{R:Result->Shared->Prop}(K:CSs c sc lv body b)(C:a.scope=sc)(y:cv a)(w:AOK c lv A Kp a)(it:Itr c sc h xs st g W0 fp t J)(B:∀f s,PS c F Kp a Q f s->R (.ok f) s)(l:List MV):∀{i:Nat}{W:Wd}{m:AS}{s:Shared},xs.drop i=l->W0.le W->F.le W->InvF c W Kp a m s->Offs c fp W Kp a->J i s.heap->dq g st b l m Q->codeAny c.M A (.forLoop h (.ref t) body [] a) R s:=by
 induction l with
 |nil=>
  intro i W m s hd le j I d u q;refine mR fun E=>Zg (it.done a A W Kp m s i E C y w.handled le I q.1 d u (List.getElem?_eq_none (List.drop_eq_nil_iff.mp hd))) (fun r O z=>?_) fun _ _ z=>z;cases z.1;exact B _ _ ⟨W,E2 _ m (A4 j z.2 .next q.2)⟩
 |cons x l L=>
  intro i W m s hd le j I d u q;refine mR fun E=>Zg (it.step a A W Kp m s i x E C y w.handled le I q.1 d u (mS hd).1) (fun r O D=>?_) fun _ _ z=>z;refine ar D fun v e z=>?_;cases e;refine Zg z (fun _ X z=>Zg z (fun _ P z=>?_) fun _ _ z=>z) fun _ _ z=>z;refine Zg (K a A W _ (st x m) P _ E C y (w.hold d) (z.1.hold d) q.2) (fun U S T=>T.ex fun G V n k o N p=>?_) fun _ _ z=>z;have H:dq g st b l n Q->codeAny c.M A (.forLoop h (.ref t) body [] a) R S:=L (mS hd).2 (le.trans k) (j.trans k) (z.1.drop d o) (Offs.held z.1 d (it.lives z.2) o) (it.kept z.2 z.1 d o);induction N with
  |next=>exact H p
  |cont=>exact H p
  |brk=>exact B _ _ ⟨G,E2 _ n (A4 (j.trans k) (z.1.drop d o) .next p)⟩
  |ret r=>exact B _ _ ⟨G,E2 _ n (A4 (j.trans k) (z.1.drop d o) (.ret r) p)⟩
theorem bZ{a d:Expr}{body:List Stmt}{pos:Pos}{st:MV->AS->AS}{f:ii}{b:MS}(w:jy c sc sc lv a d st f)(v:CSs c sc lv body b)(y:∀e x,foldedSetIterable d e x=pure x:=by intros;rfl):CS c sc lv (.For a d body [] pos) (js f st b):=by
 intro e A W Kp C s Q E o n m I q;refine wpAny_For (Zg (w e A W Kp C s _ E o n m I q) (fun x s1 t=>Zg t (fun i H u=>?_) fun _ _ z=>z) fun _ _ z=>z) (y e);refine mJ u fun G D xs g fp F J k l=>?_;obtain rfl:=k;refine dc l fun j p it r h B=>?_;exact vI v o n m it (fun f s z=>z) xs (i:=0) rfl (.refl _) j p h r B
end
end
section
noncomputable def fE(scope sc:Scope):Scope:=
 { scope with names:=scope.names.map fun(n,k)=>if (k == .free&&sc.kind == .function&&sc.names.lookup n == some .cell) then(n,.cell) else(n,k) }
theorem kP{sc:Scope}{x:Str}:∀(names:List (Str×NameKind)),(names.map fun(n,k)=>if (k == NameKind.free&&sc.kind == .function&&sc.names.lookup n == some .cell) then(n,NameKind.cell) else(n,k)).lookup x = (names.lookup x).map fun k=>if (k == NameKind.free&&sc.kind == .function&&sc.names.lookup x == some .cell) then NameKind.cell else k
 |[]=>rfl
 |(n,k)::r=>by
  rw[List.map_cons];by_cases e:x=n
  ·subst e;by_cases a:(k == NameKind.free&&sc.kind == .function&&sc.names.lookup x == some .cell)=true
   ·dsimp only;rw[if_pos a,List.lookup_cons,List.lookup_cons,beq_self_eq_true];simp only[Option.map_some];rw[if_pos a]
   ·dsimp only;rw[if_neg a,List.lookup_cons,List.lookup_cons,beq_self_eq_true];simp only[Option.map_some];rw[if_neg a]
  ·have b:(x == n)=false:=beq_eq_false_iff_ne.mpr e;have c:=kP (sc:=sc) (x:=x) r;by_cases a:(k == NameKind.free&&sc.kind == .function&&sc.names.lookup n == some .cell)=true;·dsimp only;rw[if_pos a,List.lookup_cons,b,List.lookup_cons,b];exact c
   ·dsimp only;rw[if_neg a,List.lookup_cons,b,List.lookup_cons,b];exact c
noncomputable def hO(a:Env)(acc:List (Str×Addr))(p:Str×NameKind):List (Str×Addr):=if p.2 == .free then(p.1,(a.cells.lookup p.1).getD 0)::acc else acc
noncomputable def gA(a:Env)(names:List (Str×NameKind)):List (Str×Addr):=names.foldl (hO a) []
theorem oZ{b:Env}(names:List (Str×NameKind)):∀(acc:List (Str×Addr)),(∀x∈names,x.2=.free->∃a,b.cells.lookup x.1=some a)->(forIn names acc fun p r=>if (p.2 == NameKind.free)=true then(do let a <-cellOf b p.1;pure (ForInStep.yield ((p.1,a)::r))) else pure (ForInStep.yield r):Sem (List (Str×Addr)))=pure (names.foldl (hO b) acc):=by
 induction names with
 |nil=>
  intro acc _;exact rfl
 |cons p r i=>
  intro acc h;rw[List.forIn_cons,List.foldl_cons];by_cases d:p.2=.free
  ·refine Zx (h p Ze d) fun a g=>?_;have j:cellOf b p.1=pure a:=by unfold cellOf;rw[g]
   have e:hO b acc p=(p.1,a)::acc:=by unfold hO;refine d.symm▸g.symm▸?_;rfl
   refine d.symm▸j.symm▸e.symm▸?_;exact i _ fun x f=>h x (Zc _ f)
  ·have c:(p.2 == NameKind.free)=false:=by cases k:p.2<;>first|rfl|exact absurd k d
   have e:hO b acc p=acc:=by unfold hO;refine c▸?_;rfl
   refine c.symm▸e.symm▸?_;exact i _ fun x f=>h x (Zc _ f)
theorem jC{scope:Scope}{b:Env}(h:∀x∈scope.names,x.2=.free->∃a,b.cells.lookup x.1=some a):closureFor scope b=pure (gA b scope.names):=by
 have:=oZ scope.names [] h;have e:closureFor scope b=((forIn scope.names [] fun p r=>if (p.2 == NameKind.free)=true then(do let a <-cellOf b p.1;pure (ForInStep.yield ((p.1,a)::r))) else pure (ForInStep.yield r):Sem (List (Str×Addr))) >>= fun c=>pure c):=rfl;rw[e,this];rfl
theorem mi{a:Env}{x:Str}(names:List (Str×NameKind)):∀(acc:List (Str×Addr)),(∀b,acc.lookup x=some b->b=(a.cells.lookup x).getD 0)->((names.foldl (hO a) acc).lookup x=if (x,NameKind.free)∈names\/(acc.lookup x).isSome=true then some ((a.cells.lookup x).getD 0) else none):=by
 induction names with
 |nil=>
  intro acc h;simp only[List.foldl_nil,List.not_mem_nil,false_or];cases o:acc.lookup x with
  |none=>exact rfl
  |some b=>simp[h b o]
 |cons p r i=>
  intro acc h;refine List.foldl_cons.symm▸?_;obtain⟨n,k⟩:=p;by_cases f:k=.free
  ·subst f;have d:hO a acc (n,.free)=(n,(a.cells.lookup n).getD 0)::acc:=rfl;rw[d];by_cases e:x=n
   ·subst e;refine(i _ (fun b c=>by rw[List.lookup_cons,beq_self_eq_true] at c;exact(Zb c).symm)).trans ?_;simp
   ·have l:(x == n)=false:=beq_eq_false_iff_ne.mpr e;have j:List.lookup x ((n,(a.cells.lookup n).getD 0)::acc)=acc.lookup x:=by rw[List.lookup_cons,l]
    refine(i _ (fun b c=>h b (by rw[j] at c;exact c))).symm▸j.symm▸?_;refine ite_congr (propext (or_congr ?_ Iff.rfl)) (fun _=>rfl) fun _=>rfl;rw[List.mem_cons];exact⟨.inr,fun h=>h.elim (fun q=>absurd (Prod.mk.inj q).1 e) id⟩
  ·have g:(k == NameKind.free)=false:=by cases m:k<;>first|rfl|exact absurd m f
   have d:hO a acc (n,k)=acc:=by unfold hO;refine g▸?_;rfl
   refine d.symm▸(i acc h).symm▸?_;refine ite_congr (propext (or_congr ?_ Iff.rfl)) (fun _=>rfl) fun _=>rfl;rw[List.mem_cons];exact⟨.inr,fun h=>h.elim (fun q=>absurd (Prod.mk.inj q).2.symm f) id⟩
theorem ge{a:Env}{x:Str}{names:List (Str×NameKind)}{b:Addr}(h:(gA a names).lookup x=some b):(x,NameKind.free)∈names/\b=(a.cells.lookup x).getD 0:=by
 delta gA at h;replace h:=(mi names [] (fun b c=>aQ c)).symm.trans h;split at h
 ·rename_i q;rcases q with q|q;·exact⟨q,(Zb h).symm⟩
  ·exact jU q
 ·exact aQ h
theorem lr{a:Env}{x:Str}{names:List (Str×NameKind)}{b:Addr}(h:(x,NameKind.free)∈names)(e:a.cells.lookup x=some b):(gA a names).lookup x=some b:=by
 delta gA;rw[mi names [] (fun b c=>aQ c),if_pos (.inl h),e];rfl
structure CompOK(c:Cx)(sc scope:Scope)(fs:List Nat):Prop where
 kind:scope.kind=.function
 gen:scope.isGenerator=false
 co:scope.isCoroutine=false
 nocell:∀x∈scope.names,x.2≠.cell
 nl:∀x∈scope.names,x.2=.local->scope.names.lookup x.1=some .local
 fr:∀n∈fs,scope.names.lookup (c.S n)=some .free
 all:∀x∈scope.names,x.2=.free->∃n∈fs,c.S n=x.1
 out:∀n∈fs,sc.names.lookup (c.S n)=some .cell\/sc.names.lookup (c.S n)=some .free
noncomputable def cT(fs:List Nat)(m:List (Nat×MV)):List (Nat×MV):=fs.filterMap fun n=>(m.lookup n).map fun v=>(n,v)
theorem gb{m:List (Nat×MV)}{x:Nat}:∀(fs:List Nat),(cT fs m).lookup x=if x∈fs then m.lookup x else none
 |[]=>rfl
 |n::fs=>by
  have a:=gb (m:=m) (x:=x) fs;unfold cT at a ⊢;refine List.filterMap_cons▸?_;cases b:m.lookup n with
  |none=>
   simp only[Option.map_none];refine a▸?_;by_cases e:x=n;·subst e;simp[b]
   ·simp[e]
  |some v=>
   simp only[Option.map_some];by_cases e:x=n;·subst e;simp[b]
   ·rw[List.lookup_cons,beq_eq_false_iff_ne.mpr e];simp only;refine a.trans ?_;simp[e]
section
variable {c:Cx}{W i:Wd}{Kp:aA}{d:Env}{f:AS}{s j:Shared}{scope:Scope}{fs:List Nat}
noncomputable def ck(scope:Scope)(C:Addr)(d:Env):Env:=compEnvC scope (gA d scope.names) C d
theorem rO(I:InvF c W Kp d f s)(ok:CompOK c d.scope scope fs):∀x∈scope.names,x.2=.free->∃a,d.cells.lookup x.1=some a:=fun x l g=>by
 refine ar (ok.all x l g) fun n k e=>?_;rcases ok.out n k with h|h;·refine br (I.fm.own n h) fun b u p _=>?_;exact⟨b,by rw[<-e];exact p⟩
 ·refine br (I.fm.free n h) fun b o p _=>?_;exact⟨b,by rw[<-e];exact p⟩
theorem mH{C:Addr}(x:Str):(ck scope C d).kindOf x=(scope.names.lookup x).map fun k=>if (k == NameKind.free&&d.scope.kind == .function&&d.scope.names.lookup x == some .cell) then NameKind.cell else k:=kP scope.names
theorem gH{C:Addr}{x:Str}(ok:CompOK c d.scope scope fs)(h:(ck scope C d).kindOf x=some .cell):scope.names.lookup x=some .free/\d.kindOf x=some .cell:=by
 rw[mH] at h;cases a:scope.names.lookup x with
 |none=>rw[a] at h;exact aQ h
 |some k=>
  rw[a] at h;simp only[Option.map_some,Option.some.injEq] at h;split at h
  ·rename_i q;simp at q;exact⟨(q.1.1▸rfl),q.2⟩
  ·subst h;exact absurd rfl (ok.nocell _ (mem_of_lookup a))
theorem vN{C:Addr}{x:Str}(g:d.scope.kind=.function)(ok:CompOK c d.scope scope fs)(h:(ck scope C d).kindOf x=some .free):scope.names.lookup x=some .free/\d.kindOf x≠some .cell:=by
 rw[mH] at h;cases a:scope.names.lookup x with
 |none=>rw[a] at h;exact aQ h
 |some k=>
  replace h:=a▸h;simp only[Option.map_some,Option.some.injEq] at h;split at h;·cases h
  ·rename_i q;subst h;refine⟨rfl,fun e=>q ?_⟩;have b:d.scope.names.lookup x=some .cell:=e;refine g.symm▸b.symm▸?_;rfl
open Classical in
noncomputable def og(c:Cx)(d cenv:Env)(Kp:aA)(h:Heap):aA:=fun b=>if FA c d b/\¬ FA c cenv b then(h.get? b).map (·,true) else Kp b
theorem oF{a:Env}{h:Heap}{b:Addr}(e:FA c d b)(g:¬ FA c a b):og c d a Kp h b=(h.get? b).map (·,true):=by exact(if_pos ⟨e,g⟩)
theorem j6{a:Env}{h:Heap}{b:Addr}(e:¬ (FA c d b/\¬ FA c a b)):og c d a Kp h b=Kp b:=by exact(if_neg e)
theorem InvF.kpC{a:Env}(I:InvF c W Kp d f s){b:Addr}{o:Obj×Bool}(e:Kp b=some o):og c d a Kp s.heap b=some o:=by
 rw[j6];exact e;intro g;refine Za g fun h _=>?_;rw[(I.fm.out b h).2.2] at e;exact aQ e
theorem tj{C:Addr}(I:InvF c W Kp d f s)(ok:CompOK c d.scope scope fs){b:Addr}(h:FA c (ck scope C d) b):b=C\/FA c d b:=by
 rcases h with h|⟨x,g,e⟩
 ·exact .inl h
 ·refine Za (gH ok g) fun l a=>?_;refine br (I.fm.own x a) fun k u p _=>?_;refine .inr (.inr ⟨x,a,?_⟩);have:=(ge e).2;rw[p] at this ⊢;rw[this];rfl
theorem InvF.comp{C:Addr}{h':Heap}{tk:Nat}(P:cv d)(I:InvF c W Kp d f s)(ok:CompOK c d.scope scope fs)(D:s.heap.objs.size<=C)(k:∀b o,s.heap.get? b=some o->h'.get? b=some o)(G:h'.Ns C fun _=>none) :InvF c W (og c d (ck scope C d) Kp s.heap) (ck scope C d) ⟨f.H,f.nx,cT fs f.m⟩ { s with heap:=h',toks:=tk }:=by
 have M:Inv c W (og c d (ck scope C d) Kp s.heap) f.H f.nx s:=by
  refine⟨fun a o e=>I.kpC (I.inv.base a o e),fun a o e=>?_,I.inv.frz,fun a o e O=>?_,I.inv.objs,I.inv.dom,I.inv.old,fun a o e=>?_,I.inv.fOwn,I.inv.os,I.inv.gens,I.inv.emp,I.inv.keepB,I.inv.tab⟩
  ·by_cases l:FA c d a/\¬ FA c (ck scope C d) a
   ·replace e:=(oF l.1 l.2)▸e;cases q:s.heap.get? a with
    |none=>rw[q] at e;exact aQ e
    |some o'=>rw[q] at e;obtain rfl:=Zb e;exact⟨o',rfl,.refl _ _⟩
   ·rw[j6 l] at e;exact I.inv.kept a o e
  ·by_cases l:FA c d a/\¬ FA c (ck scope C d) a;·exact(I.fm.out a l.1).2.1
   ·replace e:=(j6 l).symm.trans e;exact I.inv.kpF a o e O
  ·by_cases l:FA c d a/\¬ FA c (ck scope C d) a;·exact(I.fm.out a l.1).1
   ·rw[j6 l] at e;exact I.inv.kpOwn a o e
 refine⟨M.grown fun b o _ e=>k b o e,fun b l=>?_,⟨_,G,fun x v g z=>?_⟩,fun x v g z=>?_,fun x g=>?_,fun x y b g R Q F=>?_,fun x g=>?_⟩
 ·rcases tj I ok l with N|E
  ·obtain rfl:=N.symm;refine A3 (I.inv.fresh_own D) (I.inv.fresh_F D) ?_;exact(j6 fun h=>h.2 l).trans (I.inv.fresh_kp D)
  ·refine A3 ((I.fm.out b E).1) ((I.fm.out b E).2.1) ?_;exact(j6 fun h=>h.2 l).trans ((I.fm.out b E).2.2)
 ·rw[gb] at g;split at g
  ·rename_i B;rw[mH,ok.fr x B] at z;simp only[Option.map_some,Option.some.injEq] at z;split at z<;>cases z
  ·exact aQ g
 ·rw[gb] at g;split at g
  ·rename_i B;have A:=mem_of_lookup (ok.fr x B);refine ci (I.fm.cell x v g (ok.out x B)) fun b u p q r=>?_;exact E2 b u (A3 (lr A p) (q.keeps k) r)
  ·exact aQ g
 ·refine Za (gH ok g) fun w t=>?_;refine br (I.fm.own x t) fun b u p q=>?_;exact E2 b u ⟨lr (mem_of_lookup w) p,q.keeps k⟩
 ·refine Za (gH ok g) fun w t=>?_;refine Za (gH ok R) fun U L=>?_;refine br (I.fm.own x t) fun S Y p1 V=>?_;refine br (I.fm.own y L) fun T Z p2 X=>?_;have J:=(ge Q).2;have K:=(ge F).2;rw[p1] at J;rw[p2] at K;exact I.fm.apart x y b t L (by rw[J];exact p1) (by rw[K];exact p2)
 ·refine Za (vN P.kind ok g) fun w t=>?_;refine ar (ok.all _ (mem_of_lookup w) rfl) fun n G e=>?_;have e:=c.inj _ _ e;subst e;rcases ok.out n G with h|h;·exact absurd h t
  ·refine br (I.fm.free n h) fun b o p q=>?_;exact E2 b o ⟨lr (mem_of_lookup w) p,I.kpC q⟩
theorem InvF.uncomp{C:Addr}{σ':AS}(hE:cv d)(I:InvF c W Kp d f s)(ok:CompOK c d.scope scope fs)(le:W.le i)(hC:s.heap.objs.size<=C)(k:InvF c i (og c d (ck scope C d) Kp s.heap) (ck scope C d) σ' j)(hm:∀n∈fs,σ'.m.lookup n=f.m.lookup n):InvF c i Kp d ⟨σ'.H,σ'.nx,f.m⟩ j/\Offs c [C] i Kp d:=by
 have E:¬ FA c d C:=fun h=>absurd (I.fm.lt h) (Nat.not_lt.mpr hC);have J:FA c (ck scope C d) C:=.inl rfl;have base:∀a,FA c d a->c.B.get? a=none:=fun a ha=>by
  cases q:c.B.get? a with
  |none=>rfl
  |some o'=>have:=I.inv.base a o' q;replace this:=((I.fm.out a ha).2.2).symm.trans this;exact aQ this
 have F:¬ FA c (ck scope C d) d.locals:=fun h=>by
  rcases h with h|⟨x,D,A⟩
  ·exact E (.inl h.symm)
  ·refine Za (gH ok D) fun P M=>?_;refine oB (I.fm.own x M) fun b u p o L G=>?_;have e:=(ge A).2;rw[p] at e;have e:d.locals=b:=e;refine ar I.fm.ns fun mm Z _=>?_;refine eY Z fun o' es ep g hd _=>?_;rw[e,L] at g;obtain rfl:=Zb g;replace hd:=G▸hd;cases hd
 have t:∀a o,FA c d a->¬ FA c (ck scope C d) a->s.heap.get? a=some o->∃o',j.heap.get? a=some o'/\UpS o o':=fun a o P M e=>by
  refine ar (k.inv.kept a (o,true) (by rw[oF P M,e];rfl)) fun o' g q=>?_;exact⟨o',g,q.1⟩
 refine⟨⟨⟨I.inv.base,fun a o e=>k.inv.kept a o (I.kpC e),k.inv.frz,fun a o e hB=>k.inv.kpF a o (I.kpC e) hB,k.inv.objs,k.inv.dom,k.inv.old,fun a o e=>k.inv.kpOwn a o (I.kpC e),k.inv.fOwn,k.inv.os,k.inv.gens,k.inv.emp,k.inv.keepB,k.inv.tab⟩,
  ⟨fun b K=>?_,?_,fun x v D z=>?_,fun x D=>?_,I.fm.apart,I.fm.free⟩⟩,fun b K=>?_⟩
 ·by_cases l:FA c (ck scope C d) b;·exact A3 ((k.fm.out b l).1) ((k.fm.out b l).2.1) ((I.fm.out b K).2.2)
  ·refine ar (I.fm.obj K) fun o e _=>?_;have kk:og c d (ck scope C d) Kp s.heap b=some (o,true):=by rw[oF K l,e];rfl
   exact A3 (k.inv.kpOwn b _ kk) (k.inv.kpF b _ kk (base b K)) ((I.fm.out b K).2.2)
 ·refine ar I.fm.ns fun mm U T=>?_;refine eY U fun o es ep e hd r=>?_;refine ar (t _ _ (.inl rfl) F e) fun o' N q=>?_;exact⟨mm,⟨o',E2 es ep (A3 N (q.data.1.trans hd) r)⟩,fun x v D z=>by refine ar (T x v D z) fun u p q=>?_;exact⟨u,p,q.mono le⟩⟩
 ·refine ci (I.fm.cell x v D z) fun b u p q r=>?_;rcases z with z|z
  ·by_cases l:FA c (ck scope C d) b
   ·rcases l with l|⟨y,Q,A⟩
    ·have l:b=C:=l;obtain rfl:=l.symm;exact absurd (Or.inr ⟨x,z,p⟩) E
    ·refine Za (gH ok Q) fun P M=>?_;refine br (I.fm.own y M) fun b2 u2 p2 G=>?_;have e:=(ge A).2;rw[p2] at e;subst e;have:=I.fm.apart x y b z M p p2;obtain rfl:=this.symm;refine ar (ok.all _ (mem_of_lookup P) rfl) fun n hn e=>?_;have e:=c.inj _ _ e;subst e;refine ci (k.fm.cell n v ((hm n hn)▸D) (.inl Q)) fun R Y V X r'=>?_;have w:(gA d scope.names).lookup (c.S n)=some R:=V;have A:(gA d scope.names).lookup (c.S n)=some b:=A;rw[A] at w;obtain rfl:=Zb w;exact E2 b Y (A3 p X r')
   ·refine ar q fun o L G=>?_;refine ar (t _ _ (.inr ⟨x,z,p⟩) l L) fun o' N q=>?_;exact E2 b u (A3 p ⟨o',N,q.data.1.trans G⟩ (r.mono le))
  ·refine br (I.fm.free x z) fun b2 o2 p2 G=>?_;replace p2:=p▸p2;obtain rfl:=Zb p2;refine ar q fun o L q3=>?_;refine ar (I.inv.kept b o2 G) fun o3 O s3=>?_;replace O:=L.symm.trans O;have O:=Zb O;subst O;refine ar (k.inv.kept b o2 (I.kpC G)) fun o4 e4 s4=>?_;exact E2 b u (A3 p ⟨o4,e4,s4.1.data.1.trans (s3.1.data.1.symm.trans q3)⟩ (r.mono le))
 ·refine br (I.fm.own x D) fun b u p q=>?_;by_cases l:FA c (ck scope C d) b
  ·rcases l with l|⟨y,Q,A⟩
   ·have l:b=C:=l;obtain rfl:=l.symm;exact absurd (Or.inr ⟨x,D,p⟩) E
   ·refine br (k.fm.own y Q) fun R Y V X=>?_;have w:(gA d scope.names).lookup (c.S y)=some R:=V;have A:(gA d scope.names).lookup (c.S y)=some b:=A;replace w:=A.symm.trans w;obtain rfl:=Zb w;exact E2 b Y ⟨p,X⟩
  ·refine ar q fun o L G=>?_;refine ar (t _ _ (.inr ⟨x,D,p⟩) l L) fun o' N q=>?_;exact E2 b u ⟨p,⟨o',N,q.data.1.trans G⟩⟩
 ·refine(List.mem_singleton.mp K)▸?_;exact⟨⟨(k.fm.out C J).1,(k.fm.out C J).2.1,I.inv.fresh_kp hC⟩,E⟩
theorem AOK.comp{lv:Nat}{A:Around}{C:Addr}(I:InvF c W Kp d f s)(ok:CompOK c d.scope scope fs)(w:s.heap.objs.size<=C)(k:AOK c lv A Kp d):AOK c lv A (og c d (ck scope C d) Kp s.heap) (ck scope C d):=by
 refine ar k.frames fun r z B=>?_;refine⟨k.depth,k.units,k.handled,r,z,fun e y=>?_⟩;refine oq (B e y) fun n L l t v=>?_;refine⟨n,L,A3 l t (.inr ?_)⟩;rcases v with rfl|⟨o,p,q⟩
 ·have a:¬ FA c (ck scope C d) d.locals:=fun h=>by
   rcases h with h|⟨x,F,D⟩
   ·have:=I.fm.lt (b:=d.locals) (.inl rfl);have h:d.locals=C:=h;exact absurd (h▸this) (Nat.not_lt.mpr w)
   ·refine Za (gH ok F) fun n l=>?_;refine oB (I.fm.own x l) fun b u p o G H=>?_;have e:=(ge D).2;rw[p] at e;have e:d.locals=b:=e;refine ar I.fm.ns fun mm m _=>?_;refine eY m fun o' es ep g hd _=>?_;rw[e,G] at g;obtain rfl:=Zb g;replace hd:=H▸hd;cases hd
  refine bz (I.fm.obj (b:=d.locals) (.inl rfl)) fun o e _ E=>?_;exact⟨o,((oF (.inl rfl) a)▸e▸rfl),E⟩
 ·exact⟨o,I.kpC p,q⟩
end
end
section
section
variable {prog:Program}{w:World}{A:Around}{R:Result->Shared->Prop}{s:Shared}
theorem mh{g b f:Expr}{h:List Expr}{scope:Scope}{pos:Pos}{it acc:Value}{d:Env}(u:∀E,wpAny (model prog w) A (pyNext it) (fun r i=>match r with
   |none=>R (.ok .next) i
   |some v=>wpAny (model prog w) A (letOwnedTupleGo b it v) (fun _ l=>wpAny (model prog w) A (assign b d v) (fun _ m=>
     wpAny (model prog w) A (forIn h true fun c r=>if r=true then do let ok <-PySem.isTrue c d (eval c d);pure (ForInStep.yield ok) else pure (ForInStep.yield r)) (fun ok j=>
      if ok=true then wpAny (model prog w) A (eval g d) (fun x n=>
       wpAny (model prog w) A (call (.builtin "list.append") [acc,x]) (fun _ o=>codeAny (model prog w) A (.compLoop (.ListComp g [⟨b,f,h,0⟩] scope pos) 0 it acc d) R o) E n) E j
      else codeAny (model prog w) A (.compLoop (.ListComp g [⟨b,f,h,0⟩] scope pos) 0 it acc d) R j) E m) E l) E i) E s) :
  codeAny (model prog w) A (.compLoop (.ListComp g [⟨b,f,h,0⟩] scope pos) 0 it acc d) R s:=by
 refine codeAny_of_tree ?_;show wpAny _ A ((compTurn (.ListComp g [⟨b,f,h,0⟩] scope pos) 0 it acc d).onRaise (fun x=>do noteFrame x d;theTreesLotGoes x)) _ _ s;refine wpAny_noted ?_;rw[compTurn_list];refine Zf (wpAny_standAt (Zf (Zg (u _) (fun r i e=>?_) fun _ _ h'=>h')));induction r with
 |none=>exact Zi e
 |some v=>
  refine Zf (Zg e (fun a l e=>Zf (Zg e (fun a m p=>Zf (Zg p (fun ok j k=>?_) fun _ _ h'=>h')) fun _ _ h'=>h')) fun _ _ h'=>h');induction ok with
  |false=>exact Zi ⟨rfl,k⟩
  |true=>exact Zf (Zf (Zg k (fun x n q=>Zf (Zg q (fun a o t=>Zi (Zi ⟨rfl,t⟩)) fun _ _ h'=>h')) fun _ _ h'=>h'))
end
def oh(c:Cx)(sc:Scope)(lv:Nat)(b:List Expr)(g:MT):Prop:=
 ∀(a:Env)(A:Around)(W:Wd)(Kp:aA)(d:AS)(s:Shared)(Q:Bool->AS->Prop)(E:Value->Shared->Prop),
  a.scope=sc->cv a->AOK c lv A Kp a->InvF c W Kp a d s->g d Q->
  wpAny c.M A (forIn b true fun c r=>if r=true then do let ok <-PySem.isTrue c a (eval c a);pure (ForInStep.yield ok) else pure (ForInStep.yield r)) (PT c W Kp a Q) E s
theorem eO{c:Cx}{sc:Scope}{lv:Nat}:oh c sc lv [] fN:=fun a A W Kp b s Q E f e d I q=>wpAny_tests_nil ⟨W,b,A3 (.refl W) I q⟩
theorem fZ{c:Cx}{sc:Scope}{lv:Nat}{e:Expr}{g:MT}(h:CT c sc lv e g):oh c sc lv [e] g:=fun a A W Kp i s Q E f d b I q=>wpAny_tests_one (h a A W Kp i s Q E f d b I q)
def eU(g:(aq->Option MObj)->Prop)(st:MV->AS->AS)(t:MT)(a:ap)(m:List (Nat×MV)):List MV->List MV->AS->(MV->AS->Prop)->Prop
 |[],acc,σ,Q=>g σ.H/\newL acc ⟨σ.H,σ.nx,m⟩ Q
 |x::r,acc,σ,Q=>g σ.H/\t (st x σ) fun b c=>match b with
  |true=>a c fun v d=>d.m=(st x σ).m/\acc.length<1000/\eU g st t a m r (acc++[v]) d Q
  |false=>c.m=(st x σ).m/\eU g st t a m r acc c Q
def eR(fs:List Nat)(f:ii)(st:MV->AS->AS)(t:MT)(b:ap):ap:=fun c Q=>f c fun xs g a=>eU g st t b a.m xs [] ⟨a.H,a.nx,cT fs a.m⟩ Q
section
variable {c:Cx}{W W':Wd}{Kp:aA}{d:Env}{i:AS}{s s':Shared}{Q:MV->AS->Prop}
theorem Fm.add{a:Wd}{m:List (Nat×MV)}{h:Heap}(f:Fm c W Kp d m h)(le:W.le a)(g:∀b,FA c d b->a.own b=none/\a.F b=none):Fm c a Kp d m h:=f.move le g fun _ _ _ e=>e
theorem PE.adoptL{a:Addr}{vs:List Value}{xs:List MV}{n:Nat}(I:InvF c W Kp d i s)(k:Offs c [a] W Kp d)(p:VRs c.S W vs xs)(q:Mini.Tactic.newL xs i Q)(g:s.heap.get? a=some (bg vs n)):PE c W Kp d Q (.ref a) s:=by
 refine Za (k a Ze) fun j m=>?_;have f:=q.1;rcases q.2 with q|⟨t,l,q⟩
 ·have le:W.le (W.freeze a (bg vs n)):=Wd.le_freeze j.2.1;refine⟨W.freeze a (bg vs n),E2 (.lst xs) i (A4 le ⟨I.inv.adoptF j g,I.fm.add le fun b h=>⟨(I.fm.out b h).1,?_⟩⟩ (.lst (n:=n) ?_ (p.mono le) f) q)⟩
  ·show(if b=a then _ else _)=_;rw[if_neg];exact(I.fm.out b h).2.1;intro e;obtain rfl:=e.symm;exact m h
  ·show(if a=a then _ else _)=_;exact(if_pos rfl)
 ·have le:W.le (W.add t a []):=Wd.le_adopt (I.inv.unused l) j.1;have r:=I.inv.adopt (o:=.list xs) l j ⟨_,g⟩ ⟨a,E2 vs n (A5 (by show(if t=t then _ else _)=_;rw[if_pos rfl]) (by show(if a=a\/a∈[] then _ else _)=_;rw[if_pos (.inl rfl)]) g (p.mono le) f)⟩;refine⟨W.add t a [],E2 (.tag t) ({ i with H:=af i.H t (.list xs),nx:=cf i.nx t }) (A4 le ⟨r,I.fm.add le fun b h=>⟨?_,(I.fm.out b h).2.1⟩⟩ (.tag ?_) q)⟩
  ·show(if b=a\/b∈[] then _ else _)=_;rw[if_neg];exact(I.fm.out b h).1;rintro (e|e);·obtain rfl:=e.symm;exact m h
   ·exact gY e
  ·show(if t=t then _ else _)=_;rw[if_pos rfl]
theorem VRs.snoc{S:Nat->Str}{W:Wd}{vs:List Value}{xs:List MV}{v:Value}{x:MV}(h:VRs S W vs xs)(r:VR S W v x):VRs S W (vs++[v]) (xs++[x]):=h.append (.cons r .nil)
end
section
variable {c:Cx}{sc:Scope}{lv:Nat}
theorem vc{h:Heap}{D:Addr}{vs:List Value}{n:Nat}{fp:List Addr}(d:h.get? D=some (bg vs n))(l:∀b∈fp,∃o,h.get? b=some o):∀b∈D::fp,∃o,h.get? b=some o:=fun b a=>by
 cases a with
 |head=>exact⟨_,d⟩
 |tail _ a=>exact l b a
theorem Offs.hd{D:Addr}{fp:List Addr}{W:Wd}{K:aA}{d:Env}(a:Offs c (D::fp) W K d):Offs c [D] W K d:=fun b e=>a b ((List.mem_singleton.mp e)▸.head _)
theorem Offs.tl{D:Addr}{fp:List Addr}{W:Wd}{K:aA}{f:Env}{h:Heap}(a:Offs c (D::fp) W K f)(e:D∉fp):Offs c fp W (kq K [D] h) f:=fun b d=>
 ⟨⟨(a b (.tail _ d)).1.1,(a b (.tail _ d)).1.2.1,((jZ fun g=>e (by rw[<-List.mem_singleton.mp g];exact d)).trans ((a b (.tail _ d)).1.2.2))⟩,(a b (.tail _ d)).2⟩
theorem uu{T j Z:Expr}{Y:List Expr}{scope:Scope}{pos:Pos}{st:MV->AS->AS}{t:MT}{f:ap}{k:Env}{A:Around}{W0:Wd}{K:aA}{xs:List MV}{g:(aq->Option MObj)->Prop}{fp:List Addr}{Ia D:Addr}{J:Nat->Heap->Prop}{Q:MV->AS->Prop}{RR:Result->Shared->Prop}{m0 mq:List (Nat×MV)}(hs:k.scope=sc)(hE:cv k)(hA:AOK c lv A K k)(ht:oh c sc lv Y t)(hf:CE c sc lv T f)(it:Itr c sc j xs st g W0 fp Ia J)(F:D∉fp)(fin:∀W d s acc vs n,W0.le W->InvF c W K k d s->Offs c [D] W K k->(∀n,sc.names.lookup (c.S n)≠some .local->d.m.lookup n=m0.lookup n)->s.heap.get? D=some (bg vs n)->VRs c.S W vs acc->newL acc ⟨d.H,d.nx,mq⟩ Q->RR (.ok .next) s)(l:List MV):∀(i:Nat)(W:Wd)(d:AS)(acc:List MV)(vs:List Value)(nn:Nat)(s:Shared),xs.drop i=l->W0.le W->InvF c W K k d s->Offs c (D::fp) W K k->J i s.heap->s.heap.get? D=some (bg vs nn)->VRs c.S W vs acc->acc.length<=1000->(∀n,sc.names.lookup (c.S n)≠some .local->d.m.lookup n=m0.lookup n)->eU g st t f mq l acc d Q->
   codeAny c.M A (.compLoop (.ListComp T [⟨j,Z,Y,0⟩] scope pos) 0 (.ref Ia) (.ref D) k) RR s:=by
 induction l with
 |nil=>
  intro i W d acc vs nn s hd le I a Ji gD rD p hm q;refine mh fun E=>?_;have B:=a.hd;have N:=a.tl (h:=s.heap) F;refine Zg (it.done k A W _ d s i E hs hE hA.handled le (I.hold B) q.1 N Ji (List.getElem?_eq_none (List.drop_eq_nil_iff.mp hd))) (fun r s1 z=>?_) fun _ _ z=>z;cases z.1;exact fin W d s1 acc vs nn le (I.drop B z.2) (Offs.held I B (vc gD fun _ h=>nomatch h) z.2) hm (I.held B z.2 (.head _) gD) rD q.2
 |cons x l ih=>
  intro i W d acc vs nn s hd le I a Ji gD rD p hm q;refine mh fun E=>?_;have B:=a.hd;have N:=a.tl (h:=s.heap) F;have hx:xs[i]?=some x:=((List.head?_drop)▸hd▸rfl)
  have V:xs.drop (i+1)=l:=(List.tail_drop▸hd▸rfl)
  refine Zg (it.step k A W _ d s i x E hs hE hA.handled le (I.hold B) q.1 N Ji hx) (fun r s1 zp1=>?_) fun _ _ z=>z;refine ar zp1 fun v e z=>?_;cases e;refine Zg z (fun _ s2 z=>Zg z (fun _ s3 z=>?_) fun _ _ z=>z) fun _ _ z=>z;have G:=I.held B z.1 (.head _) gD;have w:=I.drop B z.1;have lv3:=vc G fun b L=>(it.live _ _ z.2 b L).elim fun o e=>⟨o,e.1⟩
  have back:∀{W5:Wd}{O:AS}{s5:Shared},InvF c W5 (kq K (D::fp) s3.heap) k O s5->J (i+1) s5.heap:=fun P=>it.frame _ _ _ z.2 fun b L o e=>w.held a P (.tail _ L) e;have X:∀n,sc.names.lookup (c.S n)≠some .local->(st x d).m.lookup n=m0.lookup n:=fun n hn=>(it.stm x d n hn).trans (hm n hn);have U:=hA.hold (h:=s3.heap) a;refine Zg (ht k A W _ (st x d) s3 _ E hs hE U (w.hold a) q.2) (fun b s4 z0=>z0.ex fun W4 σ4 u R q4=>?_) fun _ _ z=>z;induction b with
  |false=>exact ih (i+1) W4 σ4 acc vs nn s4 V (le.trans u) (w.drop a R) (Offs.held w a lv3 R) (back R) (w.held a R (.head _) G) (rD.mono u) p (q4.1▸X) q4.2
  |true=>
   refine Zg (hf k A W4 _ σ4 s4 _ E hs hE U R q4) (fun v s5 zp2=>?_) fun _ _ z=>z;refine fL zp2 fun W5 y O le5 P r5 em hl q5=>?_;have gD5:=w.held a P (.head _) G;have C:=Offs.held w a lv3 P;refine wpAny_list_append_plain (nQ gD5) (fun h6 p6 sb6=>?_) (List.size_toArray▸rD.length▸sizeLine_eq▸av 0 1000 0 16777216 p rfl);have p6':h6.PlainList D (vs++[v]).toArray:=List.push_toArray vs v▸p6;refine Zx p6' fun n6 g6=>?_;exact ih (i+1) W5 O (acc++[y]) (vs++[v]) n6 _ V (le.trans (u.trans le5)) ((w.drop a P).offChange (tk:=s5.toks) C.hd fun b o L e=>(sb6.2 b fun e'=>L (e'▸.head _)).trans e) C
    (it.frame _ _ _ (back P) fun b L o e=>(sb6.2 b fun e'=>F (e'▸L)).trans e) g6 ((rD.mono (u.trans le5)).snoc r5) (List.length_append▸hl) (em▸X) q5
theorem uv{x i p:Expr}{z:List Expr}{scope:Scope}{pos:Pos}{fs:List Nat}{st:MV->AS->AS}{t:MT}{f:ap}{a:Env}{A:Around}{W:Wd}{Kp:aA}{v:AS}{s:Shared}{xs:List MV}{g:(aq->Option MObj)->Prop}{fp:List Addr}{N C:Addr}{J:Nat->Heap->Prop}{Q:MV->AS->Prop}{RR:Value->Addr->Result->Shared->Prop}{d:Heap}{tk:Nat}(L:cv a)(hA:AOK c lv A Kp a)(ok:CompOK c a.scope scope fs)(ht:oh c (fE scope a.scope) lv z t)(hf:CE c (fE scope a.scope) lv x f)(I:InvF c W Kp a v s)(it:Itr c (fE scope a.scope) i xs st g W fp N J)(O:J 0 s.heap)(l:Offs c fp W Kp a)(q:eU g st t f v.m xs [] ⟨v.H,v.nx,cT fs v.m⟩ Q)(T:∀(D C:Addr)(B:Shared)(w:Wd)(acc:List MV)(vs:List Value)(n:Nat)(σ':AS)(m:Str->Option Value),W.le w->InvF c w Kp a ⟨σ'.H,σ'.nx,v.m⟩ B->Offs c [C] w Kp a->Offs c [D] w Kp a->D≠C->B.heap.Ns C m->B.heap.get? D=some (bg vs n)->VRs c.S w vs acc->newL acc ⟨σ'.H,σ'.nx,v.m⟩ Q->RR (.ref D) C (.ok .next) B)(K:s.heap.objs.size<=C)(E:s.heap.objs.size≠C)(k1:∀b o,s.heap.get? b=some o->d.get? b=some o)(R:d.get? s.heap.objs.size=some (bg [] 0))(y:d.Ns C fun _=>none) :
  codeAny c.M A (.compStart (.ListComp x [⟨i,p,z,0⟩] scope pos) 0 (.ref N) (.ref s.heap.objs.size) (ck scope C a)) (RR (.ref s.heap.objs.size) C) { s with heap:=d,toks:=tk }:=by
 have P:s.heap.objs.size∉fp:=fun U=>by refine ar (it.live _ _ O _ U) fun o e _=>?_;exact absurd (Zy e) (Nat.lt_irrefl _)
 have X:J 0 d:=it.frame _ _ _ O fun b _ o e=>k1 b o e;have r:codeAny c.M A (.compLoop (.ListComp x [⟨i,p,z,0⟩] scope pos) 0 (.ref N) (.ref s.heap.objs.size) (ck scope C a)) (RR (.ref s.heap.objs.size) C) { s with heap:=d,toks:=tk }:=by
  refine uu (sc:=fE scope a.scope) (m0:=cT fs v.m) rfl (show cv (ck scope C a) from⟨ok.kind,L.globals,L.builtins,ok.gen,ok.co⟩) (hA.comp I ok K) ht hf it P (fun w σ' B acc vs n G V oD U R rD qn=>?_) xs 0 W _ [] [] 0 _ rfl (.refl W) (I.comp L ok K k1 y) (fun b j=>?_) X R .nil (Nat.zero_le _) (fun _ _=>rfl) q
  ·have u:=I.uncomp L ok G K V fun n Y=>by
    rw[U n ?_,gb,if_pos Y];rw[show(fE scope a.scope).names.lookup (c.S n)=_ from kP scope.names,ok.fr n Y];dsimp only[Option.map_some,ne_eq,Option.some.injEq];split<;>decide
   exact V.fm.ns.elim fun mm y=>T _ C B w acc vs n σ' mm G u.1 u.2 (fun b j=>by
    refine(List.mem_singleton.mp j)▸?_;exact⟨⟨(oD _ (.head _)).1.1,(oD _ (.head _)).1.2.1,I.inv.fresh_kp (Zj _)⟩,fun h=>Zh (I.fm.lt h) rfl⟩) E y.1 R rD qn
  ·have key:¬ FA c a b->Kp b=none->W.own b=none->W.F b=none->b≠C->(W.own b=none/\W.F b=none/\og c a (ck scope C a) Kp s.heap b=none)/\¬ FA c (ck scope C a) b:=fun Z k o f h=>⟨(A3 o f ((j6 fun h=>Z h.1).trans k)),fun h'=>(tj I ok h').elim h Z⟩
   cases j with
   |head=>exact key (fun h=>absurd (I.fm.lt h) (Nat.lt_irrefl _)) (I.inv.fresh_kp (Zj _)) (I.inv.fresh_own (Zj _)) (I.inv.fresh_F (Zj _)) E
   |tail _ j=>exact key (l b j).2 (l b j).1.2.2 (l b j).1.1 (l b j).1.2.1 fun e=>(it.live _ _ O b j).elim fun o h=>absurd (Zy h.1) (Nat.not_lt.mpr (e▸K))
 exact codeAny_compStart_list r (it.self _ _ _ _ _ X r)
theorem qi{r d w:Expr}{v:List Expr}{scope:Scope}{pos:Pos}{fs:List Nat}{st:MV->AS->AS}{t:MT}{f:ap}{a:Env}{A:Around}{W:Wd}{Kp:aA}{l:AS}{s:Shared}{xs:List MV}{g:(aq->Option MObj)->Prop}{fp:List Addr}{L:Addr}{J:Nat->Heap->Prop}{Q:MV->AS->Prop}{E:Value->Shared->Prop}{RR:Value->Addr->Result->Shared->Prop}(R:cv a)(O:AOK c lv A Kp a)(ok:CompOK c a.scope scope fs)(V:oh c (fE scope a.scope) lv v t)(U:CE c (fE scope a.scope) lv r f)(I:InvF c W Kp a l s)(it:Itr c (fE scope a.scope) d xs st g W fp L J)(N:J 0 s.heap)(K:Offs c fp W Kp a)(q:eU g st t f l.m xs [] ⟨l.H,l.nx,cT fs l.m⟩ Q)(G:∀(D C:Addr)(B:Shared)(p:Wd)(acc:List MV)(vs:List Value)(n:Nat)(σ':AS)(m:Str->Option Value),W.le p->InvF c p Kp a ⟨σ'.H,σ'.nx,l.m⟩ B->Offs c [C] p Kp a->Offs c [D] p Kp a->D≠C->B.heap.Ns C m->B.heap.get? D=some (bg vs n)->VRs c.S p vs acc->newL acc ⟨σ'.H,σ'.nx,l.m⟩ Q->RR (.ref D) C (.ok .next) B) :
  wpAny c.M A (newList []) (fun acc x=>wpAny c.M A (newFunctionEnv scope a.globals (gA a scope.names) [] a.qual none .none (some a)) (fun k z=>
   codeAny c.M A (.compStart (.ListComp r [⟨d,w,v,0⟩] scope pos) 0 (.ref L) acc { k with scope:=relabel scope a }) (RR acc k.locals) z) E x) E s:=by
 refine wpAny_newList ?_ (k7 (Nat.zero_le _));refine wpAny_newFunctionEnv ok.nocell (by intro y X;exact gY X) (fun u i j=>?_) ok.kind;have h:(s.heap.push { cls:=.type "list",data:=.seq ([]:List Value).toArray }).objs.size=s.heap.objs.size+1:=Heap.size_push ..;have k2:∀b,b<s.heap.objs.size+1->∀o,(s.heap.push { cls:=.type "list",data:=.seq ([]:List Value).toArray }).get? b=some o->u.get? b=some o:=fun b T o e=>j.extBut b o (Zh (h▸T)) (Zl _ e);have P:s.heap.objs.size<=(s.heap.push { cls:=.type "list",data:=.seq ([]:List Value).toArray }).objs.size:=h▸Zz _;have F:s.heap.objs.size≠(s.heap.push { cls:=.type "list",data:=.seq ([]:List Value).toArray }).objs.size:=h▸Zh (Zr _);exact uv R O ok V U I it N K q G P F (fun b o e=>k2 b (Nat.lt_succ_of_lt (Zy e)) o (Zl _ e)) (k2 _ (Zr _) _ (Zq _ rfl)) i
theorem yS{i a h:Expr}{j:List Expr}{scope:Scope}{pos:Pos}{fs:List Nat}{st:MV->AS->AS}{t:MT}{f:ap}{p:ii}(ok:CompOK c sc scope fs)(hi:jy c sc (fE scope sc) lv a h st p)(ht:oh c (fE scope sc) lv j t)(hf:CE c (fE scope sc) lv i f)(hs:∀d x,foldedSetIterable h d x=pure x:=by intros;rfl):CE c sc lv (.ListComp i [⟨a,h,j,0⟩] scope pos) (eR fs p st t f):=by
 intro d A W Kp σ s Q E he N L I q;subst he;refine wpAny_comprehension_free (use:=none) rfl (hs d) (jC (rO I ok)) ok.kind ok.nl ?_;refine Zg (hi d A W Kp σ s _ E rfl N L I q) (fun x s1 X=>Zg X (fun it s2 Y=>?_) fun _ _ z=>z) fun _ _ z=>z;refine mJ Y fun W1 K xs g fp Ia J F G=>?_;obtain rfl:=F;refine dc G fun y P v S l q1=>?_;refine qi (RR:=fun acc C=>compPost c.M A E none (PE c W Kp d Q) acc C) N L ok ht hf P v S l q1 ?_;intro D C B T acc vs n σ' m w O oC oD r u V rD qn;refine⟨m,u,fun h' sb=>?_⟩;have k:∀b o,b∉[C]->B.heap.get? b=some o->h'.get? b=some o:=fun b o Z e=>(sb.2 b fun U=>Z (U▸Ze)).trans e;have R:InvF c T Kp d ⟨σ'.H,σ'.nx,K.m⟩ { B with heap:=h' }:=O.offChange (tk:=B.toks) oC k;exact(PE.adoptL R oD rD qn (k _ _ (by rw[List.mem_singleton];exact r) V)).le (y.trans w)
theorem uI{j d h:Expr}{l:List Expr}{scope:Scope}{pos L i:Pos}{n:Str}{fs:List Nat}{st:MV->AS->AS}{t:MT}{f:ap}{H:ii}(x:Nat)(hn:c.S x=n)(hk:sc.names.lookup n=some .local)(ok:CompOK c sc scope fs)(hi:jy c sc (fE scope sc) lv d h st H)(ht:oh c (fE scope sc) lv l t)(hf:CE c (fE scope sc) lv j f)(T:∀a:Env,a.scope=sc->swapsWith (.ListComp j [⟨d,h,l,0⟩] scope pos) (some (.Name n L)) i.line a=pure true)(hs:∀a x,foldedSetIterable h a x=pure x:=by intros;rfl) :
  CS c sc lv (.Assign [.Name n L] (.ListComp j [⟨d,h,l,0⟩] scope pos) i) (cJ x (eR fs H st t f)):=by
 subst hn;intro a A W Kp σ s Q E he R hA I q;rw[exec_Assign_Name_used _ _ _ _ (T a he)];subst he;refine Zf (wpAny_standAt (Zf ?_));refine Zf (Zg (wpAny_comprehension_free (use:=some (assign (.Name (c.S x) L) a)) (Q:=fun _ u=>PS c W Kp a Q .next u) rfl (hs a) (jC (rO I ok)) ok.kind ok.nl ?_) (fun _ u hq=>Zi (Zi hq)) fun _ _ e=>e);refine Zg (hi a A W Kp σ s _ E rfl R hA I q) (fun y s1 h1=>Zg h1 (fun it s2 h2=>?_) fun _ _ z=>z) fun _ _ z=>z;refine mJ h2 fun W1 σ1 xs g fp Ia J v zq2=>?_;obtain rfl:=v;refine dc zq2 fun X I1 U J0 G q1=>?_;refine qi (RR:=fun acc C=>compPost c.M A E (some (assign (.Name (c.S x) L) a)) (fun _ u=>PS c W Kp a Q .next u) acc C) R hA ok ht hf I1 U J0 G q1 ?_;intro D C u W' acc vs n σ' m V K N oD P B gD rD qn;obtain⟨W2,mv,σ2,Y,I2,r2,q2⟩:=PE.adoptL (Kp:=kq Kp [C] u.heap) (K.hold N) (fun b w=>by
  refine(List.mem_singleton.mp w)▸?_;refine Za (oD _ Ze) fun v o4=>?_;refine bM v fun o1 o2 o3=>?_;exact⟨⟨o1,o2,((jZ (by rw[List.mem_singleton];exact P))▸o3)⟩,o4⟩) rD qn gD
 refine wpAny_assign_Name (ij R I2 r2 (.inl hk) fun s3 O=>?_);have p:∀b∈[C],∃o,u.heap.get? b=some o:=fun b w=>by rw[List.mem_singleton.mp w];refine dM B fun o _ _ e _=>?_;exact⟨o,e⟩
 have I4:=K.drop N O;have Z:=Offs.held K N p O;have F:s3.heap.Ns C m:=by
  refine eY B fun o es ep e hd r=>?_;exact⟨o,E2 es ep (A3 (K.held N O Ze e) hd r)⟩
 refine⟨m,F,fun h' sb=>?_⟩;have k:∀b o,b∉[C]->s3.heap.get? b=some o->h'.get? b=some o:=fun b o w e=>(sb.2 b fun e'=>w (e'▸Ze)).trans e;exact⟨W2,E2 _ _ (A4 ((X.trans V).trans Y) (I4.offChange (tk:=s3.toks) Z k) .next q2)⟩
end
end
section
noncomputable def ba(x:Nat):MV->AS->AS:=fun v a=>{ a with m:=ah a.m x v }
theorem uZ{m:Int}(h:0<=m):Builtin.Range.rangeSize 0 m 1=m:=by rw[rangeSize_one];split<;>omega
noncomputable def wS:List MV->Option (MV×MV)
 |[]=>none
 |[_]=>none
 |[a,b]=>some (a,b)
 |_::_::_::_=>none
noncomputable def u9(v:MV):Option (MV×MV):=MV.casesOn v none (fun _=>none) (fun _=>none) (fun _=>none) (fun _=>none) (fun _=>none) (fun xs=>wS xs) (fun _=>none) (fun _ _=>none) (fun _=>none)
noncomputable def iK(x y:Nat):MV->AS->AS:=fun v a=>Option.casesOn (u9 v) a fun p=>{ a with m:=ah (ah a.m x p.1) y p.2 }
theorem pY(x y:Nat)(v:MV)(c:AS):iK x y v c=c\/∃a b,iK x y v c={ c with m:=ah (ah c.m x a) y b }:=by
 delta iK;cases u9 v with
 |none=>exact .inl rfl
 |some p=>exact .inr (E2 p.1 p.2 rfl)
section
variable {c:Cx}{sc d:Scope}{lv:Nat}{xs:List MV}{g:(aq->Option MObj)->Prop}{W0:Wd}{fp:List Addr}{I:Addr}{J:Nat->Heap->Prop}
theorem rN{W:Wd}{Kp:aA}{a:Env}{A:Around}{q σ':AS}{s:Shared}{E:Value->Shared->Prop}{m:Sem Unit}(l:InvF c W Kp a q s)(f:Offs c fp W Kp a)(live:∀b∈fp,∃o,s.heap.get? b=some o/\o.cls≠.type "frame")(h:∀i,InvF c W i a q s->wpAny c.M A m (fun _ j=>InvF c W i a σ' j) E s) :
  wpAny c.M A m (fun _ j=>InvF c W Kp a σ' j/\∀b∈fp,∀o,s.heap.get? b=some o->j.heap.get? b=some o) E s:=
 Zg (h _ (l.hold f)) (fun _ j n=>⟨l.drop f n,fun b p o e=>by
  refine ar (live b p) fun t k r=>?_;replace k:=e.symm.trans k;obtain rfl:=Zb k;exact l.heldX f n p e r⟩) fun _ _ z=>z
theorem Itr.ofName{n:Str}{pos:Pos}(x:Nat)(G:c.S x=n)(F:d.names.lookup n=some .local)(frame:∀i h h',J i h->(∀b∈fp,∀o,h.get? b=some o->h'.get? b=some o)->J i h')(live:∀i h,J i h->∀b∈fp,∃o,h.get? b=some o/\o.cls≠.type "frame")(next:∀(a:Env)(A:Around)(W:Wd)(Kp:aA)(f:AS)(s:Shared)(i:Nat)(y:MV)(E:Value->Shared->Prop),A.handled=none->W0.le W->InvF c W Kp a f s->g f.H->Offs c fp W Kp a->J i s.heap->xs[i]?=some y->
   wpAny c.M A (pyNext (.ref I)) (fun r s1=>∃v,r=some v/\VR c.S W v y/\InvF c W Kp a f s1/\J (i+1) s1.heap) E s)
  (done:∀(a:Env)(A:Around)(W:Wd)(Kp:aA)(f:AS)(s:Shared)(i:Nat)(E:Value->Shared->Prop),A.handled=none->W0.le W->InvF c W Kp a f s->g f.H->Offs c fp W Kp a->J i s.heap->xs[i]?=none->
   wpAny c.M A (pyNext (.ref I)) (fun r s1=>r=none/\InvF c W Kp a f s1) E s)
  (self:∀(A:Around)(i:Nat)(s:Shared)(E:Value->Shared->Prop)(Q:Value->Shared->Prop),J i s.heap->Q (.ref I) s->wpAny c.M A (pyIter (.ref I)) Q E s) :
  Itr c d (.Name n pos) xs (ba x) g W0 fp I J where
 frame:=frame
 live:=live
 step:=fun a A W Kp f s i y E D C q le p l j k t=>by
  subst G;refine Zg (next a A W Kp f s i y E q le p l j k t) (fun r s1 u=>?_) fun _ _ z=>z;refine eW u fun v O R K B=>?_;refine⟨v,O,?_⟩;refine wpAny_of_eq (rfl:letOwnedTupleGo (.Name (c.S x) pos) (.ref I) v=pure ()) ?_;refine Zg (rN (σ':=ba x y f) K j (live _ _ B) fun N L=>wpAny_assign_Name (ij C L R (.inl (by unfold Env.kindOf;refine D.symm▸?_;exact F)) fun T z=>z)) (fun _ T w=>by refine Za w fun U V=>?_;exact⟨U,frame _ _ _ B V⟩) fun _ _ z=>z
 done:=fun a A W Kp f s i E D C q le p l j k t=>done a A W Kp f s i E q le p l j k t
 self:=self
 stH:=fun _ _=>⟨rfl,rfl⟩
 stm:=fun y f P h=>by
  show(ah f.m x y).lookup P=_;rw[aG,if_neg];intro e;subst e;replace h:=G▸h;exact h F
theorem Itr.ofPair{x B:Str}{p1 p2 pos:Pos}{k:Nat}(m n:Nat)(u:c.S m=x)(v:c.S n=B)(q:d.names.lookup x=some .local)(t:d.names.lookup B=some .local)(frame:∀i h h',J i h->(∀b∈fp,∀o,h.get? b=some o->h'.get? b=some o)->J i h')(live:∀i h,J i h->∀b∈fp,∃o,h.get? b=some o/\o.cls≠.type "frame")(next:∀(f:Env)(A:Around)(W:Wd)(Kp:aA)(j:AS)(s:Shared)(i:Nat)(y:MV)(E:Value->Shared->Prop),A.handled=none->W0.le W->InvF c W Kp f j s->g j.H->Offs c fp W Kp f->J i s.heap->xs[i]?=some y->
   wpAny c.M A (pyNext (.ref I)) (fun r s1=>∃T,r=some (.ref T)/\wpAny c.M A (letOwnedTupleGo (.Tuple [.Name x p1,.Name B p2] k pos) (.ref I) (.ref T)) (fun _ p=>∃O P D F,y=.tup [D,F]/\VR c.S W O D/\VR c.S W P F/\InvF c W Kp f j p/\J (i+1) p.heap/\p.heap.IsTuple T #[O,P]) E s1) E s)
  (done:∀(f:Env)(A:Around)(W:Wd)(Kp:aA)(j:AS)(s:Shared)(i:Nat)(E:Value->Shared->Prop),A.handled=none->W0.le W->InvF c W Kp f j s->g j.H->Offs c fp W Kp f->J i s.heap->xs[i]?=none->
   wpAny c.M A (pyNext (.ref I)) (fun r s1=>r=none/\InvF c W Kp f j s1) E s)
  (self:∀(A:Around)(i:Nat)(s:Shared)(E:Value->Shared->Prop)(Q:Value->Shared->Prop),J i s.heap->Q (.ref I) s->wpAny c.M A (pyIter (.ref I)) Q E s) :
  Itr c d (.Tuple [.Name x p1,.Name B p2] k pos) xs (iK m n) g W0 fp I J where
 frame:=frame
 live:=live
 step:=fun f A W Kp j s i y E he Z C le N L l G w=>by
  refine Zg (next f A W Kp j s i y E C le N L l G w) (fun r s1 R=>?_) fun _ _ z=>z;refine ar R fun T hr z=>?_;refine⟨_,hr,?_⟩;refine Zg z (fun _ p U=>?_) fun _ _ z=>z;refine iw U fun O P D F hy r1 X=>?_;obtain⟨r2,I2,Y,hT⟩:=X;subst hy;have nt:NTs c d [.Name x p1,.Name B p2] [m,n]:=.cons m u (.inl q) (.cons n v (.inl t) .nil);refine Zg (rN (σ':=iK m n (.tup [D,F]) j) I2 l (live _ _ Y) fun K I3=>?_) (fun _ s' V=>by refine Za V fun z1 z2=>?_;exact⟨z1,frame _ _ _ Y z2⟩) fun _ _ z=>z;refine Za (nt.each f) fun e1 e2=>?_;refine wpAny_assign_Tuple C hT e1 e2 fun h' w=>?_;have I4:InvF c W K f j { p with heap:=h' }:=I3.grow (tk:=p.toks) fun b o e=>w b o (Zh (Zy e)) e;exact nt.stores he Z (.cons r1 (.cons r2 .nil)) I4 rfl fun s' z=>z
 done:=fun f A W Kp j s i E he Z C le N L l G w=>done f A W Kp j s i E C le N L l G w
 self:=self
 stH:=fun y j=>by rcases pY m n y j with e|⟨a,b,e⟩<;>rw[e]<;>exact⟨rfl,rfl⟩
 stm:=fun y j n' h=>by
  rcases pY m n y j with e|⟨a,b,e⟩<;>rw[e];rw[aG,if_neg,aG,if_neg];·intro e;subst e;rw[u] at h;exact h q
  ·intro e;subst e;rw[v] at h;exact h t
end
section
variable {c:Cx}{sc d:Scope}{lv:Nat}
theorem Offs.one{W:Wd}{Kp:aA}{a:Env}{e:AS}{s:Shared}(I:InvF c W Kp a e s):Offs c [s.heap.objs.size] W Kp a:=Offs.fresh I fun b h=>((List.mem_singleton.mp h)▸Zj _)
theorem InvF.one{f:Addr}{W:Wd}{Kp:aA}{a:Env}{h:AS}{s:Shared}{h':Heap}{tk:Nat}(I:InvF c W Kp a h s)(g:Offs c [f] W Kp a)(k:∀b o,b≠f->s.heap.get? b=some o->h'.get? b=some o):InvF c W Kp a h { s with heap:=h',toks:=tk }:=
 I.offChange g fun b o j e=>k b o (fun i=>j (i▸Ze)) e
theorem VRs.getM{S:Nat->Str}{W:Wd}{vs:List Value}{xs:List MV}(h:VRs S W vs xs){i:Nat}(e:xs[i]?=none):vs[i]?=none:=by
 rw[List.getElem?_eq_none_iff] at e ⊢;rw[h.length];exact e
def dH(f:ap):ii:=fun b Q=>f b fun v a=>∃xs,b6 a.H v=some xs/\Q xs (fun H=>b6 H v=some xs) a
theorem xA{e:Expr}{f:ap}{n:Str}{pos:Pos}(x:Nat)(hn:c.S x=n)(hk:d.names.lookup n=some .local)(h:CE c sc lv e f):jy c sc d lv (.Name n pos) e (ba x) (dH f):=by
 intro r A W Kp R s Q E he hE hA hI q;refine h.use he hE hA hI q fun W1 v O u s1 M K P zp6=>?_;refine ar zp6 fun xs hxs q1=>?_;have N:=Offs.one K;rcases nC hxs with rfl|⟨p,Z⟩
 ·refine dM P.of_tup fun a vs nn I J=>?_;obtain rfl:=I;refine bM J fun U D hl=>?_;have V:=K.inv.frz _ _ U;refine wpAny_pyIter_tuple (gB V) (E7 W1 O xs _ ([s1.heap.objs.size]) s1.heap.objs.size (fun i h=>h.IsTupleIter s1.heap.objs.size a i) (A7 rfl M (K.grow (tk:=s1.toks) fun b o e=>Zl _ e) ?_ ⟨_,A3 (Zq _ rfl) rfl rfl⟩ N q1));refine Itr.ofName x hn hk (fun i h h' j k=>j.at fun o e=>k _ Ze o e) (fun i h j b m=>by rw[List.mem_singleton.mp m];refine bz j fun o e X _=>?_;exact⟨o,e,by rw[X];decide⟩) ?_ ?_ (fun A i s E Q j q=>wpAny_pyIter_tupleiter j q)
  ·intro r A W Kp R s i y E L le l _ g j G;have t:=l.inv.frz _ _ (le.F _ _ U);refine ar (D.get G) fun w hw H=>?_;refine wpAny_pyNext_tuple_item j (gB t) (x:=w) (by simpa using hw) fun h' z B=>?_;exact⟨w,A4 rfl (H.mono le) (l.one (tk:=s.toks) g fun b o m e=>(B.2 b m).trans e) z⟩
  ·intro r A W Kp R s i E L le l _ g j G;have t:=l.inv.frz _ _ (le.F _ _ U);refine wpAny_pyNext_tuple_end L j (gB t) (by simpa using D.getM G) fun h' B=>?_;exact⟨rfl,l.one (tk:=s.toks) g fun b o m e=>B b o m e⟩
 ·refine dM (gO K.inv P Z) fun a vs nn I J=>?_;obtain rfl:=I;refine bM J fun V D hl=>?_;refine wpAny_pyIter_list (aT V) (E7 W1 O xs _ ([s1.heap.objs.size]) s1.heap.objs.size (fun i h=>h.IsListIter s1.heap.objs.size a i) (A7 rfl M (K.grow (tk:=s1.toks) fun b o e=>Zl _ e) ?_ ⟨_,A3 (Zq _ rfl) rfl rfl⟩ N q1));refine Itr.ofName x hn hk (fun i h h' j k=>j.at fun o e=>k _ Ze o e) (fun i h j b m=>by rw[List.mem_singleton.mp m];refine bz j fun o e X _=>?_;exact⟨o,e,by rw[X];decide⟩) ?_ ?_ (fun A i s E Q j q=>wpAny_pyIter_listiter j q)
  ·intro r A W Kp R s i y E L le l Y g j G;refine bW (gO l.inv (P.mono le) ((p _).symm.trans Y)) fun a' vs2 n2 T t C _=>?_;cases T;refine ar (C.get G) fun w hw H=>?_;refine wpAny_pyNext_list_item j (aT t) (x:=w) (by simpa using hw) fun h' z B=>?_;exact⟨w,A4 rfl H (l.one (tk:=s.toks) g fun b o m e=>(B.2 b m).trans e) z⟩
  ·intro r A W Kp R s i E L le l Y g j G;refine bW (gO l.inv (P.mono le) ((p _).symm.trans Y)) fun a' vs2 n2 T t C _=>?_;cases T;refine wpAny_pyNext_list_end L j (aT t) (by simpa using C.getM G) fun h' B=>?_;exact⟨rfl,l.one (tk:=s.toks) g fun b o m e=>B b o m e⟩
noncomputable def iT(n:Int):List MV:=(List.range n.toNat).map fun(i:Nat)=>MV.int (i:Int)
def jW(f:ap):ii:=fun b Q=>f b fun v a=>∃n,v=.rng n/\0<=n/\n<=100000/\Q (iT n) (fun _=>True) a
theorem VR.of_rng{S:Nat->Str}{W:Wd}{v:Value}{n:Int}(h:VR S W v (.rng n)):∃a t u w,v=.ref a/\W.F a=some { cls:=.type "range",data:=.fields #[.int 0 t,.int n u,.int 1 w] }:=h.inv
theorem xB{e:Expr}{f:ap}{n:Str}{pos:Pos}(x:Nat)(hn:c.S x=n)(hk:d.names.lookup n=some .local)(h:CE c sc lv e f):jy c sc d lv (.Name n pos) e (ba x) (jW f):=by
 intro r A W Kp P s Q E he Z Y hI q;refine h.use he Z Y hI q fun R v N u s1 J C r1 L=>?_;refine eW L fun m hv h0 X q1=>?_;subst hv;have K:=Offs.one C;refine dU r1.of_rng fun a t u w M U=>?_;obtain rfl:=M;have V:=C.inv.frz _ _ U;have I:Builtin.Range.rangeSize 0 m 1=m:=uZ (by assumption);refine wpAny_pyIter_range (a:=0) (b:=m) (c:=1) V (small_one (by decide) (by decide) (Aw h0) (Av X)) (E7 R N (iT m) _ ([s1.heap.objs.size]) s1.heap.objs.size (fun i h=>IsRangeIter h s1.heap.objs.size (i:Int) (m - i) 1) (A7 rfl J (C.grow (tk:=s1.toks) fun b o e=>Zl _ e) ?_ ?_ K q1))
 ·have l:∀i:Nat,(iT m)[i]?=if i<m.toNat then some (.int (i:Int)) else none:=fun i=>by
   delta iT;refine(List.getElem?_map).trans ?_;split;·rename_i B;rw[List.getElem?_range B];rfl
   ·rename_i B;rw[List.getElem?_eq_none (by simp;exact Int.toNat_le.mp (Zm B))];rfl
  refine Itr.ofName x hn hk (fun i h h' j k=>k _ Ze _ j) (fun i h j b z=>((List.mem_singleton.mp z)▸⟨_,j,show Value.type "range_iterator"≠Value.type "frame" by decide⟩)) ?_ ?_ (fun A i s E Q j q=>wpAny_pyIter_rangeiter j q)
  ·intro r A W Kp P s i y E O le D _ g j p;rw[l] at p;split at p
   ·rename_i B;obtain rfl:=Zb p;refine wpAny_pyNext_range_item j (Int.sub_pos_of_lt (Int.lt_toNat.mp B)) fun h' G H=>?_;refine⟨_,A4 rfl (.int _ _) (D.one (tk:=s.toks+1) g fun b o z e=>(H.2 b z).trans e) ?_⟩;have T:((i+1:Nat):Int)=(i:Int)+1:=Int.natCast_succ _;have F:m - ((i+1:Nat):Int)=m - (i:Int) - 1:=by rw[Int.natCast_succ];exact(Int.sub_sub _ _ _).symm
    show IsRangeIter h' _ _ _ 1;rw[T,F] at *;exact G
   ·exact aQ p
  ·intro r A W Kp P s i E O le D _ g j p;rw[l] at p;split at p;·exact jF p
   ·refine wpAny_pyNext_range_end O j (Int.sub_nonpos_of_le (Int.toNat_le.mp (Zm (by assumption)))) fun h' H=>?_;exact⟨rfl,D.one (tk:=s.toks) g fun b o z e=>H b o z e⟩
 ·show IsRangeIter _ _ ((0:Nat):Int) (m - ((0:Nat):Int)) 1;have F:m - ((0:Nat):Int)=m:=Int.sub_zero _;refine F.symm▸?_;refine I.symm▸?_;exact Zq _ rfl
end
end
section
theorem pK:entryFor table "dict_itemiterator.__iter__"=some Builtin.«dict_keyiterator.__iter__»:=
 entryFor_alias (id':="dict_keyiterator.__iter__") (by kernel_rfl) rfl (by decide +kernel) (by kernel_rfl)
section
variable {c:Cx}{sc j:Scope}{lv:Nat}
theorem VR.of_view{S:Nat->Str}{W:Wd}{v:Value}{b:Bool}{t:aq}(h:VR S W v (.view b t)):∃a d,v=.ref a/\W.F a=some { cls:=.type (if b then "dict_items" else "dict_values"),data:=.fields #[.ref d] }/\W.ρ t=some d:=h.inv
theorem VR.of_viewK{S:Nat->Str}{W:Wd}{v:Value}{b:Bool}{t:aq}{P:Value->Prop}(h:VR S W v (.view b t))(k:∀a d,W.F a=some { cls:=.type (if b then "dict_items" else "dict_values"),data:=.fields #[.ref d] }->W.ρ t=some d->P (.ref a)):P v:=
 ci h.of_view fun a d h e f=>h▸k a d e f
theorem InvF.exact{W:Wd}{Kp:aA}{l:Env}{f:AS}{s:Shared}{t:aq}{es:List (Nat×MV)}{w:Option Obj}{d:Addr}(I:InvF c W Kp l f s)(e:f.H t=some (.dict es w))(hd:W.ρ t=some d) :∃o kvs ep,InvF c W Kp l { f with H:=af f.H t (.dict es (some o)) } s/\s.heap.get? d=some o/\KVR c.S W kvs es/\(∀h:Heap,h.get? d=some o->h.DictAt c.knd d kvs ep):=by
 have X:=I.inv.objs t _ e;refine ip X fun a kvs r G D p F E=>?_;replace r:=hd.symm.trans r;obtain rfl:=Zb r;have v:=D;refine fL D fun o k ep g y z A B C=>?_;refine E3 o kvs ep (A4 ⟨⟨I.inv.base,I.inv.kept,I.inv.frz,I.inv.kpF,fun u n q=>?_,fun u b q=>?_,I.inv.old,I.inv.kpOwn,I.inv.fOwn,I.inv.os,I.inv.gens,I.inv.emp,I.inv.keepB,pb I.inv.tab e (by intro _ _ q;cases q)⟩,I.fm⟩ g p (fun h x=>⟨o,k,A6 x y z A B C⟩))
 ·by_cases m:u=t
  ·obtain rfl:=m.symm;have i:af f.H t (.dict es (some o)) t=some n:=q;rw[du] at i;obtain rfl:=Zb i;exact⟨d,kvs,A6 hd G v p F (fun o' q=>by obtain rfl:=Zb q;exact g)⟩
  ·have i:af f.H t (.dict es (some o)) u=some n:=q;replace i:=(ae m).symm.trans i;exact I.inv.objs u n i
 ·by_cases m:u=t;·obtain rfl:=m.symm;left;show(af f.H t _ t).isSome=true;rw[du];rfl
  ·show(af f.H t _ u).isSome=true\/_;exact(ae m)▸I.inv.dom u b q
theorem Inv.at_exact{W:Wd}{Kp:aA}{H:aq->Option MObj}{nx:Nat}{s:Shared}{t:aq}{es:List (Nat×MV)}{o:Obj}{d:Addr}(I:Inv c W Kp H nx s)(e:H t=some (.dict es (some o)))(hd:W.ρ t=some d):s.heap.get? d=some o:=by
 refine ip (I.objs t _ e) fun a kvs r _ _ _ _ b=>?_;rw[hd] at r;obtain rfl:=Zb r;exact b o rfl
theorem KVR.getM{S:Nat->Str}{W:Wd}{kvs:List (Str×Value)}{es:List (Nat×MV)}(h:KVR S W kvs es):∀{i:Nat}{n:Nat}{x:MV},es[i]?=Option.some (n,x)->∃v,kvs[i]?=Option.some (S n,v)/\VR S W v x:=by
 induction h with
 |nil=>intro i n x e;exact aQ e
 |cons h _ a=>
  intro i n x e;induction i with
  |zero=>cases e;exact⟨_,rfl,h⟩
  |succ i=>exact a e
theorem KVR.getN{S:Nat->Str}{W:Wd}{kvs:List (Str×Value)}{es:List (Nat×MV)}(h:KVR S W kvs es){i:Nat}(e:es[i]?=Option.none):kvs[i]?=Option.none:=by
 rw[List.getElem?_eq_none_iff] at e ⊢;rw[h.length];exact e
def sR(f:ap):ii:=fun d Q=>f d fun v a=>∃t es b,v=.view false t/\a.H t=some (.dict es b)/\∀o,Q (es.map (·.2)) (fun H=>H t=some (.dict es (some o))) { a with H:=af a.H t (.dict es (some o)) }
theorem qq{e:Expr}{f:ap}{n:Str}{pos:Pos}(x:Nat)(hn:c.S x=n)(hk:j.names.lookup n=some .local)(h:CE c sc lv e f):jy c sc j lv (.Name n pos) e (ba x) (sR f):=by
 intro C A W Kp U s Q E he hE hA hI q;refine h.use he hE hA hI q fun X v σ1 u s1 K V r1 N=>?_;refine eY N fun t es eo hv ht q1=>?_;subst hv;refine br r1.of_view fun a d O P=>?_;obtain rfl:=O;refine Za P fun Y hd=>?_;refine bW (V.exact ht hd) fun o kvs ep F go T r=>?_;have L:=Offs.one F;have Z:=F.inv.frz _ _ Y;refine wpAny_pyIter_values ⟨_,A3 Z rfl rfl⟩ (r _ go) (E7 X _ (es.map (·.2)) _ ([s1.heap.objs.size]) s1.heap.objs.size (fun i h=>h.IsValIter s1.heap.objs.size d i kvs.length ep) (A7 rfl K (F.grow (tk:=s1.toks) fun b o e=>Zl _ e) ?_ ⟨_,A3 (Zq _ rfl) rfl rfl⟩ L (q1 o)));refine Itr.ofName x hn hk (fun i h h' l k=>l.at fun o e=>k _ Ze o e) (fun i h l b D=>by rw[List.mem_singleton.mp D];refine bz l fun o e hc _=>?_;exact⟨o,e,by rw[hc];decide⟩) ?_ ?_ (fun A i s E Q l q=>wpAny_pyIter_valiter l q)
 ·intro C A W Kp U s i y E R le B H g l m;have G:=B.inv.at_exact H (le.ρ _ _ hd);rw[List.getElem?_map] at m;cases z:es[i]? with
  |none=>rw[z] at m;exact aQ m
  |some p=>
   rw[z] at m;obtain rfl:=Zb m;refine ar (T.getM (n:=p.1) (x:=p.2) z) fun w hw M=>?_;refine wpAny_pyNext_values_item l (r _ G) hw fun h' I J=>?_;exact⟨w,A4 rfl (M.mono le) (B.one (tk:=s.toks) g fun b o D e=>(J.2 b D).trans e) I⟩
 ·intro C A W Kp U s i E R le B H g l m;have G:=B.inv.at_exact H (le.ρ _ _ hd);rw[List.getElem?_map] at m;have z:es[i]?=none:=by cases z:es[i]? with
   |none=>rfl
   |some p=>rw[z] at m;exact jF m
  refine wpAny_pyNext_values_end R l (r _ G) (T.getN z) fun h' J=>?_;exact⟨rfl,B.one (tk:=s.toks) g fun b o D e=>J b o D e⟩
def rA(f:ap):ii:=fun d Q=>f d fun v a=>∃t es b,v=.view true t/\a.H t=some (.dict es b)/\∀o,Q (es.map fun p=>.tup [.str p.1,p.2]) (fun H=>H t=some (.dict es (some o))) { a with H:=af a.H t (.dict es (some o)) }
theorem uG{e:Expr}{f:ap}{Z n2:Str}{p1 p2 pos:Pos}{k:Nat}(x1 x2:Nat)(V:c.S x1=Z)(X:c.S x2=n2)(R:j.names.lookup Z=some .local)(T:j.names.lookup n2=some .local)(h:CE c sc lv e f) :
  jy c sc j lv (.Tuple [.Name Z p1,.Name n2 p2] k pos) e (iK x1 x2) (rA f):=by
 intro H A W Kp σ s Q E he hE hA hI q;refine h.use he hE hA hI q fun W1 v σ1 u s1 Y I1 r1 zp2=>?_;refine eY zp2 fun t es eo hv ht q1=>?_;subst hv;refine br r1.of_view fun a d C zq2=>?_;obtain rfl:=C;refine Za zq2 fun gF hd=>?_;refine bW (I1.exact ht hd) fun o kvs ep M go kv r=>?_;have off:=Offs.one M;have gg:=M.inv.frz _ _ gF;refine wpAny_pyIter_items ⟨_,A3 gg rfl rfl⟩ (r _ go) (E7 W1 _ (es.map fun p=>.tup [.str p.1,p.2]) _ ([s1.heap.objs.size]) s1.heap.objs.size (fun i h=>∃ok D,IsItemIter h s1.heap.objs.size d i kvs.length ep ok D) (A7 rfl Y (M.grow (tk:=s1.toks) fun b o e=>Zl _ e) ?_ (E2 .none .none (Zq _ rfl)) off (q1 o)));refine Itr.ofPair x1 x2 V X R T (fun i h h' zp3 k=>by refine jE zp3 fun ok D l=>?_;exact(E2 ok D (k _ Ze _ l))) (fun i h l b z=>by rw[List.mem_singleton.mp z];refine jE l fun _ _ e=>?_;exact⟨_,e,show Value.type "dict_itemiterator"≠Value.type "frame" by decide⟩) ?_ ?_ ?_
 ·intro H A W Kp σ s i y E hh le G P g zp4 m;refine jE zp4 fun ok D l=>?_;have N:=G.inv.at_exact P (le.ρ _ _ hd);rw[List.getElem?_map] at m;cases B:es[i]? with
  |none=>rw[B] at m;exact aQ m
  |some p=>
   rw[B] at m;obtain rfl:=Zb m;refine ar (kv.getM (n:=p.1) (x:=p.2) B) fun w hw rw'=>?_;have U:=Zy l;refine wpAny_pyNext_items_item l (r _ N) hw fun key h' J K I hsz hk=>⟨_,rfl,?_⟩
   refine Zx (Value.isStrOf_shape (show Value.isStrOf (c.S p.1) key=true from J)) fun tk C=>?_;obtain rfl:=C;refine wpAny_letOwnedTupleGo_items K fun h2 O L=>(E4 _ _ _ _ (A6 rfl (.str p.1 tk) (rw'.mono le) ?_ (E2 _ _ O) ?_))
   ·have I4:=G.one (tk:=s.toks) g fun b o z e=>hk b o z e;exact I4.one (tk:=s.toks) g fun b o z e=>(L.2 b z).trans e
   ·exact⟨_,(L.2 _ (Zn U)).trans I,rfl,_,rfl⟩
 ·intro H A W Kp σ s i E hh le G P g zp5 m;refine jE zp5 fun ok D l=>?_;have N:=G.inv.at_exact P (le.ρ _ _ hd);rw[List.getElem?_map] at m;have B:es[i]?=none:=by cases B:es[i]? with
   |none=>rfl
   |some p=>rw[B] at m;exact jF m
  refine wpAny_pyNext_items_end hh l (r _ N) (kv.getN B) fun h' hs=>?_;exact⟨rfl,G.one (tk:=s.toks) g fun b o z e=>hs b o z e⟩
 ·intro A i s E Q zp6 q;refine jE zp6 fun ok D l=>?_;have I:s.TypeIs (.ref s1.heap.objs.size) "dict_itemiterator":=⟨_,l,rfl⟩
  refine wpAny_pyIter_slot I PySem.F.slot_dict_itemiterator_iter (wpAny_call_entry PySem.F.slot_dict_itemiterator_iter I pK ?_ (PySem.F.args_dict_itemiterator_iter_1 _));exact Zi ⟨_,rfl,E2 "dict_itemiterator" _ (A3 I PySem.F.slot_dict_itemiterator_next.lookup q)⟩
noncomputable def kA(xs:List MV):List MV:=xs.zipIdx.map fun p=>.tup [.int (p.2:Int),p.1]
def pe(f:ap):ii:=fun b Q=>f b fun v a=>∃xs,bc a.H v=some xs/\Q (kA xs) (fun H=>bc H v=some xs) a
theorem vS{nf:Str}{np cp:Pos}{e:Expr}{f:ap}{n1 Z:Str}{p1 p2 pos:Pos}{k:Nat}(x1 x2:Nat)(hn1:c.S x1=n1)(hn2:c.S x2=Z)(hk1:j.names.lookup n1=some .local)(B:j.names.lookup Z=some .local)(hf:CE c sc lv (.Name nf np) (ie (.type "enumerate")))(h:CE c sc lv e f)(K:∀I d,starEach (e::I) d=(false,eval e d)::starEach I d:=by intros;rfl) :
  jy c sc j lv (.Tuple [.Name n1 p1,.Name Z p2] k pos) (.Call (.Name nf np) [e] [] cp) (iK x1 x2) (pe f):=by
 intro d A W Kp σ s Q E he hE hA hI q;have R:CEs c sc lv [e] [f]:=.cons h .nil K;refine wpAny_Call_NameR (hf.use (Q:=fun v σ'=>v=.raw (.type "enumerate")/\σ'=σ) he hE hA hI ⟨rfl,rfl⟩ fun W0 y σ0 v0 s0 le0 I0 r0 zp7=>?_);refine Za zp7 fun h1 h2=>?_;subst h1 h2;refine r0.of_raw▸?_;refine callWith_of (P:=fun _=>True) (by rw[(R.plainArgs cp d).1];rfl) (fun U _=>eF rfl U) ?_;refine R.evalArgs (Q:=fun ys F=>match ys with|[v]=>∃xs,bc F.H v=some xs/\Q (kA xs) (fun H=>bc H v=some xs) F|_=>False) he hE hA I0 q fun W1 us ys F s1 le1 I1 M q1=>⟨trivial,?_⟩
 rcases ys with _|⟨v,_|⟨_,_⟩⟩
 ·exact q1.elim
 rotate_left;·exact q1.elim
 refine ar q1 fun xs hl q1=>?_;rcases us with _|⟨u,_|⟨_,_⟩⟩
 ·exact absurd M.length (fun h=>nomatch h)
 rotate_left;·exact absurd M.length (fun h=>nomatch h)
 replace M:VR c.S W1 u v:=by cases M with|cons h _=>exact h
 refine dM (gO I1.inv M hl) fun l vs nn a zq2=>?_;obtain rfl:=a;refine bM zq2 fun gg hvs hlen=>?_;have V:=Zy gg;refine call_enumerate_list (aT gg) fun h1 O hli hsz hk=>?_;refine wpAny_pyIter_enum O ?_;have off:Offs c [s1.heap.objs.size+1,s1.heap.objs.size] W1 Kp d:=Offs.fresh I1 fun b z=>by
  rcases List.mem_cons.mp z with e|z;·rw[e];exact Zz _
  ·rw[List.mem_singleton.mp z];exact Zj _
 refine E7 W1 F (kA xs) _ ([s1.heap.objs.size+1,s1.heap.objs.size]) (s1.heap.objs.size+1) (fun i h=>(∃old,IsEnum h (s1.heap.objs.size+1) s1.heap.objs.size i old)/\h.IsListIter s1.heap.objs.size l i) (A7 rfl (le0.trans le1) (I1.grow (tk:=s1.toks) hk) ?_ ⟨⟨_,O⟩,hli⟩ off q1);have ne1:s1.heap.objs.size+1≠s1.heap.objs.size:=Nat.succ_ne_self _;have ne2:l≠s1.heap.objs.size+1:=Zh (Nat.lt_succ_of_lt V);have ne3:l≠s1.heap.objs.size:=Zh V;generalize s1.heap.objs.size+1=en at *;generalize s1.heap.objs.size=il at *;have G:∀i:Nat,(kA xs)[i]?=(xs[i]?).map fun x=>.tup [.int (i:Int),x]:=fun i=>by
  delta kA;refine(List.getElem?_map).symm▸(List.getElem?_zipIdx).symm▸?_;cases xs[i]?<;>simp
 refine Itr.ofPair x1 x2 hn1 hn2 hk1 B (fun i h h' zp8 k=>by refine Za zp8 fun a g=>?_;obtain⟨old,n⟩:=a;exact⟨⟨old,k _ Ze _ n⟩,g.at fun o e=>k _ (Zc _ Ze) o e⟩)
  (fun i h zp9 b z=>by
   refine Za zp9 fun a g=>?_;obtain⟨old,n⟩:=a;rcases List.mem_cons.mp z with e|z;·rw[e];exact⟨_,n,show Value.type "enumerate"≠Value.type "frame" by decide⟩
   ·rw[List.mem_singleton.mp z];refine bz g fun o e hc _=>?_;exact⟨o,e,by rw[hc];decide⟩) ?_ ?_ (fun A i s E Q zp10 q=>by refine Za zp10 fun a _=>?_;obtain⟨old,n⟩:=a;exact wpAny_pyIter_enum n q)
 ·intro d A W Kp σ s i y E U le N hg m zp11 C;refine Za zp11 fun a g=>?_;obtain⟨old,n⟩:=a;refine bW (gO N.inv (M.mono le) hg) fun l' D Z el g2 L _=>?_;cases el;rw[G] at C;cases J:xs[i]? with
  |none=>rw[J] at C;exact aQ C
  |some x=>
   rw[J] at C;obtain rfl:=Zb C;refine ar (L.get J) fun w hw rw'=>?_;have hlt:i<D.toArray.size:=by have:=(List.getElem?_eq_some_iff.mp hw).1;simpa using this
   have WT:=WalksT.enumerate (prog:=c.prog) (w:=c.w) U en il l ne1 ne2 ne3 D.toArray;refine WT.item i s _ _ hlt (A3 ⟨old,n⟩ g (aT g2)) fun T vals h' tk hP hTsz hT hM hk'=>⟨T,rfl,?_⟩
   refine br hP fun t x' Y a=>?_;obtain rfl:=a;have hw':D.toArray[i]?=some w:=by simpa using hw
   rw[hw'] at Y;obtain rfl:=Zb Y;have hTn:=WT.apart _ _ _ hM;refine WT.go _ _ _ _ _ _ _ _ hM fun h2 X B=>?_;refine E4 _ _ _ _ (A6 rfl (.int i t) rw' ?_ ⟨X.1,X.2.1⟩ ?_)
   ·have I4:=N.offChange (tk:=tk) m hk';exact I4.offChange (tk:=tk) m B
   ·refine ar hT fun o go r=>?_;exact⟨o,B _ _ hTn go,r⟩
 ·intro d A W Kp σ s i E U le N hg m zp12 C;refine Za zp12 fun a g=>?_;obtain⟨old,n⟩:=a;refine bW (gO N.inv (M.mono le) hg) fun l' D Z el g2 L _=>?_;cases el;rw[G] at C;have J:xs[i]?=none:=by cases J:xs[i]? with
   |none=>rfl
   |some p=>rw[J] at C;exact jF C
  refine wpAny_pyNext_enum_end U n g (aT g2) (by simpa using L.getM J) fun h' hs=>?_;exact⟨rfl,N.offChange (tk:=s.toks) m fun b o z e=>hs b o (fun e'=>z (e'▸Zc _ Ze)) e⟩
end
end
section
section
variable {c:Cx}{sc:Scope}{lv:Nat}{W:Wd}{Kp:aA}{l:Env}{j:AS}{s:Shared}
theorem dW{f:Value}{g:List MV->ap}(h:∀(l:Env)(A:Around)(W:Wd)(Kp:aA)(j:AS)(s:Shared)(Q:MV->AS->Prop)(E:Value->Shared->Prop)(vs:List Value)(xs:List MV),A.handled=none->A.units<cLine->InvF c W Kp l j s->VRs c.S W vs xs->g xs j Q->
  wpAny c.M A (call f vs) (PE c W Kp l Q) E s):ir c lv f g:=
 fun l A W Kp j s Q E vs xs d a I b q=>h l A W Kp j s Q E vs xs a.handled (by have:=a.units;refine cLine_is.symm▸?_;exact NB this rfl) I b q
def At{b d:Type}(R:b->d->Prop)(vs:List b)(xs:List d):Prop:=List.casesOn xs (vs=[]) (fun x ys=>∃v a,vs=v::a/\R v x/\All2 R a ys)
theorem All2.inv{a b:Type}{R:a->b->Prop}{vs:List a}{xs:List b}(h:All2 R vs xs):At R vs xs:=by
 induction h with
 |nil=>exact rfl
 |cons h t=>exact⟨_,_,A3 rfl h t⟩
theorem VRs.nil'{S:Nat->Str}{W:Wd}{vs:List Value}(h:VRs S W vs []):vs=[]:=All2.inv h
theorem VRs.one{S:Nat->Str}{W:Wd}{vs:List Value}{x:MV}(h:VRs S W vs [x]):∃v,vs=[v]/\VR S W v x:=
 ci (All2.inv h) fun v _ e r t=>⟨v,e.trans (congrArg (v::·) (VRs.nil' t)),r⟩
theorem VRs.two{S:Nat->Str}{W:Wd}{vs:List Value}{x y:MV}(h:VRs S W vs [x,y]):∃v w,vs=[v,w]/\VR S W v x/\VR S W w y:=
 ci (All2.inv h) fun v _ e r t=>ar (VRs.one t) fun w a b=>(E2 v w (A3 (e.trans (congrArg (v::·) a)) r b))
theorem VRs.three{S:Nat->Str}{W:Wd}{vs:List Value}{x y z:MV}(h:VRs S W vs [x,y,z]):∃v w u,vs=[v,w,u]/\VR S W v x/\VR S W w y/\VR S W u z:=
 ci (All2.inv h) fun v _ e r t=>ci (VRs.two t) fun w u b d a=>(E3 v w u (A4 (e.trans (congrArg (v::·) b)) r d a))
theorem kj{h:Heap}{a:Addr}{vs vs':List Value}{n:Nat}{f:Array Value->Array Value}(g:h.get? a=some (bg vs n))(e:f vs.toArray=vs'.toArray):(h.update a (Obj.mapSeq f)).PlainList a vs'.toArray:=by
 have b:∃d,Obj.mapSeq f (bg vs n)=bg vs' d:=by
  rw[Obj.mapSeq,e];exact⟨_,rfl⟩
 refine Zx b ?_;intro d b;exact⟨d,by rw[Heap.get?_update_self _ g (by rw[b];rfl),b]⟩
theorem PE.list{Q:MV->AS->Prop}{t:aq}{a:Addr}{xs ys:List MV}{vs':List Value}{v:Value}{y:MV}{h':Heap}{tk:Nat}(I:InvF c W Kp l j s)(e:j.H t=some (.list xs))(d:W.ρ t=some a)(b:W.own a=some t)(p:h'.PlainList a vs'.toArray)(h:Heap.SameBut a s.heap h')(g:VRs c.S W vs' ys)(f:ys.length<=100000)(r:VR c.S W v y)(q:Q y { j with H:=af j.H t (.list ys) }):PE c W Kp l Q v { s with heap:=h',toks:=tk }:=
 ⟨W,E2 y _ (A4 (.refl W) (I.changed e b h (OR.list d b p g f) (by refine Zx p ?_;clear p;intro _ e;exact⟨_,e⟩)) r q)⟩
def o6:List MV->ap:=fun xs j Q=>
 (∃t ys y,xs=[.tag t]/\j.H t=some (.list ys)/\ys[ys.length - 1]?=some y/\Q y { j with H:=af j.H t (.list (ys.eraseIdx (ys.length - 1))) })\/
 (∃t ys i y,xs=[.tag t,.int i]/\j.H t=some (.list ys)/\0<=i/\ys[i.toNat]?=some y/\Q y { j with H:=af j.H t (.list (ys.eraseIdx i.toNat)) })
theorem yU:ir c lv (.builtin "list.pop") o6:=dW fun l A W Kp j s Q E vs xs _ _ I G q=>by
 have D:∀(vs:List Value)(k:Nat),vs.toArray.eraseIdxIfInBounds k=(vs.eraseIdx k).toArray:=fun vs k=>by simp[Array.eraseIdxIfInBounds];intro h;exact(List.eraseIdx_of_length_le h).symm
 rcases q with⟨t,ys,y,rfl,o,B,q⟩|⟨t,ys,i,y,rfl,o,h0,B,q⟩
 ·refine ar G.one fun v f r=>?_;obtain rfl:=f;apply jm I.inv r o;intro a us n x C g d m;refine ar (d.get B) fun w u e=>?_;have b:=d.length;refine call_meets PySem.F.slot_list_pop ⟨_,g,rfl⟩ PySem.F.entry_list_pop (PySem.F.args_list_pop_1 _) (PySem.MeetsSeq.list_pop_last a _ n w (by rw[List.size_toArray,b];simpa using u) (by rw[List.size_toArray,b,sizeLine_eq];exact av 0 100000 0 16777216 m rfl)) ⟨g,?_⟩;refine PE.list (tk:=s.toks) I o x C (kj g (by rw[List.size_toArray,b];exact D us _)) (Zw ..) (d.eraseIdx _) ?_ e q;have:=List.length_eraseIdx_le ys (ys.length - 1);exact Zk this m
 ·refine br G.two fun v J f p=>?_;obtain rfl:=f;refine Za p ?_;clear p;intro r H;apply H.intK;intro tk;apply jm I.inv r o;intro a us n x C g d m;refine ar (d.get B) fun w u e=>?_;have b:=d.length;have z:=(List.getElem?_eq_some_iff.mp u).1;refine call_meets PySem.F.slot_list_pop ⟨_,g,rfl⟩ PySem.F.entry_list_pop (PySem.F.args_list_pop_2 _ _) (PySem.MeetsSeq.list_pop_at a _ n i tk i.toNat w (fitsIndex_of h0 (by omega)) (mP h0 (by rw[List.size_toArray];exact z)) (by simpa using u) (by rw[List.size_toArray,b,sizeLine_eq];exact av 0 100000 0 16777216 m rfl)) ⟨g,?_⟩;refine PE.list (tk:=s.toks) I o x C (kj g (D us _)) (Zw ..) (d.eraseIdx _) ?_ e q;have:=List.length_eraseIdx_le ys i.toNat;exact Zk this m
def cE:List MV->ap:=fun xs j Q=>∃t ys y,xs=[.tag t,y]/\j.H t=some (.list ys)/\ys.length<1000/\Q .none { j with H:=af j.H t (.list (ys++[y])) }
theorem uP:ir c lv (.builtin "list.append") cE:=dW fun l A W Kp j s Q E vs xs _ _ I u f=>by
 refine bW f ?_;clear f;intro t ys y x m b q;subst x;refine br u.two fun v w k h=>?_;obtain rfl:=k;refine Za h ?_;clear h;intro r i;apply jm I.inv r m;intro a us n o z g d C;refine wpAny_list_append_plain (nQ g) (fun h' p B=>?_) (List.size_toArray▸d.length▸sizeLine_eq▸av 1 1000 0 16777216 b rfl);have e:us.toArray.push w=(us++[w]).toArray:=by simp
 rw[e] at p;exact PE.list (tk:=s.toks) I m o z p B (d.snoc i) (by rw[List.length_append];simp;exact av 1 1000 0 99999 b rfl) .none q
def m9:List MV->ap:=fun xs j Q=>∃t ys y zs,xs=[.tag t,y]/\j.H t=some (.list ys)/\bc j.H y=some zs/\ys.length+zs.length<=1000/\Q .none { j with H:=af j.H t (.list (ys++zs)) }
theorem uO:ir c lv (.builtin "list.extend") m9:=dW fun l A W Kp j s Q E vs xs _ _ I G k=>by
 refine iw k ?_;clear k;intro t ys y zs H u e;obtain⟨J,d,q⟩:=e;subst H;refine br G.two fun v w e m=>?_;obtain rfl:=e;refine Za m ?_;clear m;intro r p;apply jm I.inv r u;intro a us n B L g f C;apply cR I.inv p J;intro b x K z i D;have l1:=f.length;have l2:=i.length;refine call_meets PySem.F.slot_list_extend ⟨_,g,rfl⟩ PySem.F.entry_list_extend (PySem.F.args_list_extend_2 _ _) (PySem.AutoSeq1.list_extend_list_list_0 a us.toArray n b x.toArray K ?_ (List.size_toArray▸l1▸sizeLine_eq▸av 0 100000 0 16777216 C rfl) (by rw[List.size_toArray,List.size_toArray,l1,l2,sizeLine_eq];exact av 0 1000 0 16777217 d rfl)) (A3 g z ?_)
 ·intro h;simp only[Bool.and_eq_true] at h;have o:=h.2;unfold Builtin.List.listTooLong at o;rw[List.size_toArray,List.size_toArray,l1,l2,sizeLine_eq] at o;simp at o;exact xK 0 1000 16777217 0 d o rfl
 ·refine PE.list (tk:=s.toks) I u B L (kj (vs':=us++x) g (by simp)) (Zw ..) (f.append i) (List.length_append▸av 0 1000 0 100000 d rfl) .none q
def iI:List MV->ap:=fun xs j Q=>∃x ys,xs=[x]/\bc j.H x=some ys/\Q (.int ys.length) j
theorem eP:ir c lv (.builtin "len") iI:=dW fun l A W Kp j s Q E vs xs _ _ I i d=>by
 refine ci d ?_;clear d;intro x ys k h q;subst k;refine ar i.one fun v f r=>?_;obtain rfl:=f;apply cR I.inv r h;intro a us n g e b;have l1:=e.length;refine call_len_list (aT g) (List.size_toArray▸l1▸y' b rfl) ?_;refine List.size_toArray▸l1▸?_;exact PE.here (I.tok _) (.int _ _) q
theorem PE.frz{Q:MV->AS->Prop}{o:Obj}{y:MV}{tk:Nat}(I:InvF c W Kp l j s)(i:VR c.S (W.freeze s.heap.objs.size o) (.ref s.heap.objs.size) y)(h:o.isFreed=false)(q:Q y j):PE c W Kp l Q (.ref s.heap.objs.size) { s with heap:=s.heap.push o,toks:=tk }:=by
 have le:W.le (W.freeze s.heap.objs.size o):=Wd.le_freeze (I.inv.fresh_F (Zj _));have f:=Offs.one I;have g:=I.grow (tk:=tk) (h':=s.heap.push o) fun b m e=>Zl _ e;refine Za (f _ Ze) fun k d=>?_;refine⟨W.freeze s.heap.objs.size o,E2 y j (A4 le ⟨g.inv.adoptF k (Zq _ h),g.fm.add le fun b a=>⟨(I.fm.out b a).1,?_⟩⟩ i q)⟩;show(if b=_ then _ else _)=_;rw[if_neg];exact(I.fm.out b a).2.1;intro e;subst e;exact d a
def kT:List MV->ap:=fun xs j Q=>∃n,xs=[.int n]/\Q (.rng n) j
theorem dI:ir c lv (.type "range") kT:=dW fun l A W Kp j s Q E vs xs _ _ I d a=>by
 refine ar a ?_;clear a;intro n e q;subst e;refine ar d.one fun v b r=>?_;obtain rfl:=b;apply r.intK;intro tk;refine call_range_1 (PE.frz (tk:=s.toks+1+1) I (.rng (t:=s.toks) (u:=tk) (v:=s.toks+1) ?_) rfl q);show(if _=_ then _ else _)=_;exact(if_pos rfl)
theorem VRs.of_list{S:Nat->Str}{W:Wd}:∀{vs:List Value}{xs:List MV},vs.length=xs.length->(∀(i:Nat)(v:Value)(x:MV),vs[i]?=some v->xs[i]?=some x->VR S W v x)->VRs S W vs xs
 |[],[],_,_=>.nil
 |v::vs,x::xs,hl,h=>.cons (h 0 v x rfl rfl) (VRs.of_list (by simpa using hl) fun i v x a b=>h (i+1) v x a b)
 |[],_::_,hl,_=>by simp at hl
 |_::_,[],hl,_=>by simp at hl
theorem wJ(m:Int)(i:Nat):(iT m)[i]?=if i<m.toNat then some (.int (i:Int)) else none:=by
 delta iT;refine(List.getElem?_map).trans ?_;split;·rename_i a;rw[List.getElem?_range a];rfl
 ·rename_i a;rw[List.getElem?_eq_none (by simp;exact Int.toNat_le.mp (Zm a))];rfl
theorem so(m:Int):(iT m).length=m.toNat:=by delta iT;simp
def xV:List MV->ap:=fun xs j Q=>∃x,xs=[x]/\((∃ys,b6 j.H x=some ys/\newL ys j Q)\/(∃n,x=.rng n/\0<=n/\n<=100000/\newL (iT n) j Q)\/(∃t es a,x=.view false t/\j.H t=some (.dict es a)/\newL (es.map (·.2)) j Q))
theorem i7:ir c lv (.type "list") xV:=dW fun l A W Kp j s Q E vs xs P _ I D F=>by
 refine ar F ?_;clear F;intro x f q;subst f;refine ar D.one fun v y r=>?_;obtain rfl:=y;rcases q with⟨ys,Z,q⟩|⟨n,rfl,h0,O,q⟩|⟨t,es,eo,rfl,R,q⟩
 ·apply m7 I.inv r Z;intro a us n g C m;have S:us.toArray.size<=sizeLine:=by rw[List.size_toArray,C.length,sizeLine_eq];exact av 0 100000 0 16777216 m rfl
  rcases g with g|g;·exact call_list_seq a (.inl rfl) g rfl rfl (fun h' z k B=>PE.newL (tk:=s.toks) (n:=z) I C q (Zj _) B fun b o e=>k b o e) S
  ·exact call_list_seq a (.inr rfl) g rfl rfl (fun h' z k B=>PE.newL (tk:=s.toks) (n:=z) I C q (Zj _) B fun b o e=>k b o e) S
 ·refine dU r.of_rng fun a t u w y G=>?_;obtain rfl:=y;have B:=I.inv.frz _ _ G;have K:Builtin.Range.rangeSize 0 n 1=n:=uZ (by assumption);refine call_list_range (n:=n.toNat) P (a:=0) (b:=n) (c:=1) B (small_one (by decide) (by decide) (Aw h0) (Av O)) (K.trans ((Int.toNat_of_nonneg h0).symm)) (Zk (Int.toNat_le.mpr O) (by decide)) fun h' tk acc z k g h=>?_;refine PE.newL (vs:=acc.toList) (n:=z) (tk:=tk) I (VRs.of_list ?_ fun i v x D f=>?_) q (Zj _) g k;·rw[so];have:=h.1;exact this
  ·rw[wJ] at f;split at f
   ·obtain rfl:=Zb f;refine Zx (h.2 i v (by simpa using D)) fun tk e=>?_;have U:(0:Int)+(i:Int)*1=(i:Int):=(Int.zero_add _).trans (Int.mul_one _);refine e.symm▸U.symm▸?_;exact .int _ _
   ·exact aQ f
 ·refine br r.of_view fun a d y N=>?_;obtain rfl:=y;refine Za N ?_;intro G hd;refine bW (I.exact R hd) fun o kvs ep I2 V L H=>?_;have B:=I.inv.frz _ _ G;have X:=(I.inv.objs t _ R)
  refine ip X ?_;intro _ T _ _ _ kv' m _;refine PySem.W.kdl_call (PySem.W.kdl_values (knd:=c.knd) (kvs:=kvs) (ep:=ep)) P ⟨⟨_,A3 B rfl rfl⟩,H _ V⟩ (L.length▸sizeLine_eq▸av 0 100000 0 16777216 m rfl) fun h' tk acc z k g h=>?_;refine PE.newL (vs:=acc.toList) (n:=z) (tk:=tk) I (VRs.of_list ?_ fun i v x D f=>?_) q (Zj _) g k;·have:=h.1;rw[List.length_map,<-L.length];exact this
  ·refine Zx (h.2 i v (by simpa using D)) fun k0 e=>?_;replace f:=(List.getElem?_map).symm.trans f;cases J:es[i]? with
   |none=>rw[J] at f;exact aQ f
   |some p=>
    rw[J] at f;obtain rfl:=Zb f;refine ar (L.getM (n:=p.1) (x:=p.2) J) fun w Y M=>?_;replace e:=Y▸e;cases e;exact M
end
end
section
section
variable {c:Cx}{sc:Scope}{lv:Nat}{W:Wd}{Kp:aA}{l:Env}{h:AS}{s:Shared}
noncomputable def bY(ns:List Nat):List MV:=ns.map .str
def rf:List MV->ap:=fun xs h Q=>∃v n ns i,xs=[v,.str n]/\bc h.H v=some (bY ns)/\ns[i]?=some n/\n∉ns.take i/\Q (.int (i:Int)) h
theorem vW:ir c lv (.builtin "list.index") rf:=dW fun l A W Kp h s Q E vs xs _ _ I Y G=>by
 refine iw G ?_;clear G;intro v n ns i Z X d;obtain⟨R,M,q⟩:=d;subst Z;refine br Y.two fun u w d H=>?_;obtain rfl:=d;refine Za H ?_;clear H;intro r O;apply O.strK;intro tk;apply cR I.inv r X;intro a us nn g f T;have B:=f.length;have C:∀y∈us.toArray,∃m t,y=.str (c.S m) t:=fun y N=>by
  obtain⟨j,J,e⟩:=List.getElem_of_mem (List.mem_toArray.mp N);refine ar (f.getV (i:=j) (v:=y) ((List.getElem?_eq_getElem J)▸e▸rfl)) fun x ex P=>?_;unfold bY at ex;rw[List.getElem?_map] at ex;cases D:ns[j]? with
  |none=>rw[D] at ex;exact aQ ex
  |some m=>rw[D] at ex;obtain rfl:=Zb ex;refine Zx P.of_str fun t e=>?_;exact⟨m,t,e⟩
 have p:∀j (J:j<us.length),∃m t,ns[j]?=some m/\us[j]=.str (c.S m) t:=fun j J=>by
  refine ar (f.getV (i:=j) (v:=us[j]) ((List.getElem?_eq_getElem J))) fun x ex P=>?_;unfold bY at ex;rw[List.getElem?_map] at ex;cases D:ns[j]? with
  |none=>rw[D] at ex;exact aQ ex
  |some m=>rw[D] at ex;obtain rfl:=Zb ex;refine Zx P.of_str fun t e=>?_;exact⟨m,t,rfl,e⟩
 have b:i<us.length:=by rw[B];delta bY;rw[List.length_map];exact(List.getElem?_eq_some_iff.mp R).1
 let e:Value->Bool:=fun y=>match y with|.str z _=>z == c.S n|_=>false
 refine call_meets PySem.F.slot_list_index ⟨_,g,rfl⟩ PySem.F.entry_list_index (PySem.F.args_list_index_2 _ _) (PySem.SeqAt.list_indexAt a us.toArray nn none #[] (.str (c.S n) tk) e i (List.size_toArray▸b) (by rw[B] at b;omega) ?_ ?_) ⟨g,fun y N=>?_,PE.here (I.tok _) (.int _ _) q⟩
 ·refine br (p i b) fun m t o K=>?_;replace o:=R.symm.trans o;obtain rfl:=Zb o;simp only[List.getElem_toArray,K,e,beq_self_eq_true]
 ·intro m o L;refine br (p m (by rw[List.size_toArray] at o;exact o)) fun k t V K=>?_;simp only[List.getElem_toArray,K,e];rw[ot];refine beq_eq_false_iff_ne.mpr fun e=>M ?_;obtain rfl:=e.symm;refine List.mem_take_iff_getElem.mpr ?_;refine Zx (List.getElem?_eq_some_iff.mp V) fun h1 U=>?_;exact⟨m,(Nat.lt_min.mpr ⟨L,by assumption⟩),U⟩
 ·refine jE (C y N) fun m t d=>?_;obtain rfl:=d;exact SeqAt.EqAt.str_str _ _ _ _
def getM:List MV->ap:=fun xs h Q=>∃t n d es a,xs=[.tag t,.str n,d]/\h.H t=some (.dict es a)/\Q ((es.lookup n).getD d) h
theorem yV:ir c lv (.builtin "dict.get") getM:=dW fun l A W Kp h s Q E vs xs _ _ I o e=>by
 refine jE e ?_;clear e;intro t n b;obtain⟨d,es,D,p,m,q⟩:=b;subst p;refine dM o.three fun u w C b f=>?_;obtain rfl:=b;refine bM f ?_;clear f;intro r B z;apply B.strK;intro tk;apply gC I.inv r m;intro a kvs G J hd y H j;refine call_meetsIn PySem.F.slot_dict_get hd.typeIs PySem.F.entry_dict_get (PySem.F.args_dict_get_3 _ _ _) (meets_dict_get_default c.knd a (fI c n tk) j C) ⟨_,hd.mapOf,?_⟩;refine PE.here (mv:=(es.lookup n).getD d) (I.tok _) ?_ q;rcases y.at n with⟨g,i⟩|⟨x,v,g,i,k⟩
 ·refine g▸i▸?_;exact z
 ·refine g▸i▸?_;exact k
def tL(b:Bool):List MV->ap:=fun xs h Q=>∃t es a,xs=[.tag t]/\h.H t=some (.dict es a)/\Q (.view b t) h
theorem uL:ir c lv (.builtin "dict.values") (tL false):=dW fun l A W Kp h s Q E vs xs _ _ I j b=>by
 refine eY b ?_;clear b;intro t es m k i q;subst k;refine ar j.one fun u f r=>?_;obtain rfl:=f;apply gC I.inv r i;intro a kvs g p hd o n e;refine call_meetsIn PySem.F.slot_dict_values hd.typeIs PySem.F.entry_dict_values (PySem.F.args_dict_values_1 _) (meets_dict_values c.knd a e) ⟨⟨kvs,hd⟩,PE.frz (tk:=s.toks) I (.view (d:=a) ?_ g) rfl q⟩;show(if _=_ then _ else _)=_;refine(if_pos rfl).trans ?_;rfl
theorem vU:ir c lv (.builtin "dict.items") (tL true):=dW fun l A W Kp h s Q E vs xs _ _ I j b=>by
 refine eY b ?_;clear b;intro t es m k i q;subst k;refine ar j.one fun u f r=>?_;obtain rfl:=f;apply gC I.inv r i;intro a kvs g p hd o n e;refine call_meetsIn PySem.F.slot_dict_items hd.typeIs PySem.F.entry_dict_items (PySem.F.args_dict_items_1 _) (meets_dict_items c.knd a e) ⟨⟨kvs,hd⟩,PE.frz (tk:=s.toks) I (.view (d:=a) ?_ g) rfl q⟩;show(if _=_ then _ else _)=_;refine(if_pos rfl).trans ?_;rfl
def zj(o i:ap):MS:=fun h Q=>o h fun u b=>i b fun w a=>∃t n es d,u=.tag t/\w=.str n/\a.H t=some (.dict es d)/\(es.lookup n).isSome=true/\Q .next { a with H:=af a.H t (.dict (nL es n)) }
theorem vn{B y:Expr}{Z pos:Pos}{o i:ap}(U:CE c sc lv B o)(T:CE c sc lv y i):CS c sc lv (.Delete [.Subscript B y Z] pos) (zj o i):=by
 intro l A W Kp h s Q E G D C I q;refine wpAny_Delete (wpAny_deleteEach_cons (wpAny_delete_Subscript (U.use G D C I q fun W1 z σ1 u s1 p L r1 q1=>?_)));refine T.use G D C L q1 fun M z' σ2 u' s2 g w r2 j=>?_;refine iw j ?_;clear j;intro t n es N X Y r;obtain⟨J,k,q2⟩:=r;subst X Y;apply r2.strK;intro tk;apply gC w.inv (r1.mono g) J;intro a kvs R K hd m H V;have d:(valueAt kvs (c.S n)).isSome=true:=by
  rcases m.at n with⟨O,_⟩|⟨x,v,_,P,_⟩
  ·replace k:=O▸k;exact jU k
  ·refine P▸?_;rfl
 refine wpAny_delItem_slot hd.typeIs (by decide +kernel) PySem.F.slot_dict_delitem (call_meetsIn PySem.F.slot_dict_delitem hd.typeIs PySem.F.entry_dict_delitem (PySem.F.args_dict_delitem_2 _ _) (meets_dict_delitem_pairs c.knd a (fI c n tk)) ⟨kvs,A4 hd (m.length▸k7 H) d (fun h' b sb=>?_)⟩);refine wpAny_deleteEach_nil ?_;have f:(nL es n).length<=100000:=Zk (List.length_filter_le ..) H;exact⟨M,E2 _ _ (A4 (p.trans g) (w.changed (tk:=s2.toks+1) (o':=.dict (nL es n)) J K sb ⟨a,_,A6 R K b (m.del n) f (fun _ q=>nomatch q)⟩ (by refine dM b ?_;clear b;intro _ _ _ e _;exact⟨_,e⟩)) .next q2)⟩
def zJ:List MV->ap:=fun xs h Q=>∃n,xs=[.str n,.raw (.type "str")]/\Q (.bool true) h
def ve(C:Nat):List MV->ap:=fun xs h Q=>∃t es,xs=[.tag t,.raw (.ref (iV C))]/\h.H t=some (.inst C es)/\Q (.bool true) h
theorem qr:ir c lv (.builtin "isinstance") zJ:=dW fun l A W Kp h s Q E vs xs _ _ I e a=>by
 refine ar a ?_;clear a;intro n f q;subst f;refine br e.two fun u w d b=>?_;obtain rfl:=d;refine Za b ?_;clear b;intro r g;apply r.strK;intro tk;refine g.of_raw▸?_;exact call_isinstance (isinstance_true (Tx:="str") (by rw[typeOf];rfl) (by rw[isSubtype_type];kernel_rfl)) ⟨rfl,PE.here I (.bool true) q⟩
theorem vV(C:Nat):ir c lv (.builtin "isinstance") (ve C):=dW fun l A W Kp h s Q E vs xs _ _ I y i=>by
 refine ci i ?_;clear i;intro t es z x q;subst z;refine br y.two fun u w n j=>?_;obtain rfl:=n;refine Za j ?_;clear j;intro r B;refine B.of_raw▸?_;apply kb I.inv r x;intro a d kvs od D G X;have p:∀(prog:Program)(w:World)(A:Around)(R:Result->Shared->Prop)(b:Shared),b.heap.get? a=some (instObj (c.cls C) d)->R (.ok (.ret (.bool true))) b->wpAny (model prog w) A.in1 (Builtin.«isinstance» ⟨[.ref a,.ref (c.cls C)],[]⟩)
   (fun k b=>match k with|.done f=>R (.ok f) b|.again c'=>c'.quiet=true/\codeAny (model prog w) A c' R b) (fun e b=>R (.error e) b) b:=fun prog w A R b g v=>by
  refine isinstance_outer ?_ (by intro e;cases e);refine Zf (m:=typeOf (.ref a)) ?_;refine Zf (wpAny_load g (Zi ?_));refine wpAny_ite_true (decide_eq_true (by simp)) ?_;exact Zf (wpAny_rule (Zi v))
 refine call_function_meets PySem.F.kind_isinstance PySem.F.plain_isinstance PySem.F.entry_isinstance (PySem.F.args_isinstance_2 _ _) (S:=fun A R b=>b.heap.get? a=some (instObj (c.cls C) d)/\R (.ok (.ret (.bool true))) b) (fun prog w A R b o=>p prog w A R b o.1 o.2) ⟨X.at_,PE.here I (.bool true) q⟩
end
end
section
section
variable {c:Cx}{sc:Scope}{lv:Nat}{W:Wd}{Kp:aA}{d:Env}{t:AS}{s:Shared}
noncomputable def we(i j:Int):Option Int:=some (i+j)
noncomputable def jx(i j:Int):Option Int:=if j=0 then none else some (i.fmod j)
noncomputable def kL(i j:Int):Option Int:=if 0<j/\j<1000000000 then some (i.fdiv j) else none
noncomputable def nJ(i j:Int):Option Int:=if 0<=j/\j<=1000/\0<=i/\i<1000 then some (i ^ j.toNat) else none
theorem rm{e f:Expr}{pos:Pos}{a b:ap}(g:CE c sc lv e a)(h:CE c sc lv f b):CE c sc lv (.BinOp e .Add f pos) (dG we a b):=
 oG g h fun i _ q=>by obtain rfl:=Zb i;exact PyProof.Rows.add_int (q _ _ rfl)
theorem eZ{f g:Expr}{pos:Pos}{a b:ap}(h:CE c sc lv f a)(i:CE c sc lv g b):CE c sc lv (.BinOp f .Mod g pos) (dG jx a b):=
 oG h i fun e _ q=>by unfold jx at e;split at e<;>cases e;exact PyProof.Rows.mod_int (by assumption) (q _ _ rfl)
theorem dP{f g:Expr}{pos:Pos}{a b:ap}(h:CE c sc lv f a)(i:CE c sc lv g b):CE c sc lv (.BinOp f .FloorDiv g pos) (dG kL a b):=
 oG h i fun e _ q=>by
  delta kL at e;split at e<;>cases e;exact PyProof.Rows.floordiv_int (by omega) (q _ _ rfl) (Or.inl (PyProof.noPylong_small (by omega)))
theorem kX{f g:Expr}{pos:Pos}{a b:ap}(h:CE c sc lv f a)(i:CE c sc lv g b):CE c sc lv (.BinOp f .Pow g pos) (dG nJ a b):=
 oG h i fun e _ q=>by
  delta nJ at e;split at e<;>cases e;rename_i j;exact PyProof.Rows.pow_int_small j.1 (by omega) (by omega) (q _ _ rfl)
def v8(f:ap):ap:=fun t Q=>f t fun v a=>∃i,v=.int i/\Q (.int (-i)) a
theorem rl{e:Expr}{f:ap}{pos:Pos}(h:CE c sc lv e f):CE c sc lv (.UnaryOp .USub e pos) (v8 f):=by
 intro d A W Kp t s Q E n m l I q;refine wpAny_UnaryOp (h.use n m l I q fun k x g v s1 a j r b=>?_);refine ar b fun i o p=>?_;subst o;apply r.intK;intro tk;exact PyProof.Rows.neg_int ⟨k,E2 _ g (A4 a (j.tok _) (.int _ _) p)⟩
def kJ(a b:ap):ap:=fun t Q=>a t fun x f=>b f fun y e=>∃xs ys,bc e.H x=some xs/\bc e.H y=some ys/\newL (xs++ys) e Q
theorem iN{i j:Expr}{pos:Pos}{a b:ap}(z:CE c sc lv i a)(B:CE c sc lv j b):CE c sc lv (.BinOp i .Add j pos) (kJ a b):=
 CE.two z B (fun _ _ _ _ _ h=>wpAny_BinOp h) fun d A W Kp t s Q E u v x y N M L I C D g=>by
  refine ci g fun xs ys G H q=>?_;apply cR I.inv C G;intro a1 vs J k p l1;apply cR I.inv D H;intro w f K l r l2;have m:=q.1;refine concat_meets (aT k).typeIs (aT l).typeIs noFill_list_add seq_list_add PySem.F.slot_list_add PySem.F.entry_list_add (PySem.F.args_list_add_2 _ _) (list_addW a1 w vs.toArray f.toArray J K none none #[] #[] ?_) (A3 k l ?_);·rw[List.size_toArray,List.size_toArray,p.length,r.length];rw[List.length_append] at m;exact av 0 100000 0 16777216 m rfl
  ·refine PE.newL (vs:=vs++f) (n:=0) (tk:=s.toks) I (p.append r) q (Zj _) ?_ fun b o e=>Zl _ e;have:=Zq s.heap (o:={ cls:=Value.type "list",data:=Data.seq (vs.toArray++f.toArray) }) rfl;refine this.trans ?_;simp
def jK:Option ap->AS->(Option Int->AS->Prop)->Prop
 |none,t,Q=>Q none t
 |some f,t,Q=>f t fun v a=>∃i,v=.int i/\Q (some i) a
inductive CP(c:Cx)(sc:Scope)(lv:Nat):Option Expr->Option ap->Prop
 |none:CP c sc lv none none
 |some {e:Expr}{f:ap}(h:CE c sc lv e f):CP c sc lv (some e) (some f)
noncomputable def g8(xs:List MV):Option Int->Option Int->Option Int->Option (List MV)
 |none,none,none=>some xs
 |some a,none,none=>if 0<=a then some (xs.drop a.toNat) else none
 |none,some b,none=>if 0<=b then some (xs.take b.toNat) else none
 |some a,some b,none=>if 0<=a/\a<=b then some ((xs.drop a.toNat).take (b.toNat - a.toNat)) else none
 |none,none,some k=>if k = -1 then some xs.reverse else none
 |some _,none,some _=>none
 |none,some _,some _=>none
 |some _,some _,some _=>none
def fH(a:ap)(j i st:Option ap):ap:=fun t Q=>a t fun v e=>jK j e fun l f=>jK i f fun h g=>jK st g fun k b=>∃xs ys,bc b.H v=some xs/\g8 xs l h k=some ys/\newL ys b Q
theorem CP.use{x:Option Expr}{f:Option ap}(h:CP c sc lv x f){d:Env}{A:Around}{W:Wd}{Kp:aA}{t:AS}{s:Shared}{Q:Option Int->AS->Prop}{E:Value->Shared->Prop}{R:Value->Shared->Prop}(r:d.scope=sc)(p:cv d)(n:AOK c lv A Kp d)(I:InvF c W Kp d t s)(q:jK f t Q)(k:∀g o σ' v j,W.le g->InvF c g Kp d σ' j->IsPart v o->Q o σ'->R v j):wpAny c.M A (evalPart x d) R E s:=by
 induction h with
 |none=>exact Zi (k W Option.none t .none s (.refl W) I .none q)
 |some h=>
  refine h.use r p n I q fun m y e v s1 a l z b=>?_;refine ar b fun i u w=>?_;subst u;apply z.intK;intro tk;exact k m (Option.some i) e _ s1 a l (.int i tk) w
theorem Bl{n m l i:Nat}(a:i<m - n)(b:¬ i<min m l - n):l<=n+i:=Zm fun q=>b (Nat.lt_sub_of_add_lt (Nat.lt_min.mpr ⟨Nat.add_lt_of_lt_sub a,by rw[Nat.add_comm];exact q⟩))
theorem Bk{n m l i:Nat}(h:¬ i<m - n):¬ i<min m l - n:=fun q=>h (Zp q (Nat.sub_le_sub_right (Nat.min_le_left _ _) _))
theorem wE{S:Nat->Str}{W:Wd}{vs:List Value}{xs ys:List MV}{p l st:Option Int}(h:VRs S W vs xs)(e:g8 xs p l st=some ys):∃q,slicePick vs.toArray p l st=q.toArray/\VRs S W q ys/\st≠some 0:=by
 induction p<;>induction l<;>induction st<;>first|exact aQ e|skip
 ·obtain rfl:=Zb e;exact⟨vs,A3 (slicePick_all _) h (by simp)⟩
 ·rename_i k;dsimp only[g8] at e;split at e<;>cases e;rename_i u;subst u;exact⟨vs.reverse,A3 (by rw[PySem.W.krv_pick]) h.rev (by decide)⟩
 ·rename_i b;dsimp only[g8] at e;split at e<;>cases e;refine Zx (Int.eq_ofNat_of_zero_le ‹0<=b›) fun n f=>?_;obtain rfl:=f;exact⟨vs.take n,A3 (slicePick_upto' _ n) (h.take _) (by simp)⟩
 ·rename_i a;dsimp only[g8] at e;split at e<;>cases e;refine Zx (Int.eq_ofNat_of_zero_le ‹0<=a›) fun n f=>?_;obtain rfl:=f;exact⟨vs.drop n,A3 (slicePick_from' _ n) (h.drop _) (by simp)⟩
 ·rename_i a b;dsimp only[g8] at e;split at e<;>cases e;rename_i g;refine Zx (Int.eq_ofNat_of_zero_le g.1) fun n f=>?_;obtain rfl:=f;refine Zx (Int.eq_ofNat_of_zero_le (Int.le_trans g.1 g.2)) fun m f=>?_;obtain rfl:=f;refine⟨(vs.drop n).take (m - n),A3 ?_ ((h.drop _).take _) (by simp)⟩;rw[slicePick_plain];simp only[Option.elim_some,clipAt_nat,List.size_toArray]
  congr 1
  apply List.ext_getElem?;intro i;rw[List.getElem?_take,List.getElem?_take,List.getElem?_drop,List.getElem?_drop];by_cases o:n<=vs.length
  ·rw[Nat.min_eq_left o];by_cases j:i<m - n
   ·rw[if_pos j];split;·rfl
    ·rw[List.getElem?_eq_none];exact Bl j (by assumption)
   ·rw[if_neg j,if_neg (Bk j)]
  ·have j:vs[n+i]?=none:=List.getElem?_eq_none (Zk (Nat.le_of_not_le o) (ZB _ _));have r:vs[min n vs.length+i]?=none:=List.getElem?_eq_none (by rw[Nat.min_eq_right (Nat.le_of_not_le o)];exact ZB _ _);refine j.symm▸r.symm▸?_;simp
theorem xC{e:Expr}{O D st:Option Expr}{p pos:Pos}{a:ap}{l h k:Option ap}(h0:CE c sc lv e a)(Y:CP c sc lv O l)(Z:CP c sc lv D h)(h3:CP c sc lv st k)(F:∃m:Value->Value->List Value,∀o i,subscripted (.Slice O D st p) false o i=operate (m o i) (getItem o i)):CE c sc lv (.Subscript e (.Slice O D st p) pos) (fH a l h k):=by
 intro d A W Kp t s Q E y x w I q;refine Zx F fun m F=>?_;refine Subscript_ (h0.use y x w I q fun W1 v σ1 u s1 K U r1 q1=>?_);refine wpAny_Slice (Y.use y x w U q1 fun W2 o2 σ2 z s2 L V p2 q2=>?_);refine Z.use y x w V q2 fun W3 o3 σ3 B s3 M X p3 q3=>?_;refine h3.use y x w X q3 fun W4 o4 σ4 C j N S p4 R=>?_;refine ci R fun xs ys hx G qn=>?_;have f:=(L.trans M).trans N;apply cR S.inv (r1.mono f) hx;intro b vs n g r hl;refine bz (wE r G) fun T hw P H=>?_;have J:(j.heap.push { cls:=.type "slice",data:=.fields #[z,B,C] }).objs.size=j.heap.objs.size+1:=Heap.size_push ..;refine tail_any (Heap.IsList.typeIs (s:={ j with heap:=j.heap.push { cls:=.type "slice",data:=.fields #[z,B,C] } }) ((aT g).push _)) slot_list_getitem.lookup
  (wpAny_getItem_list_slice ((aT g).push _) (Heap.IsSliceOf.new ..) p2 p3 p4 H ?_ (List.size_toArray▸r.length▸sizeLine_eq▸av 0 100000 0 16777216 hl rfl)) (F _ _)
 refine hw▸?_;have hn:j.heap.objs.size<=(j.heap.push { cls:=.type "slice",data:=.fields #[z,B,C] }).objs.size:=(J▸Zz _)
 have key:=PE.newL (vs:=T) (n:=0) (tk:=j.toks) (h':=(j.heap.push { cls:=.type "slice",data:=.fields #[z,B,C] }).push (bg T 0)) S P qn hn (Zq _ rfl) fun b o e=>Zl _ (Zl _ e);exact key.le (K.trans f)
end
end
section
section
variable {c:Cx}{sc:Scope}{lv:Nat}{W:Wd}{Kp:aA}{i:Env}{d:AS}{s:Shared}
def oA(f:Nat->Nat->Option Bool)(x y:MV):MT:=fun d Q=>∃m n b,x=.str m/\y=.str n/\f m n=some b/\Q b d
theorem mO(f:Nat->Nat->Option Bool)(g:∀m n b,f m n=some b->(!(Builtin.Str.occurrences (c.S n) (c.S m) 0 (c.S n).length 1).isEmpty)=b):ma c lv .In (oA f):=by
 intro i A W Kp d s Q E u v x y p o I h j a;refine bW a fun m n b k l e q=>?_;subst k l;apply h.strK;intro t;apply j.strK;intro r;exact PySem.P.in_str ⟨b,(congrArg _ (g m n b e)),E2 W d (A3 (.refl W) I q)⟩
def qE(f:Nat->Nat->Option Nat)(a b:ap):ap:=fun d Q=>a d fun x e=>b e fun y g=>∃m n k,x=.str m/\y=.str n/\f m n=some k/\Q (.str k) g
theorem pF{j l:Expr}{pos:Pos}{a b:ap}(f:Nat->Nat->Option Nat)(r:∀m n k,f m n=some k->c.S m++c.S n=c.S k/\((c.S m).length == 0)=false/\((c.S n).length == 0)=false/\(c.S k).length<=1000)(o:CE c sc lv j a)(p:CE c sc lv l b):CE c sc lv (.BinOp j .Add l pos) (qE f a b):=
 CE.two o p (fun _ _ _ _ _ h=>wpAny_BinOp h) fun i A W Kp d s Q E u v x y L K J I z B g=>by
  refine bW g fun m n k C D w q=>?_;subst C D;apply z.strK;intro t;apply B.strK;intro M;refine gm (r m n k w) fun e F G H=>?_;refine PySem.P.add_str ?_;refine F.symm▸G.symm▸?_;simp only[Bool.false_eq_true,if_false,e];exact⟨(sizeLine_eq▸av 0 1000 0 16777216 H rfl),PE.here (I.tok _) (.str k _) q⟩
noncomputable def h9(a:List Int):List MV:=a.map .int
def sS:List MV->ap:=fun xs d Q=>∃x,xs=[x]/\((∃ns,bc d.H x=some (bY ns)/\ns.length<64/\∀a:List Nat,a.Perm ns->sortedS (a.map S0)=true->newL (bY a) d Q)\/
 (∃ns,bc d.H x=some (h9 ns)/\ns.length<64/\∀a:List Int,a.Perm ns->a.Pairwise (·<=·)->newL (h9 a) d Q))
theorem pd{W:Wd}:∀{vs:List Value}{ns:List Nat},VRs c.S W vs (bY ns)->StrsAre vs (ns.map c.S)
 |_,[],h=>(h.nil'▸.nil)
 |_,n::ns,h=>by
  cases h with|cons r t=>apply r.strK;intro tk;exact .cons _ _ (pd t)
theorem pg{W:Wd}:∀{vs:List Value}{ns:List Nat},StrsAre vs (ns.map c.S)->VRs c.S W vs (bY ns)
 |_,[],h=>by cases h;exact .nil
 |_,n::ns,h=>by cases h with|cons x t h=>exact .cons (.str n t) (pg h)
theorem pz{W:Wd}:∀{vs:List Value}{ns:List Int},VRs c.S W vs (h9 ns)->IntsAre vs ns
 |_,[],h=>(h.nil'▸.nil)
 |_,n::ns,h=>by
  cases h with|cons r t=>apply r.intK;intro tk;exact .cons _ _ (pz t)
theorem pj{W:Wd}:∀{vs:List Value}{ns:List Int},IntsAre vs ns->VRs c.S W vs (h9 ns)
 |_,[],h=>by cases h;exact .nil
 |_,n::ns,h=>by cases h with|cons x t h=>exact .cons (.int n t) (pj h)
theorem wL{S:Nat->Str}:∀{j:List Str}{ns:List Nat},j.Perm (ns.map S)->∃a:List Nat,j=a.map S/\a.Perm ns:=by
 intro j ns h;generalize b:ns.map S=q at h;induction h generalizing ns with
 |nil=>induction ns with
  |nil=>exact⟨[],rfl,.nil⟩
  |cons=>cases b
 |cons x _ r=>cases ns with
  |nil=>cases b
  |cons n ns=>
   cases b;refine ar (r rfl) fun a e p=>?_;exact⟨n::a,(e▸rfl),p.cons n⟩
 |swap x y l=>cases ns with
  |nil=>cases b
  |cons n ns=>cases ns with
   |nil=>cases b
   |cons m ns=>cases b;exact⟨m::n::ns,rfl,.swap ..⟩
 |trans _ _ f g=>
  refine ar (g b) fun u o p2=>?_;refine ar (f o.symm) fun t k p1=>?_;exact⟨t,k,p1.trans p2⟩
theorem fg:ir c lv (.builtin "sorted") sS:=dW fun i A W Kp d s Q E vs xs _ _ I B y=>by
 refine ar y fun x C q=>?_;subst C;refine ar B.one fun u l r=>?_;obtain rfl:=l;rcases q with⟨ns,w,j,q⟩|⟨ns,w,j,q⟩
 ·apply cR I.inv r w;intro a us n g h _;have f:=h.length;refine sorted_strs (aT g) (pd h) (by rw[f];unfold bY;rw[List.length_map];exact j) fun out D m p t=>?_;refine ar (wL p) fun k l z=>?_;obtain rfl:=l;refine Zx (sortedAll_at s.heap us out) fun e v=>?_;exact PE.newL (tk:=s.toks) (vs:=out.toList) (n:=e) I (pg m) (q k z t) (Zz _) v fun b o e=>sortedAll_old e
 ·apply cR I.inv r w;intro a us n g h _;have f:=h.length;refine sorted_ints (aT g) (pz h) (by rw[f];unfold h9;rw[List.length_map];exact j) fun out k m p t=>?_;refine Zx (sortedAll_at s.heap us out) fun e v=>?_;exact PE.newL (tk:=s.toks) (vs:=out.toList) (n:=e) I (pj m) (q k p t) (Zz _) v fun b o e=>sortedAll_old e
theorem PE.adoptT{Q:MV->AS->Prop}{a:Addr}{t:aq}{o:MObj}(I:InvF c W Kp i d s)(j:Offs c [a] W Kp i)(l:fJ d.H d.nx t)(g:∃r,s.heap.get? a=some r)(x:∀f,W.le f->f.ρ t=some a->f.own a=some t->OR c f t o s.heap)(q:Q (.tag t) { d with H:=af d.H t o,nx:=cf d.nx t }):PE c W Kp i Q (.ref a) s:=by
 refine Za (j a Ze) fun m p=>?_;have le:W.le (W.add t a []):=Wd.le_adopt (I.inv.unused l) m.1;have k:(W.add t a []).ρ t=some a:=by show(if t=t then _ else _)=_;exact(if_pos rfl)
 have n:=I.inv.adopt (o:=o) l m g (x _ le k (by show(if a=a\/a∈[] then _ else _)=_;rw[if_pos (.inl rfl)]));refine⟨W.add t a [],E2 (.tag t) ({ d with H:=af d.H t o,nx:=cf d.nx t }) (A4 le ⟨n,I.fm.add le fun b h=>⟨?_,(I.fm.out b h).2.1⟩⟩ (.tag k) q)⟩;show(if b=a\/b∈[] then _ else _)=_;rw[if_neg];exact(I.fm.out b h).1;rintro (e|e);·obtain rfl:=e.symm;exact p h
 ·exact gY e
def vb:ap:=fun d Q=>∃t,fJ d.H d.nx t/\Q (.tag t) { d with H:=af d.H t (.dict []),nx:=cf d.nx t }
theorem oQ{h:Heap}{a:Addr}(g:h.get? a=some { cls:=.type "dict",data:=.dict #[] }):h.DictOf c.knd a []:=⟨_,E2 (#[]) 0 (A6 g ⟨rfl,rfl,rfl⟩ rfl (fun _ h=>by simp at h) .nil List.nodup_nil)⟩
theorem gE{pos:Pos}:CE c sc lv (.Dict [] [] pos) vb:=by
 intro i A W Kp d s Q E l k j I a;refine ar a fun t g q=>?_;have gd:(s.heap.push { cls:=.type "dict",data:=.dict #[] }).get? s.heap.objs.size=some { cls:=.type "dict",data:=.dict #[] }:=Zq _ rfl;have f:=I.grow (tk:=s.toks) (h':=s.heap.push { cls:=.type "dict",data:=.dict #[] }) fun b o e=>Zl _ e;exact wpAny_Dict_empty (PE.adoptT (o:=.dict []) f (Offs.one I) g ⟨_,gd⟩ (fun h le r o=>⟨_,[],A6 r o (oQ gd) .nil (Nat.zero_le _) (fun _ q=>nomatch q)⟩) q)
def jY:List (ap×ap)->AS->(List (MV×MV)->AS->Prop)->Prop
 |[],d,Q=>Q [] d
 |(k,f)::r,d,Q=>k d fun x a=>f a fun y b=>jY r b fun g e=>Q ((x,y)::g) e
noncomputable def keysOf? : List (MV×MV)->Option (List (Nat×MV))
 |[]=>some []
 |(.str n,y)::r=>(keysOf? r).map ((n,y)::·)
 |_=>none
def xT(b:List (ap×ap)):ap:=fun d Q=>jY b d fun xs a=>∃es t,keysOf? xs=some es/\fJ a.H a.nx t/\Q (.tag t) { a with H:=af a.H t (.dict (es.foldl (fun acc p=>ah acc p.1 p.2) [])),nx:=cf a.nx t }
inductive DEs(c:Cx)(sc:Scope)(lv:Nat):List (Option Expr)->List Expr->List (ap×ap)->Prop
 |nil:DEs c sc lv [] [] []
 |cons {k e:Expr}{ks:List (Option Expr)}{es:List Expr}{fk f:ap}{fs:List (ap×ap)}(hk:CE c sc lv k fk)(h:CE c sc lv e f)(t:DEs c sc lv ks es fs):DEs c sc lv (some k::ks) (e::es) ((fk,f)::fs)
abbrev AH(S:Nat->Str)(W:Wd):List (Value×Value)->List (MV×MV)->Prop:=All2 fun p q=>VR S W p.1 q.1/\VR S W p.2 q.2
theorem DEs.shape{ks:List (Option Expr)}{es:List Expr}{fs:List (ap×ap)}(h:DEs c sc lv ks es fs):ks.all (·.isSome)=true/\ks.length=es.length/\fs.length=ks.length:=by
 induction h with
 |nil=>exact A3 rfl rfl rfl
 |cons _ _ _ a=>exact A3 (a.1) (by simpa using a.2.1) (by simpa using a.2.2)
theorem DEs.pairs{pos:Pos}{ks:List (Option Expr)}{es:List Expr}{fs:List (ap×ap)}(h:DEs c sc lv ks es fs){i:Env}{A:Around}{Kp:aA}{E:Value->Shared->Prop}(m:i.scope=sc)(l:cv i)(k:AOK c lv A Kp i) :∀{W:Wd}{d:AS}{s:Shared}{Q:List (MV×MV)->AS->Prop},InvF c W Kp i d s->jY fs d Q->wpAny c.M A (evalPairs (pairTrees ks es i pos)) (fun vs J=>∃e xs σ',W.le e/\InvF c e Kp i σ' J/\AH c.S e vs xs/\xs.length=fs.length/\Q xs σ') E s:=by
 induction h with
 |nil=>exact fun I q=>evalPairs_nil (E3 _ ([]) _ (A5 (.refl _) I .nil rfl q))
 |cons u h t w=>
  intro W d s Q I q;refine evalPairs_cons (u.use m l k I q fun N x K v s1 g n F B=>?_);refine Zf (h.use m l k n B fun O y L T P b o G C=>Zf (wpAny_standAt (Zi (Zg (w o C) (fun vs R z=>?_) fun _ _ z=>z))));refine io z fun r xs j a p H f D=>?_;exact E3 r ((x,y)::xs) j (A5 ((g.trans b).trans a) p (.cons ⟨F.mono (b.trans a),G.mono a⟩ H) (congrArg Nat.succ f) D)
theorem ux{W:Wd}{vs:List (Value×Value)}{xs:List (MV×MV)}(h:AH c.S W vs xs):∀{es:List (Nat×MV)},keysOf? xs=some es->∃kvs,Carries c.knd vs kvs/\KVR c.S W kvs es:=by
 induction h with
 |nil=>intro es h;obtain rfl:=Zb h;exact⟨[],trivial,.nil⟩
 |cons h t j=>
  rename_i v x vs xs;obtain⟨x,y⟩:=x;obtain⟨k,v⟩:=v;intro es e;cases x with
  |str n=>
   refine ar (Option.map_eq_some_iff.mp (show(keysOf? xs).map ((n,y)::·)=some es from e)) fun es' g a=>?_;obtain rfl:=a;refine ar (j g) fun kvs b f=>?_;refine Zx h.1.of_str fun tk a=>?_;obtain rfl:=a;exact⟨(c.S n,_)::kvs,⟨fI c n tk,rfl,b⟩,.cons h.2 f⟩
  |_=>exact aQ e
theorem ug{W:Wd}{kvs:List (Str×Value)}{es:List (Nat×MV)}(b:KVR c.S W kvs es):∀{acc:List (Str×Value)}{a:List (Nat×MV)},KVR c.S W acc a->KVR c.S W (merged acc kvs) (es.foldl (fun acc p=>ah acc p.1 p.2) a):=by
 induction b with
 |nil=>intro acc a h;exact h
 |cons r t e=>intro acc a h;exact e (h.put _ r)
theorem nE:∀(es a:List (Nat×MV)),(es.foldl (fun acc p=>ah acc p.1 p.2) a).length<=a.length+es.length
 |[],a=>Zj _
 |p::es,a=>by
  have b:=nE es (ah a p.1 p.2);have e:=hU a p.1 p.2;simp only[List.foldl_cons,List.length_cons];exact iG b e
theorem yR{ks:List (Option Expr)}{es:List Expr}{fs:List (ap×ap)}{pos:Pos}(h:DEs c sc lv ks es fs)(h0:ks≠[])(m:ks.length<=15):CE c sc lv (.Dict ks es pos) (xT fs):=by
 intro i A W Kp d s Q E J H G I q;have gd:(s.heap.push { cls:=.type "dict",data:=.dict #[] }).get? s.heap.objs.size=some { cls:=.type "dict",data:=.dict #[] }:=Zq _ rfl;have k:=I.grow (tk:=s.toks) (h':=s.heap.push { cls:=.type "dict",data:=.dict #[] }) fun b o e=>Zl _ e;have a:Offs c [s.heap.objs.size] W Kp i:=Offs.one I;refine wpAny_Dict_walk (knd:=c.knd) h.shape.1 h.shape.2.1 h0 m ?_;refine Zg (h.pairs (pos:=pos) J H (G.hold (h:=s.heap.push { cls:=.type "dict",data:=.dict #[] }) a) (k.hold a) q) (fun vs N z=>?_) fun _ _ z=>z;refine io z fun S xs P u l y L v=>?_;refine ci v fun g t K D M=>?_;have F:=k.heldX a l (b:=s.heap.objs.size) Ze gd (by decide);have f:=Offs.held k a (fun b n=>((List.mem_singleton.mp n)▸⟨_,gd⟩)) l;have B:=k.drop a l;refine ar (ux y K) fun kvs w x=>?_;refine⟨kvs,A3 w (oQ F) (fun h' hd O=>?_)⟩;have C:=B.one (tk:=N.toks+vs.length) f fun b o n e=>(O.2 b n).trans e;have j:g.length<=15:=by
  have l1:=x.length;have l2:=w.length;have l3:=y.length;have T:=h.shape.2.2;omega
 refine(PE.adoptT (o:=.dict (g.foldl (fun acc p=>ah acc p.1 p.2) [])) C f D (by refine dM hd fun _ _ _ e _=>?_;exact⟨_,e⟩) (fun R le r o=>⟨_,_,A6 r o hd (ug (x.mono le) .nil) ?_ (fun _ q=>nomatch q)⟩) M).le u;have:=nE g [];simp at this;exact bR 0 0 0 15 0 100000 this j rfl
end
end
section
section
variable {c:Cx}{sc:Scope}{lv:Nat}{W:Wd}{Kp:aA}{B:Env}{d:AS}{s:Shared}
noncomputable abbrev ib(c:Cx)(xs:List Nat):Str->Bool:=fun k=>xs.any fun n=>decide (c.S n=k)
noncomputable def aU(xs ys:List Nat):List Nat:=ys.foldl (fun acc y=>if y∈acc then acc else acc++[y]) xs
theorem hV(xs:List Nat)(y:Nat)(ys:List Nat):aU xs (y::ys)=aU (if y∈xs then xs else xs++[y]) ys:=rfl
theorem memS_iff{xs:List Nat}{n:Nat}:ib c xs (c.S n)=true↔n∈xs:=by
 refine List.any_eq_true.trans ?_;constructor
 ·intro a;refine ar a ?_;intro m b e;refine(c.inj _ _ (of_decide_eq_true e))▸?_;exact b
 ·exact fun h=>⟨n,h,(if_pos rfl)⟩
def xR:List MV->ap:=fun xs d Q=>xs=[]/\∃t,fJ d.H d.nx t/\Q (.tag t) { d with H:=af d.H t (.set []),nx:=cf d.nx t }
theorem rW:ir c lv (.type "set") xR:=dW fun B A W Kp d s Q E vs xs _ _ I j f=>by
 refine zq f ?_;clear f;intro l t i q;subst l;refine j.nil'▸?_;refine call_set_0 fun a=>?_;have gd:(s.heap.push { cls:=.type "set",dict:=none,data:=.set #[] 0 (.fresh 0 0 a) }).get? s.heap.objs.size=some { cls:=.type "set",dict:=none,data:=.set #[] 0 (.fresh 0 0 a) }:=Zq _ rfl;have g:=I.grow (tk:=s.toks) (h':=s.heap.push { cls:=.type "set",dict:=none,data:=.set #[] 0 (.fresh 0 0 a) }) fun b o e=>Zl _ e;refine PE.adoptT (o:=.set []) g (Offs.one I) i ⟨_,gd⟩ (fun m le r o=>⟨_,A4 r o ⟨_,E3 (#[]) 0 _ (A8 gd ⟨rfl,rfl,rfl⟩ rfl (fun _ h=>gY h) (fun k=>by simp) (by decide) ?_ rfl)⟩ (Nat.zero_le _)⟩) q;induction a<;>decide
theorem yp{A:Around}{E:Value->Shared->Prop}{a:Addr}{xs:List Nat}{n:Nat}{tk:Tok}{h0:Heap}{s:Shared}{Q:Bool->Shared->Prop}(hS:s.heap.SetOf c.knd a (ib c xs) xs.length)(o:xs.length<=1000)(h:∀b h' j,Heap.SameBut a s.heap h'->h'.SetOf c.knd a (ib c (if n∈xs then xs else xs++[n])) (if n∈xs then xs else xs++[n]).length->Q b { s with heap:=h',toks:=j }) :
  wpAny c.M A (setAdd a (.str (c.S n) tk)) Q E s:=by
 refine wpAny_holding ?_;refine Zf (c.knd.pyHash (k:=c.S n) (fI c n tk) ?_);refine wpAny_setAddHashed_of (knd:=c.knd) (s:={ s with toks:=s.toks+1 }) (fI c n tk) rfl hS (by have:scanBound=4096:=rfl;exact bR 0 1000 4096 0 2 0 o (Zd this.symm) rfl) fun h' q f=>?_;refine h _ h' (s.toks+1) q ?_;by_cases i:n∈xs
 ·rw[if_pos i];replace f:=(memS_iff.mpr i)▸f;have e:(fun g=>ib c xs g||decide (g=c.S n))=ib c xs:=funext fun g=>by
   by_cases l:g=c.S n;·subst l;refine(memS_iff.mpr i)▸?_;rfl
   ·simp[l]
  rw[e] at f;exact f
 ·rw[if_neg i];have m:ib c xs (c.S n)=false:=by
   cases p:ib c xs (c.S n) with
   |false=>rfl
   |true=>exact absurd (memS_iff.mp p) i
  rw[m] at f;have e:(fun g=>ib c xs g||decide (g=c.S n))=ib c (xs++[n]):=funext fun g=>by
   show _=(List.any (xs++[n]) _);refine Eq.trans ?_ List.any_append.symm;simp only[List.any_cons,List.any_nil,Bool.or_false]
   congr 1
   refine decide_eq_decide.mpr ?_;exact eq_comm
  rw[e] at f;rw[List.length_append];exact f
def sM:List MV->ap:=fun xs d Q=>∃t v ys ns,xs=[.tag t,v]/\d.H t=some (.set ys)/\bc d.H v=some (bY ns)/\ys.length+ns.length<=900/\Q .none { d with H:=af d.H t (.set (aU ys ns)) }
theorem oJ{h h':Heap}{a:Addr}{f:Str->Bool}{n:Nat}(x:h.SetOf c.knd a f n)(k:∀o,h.get? a=some o->h'.get? a=some o):h'.SetOf c.knd a f n:=
 x.elim fun o y=>y.elim fun es z=>z.elim fun ep z=>z.elim fun b z=>⟨o,E3 es ep b ⟨k o z.1,z.2⟩⟩
theorem p9{h h':Heap}{a:Addr}{xs:Array Value}(x:h.IsList a xs)(k:∀o,h.get? a=some o->h'.get? a=some o):h'.IsList a xs:=x.elim fun o z=>⟨o,k o z.1,z.2⟩
theorem rH{h h':Heap}{a l:Addr}{i:Nat}(x:h.IsListIter a l i)(k:∀o,h.get? a=some o->h'.get? a=some o):h'.IsListIter a l i:=x.elim fun o z=>⟨o,k o z.1,z.2⟩
theorem yH(ys:List Nat)(n:Nat):(if n∈ys then ys else ys++[n]).length<=ys.length+1:=by
 split;·exact Zz _
 ·rw[List.length_append];exact Zj _
theorem sf{a l it:Addr}(H:a≠l)(f:a≠it)(J:it≠l):∀(k:Nat){A:Around}{R:Result->Shared->Prop}{s:Shared}{us:List Value}{ns:List Nat}{i:Nat}{ys:List Nat}{W:Wd},A.handled=none->us.length - i=k->VRs c.S W us (bY ns)->s.heap.IsListIter it l i->s.heap.IsList l us.toArray->s.heap.SetOf c.knd a (ib c ys) ys.length->ys.length+(ns.length - i)<=900->i<=us.length->(∀h' tk,(∀b o,b≠a->b≠it->s.heap.get? b=some o->h'.get? b=some o)->h'.SetOf c.knd a (ib c (aU ys (ns.drop i))) (aU ys (ns.drop i)).length->R (.ok (.ret .none)) { s with heap:=h',toks:=tk })->
  codeAny c.M A (.builtin "set.update.loop" ⟨[.ref a,.ref it],[]⟩) R s:=by
 intro k;induction k with
 |zero=>
  intro A R s us ns i ys W I C z j D hS r U t;have g:us.length<=i:=Nat.le_of_sub_eq_zero C;have hd:ns.drop i=[]:=List.drop_eq_nil_iff.mpr ((List.length_map (as:=ns) MV.str)▸z.length▸g);refine codeAny_builtin PyProof.Rows.F.entry_set_update_loop ?_;refine Zf (wpAny_pyNext_list_end I j D (Nat.not_lt.mpr g |> fun h=>by simpa using g) fun h' P=>?_);rw[hd] at t;exact Zi (t h' s.toks (fun b o _ T e=>P b o T e) (oJ hS fun o e=>P a o f e))
 |succ k V=>
  intro A R s us ns i ys W I C z j D hS r U t;have p:i<us.length:=Nat.lt_of_sub_eq_succ C;have m:i<ns.length:=((List.length_map (as:=ns) MV.str)▸z.length▸p)
  obtain⟨x,K⟩:∃x,us[i]?=some x:=⟨_,List.getElem?_eq_getElem p⟩
  obtain⟨tk,rfl⟩:∃tk,x=.str (c.S ns[i]) tk:=by
   refine ar (z.getV K) fun mv y X=>?_;rw[show(bY ns)[i]?=some (.str ns[i]) by unfold bY;rw[List.getElem?_map,List.getElem?_eq_getElem m];rfl] at y;obtain rfl:=Zb y;exact X.of_str
  refine codeAny_builtin PyProof.Rows.F.entry_set_update_loop ?_;refine wA (Around.under_plainId PyProof.Rows.F.plain_set_update_loop _) ?_;rw[List.drop_eq_getElem_cons m,hV] at t;generalize ns[i]=n at K t;refine Zf (wpAny_pyNext_list_item j D (x:=.str (c.S n) tk) (by simpa using K) fun O w q=>?_);refine Zf (wpAny_holding (yp (h0:=O) (s:={ s with heap:=O }) (oJ hS fun o e=>(q.2 a f).trans e) (Zk (ZB _ _) (Zk r (by decide))) fun b Z Y L E=>?_));refine Zi ⟨plainId_quiet PyProof.Rows.F.plain_set_update_loop _,V I (NS C) z (rH w fun o e=>(L.2 it (Ne.symm f)).trans e) (p9 D fun o e=>(L.2 l (Ne.symm H)).trans ((q.2 l (Ne.symm J)).trans e)) E ?_ p fun Q N k3 G=>t Q N (fun b o u v e=>k3 b o u v ((L.2 b u).trans ((q.2 b v).trans e))) G⟩;have:=yH ys n;exact NT r m (by assumption)
theorem jD:∀(ys xs:List Nat),(aU xs ys).length<=xs.length+ys.length
 |[],xs=>Zj _
 |y::ys,xs=>by
  rw[hV];have:=jD ys (if y∈xs then xs else xs++[y]);split at this;·rw[if_pos ‹_›];exact av 0 0 0 1 this rfl
  ·rw[if_neg ‹_›];replace this:=List.length_append▸this;simp only[List.length_cons,List.length_nil] at this ⊢;exact gq this
theorem PE.setTo{Q:MV->AS->Prop}{t:aq}{a:Addr}{xs ys:List Nat}{v:Value}{y:MV}{h':Heap}{tk:Nat}(I:InvF c W Kp B d s)(e:d.H t=some (.set xs))(f:W.ρ t=some a)(b:W.own a=some t)(hS:h'.SetOf c.knd a (ib c ys) ys.length)(h:Heap.SameBut a s.heap h')(g:ys.length<=1000)(r:VR c.S W v y)(q:Q y { d with H:=af d.H t (.set ys) }):PE c W Kp B Q v { s with heap:=h',toks:=tk }:=
 ⟨W,E2 y _ (A4 (.refl W) (I.changed (o':=.set ys) e b h ⟨a,A4 f b hS g⟩ (by refine dU hS ?_;clear hS;intro _ _ _ _ e _;exact⟨_,e⟩)) r q)⟩
theorem uM:ir c lv (.builtin "set.update") sM:=dW fun B A W Kp d s Q E vs xs hh _ I hv H=>by
 refine iw H ?_;clear H;intro t v ys ns hx ht p;obtain⟨hl,Y,q⟩:=p;subst hx;refine br hv.two fun u w p J=>?_;obtain rfl:=p;refine Za J ?_;clear J;intro r rw';apply k8 I.inv r ht;intro a ha ow hS hls;apply cR I.inv rw' hl;intro l us n g Z hlen;have P:a≠l:=by
  intro e;subst e;refine iw hS ?_;intro o _ _ _ x T _;rw[g] at x;obtain rfl:=Zb x;have:=T.1;simp at this
 have O:s.TypeIs (.ref a) "set":=hS.typeIs;refine wpAny_call_entry PySem.F.slot_set_update O PySem.F.entry_set_update ?_ (PySem.F.args_set_update_2 _ _);have D:=PySem.F.sub_list_set;have C:=PySem.F.sub_list_frozenset;have hne:(Value.type "list" == Value.type "dict")=false:=by decide
 have m:s.TypeIs (.ref l) "list":=(aT g).typeIs;have L:wpAny c.M A.in1 (runValue (.builtin "set.update.loop" ⟨[.ref a,.ref s.heap.objs.size],[]⟩)) (fun r s'=>PE c W Kp B Q .none s') E { s with heap:=s.heap.push { cls:=.type "list_iterator",data:=.fields #[.ref l,.int 0 0] } }:=by
  have X:l<s.heap.objs.size:=Zy g;refine dU (id hS) fun o es ep tb x G=>?_;refine wpAny_runValue (sf (a:=a) (l:=l) (it:=s.heap.objs.size) (i:=0) (ys:=ys) (W:=W) P (Zh (Zy x)) (Zn X) _ hh rfl Z ⟨_,A3 (Zq _ rfl) rfl rfl⟩ ((aT g).push _) ⟨o,E3 es ep tb ⟨Zl _ x,G⟩⟩ (by omega) (Nat.zero_le _) fun h' tk k y=>?_);have U:=jD ns ys;refine dU y ?_;clear y;intro o' es' K tb' V j;have S:=j.2.1;have N:(s.heap.update a fun _=>o').get? a=some o':=Heap.get?_update_self _ x (by
   obtain⟨oc,od,dt,sl⟩:=o';subst S;rfl)
  have I2:=I.changed (tk:=tk) (h':=s.heap.update a fun _=>o') (o':=.set (aU ys ns)) ht ow (Zw ..) ⟨a,A4 ha ow ⟨o',E3 es' K tb' ⟨N,j⟩⟩ (bR 0 0 0 900 0 1000 U Y rfl)⟩ ⟨_,N⟩;refine⟨W,E2 .none _ (A4 (.refl W) (I2.grow (tk:=tk) fun b ob e=>?_) .none q)⟩;by_cases R:b=a;·obtain rfl:=R.symm;rw[N] at e;obtain rfl:=Zb e;exact V
  ·have e':s.heap.get? b=some ob:=by
    have:=(Zw (h:=s.heap) (a:=a) (f:=fun _=>o')).2 b R;refine this▸?_;exact e
   exact k b ob R (Zh (Zy e')) (Zl _ e')
 refine Zf ?_;refine Zi ?_;refine Zf ?_;rw[List.forIn_cons];refine Zf (Zf ?_);refine Zf (Zf (wpAny_isInstance m D ?_));refine wpAny_isInstance m C ?_;refine Zf (wpAny_typeOf m ?_);refine Zf (wpAny_pyIter_list (aT g) ?_);refine Zf (Zg L (fun r s' z=>?_) fun _ _ z=>z);refine Zi (Zi ?_);refine Zi ?_;exact Zi ⟨_,rfl,z⟩
theorem ub{A:Around}{E:Value->Shared->Prop}{s:Shared}{a:Addr}{o:Obj}{es:Array (Int×Value)}{ep:Nat}{t:SetTable}{x:Value}{k:Str}{Q:Option Nat->Shared->Prop}(f:c.knd.is k x=true)(g:x.scannable=true)(l:s.heap.get? a=some o)(hd:o.data=.set es ep t)(b:ElemsOf c.knd es.toList)(n:es.size<scanBound)(i:t.fits es.size=true)(h:Q (es.toList.findIdx? fun e=>c.knd.is k e.2) s):wpAny c.M A (setFind a x (c.knd.hash k)) Q E s:=by
 refine Zf (wpAny_setState_of l hd i ?_);dsimp only;refine(byScan_of g n b).symm▸?_;refine Zf (wpAny_rule ?_);refine Zf (wpAny_setScan_of f l hd i b ?_);cases m:es.toList.findIdx? (fun e=>c.knd.is k e.2) with
 |none=>rw[m] at h;exact Zi h
 |some j=>
  rw[m] at h;exact Zi (by rw[Nat.zero_add];exact h)
theorem jB{f:Type} [DecidableEq f]:∀{xs ks:List f},xs.Nodup->(∀x∈xs,x∈ks)->ks.length=xs.length->ks.Perm xs
 |[],ks,_,_,hl=>by rw[List.length_eq_zero_iff.mp hl]
 |x::xs,ks,hn,hc,hl=>by
  refine Za (List.nodup_cons.mp hn) fun g h=>?_;have a:=hc x Ze;have p:=List.perm_cons_erase a;refine p.trans (List.Perm.cons x (jB h (fun y b=>?_) ?_));·exact(List.mem_erase_of_ne (fun e=>by obtain rfl:=e.symm;exact g b)).mpr (hc y (Zc _ b))
  ·rw[List.length_erase_of_mem a,hl];rfl
theorem i8{a:Type}(xs:Array a)(p:Nat)(h:p<xs.size):(SetTable.eraseAt xs p).toList=xs.toList.eraseIdx p:=by
 delta SetTable.eraseAt;rw[Array.toList_append,Array.toList_extract,Array.toList_extract,List.eraseIdx_eq_take_drop_succ,List.extract_eq_take_drop,List.extract_eq_take_drop]
 congr 1
 rw[List.take_of_length_le];rw[List.length_drop,Array.length_toList];exact Zj _
theorem gK{a:Type}(xs:Array a)(p:Nat)(h:p<xs.size):(SetTable.eraseAt xs p).size=xs.size - 1:=by
 rw[<-Array.length_toList,i8 xs p h,List.length_eraseIdx_of_lt h,Array.length_toList]
theorem qz{a:Type}(xs:Array a)(p:Nat)(x:a):(SetTable.insertAt xs p x).size=xs.size+1:=by
 have h:=(SetTable.insertAt_perm xs p x).length_eq;simpa using h
theorem vL{t:SetTable}{n i:Nat}(h:t.fits n=true)(f:i<n):(t.drop i).fits (n - 1)=true:=by
 simp only[SetTable.fits,Bool.and_eq_true,beq_iff_eq,decide_eq_true_eq] at h ⊢;refine Za h ?_;clear h;intro b e;have a:i<t.place.size:=(b▸f)
 delta SetTable.drop;refine(Array.getElem?_eq_getElem a)▸?_;refine⟨((gK _ _ a)▸b▸rfl),?_⟩;unfold SetTable.fill at e ⊢;dsimp only;rw[gK _ _ a,qz];have:t.place.size - 1+(t.dummies.size+1)=t.place.size+t.dummies.size:=by omega
 exact this▸e
def lg:List MV->ap:=fun xs d Q=>∃t n ys,xs=[.tag t,.str n]/\d.H t=some (.set ys)/\ys.Nodup/\n∈ys/\Q .none { d with H:=af d.H t (.set (ys.erase n)) }
theorem wG{a:Addr}{h:Heap}{ys:List Nat}{o:Obj}{es:Array (Int×Value)}(u:ys.Nodup)(j:ElemsOf c.knd es.toList)(t:∀k,ib c ys k=true↔∃e∈es.toList,c.knd.is k e.2=true)(p:es.size=ys.length) :(∀e∈es.toList,∃tk,e.2=.str (strOf e.2) tk)/\(es.toList.map fun e=>strOf e.2).Perm (ys.map c.S):=by
 have r:∀e∈es.toList,∃tk,e.2=.str (strOf e.2) tk:=fun e i=>by
  refine Za (j e i) fun f _=>?_;refine ar f ?_;intro k l _;refine Zx (Value.isStrOf_shape (show Value.isStrOf k e.2=true from l)) fun tk q=>?_;exact⟨tk,(q▸rfl)⟩
 refine⟨r,jB ?_ (fun x v=>?_) ?_⟩;·exact List.Pairwise.map _ (fun a b g e=>g (c.inj _ _ e)) u
 ·refine ar (List.mem_map.mp v) fun n m f=>?_;obtain rfl:=f;refine ar ((t (c.S n)).mp (memS_iff.mpr m)) fun e i l=>?_;refine Zx (Value.isStrOf_shape (show Value.isStrOf (c.S n) e.2=true from l)) fun tk q=>?_;exact List.mem_map.mpr ⟨e,i,(q▸rfl)⟩
 ·rw[List.length_map,List.length_map,Array.length_toList,p]
theorem me{b:Type}:∀(l:List b)(i:Nat)(h:i<l.length),l.Perm (l[i]::l.eraseIdx i)
 |[],_,h=>by simp at h
 |x::l,0,_=>.refl _
 |x::l,i+1,h=>by
  have a:=me l i (by simpa using h);exact(a.cons x).trans (.swap ..)
theorem uN:ir c lv (.builtin "set.remove") lg:=dW fun B A W Kp d s Q E vs xs hh _ I hv H=>by
 refine io H ?_;clear H;intro t n ys hx ht hnd b q;subst hx;refine br hv.two fun u w v K=>?_;obtain rfl:=v;refine Za K ?_;clear K;intro r rw';apply rw'.strK;intro tk;apply k8 I.inv r ht;intro a ha ow hS X;have O:s.TypeIs (.ref a) "set":=hS.typeIs;refine iQ (id hS) fun o es ep tb L P hd l hm hb R G=>?_;refine Za (wG (a:=a) (h:=s.heap) (o:=o) hnd l hm G) fun D hp=>?_;refine wpAny_call_entry PySem.F.slot_set_remove O PySem.F.entry_set_remove ?_ (PySem.F.args_set_remove_2 _ _);refine Zf ?_;refine Zi ?_;refine Zf ?_;refine wpAny_tryCatch ?_;refine wpAny_holding ?_;refine Zf (c.knd.pyHash (k:=c.S n) (fI c n tk) ?_);refine Zf (ub (s:={ s with toks:=s.toks+1 }) (fI c n tk) rfl L hd l hb R ?_);have T:=(hm (c.S n)).mp (memS_iff.mpr b);cases hr:es.toList.findIdx? (fun e=>c.knd.is (c.S n) e.2) with
 |none=>
  refine ar T ?_;intro e j U;have:=List.findIdx?_eq_none_iff.mp hr e j;replace this:=U▸this;exact qO this
 |some i=>
  refine ar (List.findIdx?_eq_some_iff_getElem.mp hr) fun hi hpi _=>?_;have f:i<es.size:=(hi)
  refine Zf (wpAny_setState_of (s:={ s with toks:=s.toks+1 }) L hd R ?_);dsimp only;have hz:(SetTable.eraseAt es i).size<scanBound:=by rw[gK _ _ f];exact ZD (Nat.sub_le _ _) hb
  refine Zf (wpAny_storeSet_of (s:={ s with toks:=s.toks+1 }) L hd ?_ (fits_of_scanBound hz));refine Zf (wpAny_point (Zi ?_));have z:strOf es.toList[i].2=c.S n:=by
   refine Zx (Value.isStrOf_shape (show Value.isStrOf (c.S n) es.toList[i].2=true from hpi)) fun p g=>?_;refine g▸?_;rfl
  have Z:((es.toList.eraseIdx i).map fun e=>strOf e.2).Perm ((ys.erase n).map c.S):=by
   have p1:(es.toList.map fun e=>strOf e.2).Perm (c.S n::(es.toList.eraseIdx i).map fun e=>strOf e.2):=by
    have:=(me es.toList i hi).map fun e:Int×Value=>strOf e.2;rw[List.map_cons,z] at this;exact this
   have p2:(ys.map c.S).Perm (c.S n::(ys.erase n).map c.S):=(List.perm_cons_erase b).map c.S;exact(p1.symm.trans (hp.trans p2)).cons_inv
  have y:ElemsOf c.knd (SetTable.eraseAt es i).toList:=fun e j=>l e (by rw[i8 _ _ f] at j;exact List.mem_of_mem_eraseIdx j);have Y:∀k,ib c (ys.erase n) k=true↔∃e∈(SetTable.eraseAt es i).toList,c.knd.is k e.2=true:=fun k=>by
   have e1:ib c (ys.erase n) k=true↔k∈(ys.erase n).map c.S:=by
    rw[List.any_eq_true,List.mem_map];constructor;·intro zp6;refine ar zp6 ?_;intro m M N;exact⟨m,M,of_decide_eq_true N⟩
    ·intro zp7;refine ar zp7 ?_;intro m M N;exact⟨m,M,by simp[N]⟩
   rw[e1,<-Z.mem_iff,i8 _ _ f,List.mem_map];constructor
   ·intro J;refine ar J ?_;clear J;intro e j v;obtain rfl:=v;refine Zx (D e (List.mem_of_mem_eraseIdx j)) fun p g=>?_;refine⟨e,j,?_⟩;rw[g];exact strKind_is c.prog c.w _ p
   ·intro zp9;refine ar zp9 ?_;intro e j U;refine Zx (Value.isStrOf_shape (show Value.isStrOf k e.2=true from U)) fun p g=>?_;exact⟨e,j,(g▸rfl)⟩
  refine Za (SetOf_store (knd:=c.knd) L P hd y Y hz ((gK _ _ f)▸vL R f)) fun hg x=>?_;have C:(SetTable.eraseAt es i).size=(ys.erase n).length:=((gK _ _ f)▸(List.length_erase_of_mem b)▸G▸rfl)
  rw[C] at x;have V:(ys.erase n).length<=1000:=((List.length_erase_of_mem b)▸Zk (Nat.sub_le _ _) X)
  exact Zi ⟨_,rfl,PE.setTo (tk:=s.toks+1) (I.tok (s.toks+1)) ht ha ow x (Zw ..) V .none q⟩
end
end
section
theorem vx:typeLookup (.type "list_reverseiterator") "__len__"=pure none:=by kernel_rfl
theorem w8:typeLookup (.type "list_reverseiterator") "__length_hint__"=pure (some (.builtin "list_reverseiterator.__length_hint__")):=by kernel_rfl
section
variable {prog:Program}{w:World}{A:Around}{E:Value->Shared->Prop}{s:Shared}
theorem qD{I l:Addr}{items:Array Value}{Q:Value->Shared->Prop}(R:A.handled=none)(C:l≠I)(K:s.heap.IsList l items)(J:s.heap.IsRevIter I l ((items.size:Int) - 1))(D:items.size<=sizeLine)(O:∀h' tk acc y,(∀b o,b≠I->s.heap.get? b=some o->h'.get? b=some o)->h'.get? s.heap.objs.size=some { cls:=.type "list",dict:=none,data:=.seq acc y,slots:=#[] }->ItemsOf (fun i v=>items[items.size - 1 - i]?=some v) acc items.size->Q (.ref s.heap.objs.size) { s with heap:=h',toks:=tk }) :
  wpAny (model prog w) A (call (.type "list") [.ref I]) Q E s:=by
 have W:=(Walks.listRev (prog:=prog) (w:=w) (A:=A.in1.in1) R I l C items).toS;have h:I<s.heap.objs.size:=by refine ar J fun o e _=>?_;exact Zy e
 have q:l<s.heap.objs.size:=by refine ar K fun o e _=>?_;exact Zy e
 have B:∀b∈[I,l],b<s.heap.objs.size:=fun b n=>by
  rcases List.mem_cons.mp n with e|n;·rw[e];exact h
  ·rw[List.mem_singleton.mp n];exact q
 have k:s.heap.objs.size∉[I,l]:=fun x=>Nat.lt_irrefl _ (B _ x);have z:s.heap.objs.size≠I:=fun e=>k (e▸Ze);refine callType_codes (Q₁:=fun obj d=>obj=.ref s.heap.objs.size/\d={ s with heap:=s.heap.push { cls:=.type "list",data:=.seq #[] } }) PySem.F.called_list (PySem.F.typeCall_list_1 _) PySem.F.entry_list_init
  (code_list_new _ ⟨rfl,rfl⟩) fun obj d t=>?_
 refine Za t fun G H=>?_;obtain rfl:=G;obtain rfl:=H;have hS:(s.heap.push { cls:=.type "list",data:=.seq #[] }).get? s.heap.objs.size=some { cls:=.type "list",data:=.seq #[] }:=Zq _ rfl;refine A3 ⟨_,hS,rfl⟩ (PySem.F.args_list_init_2 _ _) ?_;show wpAny _ A.in1.in1 (do let old <-Builtin.List.listItems (.ref s.heap.objs.size);Builtin.List.listUpdate (.ref s.heap.objs.size) (fun _=>#[]);letGo old.toList.reverse;Builtin.List.listExtendWith (.ref s.heap.objs.size) (.ref I) .none) _ _ _;refine Zf ?_;refine Zf (wpAny_seqItems hS rfl (Zi ?_));refine Zf (wpAny_updateSeq hS rfl ?_);have a:=Heap.get?_update_self (Obj.mapSeq (fun _=>(#[]:Array Value))) hS rfl;refine Zf (wpAny_letGo ?_);have old:∀b o,s.heap.get? b=some o->((s.heap.push { cls:=.type "list",data:=.seq #[] }).update s.heap.objs.size (Obj.mapSeq (fun _=>(#[]:Array Value)))).get? b=some o:=
  fun b o e=>(Heap.get?_update_other _ _ (Zn (Zy e))).trans (Zl _ e)
 generalize (s.heap.push { cls:=.type "list",data:=.seq #[] }).update s.heap.objs.size (Obj.mapSeq (fun _=>(#[]:Array Value)))=h2 at a old ⊢;have f:(fun(i:Nat)(s:Shared)=>i<=items.size/\s.heap.IsRevIter I l ((items.size:Int) - 1 - (i:Int))/\s.heap.IsList l items) 0 { s with heap:=h2 }:=by
  refine A3 (Nat.zero_le _) ?_ ?_
  ·refine bz J fun o e P hd=>?_;exact⟨o,A3 (old _ _ e) P (by rw[hd];simp)⟩
  ·refine ar K fun o e r=>?_;exact⟨o,old _ _ e,r⟩
 have u:Shared.TypeIs { s with heap:=h2 } (.ref I) "list_reverseiterator":=f.2.1.typeIs;have N:Builtin.List.listSameRef (.ref s.heap.objs.size) (.ref I)=false:=if_neg z;refine Zf (wpAny_typeOf u ?_);refine wpAny_ite_false (decide_eq_false (by rw[N];decide)) ?_;refine Zf (W.self 0 _ _ _ f ?_);refine Zf (wpAny_holding ?_);refine Zf (wpAny_specialOf u vx ?_);refine Zf (wpAny_specialOf u w8 ?_);generalize p:("list_reverseiterator.__length_hint__" : String)=id0
 wp_delta
 refine(show splitId id0=some ("list_reverseiterator","__length_hint__") from by subst p;decide +kernel)▸?_;subst p;refine Zf (wpAny_isInstance (b:=true) u (by rw[isSubtype_type];kernel_rfl) ?_);refine Zi ?_;refine Zi ⟨plainId_quiet PySem.F.plain_extend_loop _,codeAny_extend_loopS W D _ k _ items.size 0 _ #[] _ rfl (Nat.zero_le _) f a (ItemsOf.nil _) fun L g y x j m=>?_⟩;rw[Moved.eq_with x] at j ⊢;refine⟨rfl,O L.heap L.toks g y (fun b o n e=>x.heap b o (fun c=>?_) (old b o e)) j m⟩;rcases List.mem_cons.mp c with M|c;·exact absurd (Zy e) (M▸Nat.lt_irrefl _)
 ·exact n (List.mem_singleton.mp c)
end
section
variable {c:Cx}{sc:Scope}{lv:Nat}{a:Env}
theorem gJ{M:Model}{A:Around}{E:Value->Shared->Prop}{s:Shared}{f:Value}{e:Expr}{pos:Pos}{R:Args->Shared->Prop}(d:starEach [e] a=(false,eval e a)::starEach [] a)(h:wpAny M A (eval e a) (fun v b=>R ⟨[v],[]⟩ b) E s) :
  wpAny M A (PySem.evalArgs f true (backTo pos (starEach [e] a)) []) R E s:=by
 refine d▸?_;refine evalArgs_plain ?_;show wpAny M A (do let v <-eval e a;let here <-pure [v];return here++(<-holding here (PySem.spliced (backTo pos (starEach [] a))))) _ _ _;refine Zf (Zg h (fun v b z=>?_) fun _ _ z=>z);exact Zf (Zi (Zf (wpAny_holding (Zi (Zi z)))))
def AQ(f:ap):ap:=fun d Q=>f d fun v b=>∃xs,bc b.H v=some xs/\newL xs.reverse b Q
theorem uJ{n1 n2:Str}{p1 p2 pos F:Pos}{e:Expr}{f:ap}(h1:CE c sc lv (.Name n1 p1) (ie (.type "list")))(h2:CE c sc lv (.Name n2 p2) (ie (.type "reversed")))(h:CE c sc lv e f)(hs:∀a,starEach [e] a=(false,eval e a)::starEach [] a:=by intros;rfl):CE c sc lv (.Call (.Name n1 p1) [.Call (.Name n2 p2) [e] [] F] [] pos) (AQ f):=by
 intro a A W Kp σ s Q E S O H I q;refine wpAny_Call_NameR (h1.use (Q:=fun v σ'=>v=.raw (.type "list")/\σ'=σ) S O H I ⟨rfl,rfl⟩ fun W1 y σ1 v s1 V I1 r1 zp1=>?_);refine Za zp1 fun K L=>?_;subst K L;refine r1.of_raw▸?_;refine callWith_of (P:=fun _=>True) rfl (fun T _=>eF rfl T) (gJ rfl ?_);refine wpAny_Call_NameR (h2.use (Q:=fun v σ'=>v=.raw (.type "reversed")/\σ'=σ1) S O H I1 ⟨rfl,rfl⟩ fun W2 y2 σ2 v2 s2 X I2 r2 zp2=>?_);refine Za zp2 fun M N=>?_;subst M N;refine r2.of_raw▸?_;refine callWith_of (P:=fun _=>True) (by rw[hs];rfl) (fun T _=>eF rfl T) (gJ (hs a) ?_);refine h.use S O H I2 q fun W3 x σ3 u p Y G r3 zp3=>?_;refine ar zp3 fun xs hx qn=>?_;refine⟨trivial,?_⟩;apply cR G.inv r3 hx;intro l us n g D B;have d:=D.length;have U:=Zy g;refine call_reversed_list (aT g) ⟨trivial,?_⟩;have I4:=G.grow (tk:=p.toks) (h':=p.heap.push (revObj l ((us.toArray.size:Int) - 1))) fun b o e=>Zl _ e;have Z:=Offs.one G;have C:(p.heap.push (revObj l ((us.toArray.size:Int) - 1))).objs.size=p.heap.objs.size+1:=Heap.size_push ..;refine qD (items:=us.toArray) H.handled (Zh U) ((aT g).push _) ⟨_,A3 (Zq _ rfl) rfl rfl⟩ (List.size_toArray▸d▸sizeLine_eq▸av 0 100000 0 16777216 B rfl) fun h' tk acc c' k gD z=>?_;have I5:=I4.one (tk:=tk) (h':=h') Z fun b o R e=>k b o R e;have key:PE c W3 Kp a Q (.ref (p.heap.objs.size+1)) { p with heap:=h',toks:=tk }:=by
  refine PE.adoptL (xs:=xs.reverse) (vs:=acc.toList) (n:=c') I5 (Offs.fresh G fun b R=>by rw[List.mem_singleton.mp R];exact Zz _) (VRs.of_list ?_ fun i v x hv m=>?_) qn ?_;·have:=z.1;refine List.length_reverse.symm▸d▸?_;exact this
  ·have j:=z.2 i v (by simpa using hv);have t:i<xs.length:=by have:=(List.getElem?_eq_some_iff.mp m).1;simpa using this
   rw[List.getElem?_reverse t] at m;refine ar (D.get m) fun w hw rw'=>?_;replace j:=d▸List.size_toArray▸j;have J:us[xs.length - 1 - i]?=some v:=by simpa using j
   replace J:=hw.symm.trans J;obtain rfl:=Zb J;exact rw'
  ·have r:=gD;rw[C] at r;exact r
 rw[C];exact key.le ((V.trans X).trans Y)
end
end
section
structure qo(c:Cx)(Ca:Addr)(name:Str)(f:Value):Prop where
 hg:specialIn c.K (.ref Ca) "__getattribute__"=some (some (.builtin "type.__getattribute__"))
 ex:∃mc p rest,readsIn c.K Ca mc=true/\findCls c.K (.ref Ca) mc name=some (.get (.builtin "staticmethod.__get__") (.ref p) .none (.ref Ca))/\recIn c.K p "staticmethod"=some (f::rest)
 hv:handedIn f=true
 hk:keepIn c.K f=true
structure oS(c:Cx)(C:Nat)(name:Str)(f:Value):Prop where
 ex:∃cd p rest,clsIn c.K (c.cls C)=some cd/\cd.hasDict=true/\(copiedNames.contains name&&(cd.mro.isEmpty||cd.mro.contains (.type "staticmethod")||cd.mro.contains (.type "classmethod")))=false/\findIn c.K (.ref (c.cls C)) name=some (some (.ref p))/\specialIn c.K (.ref p) "__get__"=some (some (.builtin "staticmethod.__get__"))/\takesIn c.K (.ref p)=some false/\
  (typeIn c.K (.ref p)).any (fun t=>t != .type "function"&&t != .type "method_descriptor"&&t != .type "wrapper_descriptor")=true/\recIn c.K p "staticmethod"=some (f::rest)
 hv:handedIn f=true
 hk:keepIn c.K f=true
section
variable {c:Cx}{sc:Scope}{lv:Nat}
theorem ly{n x:Str}{u a pos:Pos}{es:List Expr}{fs:List ap}{e:Addr}{f:Value}{g:List MV->List MV->ap}(h0:CE c sc lv (.Name n u) (ie (.ref e)))(o:qo c e x f)(L:FOp c lv f [] g)(h:CEs c sc lv es fs)(k:fW (.Name n u) x a pos es []) :CE c sc lv (.Call (.Attribute (.Name n u) x a) es [] pos) (db g fs []):=by
 intro b A W Kp V s Q E C j i I q;refine Zx (k b) fun pl k=>?_;obtain⟨l,⟨mc,p,D,O,J,N⟩,R,m⟩:=o;refine methodCall_KW (pl:=pl) (h0.use (Q:=fun v σ'=>v=.raw (.ref e)/\σ'=V) C j i I ⟨rfl,rfl⟩ fun W1 y Y v s1 r d T w=>?_) k;refine Za w fun G H=>?_;subst G H;refine T.of_raw▸?_;refine method_cls d.inv.KIn l ?_;refine cls_bind d.inv.KIn O J (wpAny_call (sm_get (s:={ s1 with toks:=s1.toks+1 }) (d.tok _).inv.KIn N (handed_on R ?_)));have F:=d.tok (s1.toks+1);refine callWith_of (P:=fun h=>c.K.In h) (keywords:=[]) (by rw[(h.plainArgs pos b).1];rfl) (fun M X=>keeps_K m M X) ?_;refine h.evalArgs C j i F q fun W2 vs xs Z s2 t B U S=>⟨B.inv.KIn,?_⟩
 exact Zg (L.call (ks:=[]) (ys:=[]) j i B U .nil rfl S) (fun _ _ z=>z.le (r.trans t)) fun _ _ z=>z
def sV(C n:Nat)(g:List MV->List MV->ap)(a:ap)(fs:List ap):ap:=fun e Q=>a e fun x b=>∃t es,x=.tag t/\b.H t=some (.inst C es)/\es.lookup n=none/\bV fs b fun xs d=>g xs [] d Q
theorem pL{o:Expr}{x:Str}{b pos:Pos}{es:List Expr}{fs:List ap}{a:ap}{f:Value}{g:List MV->List MV->ap}(C n:Nat)(hn:c.S n=x)(h0:CE c sc lv o a)(H:oS c C x f)(hg:FOp c lv f [] g)(h:CEs c sc lv es fs)(u:fW o x b pos es []) :CE c sc lv (.Call (.Attribute o x b) es [] pos) (sV C n g a fs):=by
 subst hn;intro j A W Kp σ s Q E V m l I q;refine Zx (u j) fun pl u=>?_;obtain⟨⟨cd,p,Z,w,e,B,Y,G,J,L,hp⟩,hv,F⟩:=H;refine methodCall_KW (pl:=pl) (h0.use V m l I q fun W1 y σ1 v s1 M i r1 O=>?_) u;refine ci O fun t es' hy ht R=>?_;obtain⟨hl,q1⟩:=R;subst hy;apply kb i.inv r1 ht;intro a' d kvs od ha ho X;have k:=c.cls_facts X.C4;have U:=X.look (c.S n);have e2:=X.kv.none hl;rw[e2] at U;have D:findObj c.K (c.cls C) (some od) (c.S n)=some (.bind (.builtin "staticmethod.__get__") (.ref p)):=by
  exact(congrArg (Option.bind · _) w).trans ((congrArg (Option.bind · _) Y).trans ((congrArg (Option.bind · _) G).trans ((congrArg (Option.bind · _) J).trans ((congrArg (Option.bind · _) ((if_pos e).trans U)).trans (if_neg fun z=>jU (B.symm.trans z))))))
 refine method_usual (r:=some (.ref p)) i.inv.KIn X.inst k.ga k.gat Y L ?_;refine get_bind i.inv.KIn X.inst k.ga D k.gat (wpAny_call (sm_get (s:={ s1 with toks:=s1.toks+1 }) (i.tok _).inv.KIn hp (handed_on hv ?_)));have I2:=i.tok (s1.toks+1);refine callWith_of (P:=fun h=>c.K.In h) (keywords:=[]) (by rw[(h.plainArgs pos j).1];rfl) (fun hh X=>keeps_K F hh X) ?_;refine h.evalArgs V m l I2 q1 fun W2 vs xs σ2 s2 N T r2 q2=>⟨T.inv.KIn,?_⟩
 exact Zg (hg.call (ks:=[]) (ys:=[]) m l T r2 .nil rfl q2) (fun _ _ z=>z.le (M.trans N)) fun _ _ z=>z
end
end
section
def g7(t:MT)(b:MS):Nat->MS
 |0=>fun _ _=>False
 |n+1=>fun d Q=>t d fun r c=>match r with
  |false=>Q .next c
  |true=>b c fun f a=>match f with
   |.next=>g7 t b n a Q
   |.cont=>g7 t b n a Q
   |.brk=>Q .next a
   |.ret v=>Q (.ret v) a
def q6(t:MT)(b:MS):MS:=fun a Q=>∃n,g7 t b n a Q
section
variable {c:Cx}{sc:Scope}{lv:Nat}
theorem nV{e:Expr}{body:List Stmt}{pos:Pos}{t:MT}{b:MS}(K:CT c sc lv e t)(J:CSs c sc lv body b):CS c sc lv (.While e body [] pos) (q6 t b):=by
 intro j A W Kp N s Q E C B y I u;refine Zx u fun n q=>?_;refine wpAny_While (codeAny_whileLoop (fun n G=>∃p σ',W.le p/\InvF c p Kp j σ' G/\g7 t b n σ' Q) ?_ n (E2 W N (A3 (.refl W) I q)));intro n G v;refine ci v fun p σ' a H D=>?_;induction n with
 |zero=>exact D.elim
 |succ n=>
  refine K.use C B y H D fun x k r s1 d w F=>?_;induction r with
  |false=>
   exact wpAny_execs_nil ⟨x,E2 _ k (A4 (a.trans d) w .next F)⟩
  |true=>
   refine Zg (J j A x Kp k s1 _ _ C B y w F) (fun f O M=>M.ex fun m g i h l L o=>?_) fun _ _ z=>z;induction L with
   |next=>exact⟨n,Zr _,E2 m i (A3 ((a.trans d).trans h) l o)⟩
   |cont=>exact⟨n,Zr _,E2 m i (A3 ((a.trans d).trans h) l o)⟩
   |brk=>exact⟨m,E2 _ i (A4 ((a.trans d).trans h) l .next o)⟩
   |ret r=>exact⟨m,E2 _ i (A4 ((a.trans d).trans h) l (.ret r) o)⟩
end
abbrev MX:=AS->(aE->AS->Prop)->(AS->Prop)->Prop
def PX(c:Cx)(g:Addr)(W:Wd)(Kp:aA)(a:Env)(X:AS->Prop)(e:Value)(f:Shared):Prop:=
 ∃b σ' h0 d vs,e=.ref d/\W.le b/\InvF c b Kp a σ' { f with heap:=h0 }/\Heap.MadeExcOf h0 f.heap d (.ref g) vs/\X σ'
theorem PX.le{c:Cx}{i:Addr}{W j:Wd}{Kp:aA}{f:Env}{X:AS->Prop}{e:Value}{s:Shared}(le:W.le j)(x:PX c i j Kp f X e s):PX c i W Kp f X e s:=by
 refine jE x fun g l h=>?_;refine eY h fun h0 k vs a b d=>?_;exact⟨g,E4 l h0 k vs (A3 a (le.trans b) d)⟩
def CX(c:Cx)(f:Addr)(sc:Scope)(lv:Nat)(st:Stmt)(g:MX):Prop:=
 ∀(a:Env)(A:Around)(W:Wd)(Kp:aA)(d:AS)(s:Shared)(Q:aE->AS->Prop)(X:AS->Prop)(E:Value->Shared->Prop),
  a.scope=sc->cv a->AOK c lv A Kp a->InvF c W Kp a d s->(∀e b,PX c f W Kp a X e b->E e b)->g d Q X->wpAny c.M A (exec st a) (PS c W Kp a Q) E s
def qQ(c:Cx)(h:Addr)(sc:Scope)(lv:Nat)(b:List Stmt)(g:MX):Prop:=
 ∀(a:Env)(A:Around)(W:Wd)(Kp:aA)(f:AS)(s:Shared)(Q:aE->AS->Prop)(X:AS->Prop)(E:Value->Shared->Prop),
  a.scope=sc->cv a->AOK c lv A Kp a->InvF c W Kp a f s->(∀e d,PX c h W Kp a X e d->E e d)->g f Q X->wpAny c.M A (execs b a) (PS c W Kp a Q) E s
def zg(c:Cx)(f:Addr)(sc:Scope)(lv:Nat)(st:Stmt)(g:MX):Prop:=
 ∀(a:Env)(A:Around)(W:Wd)(Kp:aA)(d:AS)(s:Shared)(Q:aE->AS->Prop)(X:AS->Prop)(E:Value->Shared->Prop),
  a.scope=sc->cv a->AOK c lv A Kp a->InvF c W Kp a d s->PassesOwn c.M A a E->(∀e b,PX c f W Kp a X e b->E e b)->g d Q X->wpAny c.M A (exec st a) (PS c W Kp a Q) E s
def tJ(c:Cx)(h:Addr)(sc:Scope)(lv:Nat)(b:List Stmt)(g:MX):Prop:=
 ∀(a:Env)(A:Around)(W:Wd)(Kp:aA)(f:AS)(s:Shared)(Q:aE->AS->Prop)(X:AS->Prop)(E:Value->Shared->Prop),
  a.scope=sc->cv a->AOK c lv A Kp a->InvF c W Kp a f s->PassesOwn c.M A a E->(∀e d,PX c h W Kp a X e d->E e d)->g f Q X->wpAny c.M A (execs b a) (PS c W Kp a Q) E s
def xS(f:MS):MX:=fun a Q X=>f a Q
def lz(a b:MX):MX:=fun d Q X=>a d (fun f c=>match f with|.next=>b c Q X|.brk=>Q .brk c|.cont=>Q .cont c|.ret v=>Q (.ret v) c) X
def pM(t:MT)(a b:MX):MX:=fun d Q X=>t d fun r c=>match r with|true=>a c Q X|false=>b c Q X
def qV(f:ap):MX:=fun b Q X=>f b fun v a=>X a
def kR(t:MT)(b:MX):Nat->MX
 |0=>fun _ _ _=>False
 |n+1=>fun d Q X=>t d fun r c=>match r with
  |false=>Q .next c
  |true=>b c (fun f a=>match f with
   |.next=>kR t b n a Q X
   |.cont=>kR t b n a Q X
   |.brk=>Q .next a
   |.ret v=>Q (.ret v) a) X
def zv(t:MT)(b:MX):MX:=fun a Q X=>∃n,kR t b n a Q X
section
variable {c:Cx}{d:Addr}{sc:Scope}{lv:Nat}
theorem Bi{st:Stmt}{g:MS}(h:CS c sc lv st g):CX c d sc lv st (xS g):=fun a A W Kp i s Q X E f e b I _ q=>h a A W Kp i s Q E f e b I q
theorem ox{a:List Stmt}{g:MS}(h:CSs c sc lv a g):qQ c d sc lv a (xS g):=fun b A W Kp j s Q X E i f e I _ q=>h b A W Kp j s Q E i f e I q
theorem Ar{st:Stmt}{g:MS}(h:CS c sc lv st g):zg c d sc lv st (xS g):=fun a A W Kp i s Q X E f e b I _ _ q=>h a A W Kp i s Q E f e b I q
theorem nU{st:Stmt}{k:List Stmt}{a b:MX}(h:CX c d sc lv st a)(t:qQ c d sc lv k b):qQ c d sc lv (st::k) (lz a b):=by
 intro l A W Kp B s Q X E v r p I u q;refine wpAny_execs_cons (Zg (h l A W Kp B s _ X E v r p I u q) (fun f s1 y=>y.ex fun n g j i m w o=>?_) fun _ _ z=>z);induction w with
 |next=>exact Zg (t l A n Kp j s1 Q X E v r p m (fun e x z=>u e x (z.le i)) o) (fun _ _ z=>z.le i) fun _ _ z=>z
 |brk=>exact⟨n,E2 _ j (A4 i m .brk o)⟩
 |cont=>exact⟨n,E2 _ j (A4 i m .cont o)⟩
 |ret h=>exact⟨n,E2 _ j (A4 i m (.ret h) o)⟩
theorem tu{st:Stmt}{a:MX}(h:CX c d sc lv st a):qQ c d sc lv [st] a:=by
 intro l A W Kp u s Q X E p n m I o q;refine wpAny_execs_cons (Zg (h l A W Kp u s _ X E p n m I o q) (fun f s1 t=>t.ex fun j g e b i r k=>?_) fun _ _ z=>z);induction r with
 |next=>exact wpAny_execs_nil ⟨j,E2 _ e (A4 b i .next k)⟩
 |brk=>exact⟨j,E2 _ e (A4 b i .brk k)⟩
 |cont=>exact⟨j,E2 _ e (A4 b i .cont k)⟩
 |ret h=>exact⟨j,E2 _ e (A4 b i (.ret h) k)⟩
theorem qp{st:Stmt}{k:List Stmt}{a b:MX}(h:zg c d sc lv st a)(t:tJ c d sc lv k b):tJ c d sc lv (st::k) (lz a b):=by
 intro l A W Kp C s Q X E w r p I u v q;refine wpAny_execs_cons (Zg (h l A W Kp C s _ X E w r p I u v q) (fun f s1 B=>B.ex fun n g j i m x o=>?_) fun _ _ z=>z);induction x with
 |next=>exact Zg (t l A n Kp j s1 Q X E w r p m u (fun e y z=>v e y (z.le i)) o) (fun _ _ z=>z.le i) fun _ _ z=>z
 |brk=>exact⟨n,E2 _ j (A4 i m .brk o)⟩
 |cont=>exact⟨n,E2 _ j (A4 i m .cont o)⟩
 |ret h=>exact⟨n,E2 _ j (A4 i m (.ret h) o)⟩
theorem xv:tJ c d sc lv [] (xS bn):=fun a A W Kp b s Q X E g f e I _ _ q=>wpAny_execs_nil ⟨W,E2 _ b (A4 (.refl W) I .next q)⟩
theorem tT{e:Expr}{p u:List Stmt}{t:MT}{a b:MX}{pos:Pos}(h:CT c sc lv e t)(x:qQ c d sc lv p a)(y:qQ c d sc lv u b):CX c d sc lv (.If e p u pos) (pM t a b):=by
 intro g A W Kp B s Q X E l k j I v q;refine wpAny_If (h.use l k j I q fun o i r s1 f n w=>?_);induction r;·exact Zg (y g A o Kp i s1 Q X E l k j n (fun e m z=>v e m (z.le f)) w) (fun _ _ z=>z.le f) fun _ _ z=>z
 ·exact Zg (x g A o Kp i s1 Q X E l k j n (fun e m z=>v e m (z.le f)) w) (fun _ _ z=>z.le f) fun _ _ z=>z
theorem vP{e:Expr}{body:List Stmt}{pos:Pos}{t:MT}{b:MX}(N:CT c sc lv e t)(M:qQ c d sc lv body b):zg c d sc lv (.While e body [] pos) (zv t b):=by
 intro k A W Kp R s Q X E F D C I K L w;refine Zx w fun n q=>?_;refine wpAny_While (codeAny_whileLoop (fun n l=>∃v σ',W.le v/\InvF c v Kp k σ' l/\kR t b n σ' Q X) ?_ n (E2 W R (A3 (.refl W) I q)));intro n l x;refine ci x fun v σ' a J G=>?_;induction n with
 |zero=>exact G.elim
 |succ n=>
  refine N.use F D C J G fun B m r s1 h y H=>?_;induction r with
  |false=>
   exact wpAny_execs_nil ⟨B,E2 _ m (A4 (a.trans h) y .next H)⟩
  |true=>
   refine Zg (M k A B Kp m s1 _ X _ F D C y (fun e l z=>K e l (L e l (z.le (a.trans h)))) H) (fun f S P=>P.ex fun p g j i o O u=>?_) fun _ _ z=>z;induction O with
   |next=>exact⟨n,Zr _,E2 p j (A3 ((a.trans h).trans i) o u)⟩
   |cont=>exact⟨n,Zr _,E2 p j (A3 ((a.trans h).trans i) o u)⟩
   |brk=>exact⟨p,E2 _ j (A4 ((a.trans h).trans i) o .next u)⟩
   |ret r=>exact⟨p,E2 _ j (A4 ((a.trans h).trans i) o (.ret r) u)⟩
theorem rE{x:Str}{C:Addr}{bm:List Value}{a:String}{mg:Str->Option Value}{h:Heap}{P:Prop}(O:OwnCls x C bm a mg h)(k:∀tl N nm q bs hdct sn sub ab col dd k0 k1 k2 k3 k5 mN,h.get? C=some (excClassObj nm q C N bs tl hdct sn sub ab col dd k0 k1 k2 k3 k5 a)->h.Ns N mN->mN "__init__"=none->OwnTail h bm tl->P):P:=
 qm O.obj fun tl N nm f bs hdct sn sub z=>qm z fun ab col dd k0 k1 k2 k3 k5 z=>eW z fun mN e hN b T=>k tl N nm f bs hdct sn sub ab col dd k0 k1 k2 k3 k5 mN e hN b T
theorem xy{x:Str}{z g pos:Pos}{j:Expr}{f:ap}{bm:List Value}{b B initId:String}(O:OwnCls x d bm b c.mg c.B)(r:ExcBaseFacts B b initId bm)(h0:CE c sc lv (.Name x z) (ie (.ref d)))(h:CE c sc lv j f)(w:∀a,starEach [j] a=(false,eval j a)::starEach [] a:=by intros;rfl):CX c d sc lv (.Raise (some (.Call (.Name x z) [j] [] g)) none pos) (qV f):=by
 intro a A W Kp U s Q X E u t k I K q;refine rE O fun tl N nm M bs hdct sn sub ab col dd k0 k1 k2 k3 k5 mN J hN l T=>?_;refine wpAny_Raise_call_subT (C:=d) (nm:=nm) (q:=M) (N:=N) (bs:=bs) (bm:=tl) (hdct:=hdct) (sn:=sn) (sub:=sub) (ab:=ab) (col:=col) (dd:=dd) (k0:=k0) (k1:=k1) (k2:=k2) (k3:=k3) (k5:=k5)
  r (mN:=mN) (T.hasType r.hasBase) k.handled (by rw[w];rfl) l ?_
 refine h0.use (Q:=fun v σ'=>v=.raw (.ref d)/\σ'=U) u t k I ⟨rfl,rfl⟩ fun Y y V v s1 m D R o=>?_;refine Za o fun G H=>?_;subst G H;refine⟨R.of_raw,gJ (w a) (h.use u t k D q fun F y2 p v2 S n i Z P=>?_)⟩;refine A6 rfl (by show 1<=sizeLine;refine sizeLine_eq.symm▸?_;exact Zo _ _) (i.inv.keeps _ _ J) (hN.keeps i.inv.keeps) (T.keeps i.inv.keeps) (fun h' e L=>K _ _ ⟨F,E4 p S.heap e _ (A5 rfl (m.trans n) i L P)⟩)
end
end
section
section
variable {c:Cx}{j:Addr}{sc:Scope}{lv:Nat}{W k:Wd}{Kp:aA}{d:Env}{i:AS}{s:Shared}{A:Around}
theorem InvF.slots{h:Heap}{tk:Nat}(I:InvF c W Kp d i s)(n:List Addr)(p:∀b∈n,W.own b=none/\W.F b=none/\c.B.get? b=none/\∀o f,Kp b=some (o,f)->f=true)(k1:∀b o,b∉n->s.heap.get? b=some o->h.get? b=some o)(k2:∀b∈n,∀o,s.heap.get? b=some o->∃o',h.get? b=some o'/\UpS o o'):InvF c W Kp d i { s with heap:=h,toks:=tk }:=by
 have C:∀b o,s.heap.get? b=some o->∃o',h.get? b=some o'/\UpS o o':=fun b o e=>by
  by_cases l:b∈n;·exact k2 b l o e
  ·exact⟨o,k1 b o l e,.refl o⟩
 refine⟨⟨I.inv.base,fun a o e=>?_,fun a o e=>k1 a o (fun m=>by rw[(p a m).2.1] at e;exact aQ e) (I.inv.frz a o e),I.inv.kpF,fun t o e=>?_,I.inv.dom,fun a t e=>?_,I.inv.kpOwn,I.inv.fOwn,I.inv.os,I.inv.gens,I.inv.emp,fun a o e=>k1 a o (fun m=>by rw[(p a m).2.2.1] at e;exact aQ e) (I.inv.keepB a o e),I.inv.tab⟩,?_⟩
 ·refine ar (I.inv.kept a o e) fun o' g q=>?_;by_cases l:a∈n
  ·refine ar (k2 a l o' g) fun w u y=>?_;obtain⟨o,f⟩:=o;have v:=(p a l).2.2.2 o f e;subst v;exact⟨w,u,q.1.trans y,fun z=>qO z⟩
  ·exact⟨o',k1 a o' l g,q⟩
 ·exact(I.inv.objs t o e).frame (.refl W) fun b x r g=>k1 b x (fun m=>by rw[(p b m).1] at r;exact aQ r) g
 ·refine Zx (I.inv.old a t e) fun o g=>?_;exact⟨o,k1 a o (fun m=>by rw[(p a m).1] at e;exact aQ e) g⟩
 ·exact I.fm.moveS (.refl W) (fun b l=>⟨(I.fm.out b l).1,(I.fm.out b l).2.1⟩) fun b o _ g=>C b o g
theorem mQ{h:Heap}{as:List Addr}:∀{b:List Env},(∀e∈b,e.scope.kind≠.module/\∃L o,e.frame=some L/\h.get? L=some o/\∀vs,o.data≠.fields vs)->(∀e∈b,∀a,e.frame=some a->a∈as)->h.FunFrames (hideAll h as) b
 |[],_,_=>trivial
 |e::b,hx,hin=>by
  refine vl (hx e Ze) fun m L o l n p=>?_;exact⟨m,(E2 L o (A4 l (hideAll_none _ (hin e Ze L l)) n p)),mQ (fun f g=>hx f (Zc _ g)) fun f g=>hin f (Zc _ g)⟩
def AG(c:Cx)(j:Addr)(A:Around)(W:Wd)(Kp:aA)(d:Env)(m:List (Nat×MV))(X:AS->Prop)(e:Value)(b:Shared):Prop:=
 ∃k σ' f base h g,e=.ref f/\W.le k/\X σ'/\σ'.m=m/\A.frames=some g/\Heap.FlyingW base g f (.ref j) h b.heap/\∀a tk,base.StaysIn a->b.heap.UpToSlots a->InvF c k Kp d σ' { b with heap:=a,toks:=tk }
def Bt(c:Cx)(j:Addr)(A:Around)(W:Wd)(Kp:aA)(d:Env)(m:List (Nat×MV))(Q:MV->AS->Prop)(X:AS->Prop)(r:Result)(a:Shared):Prop:=match r with
 |.ok (.ret v)=>PE c W Kp d Q v a
 |.ok _=>False
 |.error e=>AG c j A W Kp d m X e a
abbrev qP:=List MV->List MV->AS->(MV->AS->Prop)->(AS->Prop)->Prop
def tI(c:Cx)(j:Addr)(lv:Nat)(f:Value)(a:List Str)(g:qP):Prop:=
 ∀(d:Env)(A:Around)(W:Wd)(Kp:aA)(i:AS)(s:Shared)(Q:MV->AS->Prop)(X:AS->Prop)(vs ks:List Value)(xs ys:List MV),cv d->AOK c lv A Kp d->InvF c W Kp d i s->VRs c.S W vs xs->VRs c.S W ks ys->ys.length=a.length->g xs ys i Q X->
  codeAny c.M A (.call f ⟨vs,a.zip ks⟩) (Bt c j A W Kp d i.m Q X) s
def zh(n:Nat)(b:List Nat)(bm:List MV->List MV->List MV)(body:MX):qP:=fun xs ys i Q X=>
 xs.length=n/\body ⟨i.H,i.nx,b.zip (bm xs ys)⟩ (fun a σ'=>Q (i9 a) ⟨σ'.H,σ'.nx,i.m⟩) fun σ'=>X ⟨σ'.H,σ'.nx,i.m⟩
theorem xr{f:Addr}{kn:List Str}{n:Nat}{ps:List Nat}{bm:List MV->List MV->List MV}{name v:Str}{a:Arguments}{F:List Stmt}{sc:Scope}{dV kV Y pm O ct oc:Value}{an od:Option Addr}{osl:Array (Option Value)}{body:MX}(ho:c.K.lookup f=some ⟨oc,od,.func (fnX name v a F sc [] dV kV Y pm an O ct),osl⟩)(hcd:codeIn c.K O v=true)(J:Binds c (fnX name v a F sc [] dV kV Y pm an O ct) n kn ps bm)(hsc:fY sc=true)(hps:psOK c sc ps)(h:tJ c j sc lv F body) :
  tI c j (lv+1) (.ref f) kn (zh n ps bm body):=by
 refine iO hsc ?_;intro hk hco U hfree;intro d A W Kp i s Q X vs ks xs ys hE hA I hv hks hkl zp1;refine Za zp1 fun hn q=>?_;refine ar (J.go W s vs ks xs ys I.inv.KIn I.inv.emp hv hks hn hkl) fun us hbt hus=>?_;refine codeAny_call_function (fd:=fnX name v a F sc [] dV kV Y pm an O ct) (body:=F) (by have:=hA.depth;show A.depth<1000;exact NB this rfl) (I.inv.KIn _ _ ho) rfl hco U rfl (codeRec_of I.inv.KIn hcd) (hbt _ _ _ _ ?_);refine wpAny_newFunctionEnv_cells hk (fun p hp=>?_) fun env' l s1 x=>?_
 ·refine ar (dZ hp) fun y hy e=>?_;rw[e];exact(hps y hy).imp id fun z=>⟨z,cellsFrom_some _ _ _ (.inl z)⟩
 refine⟨I.inv.lim.keeps x.toInCall.keep,codeAny_func ?_⟩;refine br x.done fun h₁ tk G hkeep=>?_;obtain rfl:=G;have P:∀y,env'.kindOf (c.S y)≠some .free:=fun y=>by rw[l];exact fh hfree _
 have w:∀y,env'.kindOf (c.S y)=some .cell->∃b,env'.cells.lookup (c.S y)=some b:=fun y hy=>by
  rw[l] at hy ⊢;exact Option.isSome_iff_exists.mp (cellsFrom_some _ _ _ (.inl hy))
 have I1:InvF c W (jV c d Kp s.heap) env' ⟨i.H,i.nx,ps.zip (bm xs ys)⟩ { s with heap:=h₁,toks:=tk }:=
  ⟨I.enter.grown fun b o _ e=>hkeep b o e,Fm.fresh I x J.nd hus P w⟩
 have D:env'.frame=some env'.locals:=(l▸rfl)
 have hkind:env'.scope.kind=.function:=by rw[l];exact hk
 have hA':=hA.deeper (env':=env') I D hkind x.toInCall.fresh;have hE':cv env':=(l▸⟨hk,rfl,rfl,U,hco⟩)
 have hsc':env'.scope=sc:=by rw[l];rfl
 refine ar hA.frames fun T Z hh=>?_;refine ar hA'.frames fun fr' C hh'=>?_;have efr:fr'=env'::T:=by
  have:(A.deeper env').frames=some (env'::T):=Around.frames_deeper Z;replace C:=this.symm.trans C;exact(Zb C).symm
 subst efr;refine Zg (h _ _ W _ _ _ _ (fun σ'=>X ⟨σ'.H,σ'.nx,i.m⟩) _ hsc' hE' hA' I1 PassesOwn.leaving (fun e s2 z=>?_) q) (fun fl s2 z0=>z0.ex fun W2 g u E I2 r2 q2=>?_) fun _ _ z=>z
 ·refine jE z fun W2 u G=>?_;refine dM G fun h0 ea args G zq2=>?_;obtain rfl:=G;refine gm zq2 fun E I2 made hx=>?_;have hin:∀e∈(env'::T),∀b,e.frame=some b->b∈(env'::T).filterMap (·.frame):=fun e l b J=>List.mem_filterMap.mpr ⟨e,l,J⟩;have V:∀e∈(env'::T),e.scope.kind≠.module/\∃L o,e.frame=some L/\h0.get? L=some o/\∀vs,o.data≠.fields vs:=fun e l=>by
   refine oq (hh' e l) fun a1 L a2 R a4=>?_;refine⟨a1,L,?_⟩;rcases a4 with rfl|⟨o,p,N⟩
   ·refine bz (I2.fm.obj (b:=env'.locals) (.inl rfl)) fun o g _ N=>?_;exact⟨o,A3 a2 g N⟩
   ·refine ar (I2.inv.kept L _ p) fun o' g q'=>?_;exact⟨o',A3 a2 g (fun vs z=>N vs (q'.1.data.1.symm.trans z))⟩
  have I3:InvF c W2 Kp d ⟨u.H,u.nx,i.m⟩ { s2 with heap:=h0 }:=I.back E I2.inv;refine wpAny_leaves_madeW (base:=hideAll h0 ((env'::T).filterMap (·.frame))) (Around.frames_deeper Z) D (fun b o e=>of_hideAll _ e) (mQ V hin) made fun h' t x1 x2 x3 x4=>?_;refine⟨W2,E5 ⟨u.H,u.nx,i.m⟩ ea _ (.ref t) T (A7 rfl E hx rfl Z x1 (fun h'' tk' st up=>?_))⟩;refine I3.slots (tk:=tk') ((env'::T).filterMap (·.frame)) (fun b J=>?_) (fun b o J e=>st b o (hideAll_get _ e J)) fun b J o e=>?_
  ·refine ar (List.mem_filterMap.mp J) fun e l M=>?_;rcases List.mem_cons.mp l with rfl|l
   ·replace M:=D▸M;cases M;refine bM (I2.fm.out e.locals (.inl rfl)) fun o1 o2 o3=>?_;have N:Kp e.locals=none:=by
     cases q':Kp e.locals with
     |none=>rfl
     |some o'=>rw[I.kpx q'] at o3;exact jF o3
    refine A4 o1 o2 ?_ (fun o f z=>by rw[N] at z;exact aQ z);cases q':c.B.get? e.locals with
    |none=>rfl
    |some o'=>rw[I.inv.base _ _ q'] at N;exact jF N
   ·refine oq (hh e l) fun _ L a2 R a4=>?_;replace M:=a2▸M;cases M;rcases a4 with rfl|⟨o,p,_⟩
    ·refine bM (I3.fm.out d.locals (.inl rfl)) fun o1 o2 o3=>?_;exact A4 o1 o2 R (fun o f z=>by rw[o3] at z;exact aQ z)
    ·refine A4 (I3.inv.kpOwn _ _ p) (I3.inv.kpF _ _ p R) R (fun o' f z=>?_);replace z:=p▸z;cases z;rfl
  ·refine ar (List.mem_filterMap.mp J) fun e' l M=>?_;refine vl (V e' l) fun _ L o' a2 R N=>?_;replace M:=a2▸M;cases M;have e:h0.get? b=some o:=e;replace R:=e▸R;cases R;refine Zx (x4 b o (made.keeps _ _ e) N) fun sl g1=>?_;refine Zx (up b _ g1 N) fun sl2 g2=>?_;exact⟨_,g2,⟨sl2,rfl⟩⟩
 ·refine⟨W2,E2 (i9 g) ⟨u.H,u.nx,i.m⟩ (A4 E (I.back E I2.inv) ?_ q2)⟩;induction r2 with
  |next=>exact .none
  |brk=>exact .none
  |cont=>exact .none
  |ret r=>exact r
end
end
section
def AM(c:Cx)(sc:Scope)(lv:Nat)(st:Stmt)(g:MS):Prop:=
 ∀(a:Env)(A:Around)(W:Wd)(Kp:aA)(d:AS)(s:Shared)(Q:aE->AS->Prop)(E:Value->Shared->Prop)(b:List Env),
  a.scope=sc->cv a->AOK c lv A Kp a->A.frames=some (a::b)->a.frame=some a.locals->InvF c W Kp a d s->g d Q->wpAny c.M A (exec st a) (PS c W Kp a Q) E s
def zu(c:Cx)(sc:Scope)(lv:Nat)(d:List Stmt)(g:MS):Prop:=
 ∀(a:Env)(A:Around)(W:Wd)(Kp:aA)(e:AS)(s:Shared)(Q:aE->AS->Prop)(E:Value->Shared->Prop)(b:List Env),
  a.scope=sc->cv a->AOK c lv A Kp a->A.frames=some (a::b)->a.frame=some a.locals->InvF c W Kp a e s->g e Q->wpAny c.M A (execs d a) (PS c W Kp a Q) E s
section
variable {c:Cx}{i:Addr}{sc:Scope}{lv:Nat}
theorem vR{st:Stmt}{j:List Stmt}{a b:MS}(h:AM c sc lv st a)(t:CSs c sc lv j b):zu c sc lv (st::j) (az a b):=by
 intro l A W Kp B s Q E k u r p v w I q;refine wpAny_execs_cons (Zg (h l A W Kp B s _ E k u r p v w I q) (fun f s1 y=>y.ex fun n g e d m x o=>?_) fun _ _ z=>z);induction x with
 |next=>exact Zg (t l A n Kp e s1 Q E u r p m o) (fun _ _ z=>z.le d) fun _ _ z=>z
 |brk=>exact⟨n,E2 _ e (A4 d m .brk o)⟩
 |cont=>exact⟨n,E2 _ e (A4 d m .cont o)⟩
 |ret h=>exact⟨n,E2 _ e (A4 d m (.ret h) o)⟩
theorem xq{f:Addr}{kn:List Str}{n:Nat}{P:List Nat}{bm:List MV->List MV->List MV}{name d:Str}{a:Arguments}{k:List Stmt}{sc:Scope}{U kV w pm l T oc:Value}{R od:Option Addr}{osl:Array (Option Value)}{body:MS}(ho:c.K.lookup f=some ⟨oc,od,.func (fnX name d a k sc [] U kV w pm R l T),osl⟩)(hcd:codeIn c.K l d=true)(hb:Binds c (fnX name d a k sc [] U kV w pm R l T) n kn P bm)(hsc:fY sc=true)(hps:psOK c sc P)(h:zu c sc lv k body) :FOp c (lv+1) (.ref f) kn (iU n P bm body):=by
 refine iO hsc ?_;intro hk G v B;intro V A W Kp σ s Q E vs ks xs ys hE X I hv hks hkl zp1;refine Za zp1 fun hn q=>?_;refine ar (hb.go W s vs ks xs ys I.inv.KIn I.inv.emp hv hks hn hkl) fun us hbt hus=>?_;refine codeAny_call_function (fd:=fnX name d a k sc [] U kV w pm R l T) (body:=k) (by have:=X.depth;show A.depth<1000;exact NB this rfl) (I.inv.KIn _ _ ho) rfl G v rfl (codeRec_of I.inv.KIn hcd) (hbt _ _ _ _ ?_);refine wpAny_newFunctionEnv_cells hk (fun p hp=>?_) fun env' F s1 x=>?_
 ·refine ar (dZ hp) fun y O e=>?_;rw[e];exact(hps y O).imp id fun z=>⟨z,cellsFrom_some _ _ _ (.inl z)⟩
 refine⟨I.inv.lim.keeps x.toInCall.keep,codeAny_func ?_⟩;refine br x.done fun L tk zq1 C=>?_;obtain rfl:=zq1;have t:∀y,env'.kindOf (c.S y)≠some .free:=fun y=>by rw[F];exact fh B _
 have j:∀y,env'.kindOf (c.S y)=some .cell->∃b,env'.cells.lookup (c.S y)=some b:=fun y O=>by
  rw[F] at O ⊢;exact Option.isSome_iff_exists.mp (cellsFrom_some _ _ _ (.inl O))
 have I1:InvF c W (jV c V Kp s.heap) env' ⟨σ.H,σ.nx,P.zip (bm xs ys)⟩ { s with heap:=L,toks:=tk }:=
  ⟨I.enter.grown fun b o _ e=>C b o e,Fm.fresh I x hb.nd hus t j⟩
 have u:env'.frame=some env'.locals:=(F▸rfl)
 have D:env'.scope.kind=.function:=by rw[F];exact hk
 have Y:=X.deeper (env':=env') I u D x.toInCall.fresh;have Z:cv env':=(F▸⟨hk,rfl,rfl,v,G⟩)
 have J:env'.scope=sc:=by rw[F];rfl
 refine ar X.frames fun fr hfr _=>?_;refine Zg (h _ _ W _ _ _ _ _ fr J Z Y (Around.frames_deeper hfr) u I1 q) (fun fl s2 z0=>z0.ex fun W2 g N M I2 r2 q2=>?_) fun _ _ z=>z;refine⟨W2,E2 (i9 g) ⟨N.H,N.nx,σ.m⟩ (A4 M (I.back M I2.inv) ?_ q2)⟩;induction r2 with
 |next=>exact .none
 |brk=>exact .none
 |cont=>exact .none
 |ret r=>exact r
theorem uz{b:Env}{A:Around}{W:Wd}{Kp:aA}{G:AS}{s:Shared}{Q:MV->AS->Prop}{X:AS->Prop}{E:Value->Shared->Prop}{o:Expr}{x:Str}{k pos:Pos}{es:List Expr}{a:ap}{fs:List ap}{g:qP}(C n:Nat)(hn:c.S n=x)(hm:n∈gN C)(hg:tI c i lv (.ref (c.fn ((C+1)*1000+n))) [] g)(h0:CE c sc lv o a)(h:CEs c sc lv es fs)(he:b.scope=sc)(N:cv b)(L:AOK c lv A Kp b)(I:InvF c W Kp b G s)(O:∃pl,eval (.Call (.Attribute o x k) es [] pos) b=(do
   let ov <-eval o b
   standAt k.atName
   let (f,first) <-holding [ov] (getMethod ov x pl)
   callWith pos f first (backTo pos (starEach es b)) (backToKw pos (keywordEach [] b))))
  (q:a G fun x w=>∃t es,x=.tag t/\w.H t=some (.inst C es)/\es.lookup n=none/\bV fs w fun xs l=>l.m=G.m/\g (x::xs) [] l Q X)(hX:∀e F,AG c i A W Kp b G.m X e F->E e F) :
  wpAny c.M A (eval (.Call (.Attribute o x k) es [] pos) b) (PE c W Kp b Q) E s:=by
 subst hn;refine Zx O fun pl O=>?_;refine methodCall_KW (pl:=pl) (h0.use he N L I q fun W1 y w v s1 B J r1 U=>?_) O;refine ci U fun t es' hy ht j=>?_;obtain⟨hl,q1⟩:=j;obtain rfl:=hy.symm;refine dU (pA J.inv r1 ht) fun a' d kvs od j Y=>?_;obtain rfl:=j;refine bM Y fun ha ho D=>?_;have Fc:=c.cls_facts D.C4;have p:=c.hmeth C n hm;unfold j9 at p;simp only[Bool.and_eq_true,beq_iff_eq] at p;refine Za p fun j m3=>?_;refine Za j fun m1 m2=>?_;refine method_fn J.inv.KIn D.inst Fc.ga Fc.gat m1 m3 ?_ ?_
 ·show(lookIn (c.S n) od).map _=_;have e1:=D.look (c.S n);have e2:=D.kv.none hl;refine e1▸e2▸?_;rfl
 ·have R:=sW m2;refine callWith_of (P:=fun h=>c.K.In h) (keywords:=[]) (by rw[(h.plainArgs pos b).1];rfl) (fun hh X=>keeps_K R hh X) ?_;refine h.evalArgs he N L J q1 fun W2 vs xs l s2 u I2 r2 V=>?_;refine Za V fun T q2=>?_;refine⟨I2.inv.KIn,?_⟩;refine wpAny_call (codeAny_mono (hg b A W2 Kp l s2 Q X (.ref a'::vs) [] (.tag t::xs) [] N L I2 (.cons (r1.mono u) r2) .nil rfl q2) fun r F z=>?_);induction r with
  |ok fl=>
   induction fl with
   |ret v=>exact PE.le (B.trans u) z
   |next=>exact z
   |brk=>exact z
   |cont=>exact z
  |error e=>
   refine lU z fun W3 Z ea base a0 fr h1 j=>?_;refine gm j fun h2 h3 h4 h5=>?_;exact hX e F ⟨W3,E5 Z ea base a0 fr (A5 h1 ((B.trans u).trans h2) h3 (h4.trans T) h5)⟩
def zi(C n x h:Nat)(a:ap)(fs:List ap)(g:qP):MS:=fun f Q=>a f fun u d=>∃t es,u=.tag t/\d.H t=some (.inst C es)/\es.lookup n=none/\bV fs d fun xs e=>e.m=f.m/\g (u::xs) [] e (fun v b=>Q .next { b with m:=ah b.m x v }) fun b=>Q (.ret (.tup [.str h,.none])) b
theorem yP{nx hx w:Str}{np hp l d spos V rpos tpos pos p1 p2:Pos}{o:Expr}{es:List Expr}{a:ap}{fs:List ap}{g:qP}{sv:Str}{k1 k2 k3:Nat}{bm:List Value}{J B initId:String}(C n x H:Nat)(hn:c.S n=w)(hxn:c.S x=nx)(hsn:c.S H=sv)(hk:sc.names.lookup nx=some .local)(hm:n∈gN C)(hg:tI c i lv (.ref (c.fn ((C+1)*1000+n))) [] g)(h0:CE c sc lv o a)(h:CEs c sc lv es fs)(O:OwnCls hx i bm J c.mg c.B)(G:bm.contains (.type "BaseException")=true)(hgl:sc.names.lookup hx=some .globalImplicit)(hd:(hx == ("__debug__" : Str))=false)(hc:∀j:Env,∃pl,eval (.Call (.Attribute o w l) es [] d) j=(do
   let ov <-eval o j
   standAt l.atName
   let (f,first) <-holding [ov] (getMethod ov w pl)
   callWith d f first (backTo d (starEach es j)) (backToKw d (keywordEach [] j)))) :
  AM c sc lv (.Try [.Assign [.Name nx np] (.Call (.Attribute o w l) es [] d) spos] [.ExceptHandler (some (.Name hx hp)) none [.Return (some (.Tuple [.Constant (.str sv) k1 p1,.Constant .none k2 p2] k3 tpos)) rpos] V] [] [] pos) (zi C n x H a fs g):=by
 subst hxn hsn;intro j A W Kp σ s Q E outer he hE hA hF hf I q;refine wpAny_Try_except ?_;refine wpAny_execs_cons (Zg (Q:=PS c W Kp j fun f σ'=>match f with|.next=>Q .next σ'|_=>False) ?_ (fun f s1 z0=>z0.ex fun W1 gf y p I1 r1 F=>?_) fun _ _ z=>z)
 ·refine wpAny_Assign_Name (Zg (uz (X:=fun D=>Q (.ret (.tup [.str H,.none])) D) (Q:=fun v D=>Q .next { D with m:=ah D.m x v }) C n hn hm hg h0 h he hE hA I (hc j) q ?_) (fun v s1 z0=>z0.ex fun W1 mv y p I1 r1 F=>?_) fun _ _ z=>z) rfl;rotate_left;·exact ij hE I1 r1 (.inl (by subst he;exact hk)) fun s' I'=>⟨W1,E2 _ _ (A4 p I' .next F)⟩
  ·intro e s1 zp4;refine lU zp4 fun W1 y ea base a0 fr L M=>?_;obtain rfl:=L;obtain⟨p,F,em,R,hfl,P⟩:=M;rw[hF] at R;obtain rfl:=Zb R;refine wpAny_looks_onW hF hf hfl fun h₄ k r=>?_;refine wpAny_landsW k fun Y b t=>?_;have I5:=P Y s1.toks b.1 (r.trans t);refine ar b.there fun ob hob U=>?_;refine wpAny_handleBy_cons (codeAny_handlers_test ?_) (by intro q;cases q);refine Name_function_global hE.kind (by unfold Env.kindOf;refine he.symm▸?_;exact hgl) (loadGlobal_global (mg:=c.mg) (hE.globals▸I5.inv.glob) O.bound ?_) hd;refine rE O fun tl N nm q' bs hdct sn sub ab col dd k0 k1' k2' k3' k5 mN hC hN hni T=>?_;refine wpAny_excMatches_sub_self (I5.inv.keeps _ _ hC) hob U (T.hasType G) (codeAny_handlers_suite ?_);refine lands_againW b fun Z u K=>?_;have I6:=P Z s1.toks u.1 ((r.trans t).trans K);refine wpAny_execs_cons (wpAny_Return_some (Tuple_ (spliced_more (wpAny_mkText (spliced_more (Zi (spliced_none ?_)))))));refine wpAny_newTuple ?_ (sizeLine_eq▸xJ rfl);refine bW (PE.pushT (n:=0) (tk:=s1.toks+1) (Q:=fun v σ'=>v=.tup [.str H,.none]/\σ'=y) (vs:=[.str (c.S H) s1.toks,.none]) (xs:=[.str H,.none]) I6 (.cons (.str H _) (.cons .none .nil)) ⟨(bX rfl),rfl,rfl⟩) fun W7 mv σ7 le7 I7 r7 q7=>?_;refine Za q7 fun L M=>?_;obtain rfl:=L;obtain rfl:=M;exact⟨W7,E2 _ σ7 (A4 (p.trans le7) I7 (.ret r7) F)⟩
 ·induction r1 with
  |next=>exact wpAny_execs_nil (wpAny_execs_nil ⟨W1,E2 _ y (A4 p I1 .next F)⟩)
  |brk=>exact F.elim
  |cont=>exact F.elim
  |ret h=>exact F.elim
end
end
section
theorem gV{a:Type}{x:Nat}:∀{l r:List (Nat×a)},(l++r).lookup x=(l.lookup x).or (r.lookup x)
 |[],r=>by simp
 |(n,v)::l,r=>by
  rw[List.cons_append,List.lookup_cons,List.lookup_cons];cases e:x == n with
  |true=>rfl
  |false=>exact gV
theorem oN{a:Type}{x:Nat}{v:a}:∀{l:List (Nat×a)},l.lookup x=some v->(x,v)∈l
 |[],h=>aQ h
 |(n,u)::l,h=>by
  rw[List.lookup_cons] at h;cases e:x == n with
  |true=>rw[e] at h;obtain rfl:=Zb h;rw[eq_of_beq e];exact Ze
  |false=>rw[e] at h;exact Zc _ (oN h)
theorem gX{x:Str}:∀{l r:List (Str×Value)},(l++r).lookup x=(l.lookup x).or (r.lookup x)
 |[],r=>by simp
 |(n,v)::l,r=>by
  rw[List.cons_append,List.lookup_cons,List.lookup_cons];cases e:x == n with
  |true=>rfl
  |false=>exact gX
theorem kH{S:Nat->Str}{x:Nat}(inj:∀i j,S i=S j->i=j):∀{a:List Nat}{vs:List Value},x∉a->(cH S a vs).reverse.lookup (S x)=none
 |[],_,_=>rfl
 |_::_,[],_=>rfl
 |p::a,v::vs,h=>by
  show(((S p,v)::cH S a vs).reverse).lookup (S x)=none;rw[List.reverse_cons,gX,kH inj fun b=>h (Zc _ b)];have e:(S x == S p)=false:=beq_eq_false_iff_ne.mpr fun q=>h ((inj _ _ q)▸Ze);rw[List.lookup_cons,e];rfl
theorem uC(c:Cx){W:Wd}{x:Nat}{v:MV}{a:List Nat}{vs:List Value}{xs:List MV}(nd:a.Nodup)(i:VRs c.S W vs xs):(a.zip xs).lookup x=some v->∃u,(cH c.S a vs).reverse.lookup (c.S x)=some u/\VR c.S W u v:=by
 induction i generalizing a with
 |nil=>intro h;induction a<;>exact aQ h
 |@cons v' y vs xs r rs ih=>
  intro h;cases a with
  |nil=>exact aQ h
  |cons p a=>
   refine Za (List.nodup_cons.mp nd) fun b d=>?_;show ∃u,(((c.S p,v')::cH c.S a vs).reverse).lookup (c.S x)=some u/\_;refine List.reverse_cons▸gX▸?_;by_cases e:x=p
   ·subst e;simp at h;obtain rfl:=h.symm;refine⟨v',?_,r⟩;rw[kH c.inj b];simp
   ·rw[List.zip_cons_cons,List.lookup_cons,beq_eq_false_iff_ne.mpr e] at h;refine ar (ih d h) fun u g f=>?_;exact⟨u,by rw[g];rfl,f⟩
theorem Binds.pos{c:Cx}{fd:FuncData}{n:Nat}{a:List Nat}(nd:a.Nodup)(h:∀vs:List Value,vs.length=n->bindArgs fd ⟨vs,[]⟩=pure (cH c.S a vs)):Binds c fd n [] a fun xs _=>xs:=
 ⟨nd,fun W s vs ks xs ys _ _ b _ d _=>⟨vs,.of_eq (h vs (b.length▸d)),b⟩⟩
structure Clo(c:Cx)(W:Wd)(env:Env)(f:Addr)(name:Str)(params:Arguments)(sts:List Stmt)(sc:Scope):Prop where
 made:∃qual doc pm c' ctv oc vs t,W.F f=some (fnMade name qual params sts sc (gA env sc.names) doc pm c' ctv)/\W.F c'=some oc/\oc.data=.fields vs/\vs[1]?=some (.str qual t)
theorem Clo.mono{c:Cx}{W i:Wd}{b:Env}{f:Addr}{name:Str}{a:Arguments}{e:List Stmt}{sc:Scope}(x:Clo c W b f name a e sc)(le:W.le i):Clo c i b f name a e sc:=by
 obtain⟨d,h,p,j,g,o,vs,t,k,l,m,n⟩:=x;exact⟨d,h,p,j,g,o,vs,t,le.F _ _ k,le.F _ _ l,m,n⟩
def v9(n:Nat)(c fs:List Nat)(body:MS):List MV->ap:=fun xs a Q=>
 xs.length=n/\body ⟨a.H,a.nx,c.zip xs++cT fs a.m⟩ fun b σ'=>Q (i9 b) ⟨σ'.H,σ'.nx,a.m⟩
section
variable {c:Cx}{W:Wd}{Kp:aA}{d:Env}{i:AS}{s:Shared}{lv:Nat}{A:Around}
theorem xd{f:Addr}{name:Str}{a:Arguments}{G:List Stmt}{sc:Scope}{n:Nat}{K fs:List Nat}{body:MS}{vs:List Value}{xs:List MV}{Q:MV->AS->Prop}{E:Value->Shared->Prop}(X:Clo c W d f name a G sc)(hE:cv d)(hA:AOK c (lv+1) A Kp d)(I:InvF c W Kp d i s)(hv:VRs c.S W vs xs)(ok:CompOK c d.scope sc fs)(U:∀l cl D pm cdv ct,Binds c (fnX name l a G sc cl .none .none D pm none cdv ct) n [] K fun xs _=>xs)(Y:∀p∈K,sc.names.lookup (c.S p)=some .local)(h:CSs c sc lv G body)(q:v9 n K fs body xs i Q):wpAny c.M A (PySem.call (.ref f) vs) (PE c W Kp d Q) E s:=by
 obtain⟨l,D,pm,c',O,oc,cvs,t,hf,hc,hcd,hcv⟩:=X;refine Za q fun V q=>?_;have B:=U l (gA d sc.names) D pm (.ref c') O;refine ar (B.go W s vs [] xs [] I.inv.KIn I.inv.emp hv .nil V rfl) fun us hbt hus=>?_;refine wpAny_call (codeAny_mono (R:=PC c W Kp d Q E) ?_ fun r s' z=>by
  induction r with
  |ok fl=>induction fl<;>exact z
  |error e=>exact z)
 refine codeAny_call_def (fd:=fnX name l a G sc (gA d sc.names) .none .none D pm none (.ref c') O) (by have:=hA.depth;show A.depth<1000;exact NB this rfl) (I.inv.frz _ _ hf) rfl I.inv.lim ⟨c',E3 oc cvs t (A4 rfl (I.inv.frz _ _ hc) hcd hcv)⟩ rfl hbt ok.nocell (fun p hp=>?_) (fun L hns F=>?_) ok.co ok.gen ok.kind
 ·refine ar (dZ hp) fun y hy e=>?_;rw[e];exact Y y hy
 generalize j:callEnv (fnX name l a G sc (gA d sc.names) .none .none D pm none (.ref c') O) s.heap.objs.size f=env';have e1:env'.scope=sc:=(j▸rfl)
 have e2:env'.locals=s.heap.objs.size:=(j▸rfl)
 have e3:env'.cells=gA d sc.names:=(j▸rfl)
 have e4:env'.frame=some env'.locals:=by rw[<-j];rfl
 have w:∀x,env'.kindOf x=sc.names.lookup x:=fun x=>by rw[<-j];rfl
 have hE':cv env':=by rw[<-j];exact⟨ok.kind,rfl,rfl,ok.gen,ok.co⟩
 have nocell:∀x,env'.kindOf x≠some .cell:=fun x e=>by
  rw[w] at e;exact ok.nocell _ (mem_of_lookup e) rfl
 have J:∀b,FA c env' b->b=s.heap.objs.size:=fun b U=>by
  rcases U with rfl|⟨x,C,_⟩
  ·exact e2
  ·exact absurd C (nocell _)
 have T:∀n∈fs,∃b o,d.cells.lookup (c.S n)=some b/\jV c d Kp s.heap b=some o:=fun n V=>by
  rcases ok.out n V with e|e
  ·refine oB (I.fm.own n e) fun b u p o g _=>?_;exact E2 b (o,true) ⟨p,((oE (.inr ⟨n,e,p⟩))▸g▸rfl)⟩
  ·refine br (I.fm.free n e) fun b o p g=>?_;exact E2 b o ⟨p,I.kpx g⟩
 have N:∀x,env'.kindOf (c.S x)=some .free->x∈fs:=fun x e=>by
  rw[w] at e;refine ar (ok.all _ (mem_of_lookup e) rfl) fun n V e'=>?_;refine(c.inj _ _ e')▸?_;exact V
 have F':Fm c W (jV c d Kp s.heap) env' (K.zip xs++cT fs i.m) L:=by
  refine⟨fun b U=>?_,⟨_,(e2▸hns),fun x v C k=>?_⟩,fun x v C k=>?_,fun x k=>absurd k (nocell _),fun x y b k=>absurd k (nocell _),fun x k=>?_⟩
  ·refine(J b U)▸?_;refine A3 (I.inv.fresh_own (Zj _)) (I.inv.fresh_F (Zj _)) ?_;exact(kW fun hf=>absurd (I.fm.lt hf) (Nat.lt_irrefl _)).trans (I.inv.fresh_kp (Zj _))
  ·rw[gV] at C;cases P:(K.zip xs).lookup x with
   |some v'=>
    rw[P] at C;obtain rfl:=Zb C;exact uC c B.nd hus P
   |none=>
    rw[P] at C;rw[Option.none_or,gb] at C;split at C
    ·rename_i hm;have:=ok.fr x hm;rw[w,this] at k;cases k
    ·exact aQ C
  ·rcases k with k|k;·exact absurd k (nocell _)
   ·have hm:=N x k;rw[gV] at C;have P:(K.zip xs).lookup x=none:=by
     cases P:(K.zip xs).lookup x with
     |none=>rfl
     |some v'=>
      have:=Y x (by exact(List.of_mem_zip (oN P)).1);rw[w,this] at k;cases k
    rw[P,Option.none_or,gb,if_pos hm] at C;refine ci (I.fm.cell x v C (ok.out x hm)) fun b u p zq1 r=>?_;refine ar zq1 fun o g hd=>?_;refine E2 b u (A3 ?_ ⟨o,F _ _ g,hd⟩ r);refine e3▸?_;exact lr (by rw[w] at k;exact mem_of_lookup k) p
  ·refine br (T x (N x k)) fun b o p g=>?_;refine E2 b o ⟨?_,g⟩;refine e3▸?_;exact lr (by rw[w] at k;exact mem_of_lookup k) p
 have I1:InvF c W (jV c d Kp s.heap) env' ⟨i.H,i.nx,K.zip xs++cT fs i.m⟩ { s with heap:=L,toks:=s.toks+(cH c.S K us).length }:=
  ⟨I.enter.grown fun b o _ e=>F b o e,F'⟩
 have hA':=hA.deeper (env':=env') I e4 (e1▸ok.kind) (e2▸Zj _);refine Zg (h env' _ W _ _ _ _ _ e1 hE' hA' I1 q) (fun fl s2 z0=>z0.ex fun W2 g σ2 Z I2 r2 q2=>?_) fun _ _ z=>z;refine⟨W2,E2 (i9 g) ⟨σ2.H,σ2.nx,i.m⟩ (A4 Z (I.back Z I2.inv) ?_ q2)⟩;induction r2 with
 |next=>exact .none
 |brk=>exact .none
 |cont=>exact .none
 |ret r=>exact r
theorem zw{name:Str}{g:Arguments}{J:List Stmt}{sc:Scope}{pos:Pos}{x:Nat}{fs:List Nat}{t0:aq}{cc P:Addr}{G:Array Value}{Q:Flow->Shared->Prop}{E:Value->Shared->Prop}(hE:cv d)(I:InvF c W Kp d i s)(hn:c.S x=name)(hk:d.kindOf (c.S x)=some .local)(z:d.code=.ref cc)(C:CodeHd c.B cc P)(hH:i.H t0=some (.obj (tabObj G) P))(ht:TriplesOk G.toList)(hnf:codeAmong pos G.toList=none)(hgP:mainGlobals≠P)(hbP:∀h:Heap,(∀b o,c.B.get? b=some o->h.get? b=some o)->h.BuiltinsAt c.mg P)(ok:CompOK c d.scope sc fs)(hd0:g.defaults=[])(hk0:g.kw_defaults=[])(ha:annTrees g none d=[])(k:∀X f j V,W.le X->Clo c X d f name g J sc->InvF c X Kp d ⟨af i.H t0 (.obj (tabObj (G++#[rawInt pos.line,rawInt pos.col,.ref j])) P),i.nx,ah i.m x (.raw (.ref f))⟩ V->Q .next V) :
  wpAny c.M A (exec (.FunctionDef name g J [] none [] sc none name pos) d) Q E s:=by
 refine bM (I.inv.objs _ _ hH) fun hρ l hP=>?_;have cells:∀y∈sc.names,y.2=.free->∃a,d.cells.lookup y.1=some a:=fun y hy e=>by
  refine ar (ok.all y hy e) fun n hn e'=>?_;refine e'▸?_;rcases ok.out n hn with q|q;·refine br (I.fm.own n q) fun b u p _=>?_;exact⟨b,p⟩
  ·refine br (I.fm.free n q) fun b o p _=>?_;exact⟨b,p⟩
 refine nestDef_K hd0 hk0 ha (makeFunction_K (mg:=c.mg) (jC cells) hE.globals I.inv.glob z (C.keeps I.inv.keepB) hP ht hnf hgP (hbP _ I.inv.keepB) fun j L N h' tk hx w D T htb=>?_);refine iw T fun c₂ K Y t e2 hoc zq1=>?_;refine Za zq1 fun hcd hcv=>?_;cases e2;generalize O:fnMade name (qualnameIn d name name) g J sc (gA d sc.names) N ((c.mg "__name__").getD .none) j L=fo;have keep:∀b U,b≠P->s.heap.get? b=some U->(h'.push fo).get? b=some U:=fun b U v e=>Zl _ (hx b U v e);have gP:(h'.push fo).get? P=some (tabObj (G++#[rawInt pos.line,rawInt pos.col,.ref j])):=Zl _ htb;have I1:Inv c W Kp (af i.H t0 (.obj (tabObj (G++#[rawInt pos.line,rawInt pos.col,.ref j])) P)) i.nx { s with heap:=h'.push fo,toks:=tk }:=I.inv.changedE hH l keep ⟨hρ,l,gP⟩ ⟨_,gP⟩ (by intro _ _ e;cases e;exact⟨_,rfl⟩);have Z:∀b,FA c d b\/(Kp b).isSome=true->b≠P:=fun b v e=>by
  obtain rfl:=e.symm;rcases v with v|v;·rw[(I.fm.out _ v).1] at l;exact aQ l
  ·refine Zx (Option.isSome_iff_exists.mp v) fun o e=>?_;replace l:=(I.inv.kpOwn _ _ e).symm.trans l;exact aQ l
 have gc:(h'.push fo).get? j=some K:=Zl _ hoc;have gf:(h'.push fo).get? h'.objs.size=some fo:=Zq _ (by rw[<-O];rfl);have r:s.heap.objs.size<=h'.objs.size:=Zk w (Zv D);have I2:=I1.adoptF (a:=j) (o:=K) ⟨I.inv.fresh_own w,I.inv.fresh_F w,I.inv.fresh_kp w⟩ gc;have nF:(W.freeze j K).F h'.objs.size=none:=by
  show(if h'.objs.size=j then _ else _)=_;exact(if_neg (Zn D)).trans (I.inv.fresh_F r)
 have I3:=I2.adoptF (a:=h'.objs.size) (o:=fo) ⟨I.inv.fresh_own r,nF,I.inv.fresh_kp r⟩ gf;have le:W.le ((W.freeze j K).freeze h'.objs.size fo):=(Wd.le_freeze (I.inv.fresh_F w)).trans (Wd.le_freeze nF);have IF:InvF c ((W.freeze j K).freeze h'.objs.size fo) Kp d ⟨af i.H t0 (.obj (tabObj (G++#[rawInt pos.line,rawInt pos.col,.ref j])) P),i.nx,i.m⟩ { s with heap:=h'.push fo,toks:=tk }:=by
  refine⟨I3,I.fm.move le (fun b v=>⟨(I.fm.out b v).1,?_⟩) fun b o v e=>keep b o (Z b v) e⟩;have R:=I.fm.lt v;show(if b=h'.objs.size then _ else(if b=j then _ else W.F b))=none;rw[if_neg (Zh (Zp R r)),if_neg (Zh (Zp R w))];exact(I.fm.out b v).2.1
 subst hn;refine ij hE IF (.raw _) (.inl hk) fun V I'=>k _ _ _ V le ⟨_,N,(c.mg "__name__").getD .none,j,L,K,Y,t,?_,?_,hcd,hcv⟩ I'
 ·show(if h'.objs.size=h'.objs.size then _ else _)=_;rw[if_pos rfl,O]
 ·show(if j=h'.objs.size then _ else(if j=j then _ else _))=_;rw[if_neg (Zh D),if_pos rfl]
end
def uW(c:Cx)(a:Env)(W0:Wd)(Kp:aA)(lv:Nat)(st:Stmt)(g:MS):Prop:=
 ∀(A:Around)(W:Wd)(b:AS)(s:Shared)(Q:aE->AS->Prop)(E:Value->Shared->Prop),W0.le W->cv a->AOK c lv A Kp a->InvF c W Kp a b s->g b Q->wpAny c.M A (exec st a) (PS c W Kp a Q) E s
def nM(c:Cx)(a:Env)(W0:Wd)(Kp:aA)(lv:Nat)(b:List Stmt)(g:MS):Prop:=
 ∀(A:Around)(W:Wd)(d:AS)(s:Shared)(Q:aE->AS->Prop)(E:Value->Shared->Prop),W0.le W->cv a->AOK c lv A Kp a->InvF c W Kp a d s->g d Q->wpAny c.M A (execs b a) (PS c W Kp a Q) E s
section
variable {c:Cx}{W0:Wd}{Kp:aA}{d:Env}{lv:Nat}{sc:Scope}
theorem CS.e{st:Stmt}{g:MS}(h:CS c sc lv st g)(f:d.scope=sc):uW c d W0 Kp lv st g:=fun A W i s Q E _ b a I q=>h d A W Kp i s Q E f b a I q
theorem CSs.e{a:List Stmt}{g:MS}(h:CSs c sc lv a g)(i:d.scope=sc):nM c d W0 Kp lv a g:=fun A W j s Q E _ f b I q=>h d A W Kp j s Q E i f b I q
theorem iB{st:Stmt}{j:List Stmt}{a b:MS}(h:uW c d W0 Kp lv st a)(t:nM c d W0 Kp lv j b):nM c d W0 Kp lv (st::j) (az a b):=by
 intro A W u s Q E le o n I q;refine wpAny_execs_cons (Zg (h A W u s _ E le o n I q) (fun f s1 r=>r.ex fun l g i e k p m=>?_) fun _ _ z=>z);induction p with
 |next=>exact Zg (t A l i s1 Q E (le.trans e) o n k m) (fun _ _ z=>z.le e) fun _ _ z=>z
 |brk=>exact⟨l,E2 _ i (A4 e k .brk m)⟩
 |cont=>exact⟨l,E2 _ i (A4 e k .cont m)⟩
 |ret h=>exact⟨l,E2 _ i (A4 e k (.ret h) m)⟩
theorem zS{e:Expr}{m n:List Stmt}{t:MT}{a b:MS}{pos:Pos}(v:d.scope=sc)(h:CT c sc lv e t)(p:nM c d W0 Kp lv m a)(u:nM c d W0 Kp lv n b):uW c d W0 Kp lv (.If e m n pos) (ca t a b):=by
 intro A W w s Q E le j i I q;refine wpAny_If (h.use v j i I q fun l g r s1 f k o=>?_);induction r;·exact Zg (u A l g s1 Q E (le.trans f) j i k o) (fun _ _ z=>z.le f) fun _ _ z=>z
 ·exact Zg (p A l g s1 Q E (le.trans f) j i k o) (fun _ _ z=>z.le f) fun _ _ z=>z
theorem vT{e:Expr}{body:List Stmt}{pos:Pos}{t:MT}{b:MS}(J:d.scope=sc)(K:CT c sc lv e t)(H:nM c d W0 Kp lv body b):uW c d W0 Kp lv (.While e body [] pos) (q6 t b):=by
 intro A W N s Q E le B y I u;refine Zx u fun n q=>?_;refine wpAny_While (codeAny_whileLoop (fun n F=>∃p σ',W.le p/\InvF c p Kp d σ' F/\g7 t b n σ' Q) ?_ n (E2 W N (A3 (.refl W) I q)));intro n F v;refine ci v fun p σ' a G C=>?_;induction n with
 |zero=>exact C.elim
 |succ n=>
  refine K.use J B y G C fun x k r s1 h w D=>?_;induction r with
  |false=>
   exact wpAny_execs_nil ⟨x,E2 _ k (A4 (a.trans h) w .next D)⟩
  |true=>
   refine Zg (H A x k s1 _ _ ((le.trans a).trans h) B y w D) (fun f O M=>M.ex fun m g j i l L o=>?_) fun _ _ z=>z;induction L with
   |next=>exact⟨n,Zr _,E2 m j (A3 ((a.trans h).trans i) l o)⟩
   |cont=>exact⟨n,Zr _,E2 m j (A3 ((a.trans h).trans i) l o)⟩
   |brk=>exact⟨m,E2 _ j (A4 ((a.trans h).trans i) l .next o)⟩
   |ret r=>exact⟨m,E2 _ j (A4 ((a.trans h).trans i) l (.ret r) o)⟩
def nR(y:Nat)(f:Addr)(g:List MV->ap)(fs:List ap):ap:=fun b Q=>b.m.lookup y=some (.raw (.ref f))/\bV fs b fun xs a=>g xs a Q
theorem uH{n b:Str}{V fp pos e:Pos}{es:List Expr}{r:List ap}(x y:Nat)(hx:c.S x=n)(hy:c.S y=b){f:Addr}{name:Str}{a:Arguments}{m:List Stmt}{g:Scope}{k:Nat}{M fs:List Nat}{body:MS}(he:d.scope=sc)(X:Clo c W0 d f name a m g)(hk:sc.names.lookup n=some .local)(H:sc.names.lookup b=some .local)(hd:(b == ("__debug__" : Str))=false)(hc:(b == ("__classdict__" : Str))=false)(ok:CompOK c sc g fs)(hb:∀i cl o Y D ct,Binds c (fnX name i a m g cl .none .none o Y none D ct) k [] M fun xs _=>xs)(J:∀p∈M,g.names.lookup (c.S p)=some .local)(h:CSs c g lv m body)(U:CEs c sc (lv+1) es r)(hs:∀d,swapsWith (.Call (.Name b fp) es [] e) (some (.Name n V)) pos.line d=pure false:=by intros;rfl) :
  uW c d W0 Kp (lv+1) (.Assign [.Name n V] (.Call (.Name b fp) es [] e) pos) (cJ x (nR y f (v9 k M fs body) r)):=by
 subst he;intro A W σ s Q E le u G I N;refine Za N fun hl q=>?_;refine wpAny_Assign_Name (wpAny_Call_NameR ((vo (c:=c) (sc:=d.scope) (lv:=lv+1) y hy (.inl H) hd hc).use (Q:=fun v σ'=>v=.raw (.ref f)/\σ'=σ) rfl u G I ⟨_,A3 hl rfl rfl⟩ fun W1 z σ1 v s1 j Z r1 O=>?_)) (hs d);refine Za O fun F h2=>?_;subst F h2;refine r1.of_raw▸?_;have X1:∀C,W1.le C->∀{w:Shared}{σ':AS},InvF c C Kp d σ' w->FnAt f w.heap:=fun C K w σ' B=>by
  refine jE ((X.mono (le.trans (j.trans K))).made) fun i o R=>?_;refine lU R fun Y c' ctv oc vs t F _=>?_;exact⟨_,E3 _ _ _ (B.inv.frz _ _ F)⟩
 refine callWith_of (P:=FnAt f) (by rw[(U.plainArgs e d).1];rfl) keeps_F ?_;refine U.evalArgs rfl u G Z q fun W2 vs xs σ2 s2 l T r2 q2=>⟨X1 W2 l T,?_⟩
 refine Zg (xd (X.mono (le.trans (j.trans l))) u G T r2 ok hb J h q2) (fun v s3 z0=>z0.ex fun W3 mv σ3 L I3 r3 q3=>?_) fun _ _ z=>z;subst hx;exact ij u I3 r3 (.inl hk) fun w B=>⟨W3,E2 _ _ (A4 ((j.trans l).trans L) B .next q3)⟩
end
def tK(c:Cx)(sc:Scope)(lv:Nat)(b:Value)(d:List Stmt)(g:MS):Prop:=
 ∀(a:Env)(A:Around)(W:Wd)(Kp:aA)(e:AS)(s:Shared)(Q:aE->AS->Prop)(E:Value->Shared->Prop),
  a.scope=sc->cv a->a.code=b->AOK c lv A Kp a->InvF c W Kp a e s->g e Q->wpAny c.M A (execs d a) (PS c W Kp a Q) E s
def zk(t0:aq)(x:Nat)(P:Addr)(pos:Pos)(a:Addr->MS):MS:=fun c Q=>∃b,c.H t0=some (.obj (tabObj b) P)/\TriplesOk b.toList/\codeAmong pos b.toList=none/\
 ∀f d,a f ⟨af c.H t0 (.obj (tabObj (b++#[rawInt pos.line,rawInt pos.col,.ref d])) P),c.nx,ah c.m x (.raw (.ref f))⟩ Q
section
variable {c:Cx}{sc:Scope}{lv:Nat}
theorem vQ{st:Stmt}{i:List Stmt}{a b:MS}{j:Value}(h:CS c sc lv st a)(t:tK c sc lv j i b):tK c sc lv j (st::i) (az a b):=by
 intro k A W Kp x s Q E r p u o I q;refine wpAny_execs_cons (Zg (h k A W Kp x s _ E r p o I q) (fun f s1 w=>w.ex fun m g e d l v n=>?_) fun _ _ z=>z);induction v with
 |next=>exact Zg (t k A m Kp e s1 Q E r p u o l n) (fun _ _ z=>z.le d) fun _ _ z=>z
 |brk=>exact⟨m,E2 _ e (A4 d l .brk n)⟩
 |cont=>exact⟨m,E2 _ e (A4 d l .cont n)⟩
 |ret h=>exact⟨m,E2 _ e (A4 d l (.ret h) n)⟩
theorem xz{name:Str}{a:Arguments}{i:List Stmt}{g:Scope}{pos:Pos}{e:List Stmt}{x:Nat}{fs:List Nat}{t0:aq}{t P:Addr}{b:Addr->MS}(v:c.S x=name)(L:sc.names.lookup name=some .local)(C:CodeHd c.B t P)(l:mainGlobals≠P)(H:∀h:Heap,(∀b o,c.B.get? b=some o->h.get? b=some o)->h.BuiltinsAt c.mg P)(ok:CompOK c sc g fs)(k:a.defaults=[])(m:a.kw_defaults=[])(G:∀d,annTrees a none d=[])(h:∀f d W0 Kp,Clo c W0 d f name a i g->d.scope=sc->nM c d W0 Kp lv e (b f)):tK c sc lv (.ref t) (.FunctionDef name a i [] none [] g none name pos::e) (zk t0 x P pos b):=by
 intro d A W Kp O s Q E K u J D I r;refine eW r fun N F M n q=>?_;subst K;refine wpAny_execs_cons (zw u I v (v▸L) J C F M n l H ok k m (G d) fun j f y s1 p X w=>?_);exact Zg (h f d j Kp X rfl A j _ s1 Q E (.refl j) u D w (q f y)) (fun _ _ z=>z.le p) fun _ _ z=>z
theorem xo{f:Addr}{kn:List Str}{n:Nat}{N:List Nat}{bm:List MV->List MV->List MV}{name d:Str}{a:Arguments}{k:List Stmt}{sc:Scope}{R kV u pm i P oc:Value}{O od:Option Addr}{osl:Array (Option Value)}{body:MS}(ho:c.K.lookup f=some ⟨oc,od,.func (fnX name d a k sc [] R kV u pm O i P),osl⟩)(Y:codeIn c.K i d=true)(hb:Binds c (fnX name d a k sc [] R kV u pm O i P) n kn N bm)(hsc:fY sc=true)(hps:psOK c sc N)(h:tK c sc lv i k body) :FOp c (lv+1) (.ref f) kn (iU n N bm body):=by
 refine iO hsc ?_;intro Z D t w;intro T A W Kp σ s Q E vs ks xs ys hE hA I hv hks hkl zp6;refine Za zp6 fun hn q=>?_;refine ar (hb.go W s vs ks xs ys I.inv.KIn I.inv.emp hv hks hn hkl) fun us X hus=>?_;refine codeAny_call_function (fd:=fnX name d a k sc [] R kV u pm O i P) (body:=k) (by have:=hA.depth;show A.depth<1000;exact NB this rfl) (I.inv.KIn _ _ ho) rfl D t rfl (codeRec_of I.inv.KIn Y) (X _ _ _ _ ?_);refine wpAny_newFunctionEnv_cells Z (fun p hp=>?_) fun env' v s1 x=>?_
 ·refine ar (dZ hp) fun y M e=>?_;rw[e];exact(hps y M).imp id fun z=>⟨z,cellsFrom_some _ _ _ (.inl z)⟩
 refine⟨I.inv.lim.keeps x.toInCall.keep,codeAny_func ?_⟩;refine br x.done fun G tk zq1 B=>?_;obtain rfl:=zq1;have l:∀y,env'.kindOf (c.S y)≠some .free:=fun y=>by rw[v];exact fh w _
 have j:∀y,env'.kindOf (c.S y)=some .cell->∃b,env'.cells.lookup (c.S y)=some b:=fun y M=>by
  rw[v] at M ⊢;exact Option.isSome_iff_exists.mp (cellsFrom_some _ _ _ (.inl M))
 have I1:InvF c W (jV c T Kp s.heap) env' ⟨σ.H,σ.nx,N.zip (bm xs ys)⟩ { s with heap:=G,toks:=tk }:=
  ⟨I.enter.grown fun b o _ e=>B b o e,Fm.fresh I x hb.nd hus l j⟩
 have F:env'.frame=some env'.locals:=(v▸rfl)
 have C:env'.scope.kind=.function:=by rw[v];exact Z
 have U:=hA.deeper (env':=env') I F C x.toInCall.fresh;have V:cv env':=(v▸⟨Z,rfl,rfl,t,D⟩)
 refine Zg (h _ _ W _ _ _ _ _ (by rw[v];rfl) V (by rw[v];rfl) U I1 q) (fun fl s2 z0=>z0.ex fun W2 g L J I2 r2 q2=>?_) fun _ _ z=>z;refine⟨W2,E2 (i9 g) ⟨L.H,L.nx,σ.m⟩ (A4 J (I.back J I2.inv) ?_ q2)⟩;induction r2 with
 |next=>exact .none
 |brk=>exact .none
 |cont=>exact .none
 |ret r=>exact r
end
end
section
theorem g9{c:Cx}:([]:List Nat).map c.S=[]:=rfl
theorem yz{c:Cx}{f:Nat}{fs:List Nat}{n:Str}{ns:List Str}(h:c.S f=n)(t:fs.map c.S=ns):(f::fs).map c.S=n::ns:=by rw[List.map_cons,h,t]
noncomputable def oo(sc scope:Scope)(ns:List Str):Bool:=
 (scope.kind matches .function)&&!scope.isGenerator&&!scope.isCoroutine&&scope.names.all (fun x=>!(x.2 == .cell))&&scope.names.all (fun x=>!(x.2 == .local)||scope.names.lookup x.1 == some .local)&&
 ns.all (fun n=>scope.names.lookup n == some .free)&&scope.names.all (fun x=>!(x.2 == .free)||ns.contains x.1)&&ns.all fun n=>sc.names.lookup n == some .cell||sc.names.lookup n == some .free
theorem CompOK.of{c:Cx}{sc scope:Scope}{fs:List Nat}{ns:List Str}(h:fs.map c.S=ns)(b:oo sc scope ns=true):CompOK c sc scope fs:=by
 subst h;delta oo at b;simp only[Bool.and_eq_true,Bool.not_eq_true',List.all_eq_true,Bool.or_eq_true,List.mem_map,beq_iff_eq,beq_eq_false_iff_ne,List.contains_iff_mem] at b;refine Za b ?_;intro a r;refine Za a ?_;intro a p;obtain⟨⟨⟨⟨⟨g,i⟩,j⟩,l⟩,m⟩,o⟩:=a;refine⟨?_,i,j,l,fun x f e=>(m x f).resolve_left fun q=>q e,fun n d=>o _ ⟨n,d,rfl⟩,fun x f e=>?_,fun n d=>r _ ⟨n,d,rfl⟩⟩
 ·generalize scope.kind=k at g;induction k<;>first|rfl|exact jU g
 ·rcases p x f with q|q;·exact absurd e q
  ·exact q
theorem psL.of{c:Cx}{sc:Scope}{b:List Nat}{ns:List Str}(h:b.map c.S=ns)(a:(ns.all fun n=>sc.names.lookup n == some .local)=true):∀p∈b,sc.names.lookup (c.S p)=some .local:=by
 subst h;intro p d;simp only[List.all_eq_true,List.mem_map,beq_iff_eq] at a;exact a _ ⟨p,d,rfl⟩
theorem nS{b:Type}{l:List b}{n:Nat}(h:l.length=n+1):∃a t,l=a::t/\t.length=n:=by
 induction l with
 |nil=>cases h
 |cons a t=>exact E2 a t ⟨rfl,Nat.succ.inj h⟩
section
variable {α β:Type}{R:α->β->Prop}{vs:List α}{xs:List β}
theorem All2.l0(h:All2 R vs xs)(e:xs.length=0):vs=[]/\xs=[]:=by
 induction h with
 |nil=>exact⟨rfl,rfl⟩
 |cons _ _=>cases e
theorem All2.ls{n:Nat}(h:All2 R vs xs)(e:xs.length=n+1):∃a x b xt,vs=a::b/\xs=x::xt/\R a x/\All2 R b xt/\xt.length=n:=by
 induction h with
 |nil=>cases e
 |cons r t=>exact E4 _ _ _ _ (A5 rfl rfl r t (Nat.succ.inj e))
theorem All2.l1(h:All2 R vs xs)(e:xs.length=1):∃a x,vs=[a]/\xs=[x]/\R a x:=by
 refine dU (h.ls e) fun a x d xt c b=>?_;obtain rfl:=c;refine Za b ?_;clear b;intro c b;obtain rfl:=c;refine bM b ?_;clear b;intro r t e;refine Za (t.l0 e) fun c b=>?_;obtain rfl:=c;obtain rfl:=b;exact E2 a x (A3 rfl rfl r)
theorem All2.l2(h:All2 R vs xs)(e:xs.length=2):∃a b x y,vs=[a,b]/\xs=[x,y]/\R a x/\R b y:=by
 refine dU (h.ls e) fun a x f xt d c=>?_;obtain rfl:=d;refine Za c ?_;clear c;intro d c;obtain rfl:=d;refine bM c ?_;clear c;intro r t e;refine br (t.l1 e) fun b y d c=>?_;obtain rfl:=d;refine Za c ?_;clear c;intro d q;obtain rfl:=d;exact E4 _ _ _ _ (A4 rfl rfl r q)
theorem All2.l3(h:All2 R vs xs)(e:xs.length=3):∃a b d x y z,vs=[a,b,d]/\xs=[x,y,z]/\R a x/\R b y/\R d z:=by
 refine dU (h.ls e) fun a x g xt f c=>?_;obtain rfl:=f;refine Za c ?_;clear c;intro f c;obtain rfl:=f;refine bM c ?_;clear c;intro r t e;refine dU (t.l2 e) fun b d y z f c=>?_;obtain rfl:=f;refine Za c ?_;clear c;intro f q;obtain rfl:=f;exact E6 _ _ _ _ _ _ (A4 rfl rfl r q)
end
section
variable {c:Cx}{fd:FuncData}{d:List Nat}{ns:List Str}
theorem Binds.p1(nd:d.Nodup)(e:d.map c.S=ns)(h:∀a,bindArgs fd ⟨[a],[]⟩=pure (ns.zip [a])):Binds c fd 1 [] d fun xs _=>xs:=
 .pos nd fun vs f=>by
  delta cH;refine e▸?_;refine br (nS f) fun a t b h0=>?_;obtain rfl:=b;cases List.length_eq_zero_iff.mp h0;exact h a
theorem Binds.p2(nd:d.Nodup)(g:d.map c.S=ns)(h:∀a b,bindArgs fd ⟨[a,b],[]⟩=pure (ns.zip [a,b])):Binds c fd 2 [] d fun xs _=>xs:=
 .pos nd fun vs i=>by
  delta cH;refine g▸?_;refine br (nS i) fun a t e h0=>?_;obtain rfl:=e;refine br (nS h0) fun b t e f=>?_;obtain rfl:=e;cases List.length_eq_zero_iff.mp f;exact h a b
end
theorem xD{c:Cx}{sc:Scope}{lv:Nat}{n:Str}{pos:Pos}{a:Addr}{vs:List Value}{k:Nat}{xs:List MV}(g:sc.names.lookup n=some .globalImplicit)(f:nsIn c.K mainGlobals n=some (some (.ref a)))(hd:(n == ("__debug__" : Str))=false)(i:c.K.lookup a=some (bg vs k))(j:∀W,VRs c.S W vs xs)(h:xs.length<=100000):CE c sc lv (.Name n pos) (ax (.lst xs)):=by
 intro d A W Kp m s Q E e b l I q;subst e;refine Name_function_global b.kind g (loadGlobal_global (mg:=c.mg) (b.globals▸I.inv.glob) (mg_of c.X c.G f) ?_) hd;exact PE.here I (.lst (I.inv.emp _ _ (c.X _ _ i) rfl) (j W) h) q
end
theorem Fm.fresh0{c:Cx}{W:Wd}{Kp:aA}{H:aq->Option MObj}{nx:Nat}{s o:Shared}{env':Env}{j:List Nat}{vs:List Value}{xs:List MV}(I:Inv c W Kp H nx s)(x:InCallC s env'.locals (bindL env'.kindOf (cH c.S j vs) fun _=>none) env'.cells (bindC env'.kindOf (cH c.S j vs) fun _=>none) o)(nd:j.Nodup)(m:VRs c.S W vs xs)(i:∀x,env'.kindOf (c.S x)≠some .free)(a:∀x,env'.kindOf (c.S x)=some .cell->∃b,env'.cells.lookup (c.S x)=some b) :Fm c W Kp env' (j.zip xs) o.heap:=by
 have f:∀b,FA c env' b->s.heap.objs.size<=b:=fun b g=>by
  rcases g with rfl|⟨n,_,e⟩
  ·exact x.toInCall.fresh
  ·exact Zk x.toInCall.fresh (Zv (x.above _ _ (mem_of_lookup e)))
 refine⟨fun b g=>(A3 (I.fresh_own (f b g)) (I.fresh_F (f b g)) (I.fresh_kp (f b g))),⟨_,x.toInCall.ns,fun n v h d=>rP c nd m h d⟩,fun n v h d=>?_,fun n d=>?_,fun n t b l p e k=>?_,fun n l=>absurd l (i n)⟩
 ·rcases d with d|d
  ·refine Zx (a n d) fun b e=>?_;refine ar (rQ c nd m (mm:=fun _=>none) h d) fun u q r=>?_;exact E2 b u (A3 e (q▸x.cell _ _ e) r)
  ·exact absurd d (i n)
 ·refine Zx (a n d) fun b e=>?_;exact E2 b _ ⟨e,x.cell _ _ e⟩
 ·exact c.inj _ _ (name_of_addr x.apart (mem_of_lookup e) (mem_of_lookup k))
def Bh(c:Cx)(W:Wd)(Kp:aA)(Q:MV->AS->Prop)(r:Result)(b:Shared):Prop:=match r with
 |.ok (.ret v)=>∃a y σ',W.le a/\Inv c a Kp σ'.H σ'.nx b/\VR c.S a v y/\Q y σ'
 |_=>False
def zt(c:Cx)(f:Value)(a:List Str)(g:List MV->List MV->ap):Prop:=
 ∀(W:Wd)(Kp:aA)(H:aq->Option MObj)(nx:Nat)(s:Shared)(Q:MV->AS->Prop)(vs ks:List Value)(xs ys:List MV),Inv c W Kp H nx s->VRs c.S W vs xs->VRs c.S W ks ys->ys.length=a.length->g xs ys ⟨H,nx,[]⟩ Q->
  codeAny c.M callerA (.call f ⟨vs,a.zip ks⟩) (Bh c W Kp Q) s
theorem xn{c:Cx}{f:Addr}{kn:List Str}{n:Nat}{A:List Nat}{bm:List MV->List MV->List MV}{name d:Str}{a:Arguments}{j:List Stmt}{sc:Scope}{E T l X i D oc:Value}{C od:Option Addr}{V:Array (Option Value)}{body:MS}(ho:c.K.lookup f=some ⟨oc,od,.func (fnX name d a j sc [] E T l X C i D),V⟩)(G:codeIn c.K i d=true)(hb:Binds c (fnX name d a j sc [] E T l X C i D) n kn A bm)(P:fY sc=true)(O:psOK c sc A)(h:CSs c sc 9 j body) :
  zt c (.ref f) kn (iU n A bm body):=by
 refine iO P ?_;intro L u k m;intro W Kp H nx s Q vs ks xs ys I hv N M Y;refine Za Y fun hn q=>?_;refine ar (hb.go W s vs ks xs ys I.KIn I.emp hv N hn M) fun us F R=>?_;refine codeAny_call_function (fd:=fnX name d a j sc [] E T l X C i D) (body:=j) (by decide) (I.KIn _ _ ho) rfl u k rfl (codeRec_of I.KIn G) (F _ _ _ _ ?_);refine wpAny_newFunctionEnv_cells L (fun p hp=>?_) fun env' J s1 x=>?_
 ·refine ar (dZ hp) fun y S e=>?_;refine e▸?_;exact(O y S).imp id fun z=>⟨z,cellsFrom_some _ _ _ (.inl z)⟩
 subst J;refine⟨I.lim.keeps x.toInCall.keep,codeAny_func ?_⟩;refine br x.done fun v tk Z t=>?_;obtain rfl:=Z;have I1:InvF c W Kp (newEnv sc s.heap.objs.size mainGlobals (cellsFrom (s.heap.objs.size+1) sc.names []) (d++".<locals>.") (some f) i none builtinsNs) ⟨H,nx,A.zip (bm xs ys)⟩ { s with heap:=v,toks:=tk }:=
  ⟨I.grown fun b o _ e=>t b o e,Fm.fresh0 I x hb.nd R (fun y=>fh m _) fun y S=>Option.isSome_iff_exists.mp (cellsFrom_some _ _ _ (.inl S))⟩
 refine Zg (h _ _ W _ _ _ _ _ rfl ⟨L,rfl,rfl,k,u⟩ ⟨(by decide:1+300+1+8*9<900),(by decide:4+3+40*9<9000),rfl,_,rfl,fun e J=>?_⟩ I1 q) (fun fl s2 z0=>z0.ex fun W2 g w U I2 r2 q2=>?_) fun _ _ z=>z
 ·cases List.mem_singleton.mp J;refine⟨by show sc.kind≠_;refine L.symm▸?_;decide,_,A3 rfl ?_ (.inl rfl)⟩;cases z:c.B.get? s.heap.objs.size with
  |none=>rfl
  |some o=>exact absurd (Zy (I.keeps _ _ z)) (Nat.lt_irrefl _)
 refine⟨W2,E2 (i9 g) ⟨w.H,w.nx,[]⟩ (A4 U I2.inv ?_ q2)⟩;induction r2 with
 |next=>exact .none
 |brk=>exact .none
 |cont=>exact .none
 |ret r=>exact r
abbrev oe(xs:Array Nat):Prop:=xs.toList.Pairwise (·<·)
theorem m8{xs:Array Nat}(h:oe xs){i j:Nat}(a:i<j)(b:j<xs.size):xs.getD i 0<xs.getD j 0:=by
 have c:i<xs.size:=Zs a b;have:=List.pairwise_iff_getElem.mp h i j c b a;simpa[Array.getD,c,b] using this
theorem mid{b a:Nat}(h:b<a):b<=(b+a) / 2/\(b+a) / 2<a:=by omega
theorem xe(xs:Array Nat)(j:Nat)(h:oe xs)(a:Nat):∀(b c:Nat),c - b<=a->b<=c->c<=xs.size->(∀i,i<b->xs.getD i 0<j)->(∀i,c<=i->i<xs.size->¬ xs.getD i 0<j)->∃p,SetTable.below.go xs j a b c=p/\p<=xs.size/\(∀i,i<p->xs.getD i 0<j)/\∀i,p<=i->i<xs.size->¬ xs.getD i 0<j:=by
 induction a with
 |zero=>intro b c r m k n o;exact⟨b,A4 rfl (Zk m k) n (fun i d=>o i (by omega))⟩
 |succ a s=>
  intro b c r m k n o;by_cases e:b<c
  ·have f:=mid e;have g:xs.getD ((b+c) / 2) j=xs.getD ((b+c) / 2) 0:=by
    have:(b+c) / 2<xs.size:=uV k f.2;simp[Array.getD,this]
   by_cases l:xs.getD ((b+c) / 2) 0<j
   ·refine(show SetTable.below.go xs j (a+1) b c=SetTable.below.go xs j a ((b+c) / 2+1) c from(if_pos e).trans (if_pos (g.symm▸l)))▸?_;refine s _ c (mo r f.1 (Zd (Zu m).symm) (Zd (Zu f.2))) (gq f.2) k (fun i d=>?_) o;rcases Nat.lt_or_ge i ((b+c) / 2) with q|q;·exact Zs (m8 h q (Zp f.2 k)) l
    ·have:i=(b+c) / 2:=Nat.le_antisymm (av 1 1 0 0 d rfl) q;refine this▸?_;exact l
   ·refine(show SetTable.below.go xs j (a+1) b c=SetTable.below.go xs j a b ((b+c) / 2) from(if_pos e).trans (if_neg (g.symm▸l)))▸?_;refine s b _ (mo r f.2 (Zd (Zu m).symm) (Zd (Zu f.1))) (gq f.1) (iG k f.2) n fun i d t=>?_;rcases Nat.lt_or_ge ((b+c) / 2) i with q|q;·intro z;exact l (Zs (m8 h q t) z)
    ·have:i=(b+c) / 2:=Nat.le_antisymm q d;exact this▸l
  ·exact⟨b,A4 (if_neg e) (Zk m k) n (fun i d=>o i (Zk (Zm e) d))⟩
theorem lS{xs:Array Nat}(h:oe xs)(j:Nat):SetTable.below xs j<=xs.size/\(∀i,i<SetTable.below xs j->xs.getD i 0<j)/\∀i,SetTable.below xs j<=i->i<xs.size->¬ xs.getD i 0<j:=by
 refine eW (xe xs j h xs.size 0 xs.size (Zj _) (Nat.zero_le _) (Zj _) (fun i c=>absurd c (ZA _)) (fun i c g=>absurd g (Nat.not_lt.mpr c))) fun p e a b d=>?_;have f:SetTable.below xs j=p:=e;refine f▸?_;exact A3 a b d
theorem uB{xs:Array Nat}(h:oe xs){i:Nat}(f:i<xs.size):SetTable.below xs (xs.getD i 0+1)=i+1:=by
 refine bM (lS h (xs.getD i 0+1)) fun a b d=>?_;rcases Nat.lt_trichotomy (SetTable.below xs (xs.getD i 0+1)) (i+1) with q|q|q;·exact absurd (Zr _) (d i (av 1 1 0 0 q rfl) f)
 ·exact q
 ·have c:=b (i+1) q;have e:xs.getD i 0<xs.getD (i+1) 0:=m8 h (Zr i) (by exact Zk q a:i+1<xs.size);exact False.elim (xK 1 1 1 0 c e rfl)
theorem uA{xs:Array Nat}(h:oe xs):SetTable.below xs 0=0:=by
 refine bM (lS h 0) fun a b d=>?_;rcases Nat.eq_zero_or_pos (SetTable.below xs 0) with q|q;·exact q
 ·exact absurd (b 0 q) (ZA _)
theorem qA{a:Type}(xs:Array a)(p:Nat)(x:a)(b:p<=xs.size):(SetTable.insertAt xs p x).toList=xs.toList.take p++x::xs.toList.drop p:=by
 delta SetTable.insertAt;simp;rw[List.take_of_length_le];simp
theorem uc{xs:Array Nat}(h:oe xs){j:Nat}(r:j∉xs.toList):oe (SetTable.insertAt xs (SetTable.below xs j) j):=by
 refine bM (lS h j) fun a b d=>?_;delta oe;rw[qA _ _ _ a,List.pairwise_append];have c:∀{i x:Nat},xs.toList[i]?=some x->i<xs.size/\xs.getD i 0=x:=fun{i x} e=>by
  have f:i<xs.size:=by
   rcases Nat.lt_or_ge i xs.size with q|q;·exact q
   ·rw[List.getElem?_eq_none q] at e;exact aQ e
  refine⟨f,?_⟩;simp[Array.getD,f] at e ⊢;exact e
 have m:∀x∈xs.toList.take (SetTable.below xs j),x<j:=fun x k=>by
  obtain⟨i,f⟩:=List.mem_iff_getElem?.mp k;rw[List.getElem?_take] at f;split at f
  ·rename_i n;have:=c f;refine this.2▸?_;exact b i n
  ·exact aQ f
 have l:∀x∈xs.toList.drop (SetTable.below xs j),j<x:=fun x k=>by
  obtain⟨i,f⟩:=List.mem_iff_getElem?.mp k;rw[List.getElem?_drop] at f;have g:=c f;have:=d _ (ZB _ i) g.1;rw[g.2] at this;rcases Nat.lt_or_eq_of_le (Nat.not_lt.mp this) with q|q;·exact q
  ·exact absurd (List.mem_of_mem_drop k) (q▸r)
 refine A3 (h.sublist (List.take_sublist _ _)) (List.pairwise_cons.mpr ⟨l,h.sublist (List.drop_sublist _ _)⟩) (fun x k y o=>?_);rcases List.mem_cons.mp o with p|o;·obtain rfl:=p.symm;exact m x k
 ·exact Zs (m x k) (l y o)
structure SGo(bt:Bool)(t:SetTable):Prop where
 led:t.led=!bt
 ris:oe t.place
 dum:t.dummies=#[]
theorem SGo.standIn{bt:Bool}{t:SetTable}(g:SGo bt t)(n:Nat):SGo bt (t.standIn n):=by
 refine⟨g.led,?_,rfl⟩;show(Array.range n).toList.Pairwise _;refine Array.toList_range▸?_;exact List.pairwise_lt_range
theorem SGo.plain{bt:Bool}{t:SetTable}(g:SGo bt t)(b:Bool):SGo bt { t with plain:=b }:=⟨g.led,g.ris,g.dum⟩
theorem ue{t:SetTable}{f:Nat->Int}{h:Int}(n:Nat):∀(p:SetTable.Probe){j:Nat}{d:Option Nat},SetTable.probe.go t f h n p=some (.empty j d)->t.slot j=.empty:=by
 induction n with
 |zero=>intro p j d e;exact aQ e
 |succ n b=>
  intro p j d e;have key:∀x,t.slot p.j=x->SetTable.instReprSlot.repr.match_1 (fun _=>Option SetTable.Met) x (fun _=>some (.empty p.j p.dummy)) (fun _=>SetTable.probe.go t f h n (t.advance { p with dummy:=some p.j })) (fun i=>if f i == h then some (.candidate p.j i (t.advance p)) else SetTable.probe.go t f h n (t.advance p))=some (.empty j d)->t.slot j=.empty:=by
   intro x q e;cases x with
   |empty=>cases e;exact q
   |dummy=>exact b _ e
   |live i=>
    by_cases a:(f i == h)=true;·cases (if_pos a).symm.trans e
    ·exact b _ ((if_neg a).symm.trans e)
  exact key _ rfl e
theorem sY(j:Nat):SetTable.has #[] j=false:=rfl
theorem t9{bt:Bool}{t:SetTable}(g:SGo bt t){j:Nat}{d:Option Nat}{x:Int}{p:SetTable.Probe}(e:t.probe (fun _=>x+1) x p=some (.empty j d)):j∉t.place.toList/\(SGo bt (t.put j).1):=by
 have h:=ue _ _ e;have l:j∉t.place.toList:=by
  intro r;obtain⟨i,c⟩:=List.mem_iff_getElem?.mp r;replace c:=(Array.getElem?_toList)▸c;have f:i<t.place.size:=by
   rcases Nat.lt_or_ge i t.place.size with q|q;·exact q
   ·rw[Array.getElem?_eq_none q] at c;exact aQ c
  have k:t.place.getD i 0=j:=by simp[Array.getD,f] at c ⊢;exact c
  refine bM (lS g.ris j) fun a b d'=>?_;have o:SetTable.below t.place j=i:=by
   rcases Nat.lt_trichotomy (SetTable.below t.place j) i with q|q|q
   ·have m:=m8 g.ris q f;have n:=d' _ (Zj _) (Zs q f);exact False.elim (xK 1 0 0 0 (bR 1 0 0 0 1 0 m (Zd k) rfl) (Zm n) rfl)
   ·exact q
   ·have:=b i q;exact False.elim (Nat.not_le_of_lt this (Zd k.symm))
  unfold SetTable.slot at h;replace h:=o▸h;replace h:=(if_pos (by rw[c];exact if_pos rfl)).symm.trans h;cases h
 refine⟨l,g.led,uc g.ris l,?_⟩;show(if SetTable.has t.dummies j=true then _ else t.dummies)=_;rw[g.dum,sY];rfl
theorem SGo.layNew{bt:Bool}{t:SetTable}(g:SGo bt t)(es:Array (Int×Value)) (h:Int)(x:Value):SGo bt (PySem.layNew t es h x).2.1:=by
 delta PySem.layNew;cases a:t.freeSlot h with
 |none=>exact g.standIn _
 |some r=>
  obtain⟨slot,u⟩:=r;dsimp only;have k:SGo bt (t.put slot).1:=by
   have b:∀x,t.probe (fun _=>h+1) h (t.probeStart h)=x->SetTable.freeSlot.match_1 (fun _=>Option (Nat×Bool)) x (fun j d=>some (d.getD j,d.isSome)) (fun _=>none)=some (slot,u)->SGo bt (t.put slot).1:=by
    intro x e a;cases x with
    |none=>exact aQ a
    |some m=>
    cases m with
    |candidate=>exact aQ a
    |empty j d=>
    induction d with
    |none=>
     obtain⟨rfl,_⟩:=Prod.mk.inj (Zb a);exact(t9 g e).2
    |some v=>
     exfalso;have key:∀(n:Nat)(p:SetTable.Probe),p.dummy=none->∀j d,SetTable.probe.go t (fun _=>h+1) h n p=some (.empty j d)->d=none:=by
      intro n;induction n with
      |zero=>intro p _ j d e;exact aQ e
      |succ n s=>
       intro p f j d e;have o:(t.advance p).dummy=none:=by
        delta SetTable.advance;split;·exact f
        ·exact f
       have c:∀x,t.slot p.j=x->SetTable.instReprSlot.repr.match_1 (fun _=>Option SetTable.Met) x (fun _=>some (.empty p.j p.dummy)) (fun _=>SetTable.probe.go t (fun _=>h+1) h n (t.advance { p with dummy:=some p.j })) (fun i=>if (h+1) == h then some (.candidate p.j i (t.advance p)) else SetTable.probe.go t (fun _=>h+1) h n (t.advance p))=some (.empty j d)->d=none:=by
        intro x q e;cases x with
        |empty=>cases e;exact f
        |dummy=>
         delta SetTable.slot at q;dsimp only at q;split at q;·cases q
         ·rw[g.dum,sY] at q;cases q
        |live i=>
         by_cases l:(h+1 == h)=true;·cases (if_pos l).symm.trans e
         ·exact s _ o j d ((if_neg l).symm.trans e)
       exact c _ rfl e
     have:=key _ _ rfl _ _ e;exact jF this
   exact b _ rfl a
  delta SetTable.orStandIn;split;·exact k
  ·exact k.standIn _
theorem SGo.relayAll{bt:Bool}{t:SetTable}(g:SGo bt t)(es:Array (Int×Value))(n:Nat):SGo bt (PySem.relayAll t es n).2.1:=by
 delta PySem.relayAll;cases c:t.relaid (es.map (·.1)) n with
 |none=>exact g.standIn _
 |some r=>
  obtain⟨h,e⟩:=r;dsimp only;split
  ·delta SetTable.relaid SetTable.laid at c;simp only[bind,Option.bind] at c;split at c;·exact aQ c
   ·obtain⟨rfl,_⟩:=Prod.mk.inj (Zb c);refine⟨g.led,?_,rfl⟩;show List.Pairwise _ (List.toArray _).toList;rw[List.map_filterMap];refine List.Pairwise.sublist ?_ (List.pairwise_lt_range (n:=SetTable.sizeAbove n - 1+1));generalize List.range (SetTable.sizeAbove n - 1+1)=l;induction l with
    |nil=>exact .slnil
    |cons a l f=>
     rw[List.filterMap_cons];split;·exact .cons _ f
     ·rename_i b d;have:b=a:=by
       simp at d;obtain⟨_,d⟩:=d;exact d.symm
      refine this▸?_;exact .cons_cons _ f
  ·exact g.standIn _
section
section
variable {prog:Program}{w:World}{K:Type} [DecidableEq K]{knd:KeyKind prog w K}{bt:Bool}{A:Around}{E:Value->Shared->Prop}{s:Shared}
def SetG(knd:KeyKind prog w K)(bt:Bool)(h:Heap)(a:Addr)(S:K->Bool)(n:Nat):Prop:=
 ∃o es ep t,h.get? a=some o/\o.ExactSet/\o.data=.set es ep t/\ElemsOf knd es.toList/\(∀k,S k=true↔∃e∈es.toList,knd.is k e.2=true)/\es.size<scanBound/\t.fits es.size=true/\es.size=n/\SGo bt t
theorem SetG.keep{h h':Heap}{a:Addr}{S:K->Bool}{n:Nat}(x:SetG knd bt h a S n)(k:∀o,h.get? a=some o->h'.get? a=some o):SetG knd bt h' a S n:=
 by refine dU x ?_;clear x;intro o es ep t b r;exact⟨o,E3 es ep t ⟨k o b,r⟩⟩
theorem oR{h:Heap}{a:Addr}{o:Obj}{es:Array (Int×Value)}{ep:Nat}{t:SetTable}(n:h.get? a=some o)(f:o.ExactSet)(hd:o.data=.set es ep t){es':Array (Int×Value)}{c:SetTable}{i:K->Bool}(d:ElemsOf knd es'.toList)(b:∀k,i k=true↔∃e∈es'.toList,knd.is k e.2=true)(j:es'.size<scanBound)(l:c.fits es'.size=true)(g:SGo bt c) :(h.update a (Obj.putSet es' c)).get? a=some { o with data:=.set es' (ep+1) c }/\SetG knd bt (h.update a (Obj.putSet es' c)) a i es'.size:=by
 obtain⟨m,_⟩:=SetOf_store (knd:=knd) n f hd d b j l;exact⟨m,_,E3 es' (ep+1) c (A9 m f rfl d b j l rfl g)⟩
theorem ql{g:Bool->Sem Unit}(Q:∀(b:Bool)(k:Shared)(M:Unit->Shared->Prop),M () k->wpAny (model prog w) A (g b) M E k){a:Addr}{o:Obj}{es:Array (Int×Value)}{ep:Nat}{t:SetTable}(O:s.heap.get? a=some o)(v:o.ExactSet)(hd:o.data=.set es ep t){es1:Array (Int×Value)}{f:SetTable}{G:K->Bool}(i:ElemsOf knd es1.toList)(d:∀n,G n=true↔∃e∈es1.toList,knd.is n e.2=true)(l:es1.size<scanBound)(L:f.fits es1.size=true)(N:SGo bt f){c:Bool}{R:Option Bool->Shared->Prop}(h:∀h',Heap.SameBut a s.heap h'->SetG knd bt h' a G es1.size->R (some true) { s with heap:=h' }) :
  wpAny (model prog w) A (do
    storeSet a es1 f
    if (!c&&f.tooFull)=true then do
      g (relayAll f es1 (SetTable.grown es1.size)).2.2
      storeSet a (relayAll f es1 (SetTable.grown es1.size)).1 (relayAll f es1 (SetTable.grown es1.size)).2.1
      pure (some true)
     else pure (some true)) R E s:=by
 refine Zf (wpAny_storeSet_of O hd ?_ (fits_of_scanBound l));obtain⟨z,I⟩:=oR (knd:=knd) O v hd i d l L N;have j:=Zw s.heap a (Obj.putSet es1 f);split
 ·have B:=relayAll_perm f es1 (SetTable.grown es1.size);have x:=relayAll_fits f es1 (SetTable.grown es1.size);have y:=N.relayAll es1 (SetTable.grown es1.size);generalize P:relayAll f es1 (SetTable.grown es1.size)=Rl at B x y ⊢;obtain⟨es2,S,H⟩:=Rl;have u:ElemsOf knd es2.toList:=i.perm B;have m:∀n,G n=true↔∃e∈es2.toList,knd.is n e.2=true:=fun n=>(d n).trans ⟨fun D=>by refine ar D ?_;clear D;intro e J q;exact⟨e,B.mem_iff.mpr J,q⟩,fun F=>by refine ar F ?_;clear F;intro e J q;exact⟨e,B.mem_iff.mp J,q⟩⟩;have C:es2.size=es1.size:=(Array.length_toList▸B.length_eq▸Array.length_toList▸rfl)
  have r:es2.size<scanBound:=(C▸l)
  refine Zf (Q _ _ _ ?_);refine Zf (wpAny_storeSet_of z rfl ?_ (fits_of_scanBound r));obtain⟨_,p⟩:=oR (knd:=knd) z v rfl u m r x y;rw[C] at p;exact Zi (h _ (j.trans (Zw _ a _)) p)
 ·exact Zi (h _ j I)
theorem sE{a:Addr}{S:K->Bool}{n:Nat}{k:K}{x:Value}{Q:Bool->Shared->Prop}(p:knd.is k x=true)(G:x.scannable=true)(hS:SetG knd bt s.heap a S n)(F:n+1<scanBound)(h:∀h',Heap.SameBut a s.heap h'->SetG knd bt h' a (fun u=>S u||decide (u=k)) (if S k then n else n+1)->Q (!S k) { s with heap:=h' }) :
  wpAny (model prog w) A (setAddHashed a x (knd.hash k)) Q E s:=by
 refine iQ hS ?_;clear hS;intro o es ep t J D hd v g Y O V;obtain⟨T,X⟩:=V;have N:es.size+1<scanBound:=(T▸F)
 refine wpAny_holding (Zf (wpAny_setState_of J hd O ?_));dsimp only;refine(byScan_of G Y v).symm▸?_;refine Zf ?_;refine Zf (wpAny_rule ?_);refine Zf (wpAny_setScan_of p J hd O v ?_);cases Z:List.findIdx? (fun e=>knd.is k e.2) es.toList with
 |some j=>
  refine ar (List.findIdx?_eq_some_iff_getElem.mp Z) fun hj U _=>?_;have m:S k=true:=(g k).mpr ⟨es.toList[j],List.getElem_mem hj,U⟩;refine Zi (Zi ?_);have e:s={ s with heap:=s.heap }:=by induction s;rfl
  have:=h s.heap (Heap.SameBut.refl a s.heap) ⟨o,es,ep,t,J,D,hd,v,fun u=>by
   rw[Bool.or_eq_true,decide_eq_true_eq,<-g u];exact⟨fun R=>R.elim id (fun e=>e▸m),.inl⟩,Y,O,by rw[m];exact T,X⟩
  replace this:=m▸this;exact this
 |none=>
  dsimp only;have m:S k=false:=by
   cases R:S k with
   |false=>rfl
   |true=>refine ar ((g k).mp R) fun e he hp=>?_;have:=List.findIdx?_eq_none_iff.mp Z e he;replace this:=hp.symm.trans this;exact Bool.noConfusion this
  have P:∀(b:Bool){f:Shared}{I:Unit->Shared->Prop},I () f->wpAny (model prog w) A (match b with|true=>rule "set.scan.the-table-gave-way" |false=>pure ()) I E f:=
   fun b f I C=>by induction b<;>first|exact Zi C|exact wpAny_rule C
  have c:=layNew_perm t es (knd.hash k) x;have d:=layNew_fits t es (knd.hash k) x;have l:=X.layNew es (knd.hash k) x;generalize hL:layNew t es (knd.hash k) x=L at c d l ⊢;obtain⟨es1,t1,H,W⟩:=L;dsimp only at c d l ⊢;replace c:=Array.toList_push▸c;have z:ElemsOf knd es1.toList:=(v.push p G).perm c;have q:∀u,(S u||decide (u=k))=true↔∃e∈es1.toList,knd.is u e.2=true:=mem_push_iff p g c;have y:es1.size<scanBound:=(Array.length_toList▸c.length_eq▸List.length_append▸Array.length_toList▸N)
  refine Zf (P _ ?_);have M:es1.size=n+1:=by rw[<-Array.length_toList,c.length_eq,List.length_append,Array.length_toList,T];rfl
  have B:∀h',Heap.SameBut a s.heap h'->SetG knd bt h' a (fun u=>S u||decide (u=k)) es1.size->Q true { s with heap:=h' }:=by
   intro h' r i;have:=h h' r;rw[m] at this;rw[M] at i;exact this i
  split
  ·refine Zf ?_;rw[hashByValue_scannable 8 G];refine Zi ?_;refine ql (bt:=bt) ?_ J D hd z q y ?_ ?_ ?_;·intro b f I C;cases b<;>first|exact Zi C|exact wpAny_rule C
   ·split;·exact d
    ·exact SetTable.fits_plain_off d
   ·split;·exact l
    ·exact l.plain false
   ·intro h' r i;dsimp only;exact Zi (B h' r i)
  ·refine Zf (Zi ?_);refine ql ?_ J D hd z q y d l ?_;·intro b f I C;cases b<;>first|exact Zi C|exact wpAny_rule C
   ·intro h' r i;dsimp only;exact Zi (B h' r i)
noncomputable def jT(acc:List K)(k:K):List K:=if k∈acc then acc else acc++[k]
noncomputable def kM(ks:List K):List K:=ks.foldl jT []
noncomputable abbrev iH(acc:List K):K->Bool:=fun k=>decide (k∈acc)
abbrev gs(knd:KeyKind prog w K):List Value->List K->Prop:=All2 fun v k=>knd.is k v=true/\v.scannable=true
theorem An{a:Addr}{acc:List K}{k:K}{x:Value}{Q:Bool->Shared->Prop}(d:knd.is k x=true)(i:x.scannable=true)(hS:SetG knd bt s.heap a (iH acc) acc.length)(m:acc.length<=1000)(h:∀b h' j,Heap.SameBut a s.heap h'->SetG knd bt h' a (iH (jT acc k)) (jT acc k).length->Q b { s with heap:=h',toks:=j }):wpAny (model prog w) A (setAdd a x) Q E s:=by
 refine wpAny_holding ?_;refine Zf (knd.pyHash (k:=k) d ?_);refine sE (s:={ s with toks:=s.toks+1 }) d i hS (by have:scanBound=4096:=rfl;exact bR 0 1000 4096 0 2 0 m (Zd this.symm) rfl) fun h' n c=>?_;refine h _ h' (s.toks+1) n ?_;delta jT;by_cases g:k∈acc
 ·rw[if_pos g];have e:(fun f=>iH acc f||decide (f=k))=iH acc:=funext fun f=>by
   by_cases l:f=k;·obtain rfl:=l.symm;simp[g]
   ·simp[l]
  rw[e,show iH acc k=true from decide_eq_true g] at c;exact c
 ·rw[if_neg g];have e:(fun f=>iH acc f||decide (f=k))=iH (acc++[k]):=funext fun f=>by
   refine Bool.eq_iff_iff.mpr ?_;simp
  rw[e,show iH acc k=false from decide_eq_false g] at c;rw[List.length_append];exact c
theorem th(acc:List K)(k:K):(jT acc k).length<=acc.length+1:=by
 delta jT;split;·exact Zz _
 ·rw[List.length_append];exact Zj _
theorem wo{a l it:Addr}(D:a≠l)(d:a≠it)(H:it≠l):∀(k:Nat){A:Around}{R:Result->Shared->Prop}{s:Shared}{us:List Value}{ks:List K}{i:Nat}{acc:List K},A.handled=none->us.length - i=k->gs knd us ks->s.heap.IsListIter it l i->s.heap.IsList l us.toArray->SetG knd bt s.heap a (iH acc) acc.length->acc.length+(us.length - i)<=900->i<=us.length->(∀h' tk,(∀b o,b≠a->b≠it->s.heap.get? b=some o->h'.get? b=some o)->SetG knd bt h' a (iH ((ks.drop i).foldl jT acc)) ((ks.drop i).foldl jT acc).length->R (.ok (.ret .none)) { s with heap:=h',toks:=tk })->
  codeAny (model prog w) A (.builtin "set.update.loop" ⟨[.ref a,.ref it],[]⟩) R s:=by
 intro k;induction k with
 |zero=>
  intro A R s us ks i acc G y v g z hS m V n;have f:us.length<=i:=Nat.le_of_sub_eq_zero y;have hd:ks.drop i=[]:=List.drop_eq_nil_iff.mpr (v.length▸f);refine codeAny_builtin PyProof.Rows.F.entry_set_update_loop ?_;refine Zf (wpAny_pyNext_list_end G g z (Nat.not_lt.mpr f |> fun h=>by simpa using f) fun h' N=>?_);rw[hd] at n;exact Zi (n h' s.toks (fun b o _ U e=>N b o U e) (hS.keep fun o e=>N a o d e))
 |succ k W=>
  intro A R s us ks i acc G y v g z hS m V n;have c:i<us.length:=Nat.lt_of_sub_eq_succ y;have u:i<ks.length:=v.length▸c;obtain⟨x,O⟩:∃x,us[i]?=some x:=⟨_,List.getElem?_eq_getElem c⟩
  refine bz (v.getV O) fun P t I J=>?_;refine codeAny_builtin PyProof.Rows.F.entry_set_update_loop ?_;refine wA (Around.under_plainId PyProof.Rows.F.plain_set_update_loop _) ?_;have Q:ks[i]=P:=by rw[List.getElem?_eq_getElem u] at t;exact Zb t
  replace n:=List.foldl_cons▸Q▸(List.drop_eq_getElem_cons u)▸n;refine Zf (wpAny_pyNext_list_item g z (x:=x) (by simpa using O) fun S r j=>?_);refine Zf (wpAny_holding (An (s:={ s with heap:=S }) I J (hS.keep fun o e=>(j.2 a d).trans e) (gq m) fun b Y X L B=>?_));refine Zi ⟨plainId_quiet PyProof.Rows.F.plain_set_update_loop _,W G (NS y) v (rH r fun o e=>(L.2 it (Ne.symm d)).trans e) (p9 z fun o e=>(L.2 l (Ne.symm D)).trans ((j.2 l (Ne.symm H)).trans e)) B (by have:=th acc P;exact NT m c (by assumption)) c fun T M k3 C=>n T M (fun b o p q e=>k3 b o p q ((L.2 b p).trans ((j.2 b q).trans e))) C⟩
end
end
section
noncomputable abbrev dl(w:World):Bool:=w.params.followText "set-order"
noncomputable abbrev fv(bt:Bool):Obj:={ cls:=.type "set",dict:=none,data:=.set #[] 0 (.fresh 0 0 (!bt)) }
section
variable {prog:Program}{w:World}{A:Around}{E:Value->Shared->Prop}{s:Shared}
theorem vu(a:Value){Q₁:Value->Shared->Prop}(h:Q₁ (.ref s.heap.objs.size) { s with heap:=s.heap.push (fv (dl w)) }) :
  codeAny (model prog w) A (.call (.builtin "set.__new__") ⟨[.type "set",a],[]⟩) (wants Q₁ E) s:=by
 refine codeAny_of_tree ?_;refine Zf (wpAny_of_eq (PySem.F.newCall_set_1 a) (Zi ⟨plainId_quiet PySem.F.plain_set_new _,codeAny_builtin PySem.F.entry_set_new ?_⟩));delta Builtin.«set.__new__» Builtin.Frozenset.newClass;have b:=sub_set_self;obtain⟨c,g,d,tk,os⟩:=s;wp_walk;refine wpAny_askSetting (Zi ?_);dsimp only;refine Zf (wpAny_alloc (Zi ?_));exact Zi h
variable {K:Type} [DecidableEq K]{knd:KeyKind prog w K}
theorem um(h:Heap):SetG knd (dl w) (h.push (fv (dl w))) h.objs.size (iH ([]:List K)) 0:=
 ⟨_,E3 (#[]) 0 _ ⟨Zq _ rfl,⟨rfl,rfl,rfl⟩,rfl,fun e a=>gY a,fun k=>by simp,by decide,by cases dl w<;>decide,rfl,rfl,List.Pairwise.nil,rfl⟩⟩
set_option maxHeartbeats 3200000 in
theorem uy{l:Addr}{vs:List Value}{ks:List K}{Q:Value->Shared->Prop}(Z:A.handled=none)(hl:s.heap.IsList l vs.toArray)(hi:gs knd vs ks)(C:vs.length<=900)(h:∀(h':Heap)(tk:Nat),SetG knd (dl w) h' s.heap.objs.size (iH (kM ks)) (kM ks).length->(∀b o,b<s.heap.objs.size->s.heap.get? b=some o->h'.get? b=some o)->Q (.ref s.heap.objs.size) { s with heap:=h',toks:=tk }) :
  wpAny (model prog w) A (call (.type "set") [.ref l]) Q E s:=by
 refine jE PySem.F.called_set.mro fun c tl N=>?_;have I:=PySem.F.called_set.made;have S:=PySem.F.called_set.sub;refine wpAny_call (codeAny_of_tree ?_);refine Zi ⟨Code.quiet_builtin _ (by decide +kernel),codeAny_builtin PySem.F.entry_type_call ?_⟩;rw[Around.under_plain (weight_type_call_type "set" [.ref l] []) rfl];have Y:=PySem.F.typeCall_set_1 (.ref l);repeat (any_goals (first|assumption|wp_step))
 refine codeAny_mono (vu (.ref l) (E:=E) (Q₁:=fun obj g=>obj=.ref s.heap.objs.size/\g={ s with heap:=s.heap.push (fv (dl w)) }) ⟨rfl,rfl⟩) fun r g J=>?_;induction r with
 |error e=>exact J
 |ok V=>
  induction V with
  |ret obj=>
   obtain⟨rfl,rfl⟩:=J;have hS:(s.heap.push (fv (dl w))).get? s.heap.objs.size=some (fv (dl w)):=Zq _ rfl;have W:Shared.TypeIs { s with heap:=s.heap.push (fv (dl w)) } (.ref s.heap.objs.size) "set":=⟨_,hS,rfl⟩
   have hli:=PySem.F.called_set.init.lookup;have X:=PySem.F.called_set.init.bind (.ref s.heap.objs.size);repeat (any_goals (first|assumption|wp_step))
   refine codeAny_mono (codeAny_call_builtin (R:=wants (fun r j=>r=.none/\∃h' tk,j={ s with heap:=h',toks:=tk }/\
     SetG knd (dl w) h' s.heap.objs.size (iH (kM ks)) (kM ks).length/\(∀b o,b<s.heap.objs.size->s.heap.get? b=some o->h'.get? b=some o)) E) PySem.F.called_set.init.plain PySem.F.entry_set_init (check_set_init_1 W ?_)) fun B j d=>?_
   ·refine bz hl ?_;intro ol y t M;obtain⟨T,u⟩:=M;obtain⟨U,q,L,f⟩:=ol;simp only at t u;subst t;subst u;have z:(s.heap.push (fv (dl w))).get? l=some { cls:=.type "list",dict:=q,data:=.seq vs.toArray T,slots:=f }:=Zl _ y;have P:=PySem.F.sub_list_set;have O:=PySem.F.sub_list_frozenset;have v:(s.heap.push (fv (dl w))).IsList l vs.toArray:=⟨_,z,rfl,T,rfl⟩
    delta Builtin.«set.__init__» noKeywords Builtin.Frozenset.updateFrom;generalize D:pyIter=PI;wp_walk;subst D;refine wpAny_pyIter_list v ?_;refine Zf (wpAny_runValue ?_);have x:l<s.heap.objs.size:=Zy y;have G:A.in1.in1.in1.handled=none:=by simp[Z]
    have p:(s.heap.push (fv (dl w))).objs.size=s.heap.objs.size+1:=Heap.size_push ..;refine wo (knd:=knd) (bt:=dl w) (a:=s.heap.objs.size) (l:=l) (it:=(s.heap.push (fv (dl w))).objs.size) (ks:=ks) (us:=vs) (i:=0) (acc:=[]) (Zn x) (by rw[p];exact Zh (Zr _)) (by rw[p];exact Zn (Nat.lt_succ_of_lt x)) _ G rfl hi ⟨_,A3 (Zq _ rfl) rfl rfl⟩ (v.push _) ((um (knd:=knd) s.heap).keep fun o e=>Zl _ e) (by simpa using C) (Nat.zero_le _) fun h' tk k n=>?_;refine Zi ?_;refine Zi ⟨rfl,E2 h' tk (A3 rfl n (fun b o C e=>?_))⟩;exact k b o (Zh C) (by rw[p];exact Zh (Nat.lt_succ_of_lt C)) (Zl _ (Zl _ e))
   ·induction B with
    |error e=>exact d
    |ok m=>
     induction m with
     |ret r=>
      obtain⟨rfl,h',tk,rfl,n,H⟩:=d;repeat (any_goals (first|assumption|wp_step))
      exact h _ _ n H
     |_=>exact d.elim
  |_=>exact J.elim
end
end
section
namespace SI
theorem owner:Manifest.owners.lookup (String.ofList ['r','o','t','a','r','e','t','i','_','t','e','s'].reverse)=some Manifest.sig_set_iterator:=by kernel_rfl
theorem slot_next:Slot "set_iterator" "__next__" "set_iterator.__next__":=
 .of (owner:="set_iterator") (n:="__next__") (by rw[typeLookup_type,builtinLookup_eq_fast];kernel_rfl) (by decide +kernel) (by decide +kernel) (by decide +kernel)
  (by first|exact .inl (by decide +kernel)|exact .inr (by decide +kernel)) (by rw[isSubtype_type];kernel_rfl)
theorem entry_next:entryFor table "set_iterator.__next__"=some Builtin.«set_iterator.__next__»:=entryFor_of_tree (by kernel_rfl)
theorem args_next(a:Value):argsOk "set_iterator.__next__" ⟨[a],[]⟩:=by
 kernel_rfl
theorem entry_iter:entryFor table "set.__iter__"=some Builtin.«frozenset.__iter__»:=entryFor_alias (id':="frozenset.__iter__") (by kernel_rfl) rfl (by decide +kernel) (by kernel_rfl)
end SI
theorem lX{b:Type}:∀(l:List b)(i:Nat)(h:i<l.length),(l[i]::l.eraseIdx i).Perm l
 |a::l,0,_=>.refl _
 |a::l,i+1,h=>((lX l i (Nat.lt_of_succ_lt_succ h)).cons a).symm.trans (.swap ..) |>.symm
def IsSetIter(h:Heap)(it a:Addr)(f:Value)(i n ep:Nat):Prop:=∃o,h.get? it=some o/\o.cls=.type "set_iterator"/\o.data=.fields #[f,.int i 0,.ref a,.int n 0,.int ep 0]
theorem IsSetIter.typeIs{s:Shared}{it a:Addr}{f:Value}{i n ep:Nat}(x:IsSetIter s.heap it a f i n ep):s.TypeIs (.ref it) "set_iterator":=by refine bz x ?_;intro o c b _;exact⟨o,c,b⟩
def dY(h:Heap)(a:Addr)(es:Array (Int×Value))(ep:Nat)(t:SetTable):Prop:=∃o,h.get? a=some o/\o.cls=.type "set"/\o.data=.set es ep t/\t.fits es.size=true
section
variable {prog:Program}{w:World}{A:Around}{E:Value->Shared->Prop}{s:Shared}{a it:Addr}{es:Array (Int×Value)}{ep:Nat}{t:SetTable}{i:Nat}{f:Value}
theorem fX{Q:Array (Int×Value)->Shared->Prop}(x:dY s.heap a es ep t)(h:Q es s):wpAny (model prog w) A (setEntries a) Q E s:=by
 refine eW x ?_;intro o c _ hd b;exact wpAny_setEntries_of c hd b h
theorem f'{Q:(Array (Int×Value)×Nat×SetTable)->Shared->Prop}(x:dY s.heap a es ep t)(h:Q (es,ep,t) s):wpAny (model prog w) A (setState a) Q E s:=by
 refine eW x ?_;intro o c _ hd b;exact wpAny_setState_of c hd b h
theorem mI{Q:Bool->Shared->Prop}(h:Q (dl w) s):wpAny (model prog w) A setsByText Q E s:=by
 exact Zf (wpAny_askSetting (Zi h))
theorem oK{b:Nat}{Q:Option (Value×Nat)->Shared->Prop}(x:dY s.heap a es ep t)(g:SGo (dl w) t)(hd:dl w=false->(!t.plain&&decide (es.size>1))=false)(h:Q (if dl w then((pickOrder (w.params.setOrder a ep) es)[i]?).map fun e=>(e.2,b) else match es[SetTable.below t.place b]?,t.place[SetTable.below t.place b]? with
   |some (_,x),some j=>some (x,j+1)
   |_,_=>none) s):wpAny (model prog w) A (setNext a b i ep) Q E s:=by
 refine Zf (f' x ?_);dsimp only;refine Zf (mI ?_);cases c:dl w with
 |true=>
  rw[c] at h;refine wpAny_ite_true rfl ?_;refine wpAny_ite_false (decide_eq_false (by simp)) ?_;refine Zf (Zf (f' x ?_));refine Zf (mI ?_);refine c.symm▸?_;refine Zf (wpAny_askSetting (Zi ?_));exact Zi h
 |false=>
  rw[c] at h;show wpAny _ _ (if (!t.plain&&decide (es.size>1))=true then _ else _) _ _ _;rw[hd c];show wpAny _ _ ((if (!t.led&&!es.isEmpty)=true then unsupported "set:maker-not-led" else pure ()) >>= _) _ _ _;have d:t.led=true:=(g.led▸c▸rfl)
  refine d.symm▸?_;refine Zf (Zi ?_);exact Zi h
theorem vz{f:Value}{b:Nat}{Q:Option Value->Shared->Prop}{n:Nat}(q:f=.int b 0)(h:IsSetIter s.heap it a f i n ep)(x:dY s.heap a es ep t)(r:n=es.size)(g:SGo (dl w) t)(hd:dl w=false->(!t.plain&&decide (es.size>1))=false){v:Value}{nx:Nat}(u:(if dl w then((pickOrder (w.params.setOrder a ep) es)[i]?).map fun e=>(e.2,b) else match es[SetTable.below t.place b]?,t.place[SetTable.below t.place b]? with
   |some (_,x),some j=>some (x,j+1)
   |_,_=>none)=some (v,nx))
  (m:∀h',IsSetIter h' it a (.int nx 0) (i+1) n ep->Heap.SameBut it s.heap h'->Q (some v) { s with heap:=h' }):wpAny (model prog w) A (pyNext (.ref it)) Q E s:=by
 subst q;refine bz (id h) fun o l p c=>?_;refine Zf (wpAny_attempt (wpAny_callSpecial?_slot (name:=Str.ofString "__next__") h.typeIs SI.slot_next
  (wpAny_call_entry SI.slot_next h.typeIs SI.entry_next ?_ (SI.args_next _))))
 refine Zf (Zi ?_);refine Zf (wpAny_fieldsOf l c ?_);refine Zf (fX x ?_);refine wpAny_ite_false (decide_eq_false (by rw[r];simp)) ?_;show wpAny _ _ (setNext a (b:Int).toNat (i:Int).toNat (ep:Int).toNat >>= _) _ _ s;rw[Int.toNat_natCast,Int.toNat_natCast,Int.toNat_natCast];refine Zf (oK x g hd ?_);refine u▸?_;refine Zf (wpAny_setField l c (bX rfl) ?_);have k:=Heap.get?_update_self (Obj.mapFields (·.setIfInBounds 0 (rawInt nx))) l (Obj.isFreed_of_fields (Obj.data_mapFields c _));have d:=Obj.data_mapFields c (·.setIfInBounds 0 (rawInt nx));refine Zf (wpAny_setField k d (bX rfl) ?_);refine Zi ⟨_,rfl,Zi (m _ ⟨_,A3 (Heap.get?_update_self _ k (Obj.isFreed_of_fields (Obj.data_mapFields d _))) ((Obj.cls_mapFields ..).trans ((Obj.cls_mapFields ..).trans p)) ?_⟩ ((Zw ..).trans (Zw ..)))⟩;rw[Obj.data_mapFields d];exact rfl
theorem wO{f:Value}{c:Nat}{Q:Option Value->Shared->Prop}{n:Nat}(q:A.handled=none)(p:f=.int c 0)(d:IsSetIter s.heap it a f i n ep)(x:dY s.heap a es ep t)(r:n=es.size)(g:SGo (dl w) t)(hd:dl w=false->(!t.plain&&decide (es.size>1))=false)(u:(if dl w then((pickOrder (w.params.setOrder a ep) es)[i]?).map fun e=>(e.2,c) else match es[SetTable.below t.place c]?,t.place[SetTable.below t.place c]? with
   |some (_,x),some j=>some (x,j+1)
   |_,_=>none)=none)
  (l:∀h',Heap.ExtBut it s.heap h'->Q none { s with heap:=h' }):wpAny (model prog w) A (pyNext (.ref it)) Q E s:=by
 subst p;refine bz (id d) fun o k v h=>?_;refine Zf (wpAny_attempt (wpAny_callSpecial?_slot (name:=Str.ofString "__next__") d.typeIs SI.slot_next
  (wpAny_call_entry SI.slot_next d.typeIs SI.entry_next ?_ (SI.args_next _))))
 refine Zf (Zi ?_);refine Zf (wpAny_fieldsOf k h ?_);refine Zf (fX x ?_);refine wpAny_ite_false (decide_eq_false (by rw[r];simp)) ?_;show wpAny _ _ (setNext a (c:Int).toNat (i:Int).toNat (ep:Int).toNat >>= _) _ _ s;rw[Int.toNat_natCast,Int.toNat_natCast,Int.toNat_natCast];refine Zf (oK x g hd ?_);refine u.symm▸?_;refine Zf (wpAny_setField k h (bX rfl) ?_);refine Zf ?_;refine Zf (wpAny_newObj_type ?_ (by size_fits));refine Zf (m:=firstArgMember _ _) (wpAny_of_eq (a:=Value.none) (by first|rfl|(simp only[firstArgMember];rfl)) ?_);refine wpAny_newObj_type ?_ (by size_fits);refine Zf (wpAny_handled ?_);refine(show A.in1.handled=none from q).symm▸?_;refine Zf (Zi (wpAny_throw ?_));refine Zf (wpAny_isInstance (T:="StopIteration") (b:=true) ⟨_,Zq _ rfl,rfl⟩ isSubtype_stop ?_);exact Zi (l _ (((Zw ..).extBut.push _).push _))
def rh(h:Heap)(pl:Addr)(b:List Nat):Prop:=∃o n,h.get? pl=some o/\o.data=.seq (b.map fun(i:Nat)=>rawInt i).toArray n
theorem oY{p:Nat}{e:Int×Value}{Q:Value->Shared->Prop}(x:dY s.heap a es ep t)(b:es[p]?=some e)(h:Q e.2 s):wpAny (model prog w) A (setNextDrawn a p ep) Q E s:=by
 refine Zf (f' x ?_);dsimp only;rw[if_neg (by simp),b];exact Zi h
theorem uq{pl:Addr}{j:List Nat}{Q:Option Value->Shared->Prop}{n:Nat}(c:IsSetIter s.heap it a (.ref pl) i n ep)(x:dY s.heap a es ep t)(u:n=es.size)(v:rh s.heap pl j){p:Nat}{e:Int×Value}(r:j[i]?=some p)(q:es[p]?=some e)(l:∀h',IsSetIter h' it a (.ref pl) (i+1) n ep->Heap.SameBut it s.heap h'->Q (some e.2) { s with heap:=h' }):wpAny (model prog w) A (pyNext (.ref it)) Q E s:=by
 refine bz (id c) fun o d m b=>?_;refine br v ?_;intro z y g h;refine Zf (wpAny_attempt (wpAny_callSpecial?_slot (name:=Str.ofString "__next__") c.typeIs SI.slot_next
  (wpAny_call_entry SI.slot_next c.typeIs SI.entry_next ?_ (SI.args_next _))))
 refine Zf (Zi ?_);refine Zf (wpAny_fieldsOf d b ?_);refine Zf (fX x ?_);refine wpAny_ite_false (decide_eq_false (by rw[u];simp)) ?_;refine Zf (wpAny_seqItems g h ?_);dsimp only;rw[Int.toNat_natCast,Int.toNat_natCast];have k:((j.map fun(i:Nat)=>rawInt i).toArray)[i]?=some (rawInt p):=by simp[r]
 refine k▸?_;show wpAny _ _ (setNextDrawn a (p:Int).toNat ep >>= _) _ _ s;refine Zf (oY x q ?_);refine Zf (wpAny_setField d b (bX rfl) ?_);refine Zi ⟨_,rfl,Zi (l _ ⟨_,A3 (Heap.get?_update_self _ d (Obj.isFreed_of_fields (Obj.data_mapFields b _))) ((Obj.cls_mapFields ..).trans m) ?_⟩ (Zw ..))⟩;rw[Obj.data_mapFields b];exact rfl
theorem vM{pl:Addr}{l:List Nat}{Q:Option Value->Shared->Prop}{n:Nat}(u:A.handled=none)(d:IsSetIter s.heap it a (.ref pl) i n ep)(x:dY s.heap a es ep t)(y:n=es.size)(p:rh s.heap pl l)(v:l[i]?=none)(r:∀h',Heap.ExtBut it s.heap h'->Q none { s with heap:=h' }):wpAny (model prog w) A (pyNext (.ref it)) Q E s:=by
 refine bz (id d) fun o g z c=>?_;refine br p ?_;clear p;intro C B j k;refine Zf (wpAny_attempt (wpAny_callSpecial?_slot (name:=Str.ofString "__next__") d.typeIs SI.slot_next
  (wpAny_call_entry SI.slot_next d.typeIs SI.entry_next ?_ (SI.args_next _))))
 refine Zf (Zi ?_);refine Zf (wpAny_fieldsOf g c ?_);refine Zf (fX x ?_);refine wpAny_ite_false (decide_eq_false (by rw[y];simp)) ?_;show wpAny _ _ (seqItems? (.ref pl) >>= _) _ _ s;refine Zf (wpAny_seqItems j k ?_);dsimp only;rw[Int.toNat_natCast];have q:((l.map fun(i:Nat)=>rawInt i).toArray)[i]?=none:=by simpa using v
 refine q.symm▸?_;refine Zf (wpAny_setField g c (bX rfl) ?_);have h:=Heap.get?_update_self (Obj.mapFields (·.setIfInBounds 0 (rawInt 0))) g (Obj.isFreed_of_fields (Obj.data_mapFields c _));have e:=Obj.data_mapFields c (·.setIfInBounds 0 (rawInt 0));refine Zf (wpAny_setField h e (bX rfl) ?_);refine Zf ?_;simp only[newExc,newTuple];refine Zf (wpAny_newObj_type ?_ (by size_fits));refine Zf (m:=firstArgMember _ _) (wpAny_of_eq (a:=Value.none) (by first|rfl|(simp only[firstArgMember];rfl)) ?_);refine wpAny_newObj_type ?_ (by size_fits);refine Zf (wpAny_handled ?_);refine(show A.in1.handled=none from u).symm▸?_;refine Zf (Zi (wpAny_throw ?_));refine Zf (wpAny_isInstance (T:="StopIteration") (b:=true) ⟨_,Zq _ rfl,rfl⟩ isSubtype_stop ?_);exact Zi (r _ ((((Zw ..).trans (Zw ..)).extBut.push _).push _))
structure Goes(w:World)(es:Array (Int×Value))(a:Addr)(ep:Nat)(t:SetTable)(L:List (Int×Value))(f:Nat->Value)(h:Heap):Prop where
 perm:L.Perm es.toList
 mode:(∃slot:Nat->Nat,(∀i,f i=.int (slot i) 0)/\(dl w=false->(!t.plain&&decide (es.size>1))=false)/\∀i,i<=L.length->(if dl w then((pickOrder (w.params.setOrder a ep) es)[i]?).map fun e=>(e.2,slot i) else match es[SetTable.below t.place (slot i)]?,t.place[SetTable.below t.place (slot i)]? with
   |some (_,x),some j=>some (x,j+1)
   |_,_=>none)=(L[i]?).map fun e=>(e.2,slot (i+1)))\/
  ∃(pl:Addr)(ps:List Nat),(∀i,f i=.ref pl)/\rh h pl ps/\∀i:Nat,i<=L.length->match (L[i]? : Option (Int×Value)) with
   |some e=>∃p,ps[i]?=some p/\es[p]?=some e
   |none=>ps[i]?=none
theorem vG{f:Nat->Value}{L:List (Int×Value)}{Q:Option Value->Shared->Prop}{n:Nat}(G:Goes w es a ep t L f s.heap)(g:SGo (dl w) t)(b:IsSetIter s.heap it a (f i) i n ep)(x:dY s.heap a es ep t)(o:n=es.size){e:Int×Value}(k:L[i]?=some e)(m:∀h',IsSetIter h' it a (f (i+1)) (i+1) n ep->Heap.SameBut it s.heap h'->Q (some e.2) { s with heap:=h' }):wpAny (model prog w) A (pyNext (.ref it)) Q E s:=by
 have d:i<=L.length:=Zv (List.getElem?_eq_some_iff.mp k).1;rcases G.mode with⟨r,c,h,j⟩|⟨pl,y,c,h,j⟩
 ·have:=j i d;rw[k] at this;exact vz (c i) b x o g h this fun h' q l=>m h' (by rw[c];exact q) l
 ·have:=j i d;rw[k] at this;refine ar this ?_;intro p v u;rw[c] at b;exact uq b x o h v u fun h' q l=>m h' (by rw[c];exact q) l
theorem w9{f:Nat->Value}{L:List (Int×Value)}{Q:Option Value->Shared->Prop}{n:Nat}(k:A.handled=none)(G:Goes w es a ep t L f s.heap)(g:SGo (dl w) t)(b:IsSetIter s.heap it a (f i) i n ep)(x:dY s.heap a es ep t)(m:n=es.size)(c:i<=L.length)(l:L[i]?=none)(j:∀h',Heap.ExtBut it s.heap h'->Q none { s with heap:=h' }):wpAny (model prog w) A (pyNext (.ref it)) Q E s:=by
 rcases G.mode with⟨o,d,e,h⟩|⟨pl,p,d,e,h⟩
 ·have:=h i c;rw[l] at this;exact wO k (d i) b x m g e this j
 ·have:=h i c;rw[l] at this;rw[d] at b;exact vM k b x m e this j
theorem se{g:Type}(n:Nat):∀(xs:List g){s:Shared}{Q:List g->Shared->Prop},xs.length<=n->(∀l d,l.Perm xs->Q l { s with drawn:=d })->wpAny (model prog w) A (drawOrder n xs) Q E s:=by
 induction n with
 |zero=>
  intro xs s Q e h;induction xs with
  |nil=>exact Zi (h [] s.drawn .nil)
  |cons=>exact absurd e (fun h=>nomatch h)
 |succ n m=>
  intro xs s Q e h;cases xs with
  |nil=>exact Zi (h [] s.drawn .nil)
  |cons x xs=>
  refine Zf ?_;have ch:∀{b:Nat->Shared->Prop},(∀i d,i<(x::xs).length->b i { s with drawn:=d })->wpAny (model prog w) A (choose .order (x::xs).length) b E s:=fun{b} k o p _=>by
   show Sem.wp _ _ (.choose .order (x::xs).length Sem.pure) _ _ _ _;exact⟨(Nat.succ_ne_zero _),k _ _ (Nat.mod_lt _ (by simp))⟩
  refine ch fun i d c=>?_;refine(List.getElem?_eq_getElem c).symm▸?_;refine Zf (m _ (by rw[List.length_eraseIdx_of_lt c];simp at e ⊢;omega) fun l d' j=>?_);exact Zi (h _ _ ((List.Perm.cons _ j).trans (lX _ _ c)))
theorem zE{b:Type}(nx:Nat->Nat)(n:Nat):∀(k:Nat)(left:List b)(out:Array b),left.length<=n->(pickOrder.go nx n k left out).toList.Perm (out.toList++left):=by
 induction n with
 |zero=>
  intro k left out hl;cases left with
  |nil=>show out.toList.Perm _;rw[List.append_nil]
  |cons=>exact absurd hl (fun h=>nomatch h)
 |succ n d=>
  intro k left out hl;have key:∀y,left[nx k % left.length]?=y->(pickOrder.go.match_1 (fun _=>Array b) y (fun x=>pickOrder.go nx n (k+1) (left.eraseIdx (nx k % left.length)) (out.push x)) (fun _=>out)).toList.Perm (out.toList++left):=by
   intro y e;cases y with
   |none=>
    cases left with
    |nil=>show out.toList.Perm _;rw[List.append_nil]
    |cons x left=>rw[List.getElem?_eq_getElem (Nat.mod_lt _ (by simp))] at e;exact jF e
   |some x=>
    obtain⟨c,rfl⟩:=List.getElem?_eq_some_iff.mp e;refine(d (k+1) _ _ (by rw[List.length_eraseIdx_of_lt c];exact Nat.sub_le_of_le_add hl)).trans ?_;rw[Array.toList_push,List.append_assoc];exact List.Perm.append_left _ (lX _ _ c)
  exact key _ rfl
end
end
section
section
variable {prog:Program}{w:World}{A:Around}{E:Value->Shared->Prop}{s:Shared}{a it:Addr}{es:Array (Int×Value)}{ep:Nat}{t:SetTable}
noncomputable def qZ(t:SetTable):Nat->Nat
 |0=>0
 |i+1=>t.place.getD i 0+1
theorem Goes.made(g:SGo (dl w) t)(k:t.fits es.size=true)(hd:dl w=false->(!t.plain&&decide (es.size>1))=false)(h:Heap):∃L f,Goes w es a ep t L f h/\f 0=.int 0 0:=by
 cases c:dl w with
 |true=>
  refine E2 ((pickOrder (w.params.setOrder a ep) es).toList) (fun _=>.int 0 0) ⟨⟨?_,.inl ⟨fun _=>0,A3 (fun _=>rfl) (fun e=>by rw[c] at e;exact qO e) (fun i _=>?_)⟩⟩,rfl⟩
  ·have:=zE (w.params.setOrder a ep) es.size 0 es.toList #[] (Zj _);exact this
  ·rw[c,if_pos rfl,Array.getElem?_toList]
 |false=>
  have b:t.place.size=es.size:=by rw[SetTable.fits,Bool.and_eq_true,beq_iff_eq] at k;exact k.1
  have d:∀i,i<=es.size->SetTable.below t.place (qZ t i)=i:=fun i j=>by
   induction i with
   |zero=>exact uA g.ris
   |succ i=>exact uB g.ris (Zk j (Zd b.symm))
  refine E2 es.toList (fun i=>.int (qZ t i) 0) ⟨⟨.refl _,.inl ⟨qZ t,A3 (fun _=>rfl) (fun _=>hd c) (fun i j=>?_)⟩⟩,rfl⟩;rw[c,if_neg (by decide),Array.getElem?_toList,d i j];rcases Nat.lt_or_ge i es.size with q|q
  ·have l:i<t.place.size:=Zk q (Zd b.symm);refine(Array.getElem?_eq_getElem q)▸(Array.getElem?_eq_getElem l)▸?_;show some (es[i].2,t.place[i]+1)=some (es[i].2,t.place.getD i 0+1);simp[Array.getD,l]
  ·rw[Array.getElem?_eq_none q];rfl
theorem wX{Q:Value->Shared->Prop}(x:dY s.heap a es ep t)(g:SGo (dl w) t)(y:es.size<=1000)(B:∀j it L f,Goes w es a ep t L f j.heap->IsSetIter j.heap it a (f 0) 0 es.size ep->it≠a->s.heap.objs.size<=it->(∀b o,s.heap.get? b=some o->j.heap.get? b=some o)->j.os=s.os->j.gens=s.gens->j.toks=s.toks->(∀pl,f 0=.ref pl->pl≠it/\s.heap.objs.size<=pl/\pl<j.heap.objs.size)->it<j.heap.objs.size->Q (.ref it) j) :
  wpAny (model prog w) A (pyIter (.ref a)) Q E s:=by
 have C:s.TypeIs (.ref a) "set":=by refine bz x ?_;intro o l K _;exact⟨o,l,K⟩
 have D:a<s.heap.objs.size:=by refine ar x ?_;intro o l _;exact Zy l
 refine wpAny_pyIter_slot C PySem.F.slot_set_iter (wpAny_call_entry PySem.F.slot_set_iter C SI.entry_iter ?_ (PySem.F.args_set_iter_1 _));refine Zf (Zf (Zi ?_));refine Zi ?_;refine Zf (Zf (fX x (Zi ?_)));refine Zf (Zf (f' x ?_));dsimp only;refine Zf (mI ?_);refine Zi ?_;show wpAny _ _ (if (!dl w&&(!t.plain&&decide (es.size>1)))=true then _ else _) _ _ s;cases hd:(!dl w&&(!t.plain&&decide (es.size>1))) with
 |false=>
  obtain⟨L,f,G,z⟩:=Goes.made (a:=a) (ep:=ep) g (by obtain⟨_,_,_,_,M⟩:=x;exact M) (fun J=>by rw[J] at hd;exact hd) (s.heap.push { cls:=.type "set_iterator",data:=.fields #[rawInt 0,rawInt 0,.ref a,rawInt es.size,rawInt ep] });refine Zf (Zi ?_);refine Zf ?_;refine Zf (f' x (Zi ?_));refine Zf (wpAny_newObj_type (Zi ⟨_,rfl,E2 "set_iterator" _ (A3 ⟨_,Zq _ rfl,rfl⟩ SI.slot_next.lookup ?_)⟩));refine B _ _ L f G ⟨_,A3 (Zq _ rfl) rfl ?_⟩ (Zn D) (Zj _) (fun b o e=>Zl _ e) rfl rfl rfl (fun pl e=>?_) (by rw[Heap.size_push];exact Zr _);·rw[z];rfl
  ·replace e:=z▸e;cases e
 |true=>
  refine Zf (se _ _ (by simp) fun c d m=>?_);refine Zf ?_;refine wpAny_newObj_type ?_ (by
   have:(List.map (fun(i:Nat)=>rawInt i) c).toArray.size=es.size:=by simp[m.length_eq]
   show(List.map (fun(i:Nat)=>rawInt i) c).toArray.size<=sizeLine;refine this▸sizeLine_eq▸?_;exact av 0 1000 0 16777216 y rfl)
  have H:dY (s.heap.push { cls:=.type "tuple",data:=.seq (List.map (fun(i:Nat)=>rawInt i) c).toArray }) a es ep t:=by
   refine ar x ?_;intro o l r;exact⟨o,Zl _ l,r⟩
  refine Zf ?_;refine Zf (f' (s:={ s with heap:=s.heap.push { cls:=.type "tuple",data:=.seq (List.map (fun(i:Nat)=>rawInt i) c).toArray },drawn:=d }) H (Zi ?_));refine Zf (wpAny_newObj_type (Zi ⟨_,rfl,E2 "set_iterator" _ (A3 ⟨_,Zq _ rfl,rfl⟩ SI.slot_next.lookup ?_)⟩));have u:c.length=es.size:=by simpa using m.length_eq
  refine B _ _ (c.filterMap fun p=>es[p]?) (fun _=>.ref s.heap.objs.size) ⟨?_,.inr (E2 _ c (A3 (fun _=>rfl) ⟨_,_,Zl _ (Zq _ rfl),rfl⟩ (fun i n=>?_)))⟩ ⟨_,A3 (Zq _ rfl) rfl rfl⟩ ?_ ?_ (fun b o e=>Zl _ (Zl _ e)) rfl rfl rfl (fun pl e=>?_) ?_;·exact(m.filterMap _).trans (by rw[filterMap_getElem?_range])
  ·have k:∀p∈c,p<es.size:=fun p h=>List.mem_range.mp (m.mem_iff.mp h);have I:c.filterMap (fun p=>es[p]?)=c.map fun p=>(es[p]?).getD (0,.none):=by
    clear u m H n;induction c with
    |nil=>rfl
    |cons p c O=>
     have v:=k p Ze;refine List.filterMap_cons▸List.map_cons▸(Array.getElem?_eq_getElem v)▸(O fun q h=>k q (Zc _ h))▸?_;rfl
   refine I▸(List.getElem?_map)▸?_;cases N:c[i]? with
   |none=>rfl
   |some p=>
    have v:=k p (ZC N);exact⟨p,rfl,by show es[p]?=some ((es[p]?).getD (0,.none));refine(Array.getElem?_eq_getElem v).symm▸?_;rfl⟩
  ·rw[Heap.size_push];exact Zn (Nat.lt_succ_of_lt D)
  ·rw[Heap.size_push];exact Zz _
  ·cases e;refine A3 (by rw[Heap.size_push];exact Zh (Zr _)) (Zj _) ?_;rw[Heap.size_push,Heap.size_push];exact Nat.lt_succ_of_lt (Zr _)
  ·exact Nat.lt_of_lt_of_eq (Zr _) (Heap.size_push ..).symm
structure SetSt(w:World)(es:Array (Int×Value))(a it:Addr)(ep:Nat)(t:SetTable)(L:List (Int×Value))(f:Nat->Value)(i:Nat)(h:Heap):Prop where
 it:IsSetIter h it a (f i) i es.size ep
 set:dY h a es ep t
 goes:Goes w es a ep t L f h
theorem SetSt.keep{L:List (Int×Value)}{f:Nat->Value}{i:Nat}{h h':Heap}(x:SetSt w es a it ep t L f i h)(k1:∀o,h.get? it=some o->h'.get? it=some o){S:Addr}(k2:∀b o,b≠S->h.get? b=some o->h'.get? b=some o)(m:a≠S)(u:∀pl,f 0=.ref pl->pl≠S):SetSt w es a it ep t L f i h':=by
 refine ar x.it fun o p r=>?_;refine ar x.set fun j c y=>?_;refine⟨⟨o,k1 o p,r⟩,⟨j,k2 a j m c,y⟩,x.goes.perm,?_⟩;rcases x.goes.mode with q|⟨pl,v,g,⟨k,n,d,e⟩,l⟩
 ·exact .inl q
 ·exact .inr (E2 pl v (A3 g ⟨k,n,k2 pl k (u pl (g 0)) d,e⟩ l))
theorem SetSt.step{L:List (Int×Value)}{f:Nat->Value}{i:Nat}{h h':Heap}(x:SetSt w es a it ep t L f i h)(c:IsSetIter h' it a (f (i+1)) (i+1) es.size ep)(k2:∀b o,b≠it->h.get? b=some o->h'.get? b=some o)(p:a≠it)(r:∀pl,f 0=.ref pl->pl≠it):SetSt w es a it ep t L f (i+1) h':=by
 refine ar x.set fun k d v=>?_;refine⟨c,⟨k,k2 a k p d,v⟩,x.goes.perm,?_⟩;rcases x.goes.mode with q|⟨pl,u,j,⟨l,n,e,g⟩,m⟩
 ·exact .inl q
 ·exact .inr (E2 pl u (A3 j ⟨l,n,k2 pl l (r pl (j 0)) e,g⟩ m))
theorem uo{S:Addr}{L:List (Int×Value)}{f:Nat->Value}(g:SGo (dl w) t)(U:a≠it)(T:∀pl,f 0=.ref pl->pl≠it/\pl≠S)(l:S≠it)(I:S≠a)(q:L.length=es.size)(z:es.size<=1000)(B:Value){R:Result->Shared->Prop} :∀(k i:Nat){A:Around}(s:Shared)(acc:Array Value)(c:Nat),A.handled=none->es.size - i=k->i<=es.size->SetSt w es a it ep t L f i s.heap->s.heap.get? S=some { cls:=.type "list",dict:=none,data:=.seq acc c,slots:=#[] }->acc.toList=(L.take i).map (·.2)->(∀h' h D,(∀b o,b≠S->b≠it->s.heap.get? b=some o->h'.get? b=some o)->h'.get? S=some { cls:=.type "list",dict:=none,data:=.seq h D,slots:=#[] }->h.toList=L.map (·.2)->R (.ok (.ret B)) { s with heap:=h' })->
  codeAny (model prog w) A (.builtin "list.extend.loop" ⟨[.ref S,.ref it,B],[]⟩) R s:=by
 intro k;induction k with
 |zero=>
  intro i A s acc c J K Q d hS j G;have n:i=es.size:=by omega
  refine codeAny_builtin PySem.F.entry_extend_loop ?_;refine Zf (w9 (i:=i) (L:=L) J d.goes g d.it d.set rfl (Zk (Zd n) (Zd q.symm)) (List.getElem?_eq_none (Zk (Zd q) (Zd n.symm))) fun h' C=>?_);refine Zi (G h' acc c (fun b o _ v e=>C b o v e) (C S _ l hS) ?_);rw[j,List.take_of_length_le (Zk (Zd q) (Zd n.symm))]
 |succ k V=>
  intro i A s acc c J K Q d hS j G;have p:i<L.length:=xN (Zd q.symm) (Zd K.symm) (Zd (Zu Q));refine codeAny_builtin PySem.F.entry_extend_loop ?_;refine wA (Around.under_plainId PySem.F.plain_extend_loop _) ?_;show wpAny _ A.in1 (pyNext (.ref it) >>= _) _ _ s;refine Zf (vG (i:=i) (L:=L) (e:=L[i]) d.goes g d.it d.set rfl (List.getElem?_eq_getElem p) fun P M N=>?_);have r:P.get? S=some { cls:=.type "list",dict:=none,data:=.seq acc c,slots:=#[] }:=(N.2 S l).trans hS;have u:acc.size<=es.size:=by
   have:=congrArg List.length j;rw[Array.length_toList,List.length_map,List.length_take] at this;omega
  have O:=d.step M (fun b o v e=>(N.2 b v).trans e) U fun pl e=>(T pl e).1;refine Zf ?_;refine wpAny_updateSeq (s:={ s with heap:=P }) r rfl (Zi ⟨plainId_quiet PySem.F.plain_extend_loop _,V (i+1) _ (acc.push L[i].2) _ J (NS K) (Zk p (Zd q)) (O.keep (S:=S) (fun o e=>?_) (fun b o v e=>?_) (Ne.symm I) fun pl e=>(T pl e).2) (Heap.get?_update_self _ r rfl) ?_ fun h' h D C H m=>?_⟩)
   (by have:=sizeLine_eq;exact bR 0 1000 16777216 0 0 0 (bR 0 0 0 1000 0 1000 u z rfl) (Zd this.symm) rfl) (by show(acc.push L[i].2).size<=sizeLine+1;rw[Array.size_push];have:=sizeLine_eq;exact bR 0 1000 16777216 0 1 1 (bR 0 0 0 1000 0 1000 u z rfl) (Zd this.symm) rfl)
  ·exact(Heap.get?_update_other _ _ l).trans e
  ·exact(Heap.get?_update_other _ _ (Ne.symm v)).trans e
  ·rw[Array.toList_push,j,<-List.take_append_getElem p,List.map_append];rfl
  ·refine G h' h D (fun b o x y e=>C b o x y ?_) H m;exact(Heap.get?_update_other _ _ (Ne.symm x)).trans ((N.2 b y).trans e)
end
end
section
namespace SI
theorem len_set:typeLookup (.type "set") "__len__"=pure (some (.builtin "set.__len__")):=by kernel_rfl
end SI
section
variable {prog:Program}{w:World}{A:Around}{E:Value->Shared->Prop}{s:Shared}{a it:Addr}{es:Array (Int×Value)}{ep:Nat}{t:SetTable}
theorem sD{Q:List Value->Shared->Prop}(T:A.handled=none)(x:dY s.heap a es ep t)(g:SGo (dl w) t)(u:es.size<=1000)(O:∀y (L:List (Int×Value)),L.Perm es.toList->(∀b o,s.heap.get? b=some o->y.heap.get? b=some o)->y.os=s.os->y.gens=s.gens->Q (L.map (·.2)) y) :
  wpAny (model prog w) A (collect (.ref a)) Q E s:=by
 have P:a<s.heap.objs.size:=by refine ar x ?_;intro o i _;exact Zy i
 have v:∀{s:Shared},dY s.heap a es ep t->s.TypeIs (.ref a) "set":=fun x=>by refine bz x ?_;intro o i R _;exact⟨o,i,R⟩
 have d:s.heap.objs.size≠a:=Zn P;refine Zf (wpAny_runValue (codeAny_builtin PySem.F.entry_proto_collect ?_));refine wA (Around.under_plainId PySem.F.plain_proto_collect _) ?_;refine Zf (wpAny_newObj_type ?_);refine Zi ⟨plainId_quiet PySem.F.plain_list_iadd _,codeAny_builtin PySem.F.entry_list_iadd ?_⟩;refine wA (Around.under_plainId PySem.F.plain_list_iadd _) ?_;have J:dY (s.heap.push { cls:=.type "list",data:=.seq ([]:List Value).toArray }) a es ep t:=by
  refine ar x ?_;intro o i r;exact⟨o,Zl _ i,r⟩
 show wpAny _ A.in1 (Builtin.List.listExtendWith (.ref s.heap.objs.size) (.ref a) (.ref s.heap.objs.size)) _ _ _;refine Zf (wpAny_typeOf (v J) ?_);have N:Builtin.List.listSameRef (.ref s.heap.objs.size) (.ref a)=false:=if_neg d;refine wpAny_ite_false (by rw[N];rfl) ?_;refine Zf (wX (s:={ s with heap:=s.heap.push { cls:=.type "list",data:=.seq ([]:List Value).toArray } }) J g u fun s1 it L f G H D I k1 W M t1 q U=>?_);refine Zf (wpAny_holding ?_);have l:s1.heap.get? s.heap.objs.size=some { cls:=.type "list",data:=.seq ([]:List Value).toArray }:=k1 _ _ (Zq _ rfl);have z:dY s1.heap a es ep t:=by
  refine ar J ?_;intro o i r;exact⟨o,k1 _ _ i,r⟩
 refine Zf (wpAny_specialOf (v z) SI.len_set ?_);show wpAny _ _ (isInstance (.ref a) (.type "set") >>= _) _ _ s1;refine Zf (wpAny_isInstance (v z) sub_set_self ?_);refine wpAny_ite_false rfl ?_;refine Zf (wpAny_typeOf (v z) ?_);refine Zi ?_;refine wpAny_ite_true rfl ?_;refine Zf (wpAny_rule ?_);refine Zf ?_;refine Zf (wpAny_updateSeq l rfl ?_);have m:=Heap.get?_update_self (Obj.mapSeq (·.push Value.none)) l rfl;refine wpAny_updateSeq m rfl ?_;have C:=Heap.get?_update_self (Obj.mapSeq (·.pop)) m rfl;have j:∀b o,b≠s.heap.objs.size->s1.heap.get? b=some o->((s1.heap.update s.heap.objs.size (Obj.mapSeq (·.push Value.none))).update s.heap.objs.size (Obj.mapSeq (·.pop))).get? b=some o:=
  fun b o k e=>(Heap.get?_update_other _ _ (Ne.symm k)).trans ((Heap.get?_update_other _ _ (Ne.symm k)).trans e)
 have c:s.heap.objs.size+1<=it:=by rw[<-Heap.size_push];exact I
 have n:s.heap.objs.size≠it:=Zh c;have p:∀pl,f 0=.ref pl->pl≠it/\pl≠s.heap.objs.size:=fun pl e=>⟨(q pl e).1,by
  have:=(q pl e).2.1;have h':s.heap.objs.size+1<=pl:=by rw[<-Heap.size_push];exact this
  exact Zn h'⟩
 have st:SetSt w es a it ep t L f 0 s1.heap:=⟨H,z,G⟩
 refine Zi ⟨plainId_quiet PySem.F.plain_extend_loop _,uo g (Ne.symm D) p n d (by rw[G.perm.length_eq,Array.length_toList]) u _ es.size 0 _ _ _ T rfl (Nat.zero_le _)
  (st.keep (S:=s.heap.objs.size) (fun o e=>j _ _ (Ne.symm n) e) j (Ne.symm d) fun pl e=>(p pl e).2) C rfl fun h' K X V B h=>?_⟩
 refine Zf (wpAny_load B ?_);refine Zi ?_;rw[h];refine O _ L G.perm (fun b o e=>?_) W M;have k:=Zy e;exact V b o (Zh k) (Zh (Zs k c)) (j b o (Zh k) (k1 b o (Zl _ e)))
end
end
section
section
variable {prog:Program}{w:World}{A:Around}{E:Value->Shared->Prop}{s:Shared}{a it:Addr}{es:Array (Int×Value)}{ep:Nat}{t:SetTable}
abbrev lu(prog:Program)(w:World)(b:List Value)(G:Array Value->Prop):Prop:=∀(A:Around)(E:Value->Shared->Prop)(s:Shared)(l:Addr)(n:Nat)(vs:List Value)(P:Fin->Shared->Prop),vs.Perm b->s.heap.get? l=some (seqObj "list" vs.toArray n)->
 (∀out,G out->P (.done (.ret .none)) { s with heap:=sortedHeap s.heap l vs out })->wpAny (model prog w) A (Builtin.«list.sort» ⟨[.ref l],[]⟩) P E s
theorem t8{G:Array Value->Prop}{Q:Value->Shared->Prop}(l:A.handled=none)(x:dY s.heap a es ep t)(g:SGo (dl w) t)(d:es.size<=1000)(u:lu prog w (es.toList.map (·.2)) G)(j:∀(s1:Shared)(h':Heap)(r:Addr)(out:Array Value)(n:Nat),(∀b o,s.heap.get? b=some o->s1.heap.get? b=some o)->s1.os=s.os->s1.gens=s.gens->(∀b o,s1.heap.get? b=some o->h'.get? b=some o)->s1.heap.objs.size<=r->h'.get? r=some (bg out.toList n)->G out->Q (.ref r) { s1 with heap:=h' }) :
  wpAny (model prog w) A (call (.builtin "sorted") [.ref a]) Q E s:=by
 refine Calls.call_function_entry kind_sorted plain_sorted entry_sorted (args_sorted1 _) ?_;refine Zf (m:=checkCount "sorted" 1 1 _) (Zi ?_);refine Zf (sD l x g d fun s1 L f k1 v i=>?_);have p:(L.map (·.2)).length<=sizeLine:=by rw[List.length_map,f.length_eq,Array.length_toList,sizeLine_eq];exact av 0 1000 0 16777216 d rfl
 refine Zf (wpAny_newList ?_ p);have c:(s1.heap.push (seqObj "list" (L.map (·.2)).toArray 0)).get? s1.heap.objs.size=some (seqObj "list" (L.map (·.2)).toArray 0):=Zq _ rfl;refine Zf (wpAny_holding (wpAny_call_entry slot_list_sort ⟨_,c,rfl⟩ entry_list_sort (u _ _ _ _ _ _ _ (f.map _) c fun out q=>⟨_,rfl,?_⟩) (args_list_sort _)));obtain⟨e,k⟩:=sortedHeap_at (out:=out) c;refine Zi ⟨_,rfl,j s1 _ _ out e k1 v i (fun b o e=>?_) (Zj _) ?_ q⟩
 ·have h:=Zy e;refine(sortedHeap_old (Zh h) (by rw[size_push'];exact Nat.lt_succ_of_lt h)).trans ?_;exact Zl _ e
 ·exact k
theorem uj{vs:List Value}{ns:List Int}(h:IntsAre vs ns):gs (intKind prog w) vs ns:=by
 induction h with
 |nil=>exact .nil
 |cons n t _ b=>exact .cons ⟨intKind_is _ _ _ _,rfl⟩ b
theorem ui{vs:List Value}{b:List Str}(h:StrsAre vs b):gs (strKind prog w) vs b:=by
 induction h with
 |nil=>exact .nil
 |cons n t _ c=>exact .cons ⟨strKind_is _ _ _ _,rfl⟩ c
theorem All2.perm{g i:Type}{R:g->i->Prop}{vs vs':List g}(p:vs'.Perm vs):∀{xs:List i},All2 R vs xs->∃c,All2 R vs' c/\c.Perm xs:=by
 induction p with
 |nil=>intro xs h;exact⟨xs,h,.refl _⟩
 |cons v _ n=>
  intro xs h;cases h with
  |cons h d=>
   refine ar (n d) fun c a b=>?_;exact⟨_,.cons h a,b.cons _⟩
 |swap u v l=>
  intro xs h;cases h with
  |cons h d=>cases d with
   |cons h' d=>exact⟨_,.cons h' (.cons h d),.swap ..⟩
 |trans _ _ e f=>
  intro xs h;refine ar (f h) fun q a1 k=>?_;refine ar (e a1) fun o j m=>?_;exact⟨o,j,m.trans k⟩
theorem uk{vs:List Value}:∀{ns:List Int},gs (intKind prog w) vs ns->IntsAre vs ns:=by
 intro ns h;induction h with
 |nil=>exact .nil
 |cons h _ b=>obtain⟨t,rfl⟩:=Value.isInt_shape h.1;exact .cons _ _ b
theorem tW{vs:List Value}:∀{ns:List Str},gs (strKind prog w) vs ns->StrsAre vs ns:=by
 intro ns h;induction h with
 |nil=>exact .nil
 |cons h _ b=>obtain⟨t,rfl⟩:=Value.isStrOf_shape h.1;exact .cons _ _ b
theorem tZ{d:List Value}{ns:List Int}(j:gs (intKind prog w) d ns)(e:ns.length<64):lu prog w d fun out=>∃c:List Int,IntsAre out.toList c/\c.Perm ns/\c.Pairwise (·<=·):=by
 intro A E s l n vs P m k h;refine ar (All2.perm m j) fun o a b=>?_;exact list_sort_tree k (uk a) (a.length▸b.length_eq▸e) fun out c f g i=>h out ⟨c,A3 f (g.trans b) i⟩
theorem tY{d:List Value}{ns:List Str}(r:gs (strKind prog w) d ns)(f:ns.length<64):lu prog w d fun out=>∃c:List Str,StrsAre out.toList c/\c.Perm ns/\sortedS c=true:=by
 intro A E s l n vs P g u h;refine ar (All2.perm g r) fun x a b=>?_;have hS:=tW a;refine list_sort_treeK strKind_oneLt u hS.keysOf (fun k m j e=>keyKind_strs (e▸hS)) (a.length▸b.length_eq▸f) fun st' g v=>?_;refine bz (sorted_out_str hS g v) fun i o p q=>?_;exact h _ ⟨i,A3 o (p.trans b) q⟩
section
variable {K:Type} [DecidableEq K]{knd:KeyKind prog w K}
theorem vj(ks:List K):∀(acc:List K),acc.Nodup->(ks.foldl jT acc).Nodup/\(∀k,k∈ks.foldl jT acc↔k∈acc\/k∈ks)/\(ks.foldl jT acc).length<=acc.length+ks.length:=by
 induction ks with
 |nil=>intro acc h;exact A3 h (fun k=>by simp) (Zj _)
 |cons x ks j=>
  intro acc h;refine List.foldl_cons.symm▸?_;have i:(jT acc x).Nodup:=by
   delta jT;split;·exact h
   ·rename_i q;refine List.nodup_append.mpr ?_;refine A3 h (by simp) (fun a f b d e=>?_);replace d:=List.mem_singleton.mp d;exact q (d▸e▸f)
  have g:∀k,k∈jT acc x↔k∈acc\/k=x:=fun k=>by
   unfold jT;split
   ·rename_i q;exact⟨.inl,fun z=>z.elim id fun e=>e▸q⟩
   ·simp
  refine bM (j _ i) fun a b c=>?_;refine A3 a (fun k=>?_) ?_;·rw[b,g,List.mem_cons];exact or_assoc
  ·have:=th acc x;simp only[List.length_cons];exact iG c this
theorem SetG.keys{h:Heap}{a:Addr}{D:List K}{bt:Bool}(x:SetG knd bt h a (iH D) D.length)(u:D.Nodup):∃es ep t,dY h a es ep t/\SGo bt t/\es.size=D.length/\∃ks,gs knd (es.toList.map (·.2)) ks/\ks.Perm D:=by
 refine iQ x ?_;intro o es ep t B j hd f c H y q;obtain⟨r,g⟩:=q;refine E3 es ep t (A4 ⟨o,A4 B j.1 hd y⟩ g r ?_);have key:∀l:List (Int×Value),ElemsOf knd l->∃ks,gs knd (l.map (·.2)) ks:=by
  intro l;induction l with
  |nil=>intro _;exact⟨[],.nil⟩
  |cons e l G=>
   intro d;obtain⟨⟨k,m,_⟩,F⟩:=d.head;obtain⟨ks,b⟩:=G d.tail;exact⟨k::ks,.cons ⟨m,F⟩ b⟩
 obtain⟨ks,b⟩:=key es.toList f;refine⟨ks,b,jB u (fun k m=>?_) ?_⟩
 ·refine ar ((c k).mp (decide_eq_true m)) fun e d C=>?_;obtain⟨i,z⟩:=List.mem_iff_getElem?.mp d;refine bz (b.getV (i:=i) (v:=e.2) ((List.getElem?_map)▸z▸rfl)) fun I n p _=>?_;refine(knd.inj _ _ _ C p)▸?_;exact ZC n
 ·rw[<-b.length,List.length_map,Array.length_toList,r]
end
end
section
variable {c:Cx}{sc:Scope}{lv:Nat}{W:Wd}{Kp:aA}{i:Env}{j:AS}{s:Shared}
theorem InvF.drawn(I:InvF c W Kp i j s)(d:Drawn):InvF c W Kp i j { s with drawn:=d }:=⟨⟨I.inv.base,I.inv.kept,I.inv.frz,I.inv.kpF,I.inv.objs,I.inv.dom,I.inv.old,I.inv.kpOwn,I.inv.fOwn,I.inv.os,I.inv.gens,I.inv.emp,I.inv.keepB,I.inv.tab⟩,I.fm⟩
def rG(f:ap):ap:=fun j Q=>f j fun v d=>(∃ns:List Nat,bc d.H v=some (bY ns)/\ns.length<64/\∀b:List Nat,b.Nodup->(∀a,a∈b↔a∈ns)->sortedS (b.map S0)=true->newL (bY b) d Q)\/
 (∃ns:List Int,bc d.H v=some (h9 ns)/\ns.length<64/\∀b:List Int,b.Pairwise (·<·)->(∀a,a∈b↔a∈ns)->newL (h9 b) d Q)
theorem qv{Q:MV->AS->Prop}{E:Value->Shared->Prop}{A:Around}{K:Type} [DecidableEq K]{knd:KeyKind c.prog c.w K}{l:Addr}{vs:List Value}{n:Nat}{ks:List K}{G:Array Value->Prop}(B:A.handled=none)(I:InvF c W Kp i j s)(g:s.heap.get? l=some (bg vs n))(C:gs knd vs ks)(d:ks.length<64)(V:∀f a,gs knd f a->a.Perm (kM ks)->lu c.prog c.w f G)(q:∀out,G out->∃xs,VRs c.S W out.toList xs/\newL xs j Q) :
  wpAny c.M A (PySem.call (.type "set") [.ref l]) (fun v Z=>wpAny c.M A (PySem.call (.builtin "sorted") [v]) (PE c W Kp i Q) E Z) E s:=by
 have P:=C.length;refine uy (knd:=knd) B (aT g) C (bR 0 0 1 64 0 900 (Zd P) d rfl) fun h' tk hS k=>?_;have z:=vj ks [] .nil;refine bW (hS.keys z.1) fun es ep t x J p u=>?_;obtain⟨a,h,R⟩:=u;have m:es.size<64:=by rw[p];have:=z.2.2;simp at this;exact ZD this d
 have F:=I.grow (tk:=tk) (h':=h') fun b o e=>k b o (Zy e) e;refine t8 (s:={ s with heap:=h',toks:=tk }) B x J (av 1 64 0 1000 m rfl) (V _ _ h R) fun s1 L r out Y k1 D y k2 U O N=>?_;refine ar (q out N) fun xs X T=>?_;have H:InvF c W Kp i j s1:=by
  have:=(F.drawn s1.drawn).grow (tk:=s1.toks) (h':=s1.heap) k1;have e:s1={ ({ { s with heap:=h',toks:=tk } with drawn:=s1.drawn }:Shared) with heap:=s1.heap,toks:=s1.toks }:=by
   obtain⟨a1,a2,a3,a4,a5⟩:=s1;dsimp only at D y ⊢;subst D;subst y;rfl
  rw[e];exact this
 exact PE.newL (tk:=s1.toks) (h':=L) (vs:=out.toList) (n:=Y) H X T U O k2
theorem jM{n1 n2:Str}{p1 p2 pos R:Pos}{e:Expr}{f:ap}(h1:CE c sc lv (.Name n1 p1) (ie (.builtin "sorted")))(h2:CE c sc lv (.Name n2 p2) (ie (.type "set")))(h:CE c sc lv e f)(hs:∀i,starEach [e] i=(false,eval e i)::starEach [] i:=by intros;rfl):CE c sc lv (.Call (.Name n1 p1) [.Call (.Name n2 p2) [e] [] R] [] pos) (rG f):=by
 intro i A W Kp j s Q E he hE T I q;refine wpAny_Call_NameR (h1.use (Q:=fun v σ'=>v=.raw (.builtin "sorted")/\σ'=j) he hE T I ⟨rfl,rfl⟩ fun W1 y σ1 v s1 le1 I1 r1 D=>?_);obtain⟨h11,h12⟩:=D;subst h11 h12;refine r1.of_raw▸?_;refine callWith_of (P:=fun _=>True) rfl (fun hh _=>eF rfl hh) (gJ rfl ?_);refine wpAny_Call_NameR (h2.use (Q:=fun v σ'=>v=.raw (.type "set")/\σ'=σ1) he hE T I1 ⟨rfl,rfl⟩ fun W2 y2 σ2 v2 s2 le2 I2 r2 F=>?_);obtain⟨h21,h22⟩:=F;subst h21 h22;refine r2.of_raw▸?_;refine callWith_of (P:=fun _=>True) (by rw[hs];rfl) (fun hh _=>eF rfl hh) (gJ (hs i) ?_);refine h.use he hE T I2 q fun W3 x σ3 u s3 le3 X r3 zp3=>⟨trivial,?_⟩
 have J:∀{K:Type} [DecidableEq K]{knd:KeyKind c.prog c.w K}{l:Addr}{vs:List Value}{n:Nat}{ks:List K}{G:Array Value->Prop},s3.heap.get? l=some (bg vs n)->gs knd vs ks->ks.length<64->(∀C o,gs knd C o->o.Perm (kM ks)->lu c.prog c.w C G)->(∀out,G out->∃xs,VRs c.S W3 out.toList xs/\newL xs σ3 Q)->
   wpAny c.M A (PySem.call (.type "set") [.ref l]) (fun v s'=>True/\wpAny c.M A (PySem.call (.builtin "sorted") [v]) (PE c W Kp i Q) E s') E s3:=fun g L p hss N=>
  Zg (qv (E:=E) T.handled X g L p hss N) (fun v s' z=>⟨trivial,Zg z (fun _ _ z=>z.le (le1.trans (le2.trans le3))) fun _ _ z=>z⟩) fun _ _ z=>z
 have t:∀{K:Type} [DecidableEq K]{ks:List K}{o:List K},o.Perm (kM ks)->o.Nodup/\(∀k,k∈o↔k∈ks)/\o.length<=ks.length:=fun{K _ ks o} B=>by
  refine bM (vj ks [] .nil) fun a b d=>?_;refine A3 (B.nodup_iff.mpr a) (fun k=>(B.mem_iff.trans ((b k).trans (by simp)))) ?_;rw[B.length_eq];delta kM;simpa using d
 rcases zp3 with⟨ns,hl,p,N⟩|⟨ns,hl,p,N⟩
 ·apply cR X.inv r3 hl;intro l us n g H _;refine J g (ui (pd H)) (by rw[List.length_map];exact p) (G:=fun out=>∃m:List Str,StrsAre out.toList m/\m.Perm (kM (ns.map c.S))/\sortedS m=true) (fun C o L B A E s l n vs P p1 p2 p3=>tY L (ZD (t B).2.2 (by rw[List.length_map];exact p)) A E s l n vs P p1 p2 fun out D=>by refine bz D ?_;clear D;intro m x1 x2 x3;exact p3 out ⟨m,A3 x1 (x2.trans B) x3⟩) fun out U=>?_;refine bz U ?_;intro m Y Z b3;refine bM (t Z) fun m1 O m3=>?_;obtain⟨r,rfl,_⟩:∃r:List Nat,m=r.map c.S/\True:=by
   have:∀m:List Str,(∀x∈m,x∈ns.map c.S)->∃r:List Nat,m=r.map c.S:=by
    intro m;induction m with
    |nil=>intro _;exact⟨[],rfl⟩
    |cons x m ih=>
     intro V;refine ar (List.mem_map.mp (V x Ze)) fun n _ e=>?_;obtain⟨l,e2⟩:=ih fun y hy=>V y (Zc _ hy);exact⟨n::l,(e2▸e▸rfl)⟩
   obtain⟨l,e⟩:=this m fun x V=>(O x).mp V;exact⟨l,e,trivial⟩
  have hm:∀a,a∈r↔a∈ns:=fun a=>by
   constructor
   ·intro ha;refine ar (List.mem_map.mp ((O (c.S a)).mp (List.mem_map.mpr ⟨a,ha,rfl⟩))) fun b hb e=>?_;refine(c.inj _ _ e)▸?_;exact hb
   ·intro ha;refine ar (List.mem_map.mp ((O (c.S a)).mpr (List.mem_map.mpr ⟨a,ha,rfl⟩))) fun b hb e=>?_;exact(c.inj _ _ e)▸hb
  refine⟨bY r,pg Y,N r ?_ hm b3⟩;exact List.Pairwise.of_map c.S (fun a b h e=>h (congrArg _ e)) m1
 ·apply cR X.inv r3 hl;intro l us n g H _;refine J g (uj (pz H)) p (G:=fun out=>∃m:List Int,IntsAre out.toList m/\m.Perm (kM ns)/\m.Pairwise (·<=·)) (fun C o L B A E s l n vs P p1 p2 p3=>tZ L (ZD (t B).2.2 p) A E s l n vs P p1 p2 fun out F=>by refine bz F ?_;clear F;intro m x1 x2 x3;exact p3 out ⟨m,A3 x1 (x2.trans B) x3⟩) fun out U=>?_;refine bz U ?_;clear U;intro m Y Z b3;refine bM (t Z) fun m1 O m3=>?_;refine⟨h9 m,pj Y,N m ?_ O⟩;exact(b3.and m1).imp fun h=>by have:=h.1;omega
end
end
section
noncomputable def dE:List MV:=(List.range 7).map .str
noncomputable def iJ(m n:Nat):Option Bool:=if (m == 44||m == 45)&&decide (n<8) then some false else none
noncomputable def jJ(m n:Nat):Option Nat:=if m == 46&&decide (n<8) then some (8+n) else none
noncomputable def qL{b:Type}(l:List b):Nat->Option b:=List.rec (fun _=>none) (fun a _ c n=>Nat.casesOn n (some a) c) l
noncomputable def Au{a:Type}(s:Stmt)(k:Str->Arguments->List Stmt->Scope->a)(g:List Stmt->a)(d:a):a:=match s with
 |.FunctionDef name params body _ _ _ sc _ _ _=>k name params body sc
 |.ClassDef _ _ _ b _ _ _ _ _ _ _=>g b
 |_=>d
noncomputable def ku(i j:Nat):Option Stmt:=(qL PySem.Challenge.pw_ac0010_02.main.body i).bind fun s=>Au s (fun _ _ _ _=>some s) (fun b=>qL b (j - 1)) (some s)
noncomputable def qJ{a:Type}(s:Option Stmt)(k:Str->Arguments->List Stmt->Scope->a)(d:a):a:=s.elim d fun s=>Au s k (fun _=>d) d
def wb(K:Frag)(e:Nat×Nat×Nat×String×Value×Nat):Prop:=qJ (ku e.2.1 e.2.2.1) (fun name a body sc=>∃(g:Value)(od:Option Addr)(c:Array (Option Value))(b h:Value)(d:Option Addr)(f:Value),
   K.lookup e.1=some ⟨g,od,.func (fnX name (Str.ofString e.2.2.2.1) a body sc [] e.2.2.2.2.1 .none b h d (.ref e.2.2.2.2.2) f),c⟩/\codeIn K (.ref e.2.2.2.2.2) (Str.ofString e.2.2.2.1)=true) False
noncomputable def fnL:List (Nat×Nat×Nat×String×Value×Nat):=[(493,20,0,"_law_calculates",.none,492),(179,9,7,"Task._expand_calc_dep",.none,178),(165,9,5,"Task._expand_file_dep",.none,164),(172,9,6,"Task._expand_task_dep",.none,171),(144,9,2,"Task._init_deps",.none,143),(151,9,3,"Task._init_targets",.none,150),(158,9,4,"Task._init_uptodate",.none,157),(137,9,1,"Task.__init__",.ref 130,136),(310,14,2,"TaskControl._check_dep_names",.none,309),(327,14,4,"TaskControl.add_implicit_task_dep",.none,326),(317,14,3,"TaskControl.set_implicit_deps",.none,316),(303,14,1,"TaskControl.__init__",.none,302),(201,9,10,"Task.init_options",.ref 194,200),(344,14,6,"TaskControl._process_filter",.none,343),(351,14,7,"TaskControl._filter_tasks",.none,350),(358,14,8,"TaskControl.process",.none,357),(414,16,1,"TaskDispatcher.__init__",.none,413),(365,14,9,"TaskControl.task_dispatcher",.none,364),(544,29,0,"_law_dispatcher",.none,543),(505,22,0,"_law_all",.none,504),(517,24,0,"_law_free",.none,516),(386,15,1,"ExecNode.__init__",.none,385),(421,16,2,"TaskDispatcher._gen_node",.none,420),(428,16,3,"TaskDispatcher._add_ready",.none,427),(393,15,2,"ExecNode.parent_status",.none,392),(193,9,9,"Task.update_deps",.none,192),(464,16,8,"TaskDispatcher._process_calc_dep_results",.none,463),(436,16,4,"TaskDispatcher._node_add_wait_run",.ref 429,435),(443,16,5,"TaskDispatcher._add_task",.none,442),(450,16,6,"TaskDispatcher._get_next_node",.none,449),(457,16,7,"TaskDispatcher._update_waiting",.none,456),(471,16,9,"TaskDispatcher.send",.none,470),(524,25,0,"_law_given",.none,523),(512,23,0,"_law_reach",.none,511),(486,19,0,"_law_kinds",.none,485),(498,21,0,"_law_row",.none,497),(534,27,0,"_law_named",.none,533),(539,28,0,"_law_told_right",.none,538),(529,26,0,"_law_values",.none,528),(549,30,0,"law",.none,548)]
noncomputable def glL:List (Nat×Option Value):=[(75,none),(90,none),(91,none),(112,(some (.ref 223))),(119,(some (.ref 368))),(136,(some (.ref 474))),(147,none),(155,none),(159,(some (.ref 396))),(184,none),(187,(some (.ref 65))),(188,(some (.ref 486))),(189,(some (.ref 498))),(195,none),(198,(some (.ref 512))),(202,(some (.ref 517))),(205,(some (.ref 524))),(209,(some (.ref 539))),(213,none),(215,(some (.ref 544))),(230,none),(231,(some (.ref 493))),(235,(some (.ref 505))),(238,(some (.ref 529))),(239,(some (.ref 534)))]
noncomputable def kpL:List Nat:=[486,493,498,505,512,517,524,529,534,539,544]
noncomputable def tpL:List (Nat×List Value):=[(124,[]),(127,[]),(129,[]),(130,[.ref 124,.ref 125,.ref 126,.ref 127,.ref 128,.ref 129,.none,.bool false,.none]),(194,[.none]),(429,[.bool false])]
structure HC(c:Cx):Prop where
 own:OwnCls (Str.ofString "HoldOn") 65 [.type "Exception",.type "BaseException",.type "object"] "Exception.__new__" c.mg c.B
 codeHd:CodeHd c.B 343 339
 bm:∀h:Heap,(∀b o,c.B.get? b=some o->h.get? b=some o)->h.BuiltinsAt c.mg 339
 star:∀m n b,iJ m n=some b->(!(Builtin.Str.occurrences (c.S n) (c.S m) 0 (c.S n).length 1).isEmpty)=b
 made:∀m n k,jJ m n=some k->c.S m++c.S n=c.S k/\((c.S m).length == 0)=false/\((c.S n).length == 0)=false/\(c.S k).length<=1000
 gl:∀i {s v},nm i=some s->glL.lookup i=some v->nsIn c.K mainGlobals s=some v
 kp:∀f,kpL.contains f=true->keepIn c.K (.ref f)=true
 kc:∀C,C<4->keepIn c.K (.ref (c.cls C))=true
 tp:∀a l,tpL.lookup a=some l->c.K.lookup a=some (fG l 0)
 fns:∀(i:Nat) e,qL fnL i=some e->wb c.K e
 ln:∃a vs k,nsIn c.K mainGlobals (Str.ofString "_law_names")=some (some (.ref a))/\c.K.lookup a=some (bg vs k)/\∀W,VRs c.S W vs dE
 st_add_implicit_task_dep:qo c 368 (Str.ofString "add_implicit_task_dep") (.ref 327)
 sti_set_implicit_deps:oS c 1 (Str.ofString "set_implicit_deps") (.ref 317)
theorem Cx.s(c:Cx)(n:Nat){x:Str}(h:nm n=some x:=by rfl):c.S n=x:=c.hS n x h
theorem mC{c:Cx}(f:Nat){n:Str}(h:nm f=some n){fs:List Nat}{ns:List Str}(t:fs.map c.S=ns):(f::fs).map c.S=n::ns:=yz (c.s f h) t
section
variable {c:Cx}{sc:Scope}{lv:Nat}
noncomputable def xU(sc:Scope)(n:Str):Bool:=(sc.names.lookup n == some .local||sc.names.lookup n == some .cell||sc.names.lookup n == some .free)&&!(n == ("__debug__" : Str))&&!(n == ("__classdict__" : Str))
theorem CL{n:Str}{pos:Pos}(x:Nat)(b:nm x=some n:=by rfl)(a:xU sc n=true:=by rfl):CE c sc lv (.Name n pos) (ac x):=by
 unfold xU at a;simp only[Bool.and_eq_true,Bool.or_eq_true,beq_iff_eq,Bool.not_eq_true'] at a;exact vo x (c.s x b) (by rcases a.1.1 with(h|h)|h;exact .inl h;exact .inr (.inl h);exact .inr (.inr h)) a.1.2 a.2
theorem bF{n:Str}{k:Nat}{pos:Pos}(x:Nat)(a:nm x=some n:=by rfl):CE c sc lv (.Constant (.str n) k pos) (ax (.str x)):=zU x (c.s x a)
noncomputable def qT(sc:Scope)(n:Str):Bool:=sc.names.lookup n == some .local||sc.names.lookup n == some .cell
theorem xH{n:Str}(h:qT sc n=true):sc.names.lookup n=some .local\/sc.names.lookup n=some .cell:=by
 unfold qT at h;simpa using h
theorem SL{n:Str}{b pos:Pos}{e:Expr}{f:ap}(x:Nat)(h:CE c sc lv e f)(i:nm x=some n:=by rfl)(d:qT sc n=true:=by rfl)
  (g:∀a,a.scope=sc->cv a->swapsWith e (some (.Name n b)) pos.line a=pure false:=by intros;rfl):CS c sc lv (.Assign [.Name n b] e pos) (cJ x f):=vm x (c.s x i) (xH d) h g
noncomputable def sH(sc:Scope)(a:List Nat):Bool:=a.all fun p=>match nm p with
 |some n=>qT sc n
 |none=>false
theorem psOK.n{a:List Nat}(h:sH sc a=true):psOK c sc a:=fun p b=>by
 have:=List.all_eq_true.mp h p b;cases e:nm p with
 |none=>rw[e] at this;cases this
 |some n=>rw[e] at this;rw[c.s p e];exact xH this
theorem CompOK.n{scope:Scope}{fs:List Nat}(h:(fs.all (fun f=>(nm f).isSome)&&oo sc scope (fs.filterMap nm))=true):CompOK c sc scope fs:=by
 rw[Bool.and_eq_true] at h;refine CompOK.of ?_ h.2;have a:=h.1;clear h;induction fs with
 |nil=>rfl
 |cons f fs d=>
  rw[List.all_cons,Bool.and_eq_true] at a;obtain⟨x,b⟩:=Option.isSome_iff_exists.mp a.1;rw[List.map_cons,List.filterMap_cons,b,d a.2,c.s f b]
theorem HC.lnm(f:HC c){n:Str}{pos:Pos}(g:sc.names.lookup n=some .globalImplicit:=by rfl)(h:n=Str.ofString "_law_names":=by rfl):CE c sc lv (.Name n pos) (ax (.lst dE)):=by
 obtain⟨a,vs,k,b,d,e⟩:=f.ln;subst h;exact xD g b rfl d e (by decide)
end
abbrev FF(lv:Nat)(v:Value)(a:List Str):={f:List MV->List MV->ap // ∀c:Cx,HC c->FOp c lv v a f}
section
variable {c:Cx}{sc:Scope}{lv l:Nat}{n x:Str}{d pos p p1 p2:Pos}{e o:Expr}{es:List Expr}{f a:ap}{fs j:List ap}{A:List Str}{ks:List Keyword}{v:Value}
noncomputable def glOK(sc:Scope)(n:Str)(x:Nat):Bool:=nm x == some n&&(sc.names.lookup n == some .globalImplicit&&(!(n == "__name__")&&!(n == "__debug__")))
theorem glOK.of{y:Nat}(h:glOK sc n y=true):nm y=some n/\sc.names.lookup n=some .globalImplicit/\n≠"__name__"/\(n == ("__debug__" : Str))=false:=by
 unfold glOK at h;simp only[Bool.and_eq_true,beq_iff_eq,Bool.not_eq_true',beq_eq_false_iff_ne] at h;exact⟨h.1,h.2.1,h.2.2.1,beq_eq_false_iff_ne.mpr h.2.2.2⟩
theorem bI(i:HC c)(y:Nat)(h:glOK sc n y=true:=by rfl)(g:glL.lookup y=some none:=by rfl)(b:bootBuiltins n=some v:=by rfl):CE c sc lv (.Name n pos) (ie v):=
 have z:=glOK.of h
 uK z.2.1 (i.gl y z.1 g) b z.2.2.1 z.2.2.2
theorem gI(b:HC c)(y:Nat){k:Nat}(h:glOK sc n y=true:=by rfl)(g:glL.lookup y=some (some (.ref k)):=by rfl):CE c sc lv (.Name n pos) (ie (.ref k)):=
 have z:=glOK.of h
 yQ z.2.1 (b.gl y z.1 g) z.2.2.2
theorem cB{r:List MV->ap}(i:HC c)(y:Nat)(k:ir c lv v r)(t:CEs c sc lv es fs)(h:glOK sc n y=true:=by rfl)(g:glL.lookup y=some none:=by rfl)(b:bootBuiltins n=some v:=by rfl)(m:q8 v=true:=by rfl):CE c sc lv (.Call (.Name n d) es [] pos) (cC r fs):=
 xF (bI i y h g b) m k t
theorem cF{k:Nat}(b:HC c)(y:Nat)(q:FF l (.ref k) A)(t:CEs c sc lv es fs)(u:KEs c sc lv ks A j)(h:glOK sc n y=true:=by rfl)(g:glL.lookup y=some (some (.ref k)):=by rfl)(i:(kpL.contains k&&Nat.ble l lv)=true:=by rfl):CE c sc lv (.Call (.Name n d) es ks pos) (db q.1 fs j):=
 rV (gI b y h g) (b.kp k (Bool.and_eq_true_iff.mp i).1) ((q.2 c b).mono (Zt (Bool.and_eq_true_iff.mp i).2)) t u
theorem cN(i:HC c)(C y:Nat)(q:FF l (.ref (d6 ((C+1)*1000+60))) A)(t:CEs c sc lv es fs)(u:KEs c sc lv ks A j)(h:glOK sc n y=true:=by rfl)(g:glL.lookup y=some (some (.ref (iV C))):=by rfl)(b:(Nat.ble (l+1) lv&&(Nat.blt C 4&&(gN C).contains 60))=true:=by rfl):CE c sc lv (.Call (.Name n d) es ks pos) (db (o9 C q.1) fs j):=by
 rw[Bool.and_eq_true,Bool.and_eq_true] at b;have k:C<4:=Zt b.2.1;exact rV (f:=.ref (iV C)) (gI i y h g) (i.kc C k) ((yM C k (List.contains_iff_mem.mp b.2.2) (c.s 60) (q.2 c i)).mono (Zt b.1)) t u
theorem cM(g:HC c)(C y:Nat)(q:FF l (.ref (d6 ((C+1)*1000+y))) A)(h0:CE c sc lv o a)(t:CEs c sc lv es fs)(u:KEs c sc lv ks A j)(h:nm y=some x:=by rfl)(b:(Nat.ble l lv&&(gN C).contains y)=true:=by rfl)(i:fW o x d pos es ks:=by exact fun _=>⟨_,rfl⟩):CE c sc lv (.Call (.Attribute o x d) es ks pos) (cr C y q.1 a fs j):=
 xE C y (c.s y h) (List.contains_iff_mem.mp (Bool.and_eq_true_iff.mp b).2) ((q.2 c g).mono (Zt (Bool.and_eq_true_iff.mp b).1)) h0 t u i
theorem eA(y:Nat)(h0:CE c sc lv e a)(h:nm y=some x:=by rfl)(b:vk e x pos:=by exact fun _=>rfl):CE c sc lv (.Attribute e x pos) (aB a y):=yT y (c.s y h) h0 b
theorem a1{h:Expr}{i:ap}(k:CE c sc lv h i)(s1:∀b g,starEach (h::b) g=(false,eval h g)::starEach b g:=by intros;rfl):CEs c sc lv [h] [i]:=.cons k .nil s1
theorem gS(h0:CE c sc lv o a)(t:CE c sc lv e f)(h:fW o "append" d pos [e] []:=by exact fun _=>⟨_,rfl⟩)(s1:∀b g,starEach (e::b) g=(false,eval e g)::starEach b g:=by intros;rfl):CE c sc lv (.Call (.Attribute o "append" d) [e] [] pos) (b9 1 cE a [f]):=
 gR (id:="list.append") 1 (.inl rfl) F.slot_list_append rfl uP h0 (a1 t s1) h
theorem AB(h0:CE c sc lv o a)(t:CEs c sc lv es fs)(b:fW o "extend" d pos es []:=by exact fun _=>⟨_,rfl⟩):CE c sc lv (.Call (.Attribute o "extend" d) es [] pos) (b9 1 m9 a fs):=
 gR (id:="list.extend") 1 (.inl rfl) F.slot_list_extend rfl uO h0 t b
theorem uS(h0:CE c sc lv o a)(t:CEs c sc lv es fs)(b:fW o "pop" d pos es []:=by exact fun _=>⟨_,rfl⟩):CE c sc lv (.Call (.Attribute o "pop" d) es [] pos) (b9 1 o6 a fs):=
 gR (id:="list.pop") 1 (.inl rfl) F.slot_list_pop rfl yU h0 t b
theorem Ax(h0:CE c sc lv o a)(t:CEs c sc lv es fs)(b:fW o "update" d pos es []:=by exact fun _=>⟨_,rfl⟩):CE c sc lv (.Call (.Attribute o "update" d) es [] pos) (b9 3 sM a fs):=
 gR (id:="set.update") 3 (.inr (.inr rfl)) F.slot_set_update rfl uM h0 t b
theorem Ay(h0:CE c sc lv o a)(t:CEs c sc lv es fs)(b:fW o "remove" d pos es []:=by exact fun _=>⟨_,rfl⟩):CE c sc lv (.Call (.Attribute o "remove" d) es [] pos) (b9 3 lg a fs):=
 gR (id:="set.remove") 3 (.inr (.inr rfl)) F.slot_set_remove rfl uN h0 t b
theorem Az(h0:CE c sc lv o a)(t:CEs c sc lv es fs)(b:fW o "get" d pos es []:=by exact fun _=>⟨_,rfl⟩):CE c sc lv (.Call (.Attribute o "get" d) es [] pos) (b9 2 getM a fs):=
 gR (id:="dict.get") 2 (.inr (.inl rfl)) F.slot_dict_get rfl yV h0 t b
theorem yX(h0:CE c sc lv o a)(b:fW o "values" d pos [] []:=by exact fun _=>⟨_,rfl⟩):CE c sc lv (.Call (.Attribute o "values" d) [] [] pos) (b9 2 (tL false) a []):=
 gR (id:="dict.values") 2 (.inr (.inl rfl)) F.slot_dict_values rfl uL h0 .nil b
theorem sA(y:Nat)(i:CE c sc lv o a)(h:CE c sc lv e f)(g:nm y=some x:=by rfl)
  (k:∀b,swapsWith e (some (.Attribute o x d)) pos.line b=pure false:=by intros;rfl):CS c sc lv (.Assign [.Attribute o x d] e pos) (eH a y f):=yO y (c.s y g) i h k
theorem rS{b:Scope}(y:Nat)(h:CE c sc lv e f)(g:(b.names.lookup n == some .local)=true:=by rfl)(i:nm y=some n:=by rfl):jy c sc b lv (.Name n pos) e (ba y) (dH f):=xA y (c.s y i) (beq_iff_eq.mp g) h
theorem rR{b:Scope}(y:Nat)(h:CE c sc lv e f)(g:(b.names.lookup n == some .local)=true:=by rfl)(i:nm y=some n:=by rfl):jy c sc b lv (.Name n pos) e (ba y) (jW f):=xB y (c.s y i) (beq_iff_eq.mp g) h
theorem eS{h b st:Option Expr}{g:ap}{u w k:Option ap}(h0:CE c sc lv e g)(q:CP c sc lv h u)(r:CP c sc lv b w)(s:CP c sc lv st k)(t:∃m:Value->Value->List Value,∀o i,subscripted (.Slice h b st p) false o i=operate (m o i) (getItem o i):=by exact⟨_,fun _ _=>rfl⟩):CE c sc lv (.Subscript e (.Slice h b st p) pos) (fH g u w k):=xC h0 q r s t
theorem eC{h b g:Expr}{i:List Expr}{scope:Scope}{st:MV->AS->AS}{t:MT}{k:ii}(xs:List Nat)(r:jy c sc (fE scope sc) lv b g st k)(u:oh c (fE scope sc) lv i t)(q:CE c (fE scope sc) lv h f)(ok:(xs.all (fun f=>(nm f).isSome)&&oo sc scope (xs.filterMap nm))=true:=by rfl)(s:∀m x,foldedSetIterable g m x=pure x:=by intros;rfl):CE c sc lv (.ListComp h [⟨b,g,i,0⟩] scope pos) (eR xs k st t f):=yS (.n ok) r u q s
theorem sC{k b g:Expr}{m:List Expr}{scope:Scope}{st:MV->AS->AS}{t:MT}{q:ii}(y:Nat)(xs:List Nat)(u:jy c sc (fE scope sc) lv b g st q)(C:oh c (fE scope sc) lv m t)(r:CE c (fE scope sc) lv k f)(z:nm y=some n:=by rfl)(w:(sc.names.lookup n == some .local)=true:=by rfl)(ok:(xs.all (fun f=>(nm f).isSome)&&oo sc scope (xs.filterMap nm))=true:=by rfl)
  (D:∀i:Env,swapsWith (.ListComp k [⟨b,g,m,0⟩] scope pos) (some (.Name n d)) p.line { i with scope:=sc }=pure true:=by intros;rfl)(B:∀i x,foldedSetIterable g i x=pure x:=by intros;rfl) :
  CS c sc lv (.Assign [.Name n d] (.ListComp k [⟨b,g,m,0⟩] scope pos) p) (cJ y (eR xs q st t f)):=uI y (c.s y z) (beq_iff_eq.mp w) (.n ok) u C r (fun i h=>by subst h;exact D i) B
theorem s1{g:List Stmt}{t:MT}{b:MS}(h:CT c sc lv e t)(i:CSs c sc lv g b):CS c sc lv (.If e g [] pos) (ca t b bn):=fC h i iY
theorem t1{xs:List Nat}(y:Nat)(t:NTs c sc es xs)(g:nm y=some n:=by rfl)(b:qT sc n=true:=by rfl):NTs c sc (.Name n pos::es) (y::xs):=.cons y (c.s y g) (xH b) t
theorem psOK.m{b:List Nat}(h:sH sc b=true):b.map c.S=b.filterMap nm:=by
 induction b with
 |nil=>rfl
 |cons q b i=>
  unfold sH at h;rw[List.all_cons,Bool.and_eq_true] at h;have g:=h.1;cases e:nm q with
  |none=>rw[e] at g;cases g
  |some s=>rw[List.map_cons,List.filterMap_cons,e,i h.2,c.s q e]
def bndN:Nat->(List Value->Prop)->Prop
 |0,P=>P []
 |k+1,P=>∀a,bndN k fun l=>P (a::l)
theorem bndN.at{k:Nat}:∀{P:List Value->Prop}{vs:List Value},bndN k P->vs.length=k->P vs:=by
 induction k with
 |zero=>
  intro P vs h e;cases vs with
  |nil=>exact h
  |cons=>exact Nat.noConfusion e
 |succ k b=>
  intro P vs h e;cases vs with
  |nil=>exact Nat.noConfusion e
  |cons a l=>exact b (P:=fun l=>P (a::l)) (h a) (Nat.succ.inj e)
theorem fF(J:HC c)(i:Nat){b p q cd m:Nat}{D:String}{B:Value}{name:Str}{k:Arguments}{body:List Stmt}{E:List Expr}{F:Option Expr}{G:List TypeParam}{d4:Option Scope}{H:Str}{u:List Nat}{bm:List MV->List MV->List MV}{g:MS}(K:qL fnL i=some (b,p,q,D,B,cd))(M:ku p q=some (.FunctionDef name k body E F G sc d4 H pos))(I:∀r C w y,Binds c (fnX name (Str.ofString D) k body sc [] B .none r C w (.ref cd) y) m A u bm)(t:(fY sc&&sH sc u)=true)(h:CSs c sc l body g):FOp c (l+1) (.ref b) A (iU m u bm g):=by
 have z:qJ (ku p q) _ False:=J.fns i _ K;rw[M] at z;obtain⟨O,od,N,r,C,w,y,L,s⟩:=z;rw[Bool.and_eq_true] at t;exact yN L s (I _ _ _ _) t.1 (psOK.n t.2) h
theorem fB{fd:FuncData}{b:List Nat}(h:(fY sc&&sH sc b)=true)(nd:b.Nodup)(g:bndN b.length fun vs=>bindArgs fd ⟨vs,[]⟩=pure ((b.filterMap nm).zip vs)):Binds c fd b.length [] b fun xs _=>xs:=
 .pos nd fun vs i=>by
  unfold cH;rw[psOK.m (Bool.and_eq_true_iff.mp h).2];exact g.at i
theorem fP(F:HC c)(i:Nat)(m:List Nat){b p q cd:Nat}{u:String}{s:Value}{name:Str}{k:Arguments}{body:List Stmt}{z:List Expr}{B:Option Expr}{C:List TypeParam}{d4:Option Scope}{D:Str}{g:MS}(G:qL fnL i=some (b,p,q,u,s,cd))(H:ku p q=some (.FunctionDef name k body z B C sc d4 D pos))(E:∀r I w y,bndN m.length fun vs=>bindArgs (fnX name (Str.ofString u) k body sc [] s .none r I w (.ref cd) y) ⟨vs,[]⟩=pure ((m.filterMap nm).zip vs))(h:CSs c sc l body g)(nd:m.Nodup:=by decide)(t:(fY sc&&sH sc m)=true:=by rfl):FOp c (l+1) (.ref b) [] (iU m.length m (fun xs _=>xs) g):=
 fF F i G H (fun _ _ _ _=>fB t nd (E _ _ _ _)) t h
end
set_option maxHeartbeats 2000000
noncomputable def bC:FF 1 (.ref 493) []:=⟨_,fun c a=>fP a 0 [191] rfl rfl (fun _ _ _ _ _=>rfl) (am (bB (j7 dD (CL 191) (eE (.cons aD (.cons aD .nil))))))⟩
noncomputable def eK:FF 1 (.ref (d6 1087)) []:=⟨_,fun c a=>fP a 1 [61,52] rfl rfl (fun _ _ _ _ _ _=>rfl) (am (bZ (rS 97 (CL 52)) (am (s1 (aC eD (CL 97) (eA 52 (CL 61))) (am (aM (gS (eA 52 (CL 61)) (CL 97))))))))⟩
noncomputable def eJ:FF 1 (.ref (d6 1085)) []:=⟨_,fun c a=>fP a 2 [61,51] rfl rfl (fun _ _ _ _ _ _=>rfl) (am (bZ (rS 97 (CL 51)) (am (fC (bx (cB a 90 qr (.cons (CL 97) (a1 (bI a 91))))) (am (s1 (aC eD (CL 97) (eA 51 (CL 61))) (am (aM (gS (eA 51 (CL 61)) (CL 97)))))) cY))))⟩
noncomputable def dB:FF 1 (.ref (d6 1086)) []:=⟨_,fun c a=>fP a 3 [61,50] rfl rfl (fun _ _ _ _ _ _=>rfl) (am (bZ (rS 97 (CL 50)) (am (fC (aC (mO iJ a.star) (bF 45) (CL 97)) (am (aM (gS (eA 84 (CL 61)) (CL 97)))) (am (aM (gS (eA 50 (CL 61)) (CL 97))))))))⟩
noncomputable def jH:FF 2 (.ref (d6 1076)) []:=⟨_,fun c a=>fP a 4 [61,51,50,52] rfl rfl (fun _ _ _ _ _ _ _ _=>rfl) (ad (sA 83 (CL 61) bE) (ad (sA 51 (CL 61) (aY .nil)) (ad (aM (cM a 0 85 eJ (CL 61) (a1 (CL 51)) .nil)) (ad (sA 50 (CL 61) (aY .nil)) (ad (sA 84 (CL 61) (aY .nil)) (ad (s1 (bx (CL 50)) (am (aM (cM a 0 86 dB (CL 61) (a1 (CL 50)) .nil)))) (ad (sA 52 (CL 61) (aY .nil)) (am (s1 (bx (CL 52)) (am (aM (cM a 0 87 eK (CL 61) (a1 (CL 52)) .nil))))))))))))⟩
noncomputable def iR:FF 1 (.ref (d6 1078)) []:=⟨_,fun c a=>fP a 5 [61,88] rfl rfl (fun _ _ _ _ _ _=>rfl) (ad (SL 64 (aY .nil)) (ad (bZ (rS 89 (CL 88)) (am (fC (bx (cB a 90 qr (.cons (CL 89) (a1 (bI a 91))))) (am (aM (gS (CL 64) (CL 89)))) cY))) (am (bB (CL 64)))))⟩
noncomputable def iC:FF 1 (.ref (d6 1077)) []:=⟨_,fun c a=>fP a 6 [61,88] rfl rfl (fun _ _ _ _ _ _=>rfl) (ad (SL 53 (aY .nil)) (ad (bZ (rS 93 (CL 88)) cY) (am (bB (CL 53)))))⟩
noncomputable def cq:FF 3 (.ref (d6 1060)) [Str.ofString "targets",Str.ofString "task_dep",Str.ofString "calc_dep"]:=⟨iU 3 [61,62,63,51,64,50,53,52,65,66,67,68] (fun xs ys=>[(xs.getD 0 .none),(xs.getD 1 .none),(xs.getD 2 .none),.tup [],(ys.getD 0 .none),(ys.getD 1 .none),.tup [],(ys.getD 2 .none),.tup [],.none,.bool false,.none]) _,fun c e=>fF e 7 rfl rfl (fun _ _ _ _=>(by
  refine⟨by decide,fun W s vs ks xs ys X f j g i h=>?_⟩;obtain⟨a,b,d,x,y,z,rfl,rfl,n,o,p⟩:=j.l3 i;obtain⟨k0,k1,k2,q,r,t,rfl,rfl,k,l,m⟩:=g.l3 h;refine⟨[a,b,d,.ref 124,k0,k1,.ref 127,k2,.ref 129,.none,.bool false,.none],?_,(.cons n (.cons o (.cons p (.cons (.tup (f 124 _ (c.X _ _ (e.tp 124 _ rfl)) rfl) .nil (by decide)) (.cons k (.cons l (.cons (.tup (f 127 _ (c.X _ _ (e.tp 127 _ rfl)) rfl) .nil (by decide)) (.cons m (.cons (.tup (f 129 _ (c.X _ _ (e.tp 129 _ rfl)) rfl) .nil (by decide)) (.cons .none (.cons (.bool _) (.cons .none .nil))))))))))))⟩;unfold cH;rw[(mC 61 rfl (mC 62 rfl (mC 63 rfl (mC 51 rfl (mC 64 rfl (mC 50 rfl (mC 53 rfl (mC 52 rfl (mC 65 rfl (mC 66 rfl (mC 67 rfl (mC 68 rfl g9))))))))))))];exact binds_K X rfl (e.tp 130 _ rfl) rfl rfl rfl)) rfl (ad (SL 68 (x9 (CL 68) gE)) (ad (s1 (aC (mO iJ e.star) (bF 44) (CL 62)) cY) (ad (sA 62 (CL 61) (CL 62)) (ad (sA 69 (CL 61) bE) (ad (sA 70 (CL 61) (cB e 75 i7 (a1 (CL 65)))) (ad (fC (aC ix (CL 63) bE) (am (sA 63 (CL 61) (aY .nil))) (am (sA 63 (CL 61) (cB e 75 i7 (a1 (eS (CL 63) .none .none .none)))))) (ad (aM (cM e 0 76 jH (CL 61) (.cons (CL 51) (.cons (CL 50) (a1 (CL 52)))) .nil)) (ad (SL 53 (fQ (bx (CL 53)) (CL 53) (aY .nil))) (ad (sA 68 (CL 61) (CL 68)) (ad (s1 (bx (eA 68 (CL 61))) cY) (ad (sA 71 (CL 61) (aY .nil)) (ad (sA 53 (CL 61) (cM e 0 77 iC (CL 61) (a1 (CL 53)) .nil)) (ad (sA 64 (CL 61) (cM e 0 78 iR (CL 61) (a1 (CL 64)) .nil)) (ad (sA 66 (CL 61) (CL 66)) (ad (sA 67 (CL 61) (CL 67)) (ad (sA 72 (CL 61) bE) (ad (sA 73 (CL 61) gE) (am (sA 74 (CL 61) ef)))))))))))))))))))⟩
noncomputable def fi:FF 1 (.ref (d6 2109)) []:=⟨_,fun c a=>fP a 8 [61] rfl rfl (fun _ _ _ _ _=>rfl) (am (bZ (qq 42 (c.s 42) rfl (yX (eA 105 (CL 61)))) (ad (bZ (rS 97 (eA 50 (CL 42))) (am (s1 (aC eD (CL 97) (eA 105 (CL 61))) cY))) (am (bZ (rS 115 (eA 70 (CL 42))) (am (s1 (aC eD (CL 115) (eA 105 (CL 61))) cY)))))))⟩
noncomputable def cO:FF 1 (.ref 327) []:=⟨_,fun c a=>fP a 9 [64,42,120] rfl rfl (fun _ _ _ _ _ _ _=>rfl) (am (bZ (rS 97 (CL 120)) (am (s1 (cG (.consA rfl (aC dD (CL 97) (CL 64)) (.consA rfl (aC eD (aS (CL 64) (CL 97)) (eA 50 (CL 42))) (.nilA rfl)))) (am (aM (gS (eA 50 (CL 42)) (aS (CL 64) (CL 97)))))))))⟩
noncomputable def eI:FF 2 (.ref 317) []:=⟨_,fun c a=>fP a 10 [64,104] rfl rfl (fun _ _ _ _ _ _=>rfl) (ad (bZ (rS 42 (CL 104)) (am (bZ (rS 89 (eA 64 (CL 42))) (ad (s1 (aC dD (CL 89) (CL 64)) cY) (am (gQ (CL 64) (CL 89) (eA 62 (CL 42)))))))) (am (bZ (rS 42 (CL 104)) (am (aM (ly (gI a 119) a.st_add_implicit_task_dep ((cO.2 _ a).mono (by decide)) (.cons (CL 64) (.cons (CL 42) (a1 (eA 51 (CL 42))))) (fun _=>⟨_,rfl⟩)))))))⟩
noncomputable def cU:FF 3 (.ref (d6 2060)) []:=⟨_,fun c a=>fP a 11 [61,104] rfl rfl (fun _ _ _ _ _ _=>rfl) (ad (sA 105 (CL 61) gE) (ad (sA 64 (CL 61) gE) (ad (sA 106 (CL 61) (aY .nil)) (ad (sA 107 (CL 61) bE) (ad (bZ (rS 42 (CL 104)) (ad (s1 (jj (bx (cB a 90 (vV 0) (.cons (CL 42) (a1 (gI (k:=iV 0) a 112)))))) cY) (ad (s1 (aC dD (eA 62 (CL 42)) (eA 105 (CL 61))) cY) (ad (gQ (eA 105 (CL 61)) (eA 62 (CL 42)) (CL 42)) (am (aM (gS (eA 106 (CL 61)) (eA 62 (CL 42))))))))) (ad (bZ (qq 42 (c.s 42) rfl (yX (eA 105 (CL 61)))) (am (bZ (rS 108 (eA 84 (CL 42))) cY))) (ad (aM (cM a 1 109 fi (CL 61) .nil .nil)) (am (aM (pL 1 110 (c.s 110) (CL 61) a.sti_set_implicit_deps ((eI.2 _ a).mono (by decide)) (.cons (eA 64 (CL 61)) (a1 (CL 104))) (fun _=>⟨_,rfl⟩)))))))))))⟩
noncomputable def gn:FF 1 (.ref (d6 1102)) []:=⟨iU 2 [61,103] (fun xs _=>[(xs.getD 0 .none),(xs.getD 1 .none)]) _,fun c d=>fF d 12 rfl rfl (fun _ _ _ _=>(by
  refine⟨by decide,fun W s vs ks xs ys X e g j f k=>?_⟩;obtain⟨a,b,x,y,rfl,rfl,h,i⟩:=g.l2 f;refine⟨[a,b],?_,.cons h (.cons i .nil)⟩;unfold cH;rw[(mC 61 rfl (mC 103 rfl g9))];exact binds_K X rfl (d.tp 194 _ rfl) rfl rfl rfl)) rfl (am (s1 (aC ix (eA 69 (CL 61)) bE) (ad (sA 69 (CL 61) gE) (am (bB (CL 103))))))⟩
noncomputable def fA:FF 3 (.ref (d6 2121)) []:=⟨iU 2 [61,123] (fun xs _=>xs) _,fun c b=>by
 obtain⟨m,od,i,g,o,j,k,h,d⟩:=b.fns 13 _ rfl;exact xo h d (.p2 (by decide) (mC 61 rfl (mC 123 rfl g9)) (fun _ _=>rfl)) rfl (psOK.n rfl) (vQ (SL 124 (aY .nil)) (xz (t0:=(9,0)) (c.s 122) rfl b.codeHd (by decide) b.bm (CompOK.n (fs:=[124,61]) rfl) rfl rfl (fun _=>rfl) (fun l e W0 Kp f a=>(iB (CS.e (SL 125 (eS (CL 123) .none .none .none)) a) (iB (vT a (bx (CL 125)) (iB (CS.e (SL 126 (uS (CL 125) (a1 aD))) a) (iB (zS a (aC (mO iJ b.star) (bF 45) (CL 126)) (CSs.e cY a) (iB (uH 125 122 (c.s 125) (c.s 122) a f rfl rfl rfl rfl (CompOK.n (fs:=[124,61]) rfl) (fun _ _ _ _ _ _=>.p2 (by decide) (mC 125 rfl (mC 126 rfl g9)) (fun _ _=>rfl)) (psL.of (mC 125 rfl (mC 126 rfl g9)) rfl) (ad (aM (gS (CL 124) (CL 126))) (ad (s1 (aC dD (CL 126) (eA 105 (CL 61))) (ad (SL 127 (aS (eA 105 (CL 61)) (CL 126))) (am (SL 125 (cM b 0 102 gn (CL 127) (a1 (CL 125)) .nil))))) (am (bB (CL 125))))) (.cons (CL 125) (.cons (CL 126) .nil))) (CSs.e iY a))) (CSs.e iY a)))) (iB (CS.e (bB (CL 124)) a) (CSs.e iY a)))))))⟩
noncomputable def fM:FF 4 (.ref (d6 2130)) []:=⟨_,fun c a=>fP a 14 [61,123] rfl rfl (fun _ _ _ _ _ _=>rfl) (ad (SL 131 (aY .nil)) (ad (SL 124 (cM a 1 121 fA (CL 61) (a1 (CL 123)) .nil)) (ad (bZ (rS 132 (CL 124)) (ad (s1 (aC dD (CL 132) (eA 105 (CL 61))) (ad (aM (gS (CL 131) (CL 132))) (am lx))) (ad (s1 (aC dD (CL 132) (eA 64 (CL 61))) (ad (aM (gS (CL 131) (aS (eA 64 (CL 61)) (CL 132)))) (am lx))) cY))) (am (bB (CL 131))))))⟩
noncomputable def fK:FF 5 (.ref (d6 2134)) []:=⟨_,fun c a=>fP a 15 [61,123] rfl rfl (fun _ _ _ _ _ _=>rfl) (am (fC (aC nW (CL 123) bE) (am (sA 107 (CL 61) (cM a 1 130 fM (CL 61) (a1 (CL 123)) .nil))) (am (sA 107 (CL 61) (eA 106 (CL 61))))))⟩
noncomputable def gt:FF 1 (.ref (d6 4060)) []:=⟨_,fun c a=>fP a 16 [61,105,64,107] rfl rfl (fun _ _ _ _ _ _ _ _=>rfl) (ad (sA 105 (CL 61) (CL 105)) (ad (sA 64 (CL 61) (CL 64)) (ad (sA 107 (CL 61) (CL 107)) (ad (sA 150 (CL 61) gE) (ad (sA 151 (CL 61) gE) (ad (sA 152 (CL 61) (aY .nil)) (ad (sA 153 (CL 61) (uJ (bI a 75) (bI a 155) (CL 107))) (am (sA 154 (CL 61) bE)))))))))⟩
noncomputable def dz:FF 3 (.ref (d6 2135)) []:=⟨_,fun c a=>fP a 17 [61] rfl rfl (fun _ _ _ _ _=>rfl) (ad (mM (aC nW (eA 107 (CL 61)) bE)) (am (bB (cN a 3 136 gt (.cons (eA 105 (CL 61)) (.cons (eA 64 (CL 61)) (a1 (eA 107 (CL 61))))) .nil))))⟩
noncomputable def jG:FF 6 (.ref 544) []:=⟨_,fun c a=>fP a 18 [199,216,217] rfl rfl (fun _ _ _ _ _ _ _=>rfl) (ad (SL 105 (aY .nil)) (ad (bZ (rR 191 (cB a 195 dI (a1 (cB a 184 eP (a1 (CL 199)))))) (ad (sC 192 [] (rS 194 (aS (aS (CL 199) (CL 191)) aD)) eO (aS a.lnm (CL 194))) (am (aM (gS (CL 105) (cN a 0 112 cq (.cons (aS a.lnm (CL 191)) (a1 (aY .nil))) (.cons (aY (.cons (pF jJ a.made (bF 46) (aS a.lnm (CL 191))) .nil)) (.cons (CL 192) (.cons (eC [] (rS 194 (aS (aS (CL 199) (CL 191)) aD)) eO (aS a.lnm (CL 194))) .nil))))))))) (ad (SL 218 (eZ (dP (CL 216) aD) (cB a 184 eP (a1 (CL 199))))) (ad (SL 105 (iN (eS (CL 105) (.some (CL 218)) .none .none) (eS (CL 105) .none (.some (CL 218)) .none))) (ad (SL 219 (cN a 1 119 cU (a1 (fQ (aC bD (eZ (CL 216) aD) aD) (eS (CL 105) .none .none (.some (rl aD))) (CL 105))) .nil)) (ad (aM (cM a 1 134 fK (CL 219) (a1 (fQ (aC ix (CL 217) bE) bE (eC [] (rS 191 (CL 217)) eO (aS a.lnm (CL 191))))) .nil)) (am (bB (cM a 1 135 dz (CL 219) .nil .nil)))))))))⟩
noncomputable def fR:FF 1 (.ref 505) []:=⟨_,fun c a=>fP a 19 [199,200,191] rfl rfl (fun _ _ _ _ _ _ _=>rfl) (ad (SL 192 (cB a 75 i7 (a1 (aS (aS (CL 199) (CL 191)) aD)))) (ad (SL 236 (aY .nil)) (ad (SL 232 (aY .nil)) (ad (SL 237 (cB a 75 i7 (a1 (aS (aS (CL 199) (CL 191)) aD)))) (ad (nV (aC iZ (CL 237) (aY .nil)) (ad (SL 194 (uS (CL 237) (a1 aD))) (am (s1 (aC eD (CL 194) (CL 232)) (ad (aM (gS (CL 232) (CL 194))) (am (s1 (aC bD (aS (CL 200) (CL 194)) (bF 25)) (ad (SL 192 (iN (CL 192) (aS (aS (aS (CL 199) (CL 194)) aD) aD))) (ad (SL 236 (iN (CL 236) (aS (aS (aS (CL 199) (CL 194)) aD) aD))) (am (SL 237 (iN (CL 237) (aS (aS (aS (CL 199) (CL 194)) aD) aD))))))))))))) (am (bB (eE (.cons (jM (bI a 213) (bI a 147) (iN (CL 192) (CL 236))) (.cons (jM (bI a 213) (bI a 147) (CL 236)) (.cons (cB a 213 fg (a1 (CL 232))) .nil)))))))))))⟩
noncomputable def jf:FF 2 (.ref 517) []:=⟨_,fun c a=>fP a 20 [199,200] rfl rfl (fun _ _ _ _ _ _=>rfl) (ad (SL 203 (aY .nil)) (ad (bZ (rR 191 (cB a 195 dI (a1 (cB a 184 eP (a1 (CL 199)))))) (am (s1 (aC bD (aS (CL 200) (CL 191)) (bF 21)) (ad (i6 (t1 192 (t1 236 (t1 232 .nil))) (cF a 235 fR (.cons (CL 199) (.cons (CL 200) (a1 (CL 191)))) .nil)) (am (s1 (aC jR (eC [200] (rS 194 (iN (CL 192) (CL 232))) (fZ (aC ng (aS (CL 200) (CL 194)) (bF 25))) (CL 194)) (aY .nil)) (am (aM (gS (CL 203) (CL 191)))))))))) (am (bB (CL 203)))))⟩
noncomputable def iS:FF 1 (.ref (d6 3060)) []:=⟨_,fun c a=>fP a 21 [61,42,137] rfl rfl (fun _ _ _ _ _ _ _=>rfl) (ad (sA 42 (CL 61) (CL 42)) (ad (sA 50 (CL 61) (eS (eA 50 (CL 42)) .none .none .none)) (ad (sA 52 (CL 61) (eS (eA 52 (CL 42)) .none .none .none)) (ad (sA 138 (CL 61) (aY .nil)) (ad (s1 (bx (CL 137)) (am (aM (AB (eA 138 (CL 61)) (a1 (eA 138 (CL 137))))))) (ad (aM (gS (eA 138 (CL 61)) (eA 62 (CL 42)))) (ad (sA 139 (CL 61) ef) (ad (sA 140 (CL 61) (cB a 147 rW .nil)) (ad (sA 141 (CL 61) (cB a 147 rW .nil)) (ad (sA 142 (CL 61) gE) (ad (sA 143 (CL 61) bE) (ad (sA 144 (CL 61) (aY .nil)) (ad (sA 145 (CL 61) (aY .nil)) (am (sA 146 (CL 61) aD)))))))))))))))⟩
noncomputable def cW:FF 3 (.ref (d6 4156)) []:=⟨_,fun c a=>fP a 22 [61,137,129] rfl rfl (fun _ _ _ _ _ _ _=>rfl) (ad (SL 154 (Az (eA 150 (CL 61)) (.cons (CL 129) (a1 bE)))) (ad (s1 (aC ix (CL 154) bE) (ad (SL 154 (cN a 2 159 iS (.cons (aS (eA 105 (CL 61)) (CL 129)) (a1 (CL 137))) .nil)) (ad (gQ (eA 150 (CL 61)) (CL 129) (CL 154)) (am (bB (CL 154)))))) (ad (s1 (cG (.consA rfl (bx (CL 137)) (.consA rfl (aC dD (CL 129) (eA 138 (CL 137))) (.nilA rfl)))) cY) (am (bB bE)))))⟩
noncomputable def aW:FF 4 (.ref (d6 4162)) []:=⟨_,fun c a=>fP a 23 [61,137,129] rfl rfl (fun _ _ _ _ _ _ _=>rfl) (ad (SL 163 (cM a 3 156 cW (CL 61) (.cons (CL 137) (a1 (CL 129))) .nil)) (am (s1 (aC nW (CL 163) bE) (am (aM (gS (eA 152 (CL 61)) (CL 163)))))))⟩
noncomputable def cn:FF 1 (.ref (d6 3148)) []:=⟨_,fun c a=>fP a 24 [61,149] rfl rfl (fun _ _ _ _ _ _=>rfl) (am (fC (aC bD (eA 143 (CL 149)) (bF 32)) (am (aM (gS (eA 144 (CL 61)) (CL 149)))) (am (s1 (aC bD (eA 143 (CL 149)) (bF 34)) (am (aM (gS (eA 145 (CL 61)) (CL 149))))))))⟩
noncomputable def jo:FF 2 (.ref (d6 1098)) []:=⟨_,fun c a=>fP a 25 [61,99] rfl rfl (fun _ _ _ _ _ _=>rfl) (am (bZ (uG 97 100 (c.s 97) (c.s 100) rfl rfl (gR (id:="dict.items") 2 (by decide) F.slot_dict_items rfl vU (CL 99) .nil (fun _=>⟨_,rfl⟩))) (am (fC (aC bD (CL 97) (bF 50)) (am (aM (cM a 0 86 dB (CL 61) (a1 (CL 100)) .nil))) (am (fC (aC bD (CL 97) (bF 51)) (am (aM (cM a 0 85 eJ (CL 61) (a1 (CL 100)) .nil))) (am (fC (aC bD (CL 97) (bF 52)) (am (aM (cM a 0 87 eK (CL 61) (a1 (CL 100)) .nil))) (am (s1 (aC bD (CL 97) (bF 53)) cY))))))))))⟩
noncomputable def aZ:FF 3 (.ref (d6 4169)) []:=⟨_,fun c a=>fP a 26 [61,154,177] rfl rfl (fun _ _ _ _ _ _ _=>rfl) (ad (SL 73 (eA 73 (eA 42 (CL 154)))) (ad (SL 180 (cB a 184 eP (a1 (eA 50 (eA 42 (CL 177)))))) (ad (SL 181 (eS (eA 52 (eA 42 (CL 177))) .none .none .none)) (ad (aM (cM a 0 98 jo (eA 42 (CL 177)) (a1 (CL 73)) .nil)) (ad (aM (ly (gI a 119) a.st_add_implicit_task_dep ((cO.2 _ a).mono (by decide)) (.cons (eA 64 (CL 61)) (.cons (eA 42 (CL 177)) (a1 (Az (CL 73) (.cons (bF 51) (a1 (aY .nil))))))) (fun _=>⟨_,rfl⟩))) (ad (SL 182 (eS (eA 50 (eA 42 (CL 177))) (.some (CL 180)) .none .none)) (ad (aM (AB (eA 50 (CL 177)) (a1 (CL 182)))) (am (bZ (rS 183 (eA 52 (eA 42 (CL 177)))) (am (s1 (cG (.consA rfl (aC eD (CL 183) (CL 181)) (.consA rfl (aC eD (CL 183) (eA 52 (CL 177))) (.nilA rfl)))) (am (aM (gS (eA 52 (CL 177)) (CL 183)))))))))))))))⟩
noncomputable def qR:{g:MS // ∀c:Cx,HC c->CSs c (qJ (ku 16 4) (fun _ _ _ s=>s) default) 3 (qJ (ku 16 4) (fun _ _ b _=>b) []) g}:=⟨_,fun c a=>(ad (SL 166 (aY .nil)) (ad (bZ (rS 62 (CL 104)) (ad (SL 167 (aS (eA 150 (CL 61)) (CL 62))) (am (fC (cG (.consO rfl (jj (bx (CL 167))) (.consO rfl (aC dD (eA 143 (CL 167)) (eE (.cons bE (.cons (bF 36) .nil)))) (.nilO rfl)))) (am (s1 (aC eD (CL 62) (CL 166)) (am (aM (gS (CL 166) (CL 62)))))) (ad (aM (cM a 2 148 cn (CL 154) (a1 (CL 167)) .nil)) (am (s1 (bx (CL 165)) (am (aM (cM a 3 169 aZ (CL 61) (.cons (CL 167) (a1 (CL 154))) .nil)))))))))) (ad (bZ (rS 62 (CL 166)) (am (gQ (eA 142 (aS (eA 150 (CL 61)) (CL 62))) (eA 62 (eA 42 (CL 154))) (CL 154)))) (am (fC (bx (CL 165)) (am (aM (Ax (eA 141 (CL 154)) (a1 (CL 166))))) (am (aM (Ax (eA 140 (CL 154)) (a1 (CL 166))))))))))⟩
noncomputable def bJ:FF 4 (.ref (d6 4164)) []:=⟨iU 3 [61,154,104,165] (fun xs ys=>[(xs.getD 0 .none),(xs.getD 1 .none),(xs.getD 2 .none),.bool false]) qR.1,fun c e=>fF e 27 rfl rfl (fun _ _ _ _=>(by
  refine⟨by decide,fun W s vs ks xs ys X f h l g m=>?_⟩;obtain⟨a,b,d,x,y,z,rfl,rfl,i,j,k⟩:=h.l3 g;refine⟨[a,b,d,.bool false],?_,.cons i (.cons j (.cons k (.cons (.bool _) .nil)))⟩;unfold cH;rw[(mC 61 rfl (mC 154 rfl (mC 104 rfl (mC 165 rfl g9))))];exact binds_K X rfl (e.tp 429 _ rfl) rfl rfl rfl)) rfl (qR.2 c e)⟩
noncomputable def bQ:FF 4 (.ref (d6 4164)) [Str.ofString "calc"]:=⟨iU 3 [61,154,104,165] (fun xs ys=>[(xs.getD 0 .none),(xs.getD 1 .none),(xs.getD 2 .none),(ys.getD 0 .none)]) qR.1,fun c e=>fF e 27 rfl rfl (fun _ _ _ _=>(by
  refine⟨by decide,fun W s vs ks xs ys X f j g i h=>?_⟩;obtain⟨a,b,d,x,y,z,rfl,rfl,l,m,n⟩:=j.l3 i;obtain⟨k0,o,rfl,rfl,k⟩:=g.l1 h;refine⟨[a,b,d,k0],?_,.cons l (.cons m (.cons n (.cons k .nil)))⟩;unfold cH;rw[(mC 61 rfl (mC 154 rfl (mC 104 rfl (mC 165 rfl g9))))];exact binds_K X rfl (e.tp 429 _ rfl) rfl rfl rfl)) rfl (qR.2 c e)⟩
noncomputable def cX:FF 5 (.ref (d6 4170)) []:=⟨_,fun c a=>fP a 28 [61,154] rfl rfl (fun _ _ _ _ _ _=>rfl) (ad (SL 171 (eA 42 (CL 154))) (ad (nV (aC bD (eA 146 (CL 154)) aD) (ad (SL 172 (eA 52 (CL 154))) (ad (sA 52 (CL 154) (aY .nil)) (ad (SL 173 (eS (eA 50 (CL 154)) .none .none .none)) (ad (sA 50 (CL 154) (aY .nil)) (ad (bZ (rS 52 (CL 172)) (am (aM (cM a 3 162 aW (CL 61) (.cons (CL 154) (a1 (CL 52))) .nil)))) (ad (aM (cM a 3 164 bQ (CL 61) (.cons (CL 154) (a1 (CL 172))) (.cons ef .nil))) (ad (bZ (rS 50 (CL 173)) (am (aM (cM a 3 162 aW (CL 61) (.cons (CL 154) (a1 (CL 50))) .nil)))) (ad (aM (cM a 3 164 bJ (CL 61) (.cons (CL 154) (a1 (CL 173))) .nil)) (am (fC (cG (.consO rfl (bx (eA 52 (CL 154))) (.consO rfl (bx (eA 50 (CL 154))) (.nilO rfl)))) (am lx) (am (fC (cG (.consO rfl (bx (eA 140 (CL 154))) (.consO rfl (bx (eA 141 (CL 154))) (.nilO rfl)))) (am (bB (bF 43))) (ad (sA 146 (CL 154) aD) (am (bB (bF 42))))))))))))))))) (ad (s1 (bx (eA 70 (CL 171))) (ad (s1 (aC bD (eA 146 (CL 154)) aD) (ad (sA 146 (CL 154) aD) (am (s1 (aC ix (eA 143 (CL 154)) bE) (ad (sA 139 (CL 154) ef) (am (bB (bF 43)))))))) (ad (s1 (cG (.consA rfl (aC bD (eA 146 (CL 154)) aD) (.consA rfl (aC bD (eA 143 (CL 154)) (bF 36)) (.nilA rfl)))) (ad (bZ (rS 115 (eA 70 (CL 171))) (am (aM (cM a 3 162 aW (CL 61) (.cons (CL 154) (a1 (CL 115))) .nil)))) (ad (aM (cM a 3 164 bJ (CL 61) (.cons (CL 154) (a1 (eA 70 (CL 171)))) .nil)) (ad (sA 146 (CL 154) aD) (am (s1 (bx (eA 140 (CL 154))) (am (bB (bF 43))))))))) (am (s1 (aC bD (eA 146 (CL 154)) aD) (ad (sA 146 (CL 154) aD) (am (bB (bF 42))))))))) (am (bB bE)))))⟩
noncomputable def cy:FF 4 (.ref (d6 4174)) []:=⟨_,fun c a=>fP a 29 [61,152,153] rfl rfl (fun _ _ _ _ _ _ _=>rfl) (ad (s1 (bx (CL 152)) (am (bB (uS (CL 152) (a1 aD))))) (ad (nV (bx (CL 153)) (ad (SL 129 (uS (CL 153) .nil)) (ad (SL 154 (cM a 3 156 cW (CL 61) (.cons bE (a1 (CL 129))) .nil)) (am (s1 (bx (CL 154)) (am (bB (CL 154)))))))) (am (bB bE))))⟩
noncomputable def cZ:FF 4 (.ref (d6 4175)) []:=⟨_,fun c a=>fP a 30 [61,176] rfl rfl (fun _ _ _ _ _ _=>rfl) (ad (s1 (aC ix (CL 176) bE) (am tv)) (ad (SL 154 (CL 176)) (ad (s1 (bx (eA 139 (CL 154))) (ad (aM (gS (eA 152 (CL 61)) (CL 154))) (ad (vn (eA 151 (CL 61)) (eA 62 (eA 42 (CL 154)))) (am (sA 139 (CL 154) ef))))) (ad (s1 (aC bD (eA 143 (CL 154)) (bF 36)) (am tv)) (am (bZ (rS 177 (cB a 75 i7 (a1 (yX (eA 142 (CL 154)))))) (ad (aM (cM a 2 148 cn (CL 177) (a1 (CL 154)) .nil)) (ad (SL 129 (eA 62 (eA 42 (CL 154)))) (ad (fC (aC dD (CL 129) (eA 140 (CL 177))) (ad (aM (Ay (eA 140 (CL 177)) (a1 (CL 129)))) (am (SL 178 (zV (x9 (eA 140 (CL 177)) (eA 141 (CL 177))))))) (ad (mM (aC dD (CL 129) (eA 141 (CL 177)))) (ad (aM (Ay (eA 141 (CL 177)) (a1 (CL 129)))) (ad (SL 178 ef) (am (aM (cM a 3 169 aZ (CL 61) (.cons (CL 154) (a1 (CL 177))) .nil))))))) (am (s1 (cG (.consA rfl (bx (CL 178)) (.consA rfl (aC dD (eA 62 (eA 42 (CL 177))) (eA 151 (CL 61))) (.nilA rfl)))) (ad (aM (gS (eA 152 (CL 61)) (CL 177))) (am (vn (eA 151 (CL 61)) (eA 62 (eA 42 (CL 177)))))))))))))))))⟩
noncomputable def iD:{f:qP // ∀c:Cx,HC c->tI c 65 6 (.ref (d6 4185)) [] f}:=⟨zh 2 [61,176] (fun xs _=>xs) _,fun c a=>by
 obtain⟨j,od,g,d,k,h,i,e,b⟩:=a.fns 31 _ rfl;exact xr e b (.p2 (by decide) (mC 61 rfl (mC 176 rfl g9)) (fun _ _=>rfl)) rfl (psOK.n rfl) (qp (Ar (aM (cM a 3 175 cZ (CL 61) (a1 (CL 176)) .nil))) (qp (vP (bx ef) (nU (tT (jj (bx (eA 154 (CL 61)))) (nU (Bi (sA 154 (CL 61) (cM a 3 174 cy (CL 61) (.cons (eA 152 (CL 61)) (a1 (eA 153 (CL 61)))) .nil))) (tu (tT (jj (bx (eA 154 (CL 61)))) (nU (tT (bx (eA 151 (CL 61))) (tu (xy a.own F.excBase_Exception (gI a 187) (bF 40))) (ox iY)) (ox (am (bB bE)))) (ox iY)))) (ox iY)) (ox (ad (SL 186 (cM a 3 170 cX (CL 61) (a1 (eA 154 (CL 61))) .nil)) (ad (s1 (aC ix (CL 186) bE) (ad (sA 154 (CL 61) bE) (am lx))) (ad (s1 (aC bD (CL 186) (bF 42)) (am (bB (eA 154 (CL 61))))) (ad (mM (aC bD (CL 186) (bF 43))) (ad (gQ (eA 151 (CL 61)) (eA 62 (eA 42 (eA 154 (CL 61)))) (eA 154 (CL 61))) (am (sA 154 (CL 61) bE)))))))))) xv))⟩
noncomputable def ki:FF 7 (.ref 524) []:=⟨iU 2 [206,25] (fun xs _=>xs) _,fun c a=>by
 obtain⟨i,od,f,d,j,g,h,e,b⟩:=a.fns 32 _ rfl;exact xq e b (.p2 (by decide) (mC 206 rfl (mC 25 rfl g9)) (fun _ _=>rfl)) rfl (psOK.n rfl) (vR (yP (B:="") (initId:="") 3 185 154 40 (c.s 185) (c.s 154) (c.s 40) rfl (by decide) (iD.2 _ a) (CL 206) (.cons (CL 25) .nil) a.own rfl rfl rfl (fun _=>⟨_,rfl⟩)) (am (bB (fQ (aC ix (CL 154) bE) (eE (.cons (bF 41) (.cons bE .nil))) (eE (.cons (bF 42) (.cons (CL 154) .nil)))))))⟩
noncomputable def kf:FF 2 (.ref 512) []:=⟨_,fun c a=>fP a 33 [199,200] rfl rfl (fun _ _ _ _ _ _=>rfl) (am (bZ (rS 191 (eS (cB a 75 i7 (a1 (cB a 195 dI (a1 (cB a 184 eP (a1 (CL 199))))))) .none .none (.some (rl aD)))) (am (s1 (aC ng (aS (CL 200) (CL 191)) (bF 20)) (ad (i6 (t1 192 (t1 236 (t1 232 .nil))) (cF a 235 fR (.cons (CL 199) (.cons (CL 200) (a1 (CL 191)))) .nil)) (am (bZ (rS 194 (iN (CL 192) (CL 232))) (am (s1 (aC bD (aS (CL 200) (CL 194)) (bF 20)) (am (gQ (CL 200) (CL 194) (bF 21))))))))))))⟩
noncomputable def rX:FF 1 (.ref 486) []:=⟨_,fun c a=>fP a 34 [] rfl rfl (fun _ _ _ _=>rfl) (am (bB (aY (.cons (bF 35) (.cons (bF 35) (.cons (bF 31) (.cons (bF 32) (.cons (bF 34) .nil))))))))⟩
noncomputable def lV:FF 2 (.ref 498) []:=⟨_,fun c a=>fP a 35 [190,191] rfl rfl (fun _ _ _ _ _ _=>rfl) (ad (sC 192 [190] (rR 194 (cB a 195 dI (a1 (CL 191)))) (fZ (cG (.consA rfl (aC bD (eZ (dP (CL 190) (kX aD (CL 194))) aD) aD) (.consA rfl (jj (bx (cF a 231 bC (a1 (CL 194)) .nil))) (.nilA rfl))))) (CL 194)) (ad (sC 232 [190] (rR 194 (cB a 195 dI (a1 (CL 191)))) (fZ (cG (.consA rfl (aC bD (eZ (dP (CL 190) (kX aD (CL 194))) aD) aD) (.consA rfl (bx (cF a 231 bC (a1 (CL 194)) .nil)) (.nilA rfl))))) (CL 194)) (ad (SL 233 (eE (.cons (aY .nil) (.cons (aY .nil) (.cons (aY .nil) .nil))))) (ad (SL 208 (aS (cF a 188 rX .nil .nil) (eZ (dP (CL 190) aD) aD))) (ad (s1 (cG (.consA rfl (bx (cF a 231 bC (a1 (CL 191)) .nil)) (.consA rfl (aC dD (CL 208) (eE (.cons (bF 35) (.cons (bF 31) .nil)))) (.nilA rfl)))) (ad (SL 234 (dP (CL 190) aD)) (am (SL 233 (eE (.cons (eC [234] (rR 194 (cB a 195 dI (a1 (CL 191)))) (fZ (cG (.consA rfl (aC bD (eZ (dP (CL 234) (kX aD (CL 194))) aD) aD) (.consA rfl (jj (bx (cF a 231 bC (a1 (CL 194)) .nil))) (.nilA rfl))))) (CL 194)) (.cons (eC [234] (rR 194 (cB a 195 dI (a1 (CL 191)))) (fZ (cG (.consA rfl (aC bD (eZ (dP (CL 234) (kX aD (CL 194))) aD) aD) (.consA rfl (jj (bx (cF a 231 bC (a1 (CL 194)) .nil))) (.nilA rfl))))) (CL 194)) (.cons (eC [234] (rR 194 (cB a 195 dI (a1 (CL 191)))) (fZ (cG (.consA rfl (aC bD (eZ (dP (CL 234) (kX aD (CL 194))) aD) aD) (.consA rfl (bx (cF a 231 bC (a1 (CL 194)) .nil)) (.nilA rfl))))) (CL 194)) .nil)))))))) (am (bB (eE (.cons (CL 192) (.cons (CL 232) (.cons (CL 233) (.cons (CL 208) .nil))))))))))))⟩
noncomputable def kg:FF 1 (.ref 534) []:=⟨_,fun c a=>fP a 36 [150] rfl rfl (fun _ _ _ _ _=>rfl) (am (bB (jM (bI a 213) (bI a 147) (eC [] (rS 154 (CL 150)) eO (eA 62 (eA 42 (CL 154)))))))⟩
noncomputable def gW:FF 2 (.ref 539) []:=⟨_,fun c a=>fP a 37 [199,200,191,154] rfl rfl (fun _ _ _ _ _ _ _ _=>rfl) (ad (i6 (t1 192 (t1 236 (t1 232 .nil))) (cF a 235 fR (.cons (CL 199) (.cons (CL 200) (a1 (CL 191)))) .nil)) (ad (sC 210 [199] (rS 194 (iN (CL 192) (CL 232))) (fZ (aC bD (aS (aS (CL 199) (CL 194)) aD) (bF 32))) (aS a.lnm (CL 194))) (ad (sC 211 [199] (rS 194 (iN (CL 192) (CL 232))) (fZ (aC bD (aS (aS (CL 199) (CL 194)) aD) (bF 34))) (aS a.lnm (CL 194))) (ad (s1 (cG (.consO rfl (aC iZ (cF a 239 kg (a1 (eA 144 (CL 154))) .nil) (cB a 213 fg (a1 (CL 210)))) (.consO rfl (aC iZ (cF a 239 kg (a1 (eA 145 (CL 154))) .nil) (cB a 213 fg (a1 (CL 211)))) (.nilO rfl)))) (am (bB ef))) (ad (s1 (aC iZ (jM (bI a 213) (bI a 147) (eA 50 (eA 42 (CL 154)))) (cB a 213 fg (a1 (eC [] (rS 194 (CL 192)) eO (aS a.lnm (CL 194)))))) (am (bB ef))) (ad (s1 (aC iZ (cB a 213 fg (a1 (eA 51 (eA 42 (CL 154))))) (cB a 213 fg (a1 (eC [] (rS 194 (CL 236)) eO (pF jJ a.made (bF 46) (aS a.lnm (CL 194))))))) (am (bB ef))) (am (bB (j7 jR (cB a 213 fg (a1 (eA 52 (eA 42 (CL 154))))) (cB a 213 fg (a1 (eC [] (rS 194 (CL 232)) eO (aS a.lnm (CL 194))))))))))))))⟩
noncomputable def jz:FF 1 (.ref 529) []:=⟨_,fun c a=>fP a 38 [197] rfl rfl (fun _ _ _ _ _=>rfl) (ad (i6 (t1 233 (t1 236 (t1 232 .nil))) (aS (CL 197) aD)) (ad (SL 73 (yR (.cons (bF 50) (eC [] (rS 194 (CL 233)) eO (aS a.lnm (CL 194))) (.cons (bF 51) (eC [] (rS 194 (CL 236)) eO (pF jJ a.made (bF 46) (aS a.lnm (CL 194)))) .nil)) (by simp) (by simp))) (ad (gQ (CL 73) (bF 52) (eC [] (rS 194 (CL 232)) eO (aS a.lnm (CL 194)))) (am (bB (CL 73))))))⟩
noncomputable def xP:{f:List MV->List MV->ap // ∀c:Cx,HC c->zt c (.ref 549) [] f}:=⟨iU 1 [221] (fun xs _=>xs) _,fun c a=>by
 obtain⟨l,od,i,d,m,j,k,g,b⟩:=a.fns 39 _ rfl;exact xn g b (.p1 (by decide) (mC 221 rfl g9) (fun _=>rfl)) rfl (psOK.n rfl) (ad (SL 216 (fQ (bx (CL 221)) (aS (CL 221) aD) aD)) (ad (sC 199 [] (vS 191 190 (c.s 191) (c.s 190) rfl rfl (bI a 230) (fQ (aC tx (cB a 184 eP (a1 (CL 221))) aD) (eS (CL 221) (.some aD) (.some aD) .none) (aY (.cons aD (.cons aD (.cons aD (.cons aD (.cons aD (.cons aD .nil))))))))) eO (cF a 189 lV (.cons (CL 190) (a1 (CL 191))) .nil)) (ad (SL 222 (fQ (aC tx (cB a 184 eP (a1 (CL 221))) aD) (eS (CL 221) (.some aD) .none .none) (aY (.cons (CL 216) (.cons (rm (dP (CL 216) aD) aD) .nil))))) (ad (SL 223 (rm aD (eZ (dP (CL 216) aD) aD))) (ad (vm 217 (c.s 217) (xH rfl) (eC [216] (rR 191 (cB a 195 dI (a1 (cB a 184 eP (a1 (CL 199)))))) (fZ (aC bD (eZ (dP (dP (CL 216) aD) (kX aD (CL 191))) aD) aD)) (CL 191)) (fun e h _=>by cases e;simp only at h;subst h;rfl)) (ad (sC 200 [217] (rR 191 (cB a 195 dI (a1 (cB a 184 eP (a1 (CL 199)))))) eO (fQ (cG (.consO rfl (aC jR (CL 217) (aY .nil)) (.consO rfl (aC dD (CL 191) (CL 217)) (.nilO rfl)))) (bF 21) (bF 20))) (ad (s1 (aC bD (eZ (dP (CL 216) aD) aD) aD) (am (SL 217 (eS (CL 217) .none .none (.some (rl aD)))))) (ad (SL 206 (cF a 215 jG (.cons (CL 199) (.cons (CL 216) (a1 (fQ (aC jR (CL 217) (aY .nil)) bE (CL 217))))) .nil)) (ad (SL 224 (aY .nil)) (ad (SL 225 ef) (ad (bZ (rR 218 (cB a 195 dI (a1 aD))) (ad (SL 226 (rm (aS (CL 222) (eZ (CL 218) (cB a 184 eP (a1 (CL 222))))) (CL 218))) (ad (SL 154 bE) (ad (fC (cG (.consA rfl (aC iZ (CL 224) (aY .nil)) (.consA rfl (cG (.consO rfl (bx (CL 225)) (.consO rfl (aC bD (cB a 184 eP (a1 (CL 224))) (CL 223)) (.consO rfl (aC bD (eZ (CL 226) aD) aD) (.nilO rfl))))) (.nilA rfl)))) (ad (i6 (t1 191 (t1 154 .nil)) (uS (CL 224) (a1 (eZ (dP (CL 226) aD) (cB a 184 eP (a1 (CL 224))))))) (ad (gQ (CL 200) (CL 191) (bF 25)) (ad (sA 143 (CL 154) (aS (aS (CL 199) (CL 191)) aD)) (am (s1 (bx (cF a 231 bC (a1 (CL 191)) .nil)) (am (sA 73 (eA 42 (CL 154)) (cF a 238 jz (a1 (aS (CL 199) (CL 191))) .nil)))))))) (am (s1 (bx (CL 225)) (am zT)))) (ad (aM (cF a 198 kf (.cons (CL 199) (a1 (CL 200))) .nil)) (ad (i6 (t1 228 (t1 26 .nil)) (cF a 205 ki (.cons (CL 206) (a1 (CL 154))) .nil)) (ad (SL 227 (cF a 202 jf (.cons (CL 199) (a1 (CL 200))) .nil)) (ad (SL 225 (j7 ng (CL 228) (bF 42))) (ad (s1 (bx (CL 225)) (ad (s1 (cG (.consO rfl (aC iZ (CL 227) (aY .nil)) (.consO rfl (aC ng (j7 bD (CL 228) (bF 40)) (j7 dD (bF 21) (CL 200))) (.nilO rfl)))) (am (bB ef))) (am lx))) (ad (SL 191 (gR (id:="list.index") 1 (by decide) F.slot_list_index rfl vW a.lnm (.cons (eA 62 (eA 42 (CL 26))) .nil) (fun _=>⟨_,rfl⟩))) (ad (s1 (cG (.consO rfl (aC eD (CL 191) (CL 227)) (.consO rfl (jj (bx (cF a 209 gW (.cons (CL 199) (.cons (CL 200) (.cons (CL 191) (a1 (CL 26))))) .nil))) (.nilO rfl)))) (am (bB ef))) (ad (gQ (CL 200) (CL 191) (bF 26)) (am (aM (gS (CL 224) (eE (.cons (CL 191) (.cons (CL 26) .nil)))))))))))))))))) (am (bB (zW (j7 jR (CL 224) (aY .nil)) (j7 jR (eC [] (rS 214 (CL 200)) (fZ (aC eD (CL 214) (eE (.cons (bF 20) (.cons (bF 25) .nil))))) (CL 214)) (aY .nil))))))))))))))))⟩
end
section
inductive RS where
 |none|succ|fail|upd|ign
 deriving DecidableEq
noncomputable def RS.mv(r:RS):MV:=RS.casesOn r .none (.str 35) (.str 32) (.str 31) (.str 34)
set_option genInjectivity false in
structure Nd where
 td:List Nat
 cd:List Nat
 anc:List Nat
 wr:List Nat
 wc:List Nat
 wm:List Nat
 rs:RS
 bad:List Nat
 ign:List Nat
 ph:Nat
 g:Nat
 pc:List Nat
noncomputable def Nd.rnd(d:Nd):Nd:={ d with td:=[],cd:=[],g:=d.g+1,pc:=d.cd }
set_option genInjectivity false in
structure Tk where
 td:List Nat
 fd:List Nat
 cd:List Nat
 pr:List Nat
 told:Bool
set_option genInjectivity false in
structure Rw where
 needs:List Nat
 calcs:List Nat
 tN:List Nat
 tF:List Nat
 tC:List Nat
 kd:Nat
set_option genInjectivity false in
structure St where
 nd:Nat->Option Nd
 tk:Nat->Tk
 ord:List Nat
 wait:List Nat
 ready:List Nat
 ttr:List Nat
 cur:Option Nat
 xt:List Nat
 xc:List Nat
 lp:Nat
 ll:List Nat
noncomputable def aO(k:Nat):MV:=.tag (10,k)
noncomputable def bO(l:List Nat):MV:=.lst (l.map .str)
noncomputable def aI(l:List Nat):MObj:=.list (l.map .str)
noncomputable def bA(j:Nat):MV:=.str (8+j)
noncomputable def gw(k:Nat)(d:Nd):List (Nat×MV):=
 [(42,.tag (1,k)),(50,.tag (100+2*d.g,k)),(52,.tag (101+2*d.g,k)),(138,.tag (11,k)),(139,.bool false),(140,.tag (12,k)),(141,.tag (13,k)),(142,.tag (14,k)),(143,d.rs.mv),(144,.tag (15,k)),(145,.tag (16,k)),(146,.int d.ph)]
noncomputable def mn(l:List Nat):MObj:=.dict (l.map fun j=>(j,aO j))
structure NodeAt(H:aq->Option MObj)(k:Nat)(d:Nd):Prop where
 obj:H (10,k)=some (.inst 2 (gw k d))
 anc:H (11,k)=some (aI d.anc)
 wr:H (12,k)=some (.set d.wr)
 wc:H (13,k)=some (.set d.wc)
 wm:H (14,k)=some (mn d.wm)
 bad:H (15,k)=some (.list (d.bad.map aO))
 ign:H (16,k)=some (.list (d.ign.map aO))
 td:H (100+2*d.g,k)=some (aI d.td)
 cd:H (101+2*d.g,k)=some (aI d.cd)
 pc:d.g≠0->H (99+2*d.g,k)=some (aI d.pc)
 fr:∀i,102+2*d.g<=i->H (i,k)=none
noncomputable def cS(r:Rw):List (Nat×MV):=[(50,bO r.tN),(51,.lst (r.tF.map bA)),(52,bO r.tC)]
structure TaskAt(r:Rw)(H:aq->Option MObj)(k:Nat)(t:Tk):Prop where
 obj:∃es,H (1,k)=some (.inst 0 es)/\(∀v,(ah es 73 v).length<200)/\es.lookup 62=some (.str k)/\es.lookup 50=some (.tag (3,k))/\es.lookup 51=some (.tag (7,k))/\es.lookup 52=some (.tag (8,k))/\es.lookup 70=some (.lst [])/\es.lookup 98=none/\es.lookup 86=none/\es.lookup 85=none/\es.lookup 87=none/\(t.told=true->es.lookup 73=some (.tag (17,k)))
 td:H (3,k)=some (aI t.td)
 fd:H (7,k)=some (.list (t.fd.map bA))
 cd:H (8,k)=some (aI t.cd)
 vals:if t.told=true then ∃eo,H (17,k)=some (.dict (cS r) eo) else H (17,k)=none
noncomputable def dX(c:Option Nat):MV:=Option.casesOn c .none aO
noncomputable def gL(v w:MV):List (Nat×MV):=[(105,.tag (21,1)),(64,.tag (21,2)),(107,v),(150,.tag (20,1)),(151,.tag (20,2)),(152,.tag (20,3)),(153,.tag (20,4)),(154,w)]
structure R(n:Nat)(Ro:Nat->Rw)(st:St)(H:aq->Option MObj)(nx:Nat):Prop where
 task:∀k,k<n->TaskAt (Ro k) H k (st.tk k)
 node:∀k d,st.nd k=some d->NodeAt H k d
 nonode:∀k,st.nd k=none->∀g,10<=g/\g<=16\/100<=g->H (g,k)=none
 disp:∃v,H (20,0)=some (.inst 3 (gL v (dX st.cur)))
 nodes:H (20,1)=some (mn st.ord)
 wait:H (20,2)=some (mn st.wait)
 ready:H (20,3)=some (.list (st.ready.map aO))
 ttr:H (20,4)=some (aI st.ttr)
 tasks:∃es eo,H (21,1)=some (.dict es eo)/\∀k,k<n->es.lookup k=some (.tag (1,k))
 tgt:∃es eo,H (21,2)=some (.dict es eo)/\∀k,k<n->es.lookup (8+k)=some (.str k)
 tmp:∀i,nx<=i->H (0,i)=none
def Low(H H':aq->Option MObj)(nx:Nat):Prop:=∀i,i<nx->H' (0,i)=H (0,i)
theorem Low.refl(H:aq->Option MObj)(nx:Nat):Low H H nx:=fun _ _=>rfl
theorem Low.trans{H H' a:aq->Option MObj}{nx nx':Nat}(x:Low H H' nx)(y:Low H' a nx')(h:nx<=nx'):Low H a nx:=fun i b=>(y i (Zp b h)).trans (x i b)
theorem Low.tr{H H' a:aq->Option MObj}{nx:Nat}(x:Low H H' nx)(y:Low H' a nx):Low H a nx:=x.trans y (Zj _)
noncomputable def St.setNd(st:St)(k:Nat)(d:Nd):St:={ st with nd:=fun j=>if j=k then some d else st.nd j }
noncomputable def St.setTk(st:St)(k:Nat)(t:Tk):St:={ st with tk:=fun j=>if j=k then t else st.tk j }
theorem aV{a b i j:Nat}(h:a≠b):((a,i):Nat×Nat)≠(b,j):=fun e=>h (Prod.mk.inj e).1
theorem dh{a b i j:Nat}(h:i≠j):((a,i):Nat×Nat)≠(b,j):=fun e=>h (Prod.mk.inj e).2
theorem fz{a b x:Nat}(h:Nat.blt a b=true:=by rfl):b+x≠a:=Zn (Zp (Zt h) (ZB _ _))
theorem fw{a b x:Nat}(h:Nat.blt a b=true:=by rfl):a≠b+x:=Ne.symm (fz h)
theorem n0{a b x:Nat}(h:Nat.beq a b=false:=by rfl):a+x≠b+x:=fun e=>Nat.ne_of_beq_eq_false h (Nat.add_right_cancel e)
theorem qI{a b x i:Nat}(c:b+x<=i)(h:Nat.blt a b=true:=by rfl):i≠a:=Zn (Zp (Zt h) (Zk (ZB _ _) c))
theorem xG{a b x i:Nat}(c:b+x<=i)(h:Nat.blt a b=true:=by rfl):i≠a+x:=Zn (Zp (Nat.add_lt_add_right (Zt h) x) c)
theorem qH{a b x:Nat}(h:Nat.ble a b=true:=by rfl):a<=b+x:=Zk (Zt h) (ZB _ _)
theorem setH_at{H:aq->Option MObj}{t:aq}{o:MObj}:af H t o t=some o:=if_pos rfl
theorem hN{H:aq->Option MObj}{g a i j:Nat}{o:MObj}{x:Option MObj}(h:H (g,i)=x)(b:g≠a:=by decide):af H (a,j) o (g,i)=x:=(ae (aV b)).trans h
theorem bP{H:aq->Option MObj}{nx g i:Nat}{o:MObj}(h:g≠0:=by decide):Low H (af H (g,i) o) nx:=fun j _=>ae (aV (Ne.symm h))
section
variable {n:Nat}{Ro:Nat->Rw}{st:St}{H H':aq->Option MObj}{nx:Nat}{k:Nat}{d d':Nd}{t t':Tk}
def nG(g:Nat):Prop:=10<=g/\g<=16\/100<=g
theorem nz{g:Nat}(h:g<10\/(16<g/\g<100)):¬ nG g:=by unfold nG;omega
theorem NodeAt.keep(x:NodeAt H k d)(h:∀g,nG g->H' (g,k)=H (g,k)):NodeAt H' k d:=
 have c:∀g,10<=g->g<=16->H' (g,k)=H (g,k):=fun g a b=>h g (.inl ⟨a,b⟩);have f:∀g,100<=g->H' (g,k)=H (g,k):=fun g a=>h g (.inr a)
 ⟨(c 10 (by decide) (by decide)).trans x.obj,(c 11 (by decide) (by decide)).trans x.anc,(c 12 (by decide) (by decide)).trans x.wr,(c 13 (by decide) (by decide)).trans x.wc,(c 14 (by decide) (by decide)).trans x.wm,(c 15 (by decide) (by decide)).trans x.bad,(c 16 (by decide) (by decide)).trans x.ign,
  (f _ qH).trans x.td,(f _ qH).trans x.cd,fun h0=>(f _ (gq (Nat.pos_of_ne_zero h0))).trans (x.pc h0),fun i e=>(f i (Zk qH e)).trans (x.fr i e)⟩
theorem TaskAt.keep{r:Rw}(x:TaskAt r H k t)(h:∀g,1<=g->g<=8\/g=17->H' (g,k)=H (g,k)):TaskAt r H' k t:=by
 refine⟨?_,(h 3 (by decide) (by decide)).trans x.td,(h 7 (by decide) (by decide)).trans x.fd,(h 8 (by decide) (by decide)).trans x.cd,?_⟩;·refine(h 1 (by decide) (by decide))▸?_;exact x.obj
 ·refine(h 17 (by decide) (by decide))▸?_;exact x.vals
theorem R.change{st':St}(r:R n Ro st H nx)(b:st'={ st with nd:=st'.nd,tk:=st'.tk })(h:∀i,20<=i->i<=21->∀j,H' (i,j)=H (i,j))(h0:∀i,nx<=i->H' (0,i)=none)(c:∀k,k<n->TaskAt (Ro k) H' k (st'.tk k))(a:∀k d,st'.nd k=some d->NodeAt H' k d)(e:∀k,st'.nd k=none->∀g,nG g->H' (g,k)=none):R n Ro st' H' nx:=by
 refine b▸?_;refine⟨c,a,e,?_,(h 20 (by decide) (by decide) _).trans r.nodes,(h 20 (by decide) (by decide) _).trans r.wait,(h 20 (by decide) (by decide) _).trans r.ready,(h 20 (by decide) (by decide) _).trans r.ttr,?_,?_,h0⟩;·rw[h 20 (by decide) (by decide)];exact r.disp
 ·rw[h 21 (by decide) (by decide)];exact r.tasks
 ·rw[h 21 (by decide) (by decide)];exact r.tgt
theorem R.setNd(r:R n Ro st H nx)(e:st.nd k=some d)(h:∀g i,i≠k\/¬ nG g->H' (g,i)=H (g,i))(x:NodeAt H' k d'):R n Ro (st.setNd k d') H' nx:=by
 have l:∀g i,g<10\/(16<g/\g<100)->H' (g,i)=H (g,i):=fun g i f=>h g i (.inr (nz f));refine r.change rfl (fun i a b j=>l i j (.inr ⟨(av 20 0 17 0 a rfl),(av 0 21 1 100 b rfl)⟩)) (fun i o=>(l 0 i (by decide)).trans (r.tmp i o)) (fun j p=>(r.task j p).keep fun g a b=>l g j (b.elim (fun c=>(.inl (av 0 8 1 10 c rfl))) fun c=>(.inr ⟨(Zd c.symm),(av 0 17 1 100 (Zd c) rfl)⟩))) (fun j m hd=>?_) fun j hd g f=>?_
 ·unfold St.setNd at hd;dsimp only at hd;by_cases q:j=k;·obtain rfl:=q.symm;rw[if_pos rfl] at hd;obtain rfl:=Zb hd;exact x
  ·replace hd:=(if_neg q).symm.trans hd;exact(r.node j m hd).keep fun g _=>h g j (.inl q)
 ·unfold St.setNd at hd;dsimp only at hd;by_cases q:j=k;·obtain rfl:=q.symm;rw[if_pos rfl] at hd;exact jF hd
  ·rw[if_neg q] at hd;exact(h g j (.inl q)).trans (r.nonode j hd g f)
theorem R.nd1{g:Nat}{o:MObj}(r:R n Ro st H nx)(e:st.nd k=some d)(b:nG g)(x:NodeAt (af H (g,k) o) k d'):R n Ro (st.setNd k d') (af H (g,k) o) nx:=
 r.setNd e (fun c i a=>ae fun q=>by
  cases q;rcases a with a|a;·exact a rfl
  ·exact a b) x
theorem R.ndObj(r:R n Ro st H nx)(e:st.nd k=some d){es:List (Nat×MV)}(d':Nd)(b:es=gw k d')(hd:d'={ d with rs:=d'.rs,ph:=d'.ph }):R n Ro (st.setNd k d') (af H (10,k) (.inst 2 es)) nx:=by
 subst b;have x:=r.node k d e;refine r.nd1 e (.inl (by decide)) ?_;rw[hd] at *;exact⟨setH_at,hN x.anc,hN x.wr,hN x.wc,hN x.wm,hN x.bad,hN x.ign,hN x.td fz,hN x.cd fz,fun h=>hN (x.pc h) fz,fun i a=>hN (x.fr i a) (qI a)⟩
theorem R.ndWr(r:R n Ro st H nx)(e:st.nd k=some d)(b:List Nat):R n Ro (st.setNd k { d with wr:=b }) (af H (12,k) (.set b)) nx:=by
 have x:=r.node k d e;exact r.nd1 e (.inl (by decide)) ⟨hN x.obj,hN x.anc,setH_at,hN x.wc,hN x.wm,hN x.bad,hN x.ign,hN x.td fz,hN x.cd fz,fun h=>hN (x.pc h) fz,fun i a=>hN (x.fr i a) (qI a)⟩
theorem R.ndWc(r:R n Ro st H nx)(e:st.nd k=some d)(b:List Nat):R n Ro (st.setNd k { d with wc:=b }) (af H (13,k) (.set b)) nx:=by
 have x:=r.node k d e;exact r.nd1 e (.inl (by decide)) ⟨hN x.obj,hN x.anc,hN x.wr,setH_at,hN x.wm,hN x.bad,hN x.ign,hN x.td fz,hN x.cd fz,fun h=>hN (x.pc h) fz,fun i a=>hN (x.fr i a) (qI a)⟩
theorem R.ndWm(r:R n Ro st H nx)(e:st.nd k=some d)(b:List Nat):R n Ro (st.setNd k { d with wm:=b }) (af H (14,k) (mn b)) nx:=by
 have x:=r.node k d e;exact r.nd1 e (.inl (by decide)) ⟨hN x.obj,hN x.anc,hN x.wr,hN x.wc,setH_at,hN x.bad,hN x.ign,hN x.td fz,hN x.cd fz,fun h=>hN (x.pc h) fz,fun i a=>hN (x.fr i a) (qI a)⟩
theorem R.ndBad(r:R n Ro st H nx)(e:st.nd k=some d)(b:List Nat):R n Ro (st.setNd k { d with bad:=b }) (af H (15,k) (.list (b.map aO))) nx:=by
 have x:=r.node k d e;exact r.nd1 e (.inl (by decide)) ⟨hN x.obj,hN x.anc,hN x.wr,hN x.wc,hN x.wm,setH_at,hN x.ign,hN x.td fz,hN x.cd fz,fun h=>hN (x.pc h) fz,fun i a=>hN (x.fr i a) (qI a)⟩
theorem R.ndIgn(r:R n Ro st H nx)(e:st.nd k=some d)(b:List Nat):R n Ro (st.setNd k { d with ign:=b }) (af H (16,k) (.list (b.map aO))) nx:=by
 have x:=r.node k d e;exact r.nd1 e (.inl (by decide)) ⟨hN x.obj,hN x.anc,hN x.wr,hN x.wc,hN x.wm,hN x.bad,setH_at,hN x.td fz,hN x.cd fz,fun h=>hN (x.pc h) fz,fun i a=>hN (x.fr i a) (qI a)⟩
theorem R.ndTd(r:R n Ro st H nx)(e:st.nd k=some d)(b:List Nat):R n Ro (st.setNd k { d with td:=b }) (af H (100+2*d.g,k) (aI b)) nx:=by
 have x:=r.node k d e;exact r.nd1 e (.inr qH) ⟨hN x.obj fw,hN x.anc fw,hN x.wr fw,hN x.wc fw,hN x.wm fw,hN x.bad fw,hN x.ign fw,setH_at,hN x.cd n0,fun h=>hN (x.pc h) n0,fun i a=>hN (x.fr i a) (xG a)⟩
theorem R.ndCd(r:R n Ro st H nx)(e:st.nd k=some d)(b:List Nat):R n Ro (st.setNd k { d with cd:=b }) (af H (101+2*d.g,k) (aI b)) nx:=by
 have x:=r.node k d e;exact r.nd1 e (.inr qH) ⟨hN x.obj fw,hN x.anc fw,hN x.wr fw,hN x.wc fw,hN x.wm fw,hN x.bad fw,hN x.ign fw,hN x.td n0,setH_at,fun h=>(ae (aV (show 99+2*d.g≠101+2*d.g from n0))).trans (x.pc h),fun i a=>hN (x.fr i a) (xG a)⟩
end
end
section
section
variable {n:Nat}{Ro:Nat->Rw}{st:St}{H H':aq->Option MObj}{nx:Nat}{k:Nat}{d d':Nd}{t t':Tk}
theorem sG{a g:Nat}:a+2*(g+1)=a+2+2*g:=Nat.le_antisymm (sL ) (sL )
theorem ja{g:Nat}(h:nG g):g≠20/\g≠0:=by exact⟨(h.elim (fun a=>(Zh (av 0 16 1 20 a.2 rfl))) fun a=>(Zn (av 100 0 21 0 a rfl))),(h.elim (fun a=>(Zn (av 10 0 1 0 a.1 rfl))) fun a=>(Zn (av 100 0 1 0 a rfl)))⟩
theorem R.d20{st':St}{i:Nat}{o:MObj}(r:R n Ro st H nx)(y:st'={ st with wait:=st'.wait,ready:=st'.ready,ttr:=st'.ttr,cur:=st'.cur,xt:=st'.xt,xc:=st'.xc,lp:=st'.lp,ll:=st'.ll })(h0:∃v,af H (20,i) o (20,0)=some (.inst 3 (gL v (dX st'.cur))))(p:af H (20,i) o (20,1)=some (mn st.ord))(q:af H (20,i) o (20,2)=some (mn st'.wait))(s:af H (20,i) o (20,3)=some (.list (st'.ready.map aO)))(u:af H (20,i) o (20,4)=some (aI st'.ttr)):R n Ro st' (af H (20,i) o) nx:=by
 refine y▸?_;refine⟨fun j x=>(r.task j x).keep fun g a b=>ae (aV (b.elim (fun l=>(Zh (av 0 8 1 20 l rfl))) fun l=>(Zh (av 0 17 1 20 (Zd l) rfl)))),fun j m hd=>(r.node j m hd).keep fun g c=>ae (aV (ja c).1),fun j hd g c=>(ae (aV (ja c).1)).trans (r.nonode j hd g c),h0,p,q,s,u,?_,?_,fun i w=>hN (r.tmp i w)⟩;·refine br r.tasks fun es h e f=>?_;exact E2 es h ⟨hN e,f⟩
 ·refine br r.tgt fun es h e f=>?_;exact E2 es h ⟨hN e,f⟩
theorem R.setReady(r:R n Ro st H nx)(l:List Nat):R n Ro { st with ready:=l } (af H (20,3) (.list (l.map aO))) nx:=
 r.d20 rfl (by obtain⟨v,e⟩:=r.disp;exact⟨v,(ae jd).trans e⟩) ((ae jd).trans r.nodes) ((ae jd).trans r.wait) setH_at ((ae jd).trans r.ttr)
theorem R.setTtr(r:R n Ro st H nx)(l:List Nat):R n Ro { st with ttr:=l } (af H (20,4) (aI l)) nx:=
 r.d20 rfl (by obtain⟨v,e⟩:=r.disp;exact⟨v,(ae jd).trans e⟩) ((ae jd).trans r.nodes) ((ae jd).trans r.wait) ((ae jd).trans r.ready) setH_at
theorem R.setWait(r:R n Ro st H nx)(l:List Nat):R n Ro { st with wait:=l } (af H (20,2) (mn l)) nx:=
 r.d20 rfl (by obtain⟨v,e⟩:=r.disp;exact⟨v,(ae jd).trans e⟩) ((ae jd).trans r.nodes) setH_at ((ae jd).trans r.ready) ((ae jd).trans r.ttr)
theorem R.setCur(r:R n Ro st H nx)(o:Option Nat){v:MV}{es:List (Nat×MV)}(a:es=gL v (dX o)):R n Ro { st with cur:=o } (af H (20,0) (.inst 3 es)) nx:=by
 subst a;exact r.d20 rfl ⟨v,setH_at⟩ ((ae jd).trans r.nodes) ((ae jd).trans r.wait) ((ae jd).trans r.ready) ((ae jd).trans r.ttr)
theorem R.hand{st':St}(r:R n Ro st H nx)(a:st'={ st with xt:=st'.xt,xc:=st'.xc,lp:=st'.lp,ll:=st'.ll }):R n Ro st' H nx:=by
 rw[a];exact⟨r.task,r.node,r.nonode,r.disp,r.nodes,r.wait,r.ready,r.ttr,r.tasks,r.tgt,r.tmp⟩
theorem R.tmpSet(r:R n Ro st H nx){i nx':Nat}{o:MObj}(h:nx<=nx')(s:i<nx'):R n Ro st (af H (0,i) o) nx':=by
 refine⟨fun j u=>(r.task j u).keep fun g a b=>ae (aV (Zn a)),fun j q hd=>(r.node j q hd).keep fun g f=>ae (aV (ja f).2),fun j hd g f=>(ae (aV (ja f).2)).trans (r.nonode j hd g f),?_,hN r.nodes,hN r.wait,hN r.ready,hN r.ttr,?_,?_,fun w c=>(ae (dh (Zn (Zk s c)))).trans (r.tmp w (Zk h c))⟩;·obtain⟨v,e⟩:=r.disp;exact⟨v,hN e⟩
 ·refine br r.tasks fun es p l m=>?_;exact E2 es p ⟨hN l,m⟩
 ·refine br r.tgt fun es p l m=>?_;exact E2 es p ⟨hN l,m⟩
theorem St.setNd_self{st:St}{k:Nat}{d:Nd}(e:st.nd k=some d):st.setNd k d=st:=by
 delta St.setNd;have:(fun j=>if j=k then some d else st.nd j)=st.nd:=funext fun j=>by
  split;·rename_i h;rw[h,e]
  ·rfl
 rw[this]
theorem fc{t:aq}{a b:MObj}:af (af H t a) t b=af H t b:=funext fun u=>by unfold af;split<;>rfl
theorem jN{t:aq}{o:MObj}(h:H t=some o):af H t o=H:=funext fun u=>by
 delta af;split;·rename_i q;rw[q,h]
 ·rfl
theorem R.round(r:R n Ro st H nx)(e:st.nd k=some d):R n Ro (st.setNd k d.rnd) (af (af (af (af H (103+2*d.g,k) (aI [])) (10,k) (.inst 2 (ah (gw k d) 52 (.tag (103+2*d.g,k))))) (102+2*d.g,k) (aI [])) (10,k) (.inst 2 (ah (ah (gw k d) 52 (.tag (103+2*d.g,k))) 50 (.tag (102+2*d.g,k))))) nx:=by
 delta Nd.rnd;have x:=r.node k d e;have F:∀g i,i≠k\/¬ nG g->af (af (af (af H (103+2*d.g,k) (aI [])) (10,k) (.inst 2 (ah (gw k d) 52 (.tag (103+2*d.g,k))))) (102+2*d.g,k) (aI [])) (10,k) (.inst 2 (ah (ah (gw k d) 52 (.tag (103+2*d.g,k))) 50 (.tag (102+2*d.g,k)))) (g,i)=H (g,i):=fun g i h=>by
  have ne:∀f,nG f->((g,i):Nat×Nat)≠(f,k):=fun f p q=>by
   cases q;rcases h with h|h;·exact h rfl
   ·exact h p
  rw[ae (ne 10 (.inl (by decide))),ae (ne _ (.inr qH)),ae (ne 10 (.inl (by decide))),ae (ne _ (.inr qH))]
 have G:∀g,g≠10->g≠103+2*d.g->g≠102+2*d.g->af (af (af (af H (103+2*d.g,k) (aI [])) (10,k) (.inst 2 (ah (gw k d) 52 (.tag (103+2*d.g,k))))) (102+2*d.g,k) (aI [])) (10,k) (.inst 2 (ah (ah (gw k d) 52 (.tag (103+2*d.g,k))) 50 (.tag (102+2*d.g,k)))) (g,k)=H (g,k):=fun g j m o=>by
  rw[ae (aV j),ae (aV o),ae (aV j),ae (aV m)]
 refine r.setNd e F ⟨setH_at.trans ?_,(G 11 (by decide) fw fw).trans x.anc,(G 12 (by decide) fw fw).trans x.wr,(G 13 (by decide) fw fw).trans x.wc,(G 14 (by decide) fw fw).trans x.wm,(G 15 (by decide) fw fw).trans x.bad,(G 16 (by decide) fw fw).trans x.ign,?_,?_,fun _=>?_,fun i s=>?_⟩
 ·have c:100+2*(d.g+1)=102+2*d.g:=sG;have l:101+2*(d.g+1)=103+2*d.g:=sG;show some (MObj.inst 2 (ah (ah (gw k d) 52 (.tag (103+2*d.g,k))) 50 (.tag (102+2*d.g,k))))=some (.inst 2 (gw k { d with td:=[],cd:=[],g:=d.g+1,pc:=d.cd }));delta gw;dsimp only;refine c▸l▸?_;rfl
 ·show af _ _ _ (100+2*(d.g+1),k)=_;have c:100+2*(d.g+1)=102+2*d.g:=sG;rw[c,ae (aV fz),setH_at]
 ·show af _ _ _ (101+2*(d.g+1),k)=_;have c:101+2*(d.g+1)=103+2*d.g:=sG;rw[c,ae (aV fz),ae (aV n0),ae (aV fz),setH_at]
 ·show af _ _ _ (99+2*(d.g+1),k)=_;have c:99+2*(d.g+1)=101+2*d.g:=sG;rw[c,G _ fz n0 n0];exact x.cd
 ·have:102+2*(d.g+1)<=i:=s;have b:104+2*d.g<=i:=by rw[<-sG (a:=102)];exact this
  refine(G _ (qI b) (xG b) (xG b))▸?_;exact x.fr i (Zk (Nat.add_le_add_right (by decide) _) b)
theorem R.newNd(r:R n Ro st H nx)(e:st.nd k=none){l:List Nat}(h:∀g i,i≠k\/¬ nG g->(g,i)≠(20,1)->H' (g,i)=H (g,i))(x:NodeAt H' k d)(B:H' (20,1)=some (mn l)):R n Ro { st.setNd k d with ord:=l } H' nx:=by
 have f:∀g i,¬ nG g->(g,i)≠(20,1)->H' (g,i)=H (g,i):=fun g i m=>h g i (.inr m);have c:¬ nG 20:=nz (by decide);have p:¬ nG 21:=nz (by decide);refine⟨fun j A=>(r.task j A).keep fun g a b=>f g j (nz (b.imp (fun h=>ZD h (by decide)) fun(h:g=17)=>h▸⟨by decide,by decide⟩)) (aV (b.elim (fun w=>(Zh (av 0 8 1 20 w rfl))) fun w=>(Zh (av 0 17 1 20 (Zd w) rfl)))),fun j y hd=>?_,fun j hd g m=>?_,?_,B,(f _ _ c jd).trans r.wait,(f _ _ c jd).trans r.ready,(f _ _ c jd).trans r.ttr,?_,?_,fun i z=>(f 0 i (nz (by decide)) gd).trans (r.tmp i z)⟩
 ·unfold St.setNd at hd;dsimp only at hd;by_cases q:j=k;·obtain rfl:=q.symm;rw[if_pos rfl] at hd;obtain rfl:=Zb hd;exact x
  ·rw[if_neg q] at hd;exact(r.node j y hd).keep fun g m=>h g j (.inl q) (aV (ja m).1)
 ·unfold St.setNd at hd;dsimp only at hd;by_cases q:j=k;·obtain rfl:=q.symm;rw[if_pos rfl] at hd;exact jF hd
  ·rw[if_neg q] at hd;exact(h g j (.inl q) (aV (ja m).1)).trans (r.nonode j hd g m)
 ·obtain⟨v,o⟩:=r.disp;exact⟨v,(f _ _ c jd).trans o⟩
 ·refine br r.tasks fun es u o s=>?_;exact E2 es u ⟨(f _ _ p gd).trans o,s⟩
 ·refine br r.tgt fun es u o s=>?_;exact E2 es u ⟨(f _ _ p gd).trans o,s⟩
end
end
section
section
variable {H H':aq->Option MObj}{nx:Nat}{m:List (Nat×MV)}{k j:Nat}{Q:MV->AS->Prop}{P:aE->AS->Prop}{X:AS->Prop}
theorem aH{x n:Nat}{t:aq}{C:Nat}{es:List (Nat×MV)}{v:MV}{P:MV->AS->Prop}(e:m.lookup x=some (.tag t))(a:H t=some (.inst C es))(c:n∈dO C)(b:es.lookup n=some v)(d:qK v=true)(h:P v ⟨H,nx,m⟩):aB (ac x) n ⟨H,nx,m⟩ P:=
 ⟨.tag t,e,t,E3 C es v (A6 rfl a c b d h)⟩
abbrev zm(b:MS)(P:aE->AS->Prop):aE->AS->Prop:=fun f a=>match f with
 |.next=>b a P
 |.brk=>P .brk a
 |.cont=>P .cont a
 |.ret v=>P (.ret v) a
abbrev AV(x:Nat)(P:aE->AS->Prop):MV->AS->Prop:=fun v a=>by obtain⟨H,nx,m⟩:=a;exact P .next ⟨H,nx,ah m x v⟩
abbrev Af(n:Nat)(P:MV->AS->Prop):MV->AS->Prop:=fun v a=>wa v n a P
abbrev sJ(a b:MS)(P:aE->AS->Prop):Bool->AS->Prop:=fun r c=>match r with
 |true=>a c P
 |false=>b c P
abbrev xW(P:aE->AS->Prop):MV->AS->Prop:=fun v a=>v=.none/\P .next a
abbrev zn(P:aE->AS->Prop):MV->AS->Prop:=fun v a=>P (.ret v) a
abbrev AY(g:MV->MV->MT)(b:ap)(P:Bool->AS->Prop):MV->AS->Prop:=fun x a=>b a fun y c=>g x y c P
abbrev A0(fs:List ap)(P:List MV->AS->Prop):MV->AS->Prop:=fun v a=>bV fs a fun vs b=>P (v::vs) b
abbrev Aa(n:Nat)(o:ap)(P:aE->AS->Prop):MV->AS->Prop:=fun v a=>o a fun u b=>o5 u n v b fun c=>P .next c
abbrev Bm(P:Bool->AS->Prop):MV->AS->Prop:=fun v a=>∃b,de a.H v=some b/\P b a
abbrev zH(g:List MV->List MV->ap)(a:List ap)(P:MV->AS->Prop):List MV->AS->Prop:=fun xs b=>bV a b fun ys c=>g xs ys c P
abbrev AR(i:ap)(P:MV->AS->Prop):MV->AS->Prop:=fun v a=>i a fun w b=>zp v w b P
abbrev z9(o i:ap)(P:aE->AS->Prop):MV->AS->Prop:=fun v a=>o a fun u b=>i b fun w c=>ty u w v c fun d=>P .next d
abbrev zo(b:MT)(P:Bool->AS->Prop):Bool->AS->Prop:=fun x a=>match x with
 |true=>b a P
 |false=>P false a
abbrev AC(b:MT)(P:Bool->AS->Prop):Bool->AS->Prop:=fun x a=>match x with
 |true=>P true a
 |false=>b a P
abbrev AU(P:Bool->AS->Prop):Bool->AS->Prop:=fun b a=>P (!b) a
abbrev Ad(k:Nat)(g:List MV->ap)(fs:List ap)(P:MV->AS->Prop):MV->AS->Prop:=fun x a=>lE a.H x=k/\bV fs a fun xs b=>g (x::xs) b P
abbrev Ae(P:MV->AS->Prop):List MV->AS->Prop:=fun xs a=>newL xs a P
abbrev zI(g:List MV->ap)(P:MV->AS->Prop):List MV->AS->Prop:=fun xs a=>g xs a P
abbrev AW(a b:ap)(P:MV->AS->Prop):Bool->AS->Prop:=fun r c=>match r with
 |true=>a c P
 |false=>b c P
abbrev kB(P:MV->AS->Prop):Bool->AS->Prop:=fun b a=>P (.bool b) a
abbrev AZ(f:Int->Int->Option Int)(b:ap)(Q:MV->AS->Prop):MV->AS->Prop:=fun x a=>b a fun y c=>∃i j r,x=.int i/\y=.int j/\f i j=some r/\Q (.int r) c
abbrev Ab(P:Option Int->AS->Prop):MV->AS->Prop:=fun v a=>∃i,v=.int i/\P (some i) a
abbrev Ag(g:ap)(P:MV->AS->Prop):MV->AS->Prop:=fun v a=>∃b,de a.H v=some b/\match b with
 |true=>g a P
 |false=>P v a
abbrev AT(g:ap)(P:MV->AS->Prop):MV->AS->Prop:=fun v a=>∃b,de a.H v=some b/\match b with
 |true=>P v a
 |false=>g a P
abbrev Ac(P:MV->AS->Prop):MV->AS->Prop:=fun v a=>∃b,de a.H v=some b/\P (.bool (!b)) a
abbrev AX(s:MV->AS->AS)(b:MS)(P:aE->AS->Prop):List MV->((aq->Option MObj)->Prop)->AS->Prop:=fun xs g a=>dq g s b xs a P
abbrev yC(Q:List MV->((aq->Option MObj)->Prop)->AS->Prop):MV->AS->Prop:=fun v a=>∃xs,b6 a.H v=some xs/\Q xs (fun H=>b6 H v=some xs) a
theorem aj{a b:MS}{c:AS}{P:aE->AS->Prop}(h:a c (zm b P)):az a b c P:=h
theorem aR{o f:ap}{n:Nat}{a:AS}{P:aE->AS->Prop}(h:f a (Aa n o P)):eH o n f a P:=h
theorem kU{a:ap}{n:Nat}{b:AS}{P:MV->AS->Prop}(h:a b (Af n P)):aB a n b P:=h
theorem bj{f:ap}{a:AS}{P:aE->AS->Prop}(h:f a (xW P)):bK f a P:=h
theorem aX{t:MT}{a b:MS}{c:AS}{P:aE->AS->Prop}(h:t c (sJ a b P)):ca t a b c P:=h
theorem aP{x:Nat}{f:ap}{a:AS}{P:aE->AS->Prop}(h:f a (AV x P)):cJ x f a P:=h
theorem cK{f:ap}{a:AS}{P:aE->AS->Prop}(h:f a (zn P)):fj f a P:=h
theorem cw{f:ap}{a:AS}{P:Bool->AS->Prop}(h:f a (Bm P)):c9 f a P:=h
theorem aK{g:MV->MV->MT}{a b:ap}{c:AS}{P:Bool->AS->Prop}(h:a c (AY g b P)):bh g a b c P:=h
theorem bS{k:Nat}{g:List MV->ap}{a:ap}{fs:List ap}{b:AS}{P:MV->AS->Prop}(h:a b (Ad k g fs P)):b9 k g a fs b P:=h
theorem bv{fs:List ap}{a:AS}{P:MV->AS->Prop}(h:bV fs a (Ae P)):dJ fs a P:=h
theorem ai{a:AS}{P:List MV->AS->Prop}(h:P [] a):bV [] a P:=h
theorem ao{f:ap}{fs:List ap}{a:AS}{P:List MV->AS->Prop}(h:f a (A0 fs P)):bV (f::fs) a P:=h
theorem au{v:MV}{a:AS}{P:MV->AS->Prop}(h:P v a):ax v a P:=h
theorem ds{t:aq}{ys:List MV}{y:MV}{P:MV->AS->Prop}(a:H t=some (.list ys))(b:ys.length<1000)(h:P .none ⟨af H t (.list (ys++[y])),nx,m⟩):cE [.tag t,y] ⟨H,nx,m⟩ P:=⟨t,E2 ys y (A4 rfl a b h)⟩
theorem aa{x:Nat}{v:MV}{P:MV->AS->Prop}(a:m.lookup x=some v)(h:P v ⟨H,nx,m⟩):ac x ⟨H,nx,m⟩ P:=⟨v,a,h⟩
theorem bT{n:Nat}{t:aq}{C:Nat}{es:List (Nat×MV)}{v:MV}{P:AS->Prop}(a:H t=some (.inst C es))(c:n∈dO C)(b:es.length<1000)(h:P ⟨af H t (.inst C (ah es n v)),nx,m⟩):o5 (.tag t) n v ⟨H,nx,m⟩ P:=
 ⟨t,E2 C es (A5 rfl a c b h)⟩
theorem eL{n:Nat}{t:aq}{C:Nat}{es:List (Nat×MV)}{v:MV}{P:AS->Prop}(b:n∈dO C)(a:es.length<1000)(h:P ⟨af H t (.inst C (ah es n v)),nx,m⟩):o5 (.tag t) n v ⟨af H t (.inst C es),nx,m⟩ P:=
 ⟨t,E2 C es (A5 rfl (du ..) b a (by rw[fc];exact h))⟩
theorem nN{a:ap}{P:MV->AS->Prop}{v:MV}{xs:List MV}(c:bc H v=some xs)(d:xs.length<=100000)(h:P (.lst xs) ⟨H,nx,m⟩)(b:∀A:MV->AS->Prop,A v ⟨H,nx,m⟩->a ⟨H,nx,m⟩ A):fH a none none none ⟨H,nx,m⟩ P:=
 b _ ⟨xs,xs,c,rfl,d,.inl h⟩
theorem d9{g i:Nat}{xs:List MV}{P:MV->AS->Prop}(a:H (g,i)=none)(h0:g≠0)(b:xs.length<=100000)(h:P (.tag (g,i)) ⟨af H (g,i) (.list xs),nx,m⟩):newL xs ⟨H,nx,m⟩ P:=
 ⟨b,.inr ⟨(g,i),⟨a,.inl h0⟩,by
  have e:cf nx (g,i)=nx:=if_neg h0;show P (.tag (g,i)) ⟨af H (g,i) (.list xs),cf nx (g,i),m⟩;rw[e];exact h⟩⟩
theorem rz{t:aq}{ys zs:List MV}{y:MV}{P:MV->AS->Prop}(a:H t=some (.list ys))(c:bc H y=some zs)(b:ys.length+zs.length<=1000)(h:P .none ⟨af H t (.list (ys++zs)),nx,m⟩):m9 [.tag t,y] ⟨H,nx,m⟩ P:=⟨t,E3 ys y zs (A5 rfl a c b h)⟩
theorem uX{g i:Nat}{P:MV->AS->Prop}(a:H (g,i)=none)(h0:g≠0)(h:P (.tag (g,i)) ⟨af H (g,i) (.set []),nx,m⟩):cC xR [] ⟨H,nx,m⟩ P:=
 ⟨rfl,(g,i),⟨a,.inl h0⟩,by
  have e:cf nx (g,i)=nx:=if_neg h0;show P (.tag (g,i)) ⟨af H (g,i) (.set []),cf nx (g,i),m⟩;rw[e];exact h⟩
theorem iu{g i:Nat}{P:MV->AS->Prop}(a:H (g,i)=none)(h0:g≠0)(h:P (.tag (g,i)) ⟨af H (g,i) (.dict []),nx,m⟩):vb ⟨H,nx,m⟩ P:=
 ⟨(g,i),⟨a,.inl h0⟩,by
  have e:cf nx (g,i)=nx:=if_neg h0;show P (.tag (g,i)) ⟨af H (g,i) (.dict []),cf nx (g,i),m⟩;rw[e];exact h⟩
theorem cD{g:List MV->List MV->ap}{fs a:List ap}{b:AS}{P:MV->AS->Prop}(h:bV fs b (zH g a P)):db g fs a b P:=h
theorem lG{a i:ap}{b:AS}{P:MV->AS->Prop}(h:a b (AR i P)):bG a i b P:=h
theorem iM{o i f:ap}{a:AS}{P:aE->AS->Prop}(h:f a (z9 o i P)):hZ o i f a P:=h
theorem gr{a b:MT}{c:AS}{P:Bool->AS->Prop}(h:a c (zo b P)):jv a b c P:=h
theorem gz{a b:MT}{c:AS}{P:Bool->AS->Prop}(h:a c (AC b P)):fS a b c P:=h
theorem lH{t:MT}{a:AS}{P:Bool->AS->Prop}(h:t a (AU P)):kI t a P:=h
theorem flatIn_str{l:List Nat}:dT (.str k) (l.map .str)=some (l.contains k):=by
 induction l with
 |nil=>rfl
 |cons a l d=>
  show(match fV (.str a) (.str k),dT (.str k) (l.map .str) with|some b,some c=>some (b||c)|_,_=>none)=_;refine d▸?_;show some ((a == k)||l.contains k)=_
  congr 2
  by_cases h:a=k;·obtain rfl:=h.symm;exact rfl
  ·rw[beq_eq_false_iff_ne.mpr h,beq_eq_false_iff_ne.mpr (Ne.symm h)]
theorem iA{t:aq}{xs:List MV}(h:H t=some (.list xs)):gy H (.str k) (.tag t)=dT (.str k) xs:=by
 exact lO (ay h)
theorem bN{C n:Nat}{g:List MV->List MV->ap}{a:ap}{fs b:List ap}{f:AS}{P:MV->AS->Prop}(h:a f fun x c=>∃t es,x=.tag t/\c.H t=some (.inst C es)/\es.lookup n=none/\bV fs c fun xs d=>bV b d fun ys e=>g (x::xs) ys e P):cr C n g a fs b f P:=h
theorem aN:∀{n:Nat}{l:List Nat},l.Nodup->(∀x∈l,x<n)->l.length<=n
 |0,l,_,hb=>by
  induction l with
  |nil=>exact Zj _
  |cons a l=>exact absurd (hb a Ze) (ZA _)
 |n+1,l,h,hb=>by
  by_cases g:n∈l
  ·have i:(l.erase n).Nodup:=h.erase n;have d:∀x∈l.erase n,x<n:=fun x c=>by
    have b:=(h.mem_erase_iff).mp c;have:=hb x b.2;have:=b.1;exact Nat.lt_of_le_of_ne (Nat.le_of_lt_succ (by assumption)) this
   have f:=aN i d;replace f:=(List.length_erase_of_mem g)▸f;omega
  ·have d:∀x∈l,x<n:=fun x c=>by
    have:=hb x c;have:x≠n:=fun e=>g (e▸c);exact Nat.lt_of_le_of_ne (Nat.le_of_lt_succ (by assumption)) this
   exact Nat.le_succ_of_le (aN h d)
theorem lm{t:MT}{b:MS}{a:AS}{P:aE->AS->Prop}(n:Nat)(h:g7 t b n a P):q6 t b a P:=⟨n,h⟩
theorem eB{xs:List MV}{P:MV->AS->Prop}(a:H (0,nx)=none)(b:xs.length<=100000)(h:P (.tag (0,nx)) ⟨af H (0,nx) (.list xs),nx+1,m⟩):newL xs ⟨H,nx,m⟩ P:=
 ⟨b,.inr ⟨(0,nx),⟨a,.inr (Zj _)⟩,by
  have e:cf nx (0,nx)=nx+1:=by unfold cf;exact Nat.max_eq_right (Zz _)
  refine e▸?_;exact h⟩⟩
theorem cA{f:ii}{s:MV->AS->AS}{b:MS}{a:AS}{P:aE->AS->Prop}(h:f a (AX s b P)):js f s b a P:=h
theorem bu{f:ap}{a:AS}{Q:List MV->((aq->Option MObj)->Prop)->AS->Prop}(h:f a (yC Q)):dH f a Q:=h
theorem jk{t:aq}{l:List Nat}(h:H t=some (.set l)):de H (.tag t)=some (!l.isEmpty):=tN h
theorem rM{t:aq}{xs:List Nat}(h:H t=some (.set xs)):gy H (.str k) (.tag t)=some (xs.contains k):=by
 rw[rL (show b6 H (.tag t)=none by show ka (H t)=_;rw[h];rfl),h];rfl
theorem gG{t:aq}{es:List (Nat×MV)}{a:Option Obj}(h:H t=some (.dict es a)):gy H (.str k) (.tag t)=some (es.lookup k).isSome:=by
 rw[rL (show b6 H (.tag t)=none by show ka (H t)=_;rw[h];rfl),h];rfl
theorem zK{f:ap}{a:AS}{P:MV->AS->Prop}(h:f a (Ac P)):tP f a P:=h
theorem xZ{f g:ap}{a:AS}{P:MV->AS->Prop}(h:f a (AT g P)):v7 f g a P:=h
theorem rr{t:aq}{ys:List Nat}{n:Nat}{P:MV->AS->Prop}(a:H t=some (.set ys))(hnd:ys.Nodup)(b:n∈ys)(h:P .none ⟨af H t (.set (ys.erase n)),nx,m⟩):lg [.tag t,.str n] ⟨H,nx,m⟩ P:=⟨t,E2 n ys (A5 rfl a hnd b h)⟩
theorem cm{g:List MV->ap}{fs:List ap}{a:AS}{P:MV->AS->Prop}(h:bV fs a (zI g P)):cC g fs a P:=h
theorem mY{a b:MX}{d:AS}(h:a d (fun f c=>match f with|.next=>b c P X|.brk=>P .brk c|.cont=>P .cont c|.ret v=>P (.ret v) c) X):lz a b d P X:=h
theorem tA{t:MT}{a b:MX}{d:AS}(h:t d fun r c=>match r with|true=>a c P X|false=>b c P X):pM t a b d P X:=h
theorem yY{f:MS}{a:AS}(h:f a P):xS f a P X:=h
theorem nT{t:MT}{b:AS}{P:aE->AS->Prop}(h:t b fun r a=>r=true/\P .next a):k9 t b P:=h
theorem Ai{C n x f:Nat}{a:ap}{fs:List ap}{g:qP}{e:AS}{Q:aE->AS->Prop}(h:a e fun u c=>∃t es,u=.tag t/\c.H t=some (.inst C es)/\es.lookup n=none/\bV fs c fun xs d=>d.m=e.m/\g (u::xs) [] d (fun v b=>Q .next { b with m:=ah b.m x v }) fun b=>Q (.ret (.tup [.str f,.none])) b):zi C n x f a fs g e Q:=h
theorem jb{t:MT}{a b:ap}{c:AS}{P:MV->AS->Prop}(h:t c (AW a b P)):pN t a b c P:=h
theorem cV{l:List Nat}{a:Nat}(h:l.Nodup)(n:a∉l):(l++[a]).Nodup:=by
 refine List.nodup_append.mpr ?_;refine A3 h (by simp) (fun x c y b e=>?_);replace b:=List.mem_singleton.mp b;subst b;subst e;exact n c
theorem mem_addAll{ys:List Nat}:∀{xs:List Nat}{a:Nat},a∈aU xs ys↔a∈xs\/a∈ys:=by
 induction ys with
 |nil=>intro xs a;simp[aU]
 |cons y ys b=>
  intro xs a;show a∈aU (if y∈xs then xs else xs++[y]) ys↔_;refine b.trans ?_;split
  ·rename_i h;constructor
   ·rintro (q|q);·exact .inl q
    ·exact .inr (Zc _ q)
   ·rintro (q|q);·exact .inl q
    ·rcases List.mem_cons.mp q with rfl|q;·exact .inl h
     ·exact .inr q
  ·simp[or_assoc]
theorem iP{ys:List Nat}:∀{xs:List Nat},xs.Nodup->(aU xs ys).Nodup:=by
 induction ys with
 |nil=>intro xs h;exact h
 |cons y ys a=>
  intro xs h;show(aU (if y∈xs then xs else xs++[y]) ys).Nodup;apply a;split;·exact h
  ·rename_i q;exact cV h q
end
end
section
noncomputable def RS.note(r:RS)(j:Nat)(d:Nd):Nd:=RS.casesOn r d d { d with bad:=d.bad++[j] } d { d with ign:=d.ign++[j] }
section
variable {n:Nat}{Ro:Nat->Rw}{st:St}{H H':aq->Option MObj}{nx:Nat}{m:List (Nat×MV)}{k j p w:Nat}{d c:Nd}{Q:MV->AS->Prop}{P:aE->AS->Prop}
theorem aJ{x y:Nat}{v:MV}(h:y≠x):(ah m x v).lookup y=m.lookup y:=by rw[aG,if_neg h]
theorem bq{x:Nat}{v:MV}:(ah m x v).lookup x=some v:=by rw[aG,if_pos rfl]
theorem kl{t:aq}{xs:List MV}(h:H t=some (.list xs)):lE H (.tag t)=1:=kN h
theorem tM{v:Value}{a:AS}{P:MV->AS->Prop}(h:P (.raw v) a):ie v a P:=h
theorem oj{x y a C:Nat}{es:List (Nat×MV)}{t t0:aq}{xs:List MV}{v:MV}(e:m.lookup x=some (.tag t0))(g:H t0=some (.inst C es))(i:a∈dO C)(l:es.lookup a=some (.tag t))(f:H t=some (.list xs))(b:xs.length<1000)(o:m.lookup y=some v)(h:P .next ⟨af H t (.list (xs++[v])),nx,m⟩) :
  bK (b9 1 cE (aB (ac x) a) [ac y]) ⟨H,nx,m⟩ P:=
 bj (bS (aH e g i l rfl ⟨kl f,ao (aa o (ai (ds f b ⟨rfl,h⟩)))⟩))
theorem v6{r:RS}:qK r.mv=true:=by induction r<;>rfl
theorem km(r:R n Ro st H nx)(b:st.nd k=some d)(g:st.nd j=some c)(i:d.bad.length<1000)(l:d.ign.length<1000)(q:∀H',R n Ro (st.setNd k (c.rs.note j d)) H' nx->Low H H' nx->Q .none ⟨H',nx,m⟩):cn.1 [aO k,aO j] [] ⟨H,nx,m⟩ Q:=by
 have e:=r.node k d b;have o:=r.node j c g;refine⟨rfl,?_⟩;have f:∀(P:MV->AS->Prop),P c.rs.mv ⟨H,nx,[(61,aO k),(149,aO j)]⟩->aB (ac 149) 143 ⟨H,nx,[(61,aO k),(149,aO j)]⟩ P:=fun P h=>aH (t:=(10,j)) rfl o.obj (by decide) rfl v6 h;refine f _ ?_;cases a:c.rs with
 |fail=>
  refine⟨true,rfl,?_⟩;refine oj (t0:=(10,k)) rfl e.obj (by decide) rfl e.bad (by simpa using i) rfl ?_;refine q _ ?_ bP;rw[a];have:=r.ndBad b (d.bad++[j]);rw[List.map_append] at this;exact this
 |ign=>
  refine⟨false,rfl,?_⟩;refine f _ ?_;rw[a];refine⟨true,rfl,?_⟩;refine oj (t0:=(10,k)) rfl e.obj (by decide) rfl e.ign (by simpa using l) rfl ?_;refine q _ ?_ bP;rw[a];have:=r.ndIgn b (d.ign++[j]);rw[List.map_append] at this;exact this
 |_=>
  refine⟨false,rfl,?_⟩;refine f _ ?_;rw[a];refine⟨false,rfl,?_⟩;refine q _ ?_ (.refl _ _);rw[a];show R n Ro (st.setNd k d) H nx;rw[St.setNd_self b];exact r
theorem sQ(a:k<8):iJ 44 k=some false/\iJ 45 k=some false:=by
 delta iJ;simp[a]
theorem qW{x:Nat}{a:Nat}{P:Bool->AS->Prop}(e:a=44\/a=45)(b:k<8)(f:m.lookup x=some (.str k))(h:P false ⟨H,nx,m⟩):bh (oA iJ) (ax (.str a)) (ac x) ⟨H,nx,m⟩ P:=by
 refine aK (au (aa f ⟨a,E2 k false (A4 rfl rfl ?_ h)⟩));rcases e with rfl|rfl;·exact(sQ b).1
 ·exact(sQ b).2
theorem xb:∀(l acc:List Nat)(b:aq->Option MObj)(e:List (Nat×MV))(es:List (Nat×MV)),e.lookup 61=some (.tag (1,k))->b (1,k)=some (.inst 0 es)->es.lookup 50=some (.tag (3,k))->b (3,k)=some (aI acc)->(∀j∈l,j<8)->acc.length+l.length<900->(∀v,P .next ⟨af b (3,k) (aI (acc++l)),nx,v⟩)->∀(g:(aq->Option MObj)->Prop),(∀H,g H)->
  dq g (ba 97) (ca (bh (oA iJ) (ax (.str 45)) (ac 97)) (bK (b9 1 cE (aB (ac 61) 84) [(ac 97)])) (bK (b9 1 cE (aB (ac 61) 50) [(ac 97)]))) (l.map .str) ⟨b,nx,e⟩ P:=by
 intro l;induction l with
 |nil=>
  intro acc b e es h r a s t u q g o;refine⟨o _,?_⟩;have:=q e;rw[List.append_nil,jN s] at this;exact this
 |cons j l y=>
  intro acc b e es h r a s t u q g o;refine⟨o _,?_⟩;have f:(ah e 97 (.str j)).lookup 61=some (.tag (1,k)):=(aJ (by decide)).trans h;refine aX (qW (.inr rfl) (t j Ze) bq ?_);refine oj f r (by decide) a s (by simp;exact NB u rfl) bq ?_;refine y (acc++[j]) _ _ es f (hN r) a ?_ (fun i x=>t i (Zc _ x)) (by simp;exact NA u) (fun v=>?_) g o;·rw[setH_at];delta aI;refine List.map_append▸?_;rfl
  ·have:=q v;rw[fc,List.append_assoc];exact this
theorem jp{l acc:List Nat}{es:List (Nat×MV)}(b:H (1,k)=some (.inst 0 es))(a:es.lookup 50=some (.tag (3,k)))(e:H (3,k)=some (aI acc))(f:∀j∈l,j<8)(g:acc.length+l.length<900)(q:Q .none ⟨af H (3,k) (aI (acc++l)),nx,m⟩):dB.1 [.tag (1,k),bO l] [] ⟨H,nx,m⟩ Q:=by
 refine⟨rfl,?_⟩;refine cA (bu ?_);refine aa rfl ⟨_,rfl,?_⟩;exact xb l acc H _ es rfl b a e f g (fun h=>q) _ fun _=>rfl
theorem rK{a y:Nat}{f:Nat->MV}{body:MS}(I:∀(acc:List Nat)(j:Nat),dT (f j) (acc.map f)=some (acc.contains j))(x:∀j,∃i,f j=.str i)(F:y≠1)(D:a∈dO 0)(G:∀(j:Nat)(H:aq->Option MObj)(b:List (Nat×MV))(B:aE->AS->Prop),b.lookup 97=some (f j)->ca (bh lB (ac 97) (aB (ac 61) a)) (bK (b9 1 cE (aB (ac 61) a) [(ac 97)])) bn ⟨H,nx,b⟩ B->body ⟨H,nx,b⟩ B){es:List (Nat×MV)}(t:es.lookup a=some (.tag (y,k))):∀(l acc:List Nat)(o:aq->Option MObj)(b:List (Nat×MV)),b.lookup 61=some (.tag (1,k))->o (1,k)=some (.inst 0 es)->o (y,k)=some (.list (acc.map f))->acc.length+l.length<900->(∀C,P .next ⟨af o (y,k) (.list ((aU acc l).map f)),nx,C⟩)->∀(g:(aq->Option MObj)->Prop),(∀H,g H)->
  dq g (ba 97) body (l.map f) ⟨o,nx,b⟩ P:=by
 intro l;induction l with
 |nil=>
  intro acc o b u r s A q g v;refine⟨v _,?_⟩;have:=q b;rw[show aU acc []=acc from rfl,jN s] at this;exact this
 |cons j l E=>
  intro acc o b u r s A q g v;refine⟨v _,?_⟩;have h:(ah b 97 (f j)).lookup 61=some (.tag (1,k)):=(aJ (by decide)).trans u;refine G j _ _ _ bq ?_;refine aX (aK (aa bq (aH h r D t rfl ⟨acc.contains j,?_,?_⟩)))
  ·obtain⟨i,e⟩:=x j;refine(I acc j)▸e▸?_;exact iA s
  rw[hV] at q;by_cases z:j∈acc
  ·rw[if_pos z] at q;have e:(!acc.contains j)=false:=by simp[z]
   rw[e];exact E acc _ _ h r s (Zv A) q g v
  ·rw[if_neg z] at q;have e:(!acc.contains j)=true:=by simp[z]
   rw[e];refine oj h r D t s (by simp;exact NB A rfl) bq ?_;refine E (acc++[j]) _ _ h (hN r (Ne.symm F)) ?_ (by simp;exact NA A) (fun C=>?_) g v;·rw[setH_at,List.map_append];rfl
   ·rw[fc];exact q C
theorem sx{l:List Nat}:dT (bA j) (l.map bA)=some (l.contains j):=by
 have e:l.map bA=(l.map (8+·)).map .str:=by rw[List.map_map];rfl
 refine e▸?_;refine flatIn_str.trans (congrArg some ?_);simp
theorem mU{l acc:List Nat}{es:List (Nat×MV)}(e:H (1,k)=some (.inst 0 es))(a:es.lookup 51=some (.tag (7,k)))(f:H (7,k)=some (.list (acc.map bA)))(g:acc.length+l.length<900)(q:Q .none ⟨af H (7,k) (.list ((aU acc l).map bA)),nx,m⟩):eJ.1 [.tag (1,k),.lst (l.map bA)] [] ⟨H,nx,m⟩ Q:=by
 refine⟨rfl,?_⟩;refine cA (bu ?_);show ac 51 ⟨H,nx,[(61,.tag (1,k)),(51,.lst (l.map bA))]⟩ _;refine aa rfl ⟨_,rfl,?_⟩;exact rK (fun _ _=>sx) (fun j=>⟨_,rfl⟩) (by decide) (by decide) (fun j H i B h b=>aX (cw (cm (ao (aa h (ao (tM (ai ⟨8+j,rfl,true,rfl,b⟩)))))))) a l acc H _ rfl e f g (fun o=>q) _ fun _=>rfl
theorem jq{l acc:List Nat}{es:List (Nat×MV)}(e:H (1,k)=some (.inst 0 es))(a:es.lookup 52=some (.tag (8,k)))(f:H (8,k)=some (aI acc))(g:acc.length+l.length<900)(q:Q .none ⟨af H (8,k) (aI (aU acc l)),nx,m⟩):eK.1 [.tag (1,k),bO l] [] ⟨H,nx,m⟩ Q:=by
 refine⟨rfl,?_⟩;refine cA (bu ?_);refine aa rfl ⟨_,rfl,?_⟩;exact rK (fun _ _=>flatIn_str) (fun j=>⟨_,rfl⟩) (by decide) (by decide) (fun j H i B h b=>b) a l acc H _ rfl e f g (fun o=>q) _ fun _=>rfl
end
end
section
noncomputable def tellT(r:Rw)(p:Nat)(t:Tk):Tk:={ t with td:=aU (t.td++r.tN) r.tF,fd:=aU t.fd r.tF,cd:=aU t.cd r.tC,pr:=t.pr++[p] }
noncomputable def gj(old:List Nat)(l cur:List Nat):List Nat:=l.foldl (fun a c=>if c∉old/\c∉a then a++[c] else a) cur
noncomputable def hY(t a:Tk)(d:Nd):Nd:={ d with td:=d.td++a.td.drop t.td.length,cd:=gj t.cd a.cd d.cd }
structure tH(r:Rw):Prop where
 tN:∀j∈r.tN,j<8
 tF:∀j∈r.tF,j<8
 lN:r.tN.length<=8
 lF:r.tF.length<=8
 lC:r.tC.length<=8
theorem lZ(ys:List Nat):∀xs:List Nat,(aU xs ys).length<=xs.length+ys.length:=jD ys
section
variable {n:Nat}{Ro:Nat->Rw}{st:St}{H H':aq->Option MObj}{nx:Nat}{m:List (Nat×MV)}{k j p w:Nat}{d dj dp dw:Nd}{t:Tk}{Q:MV->AS->Prop}{P:aE->AS->Prop}
theorem ul{f:ap}{b:AS}{Q:List MV->((aq->Option MObj)->Prop)->AS->Prop}(h:f b fun v a=>∃t es c,v=.view true t/\a.H t=some (.dict es c)/\∀o,Q (es.map fun p=>.tup [.str p.1,p.2]) (fun H=>H t=some (.dict es (some o))) { a with H:=af a.H t (.dict es (some o)) }):rA f b Q:=h
theorem i5{a b x:Nat}{P:Bool->AS->Prop}(c:m.lookup x=some (.str a))(h:P (a == b) ⟨H,nx,m⟩):bh gT (ac x) (ax (.str b)) ⟨H,nx,m⟩ P:=
 aK (aa c (au ⟨_,rfl,h⟩))
theorem kG{a:AS}{P:Bool->AS->Prop}(h:P true a):zo fN P true a:=h
theorem dF{a b:MS}{c:AS}(h:a c P):sJ a b P true c:=h
theorem qa{a b:MS}{c:AS}(h:b c P):sJ a b P false c:=h
theorem pH{a b e:List Nat}{r:Rw}{x:Option Obj}{es:List (Nat×MV)}(J:H (1,w)=some (.inst 0 es))(h:es.lookup 50=some (.tag (3,w)))(i:es.lookup 51=some (.tag (7,w)))(l:es.lookup 52=some (.tag (8,w)))(u:es.lookup 86=none)(s:es.lookup 85=none)(v:es.lookup 87=none)(K:H (3,w)=some (aI a))(L:H (7,w)=some (.list (b.map bA)))(M:H (8,w)=some (aI e))(c:H (17,p)=some (.dict (cS r) x))(ok:tH r)(N:a.length<800)(O:b.length<800)(le:e.length<800)(q:∀o,Q .none ⟨af (af (af (af H (17,p) (.dict (cS r) (some o))) (3,w) (aI (a++r.tN))) (7,w) (.list ((aU b r.tF).map bA))) (8,w) (aI (aU e r.tC)),nx,m⟩) :
  jo.1 [.tag (1,w),.tag (17,p)] [] ⟨H,nx,m⟩ Q:=by
 refine⟨rfl,?_⟩;show js _ _ _ ⟨H,nx,[(61,.tag (1,w)),(99,.tag (17,p))]⟩ _;refine cA (ul (bS (aa rfl ⟨kN c,ai ⟨(17,p),E2 _ x (A3 rfl c ?_)⟩⟩)));refine E3 (17,p) _ x (A3 rfl c (fun o=>?_));show dq _ _ _ [.tup [.str 50,bO r.tN],.tup [.str 51,.lst (r.tF.map bA)],.tup [.str 52,bO r.tC]] _ _;have y:af H (17,p) (.dict (cS r) (some o)) (17,p)=some (.dict (cS r) (some o)):=setH_at;have z:af (af H (17,p) (.dict (cS r) (some o))) (3,w) (aI (a++r.tN)) (17,p)=some (.dict (cS r) (some o)):=hN y;have A:af (af (af H (17,p) (.dict (cS r) (some o))) (3,w) (aI (a++r.tN))) (7,w) (.list ((aU b r.tF).map bA)) (17,p)=some (.dict (cS r) (some o)):=hN z;have E:af (af (af (af H (17,p) (.dict (cS r) (some o))) (3,w) (aI (a++r.tN))) (7,w) (.list ((aU b r.tF).map bA))) (8,w) (aI (aU e r.tC)) (17,p)=some (.dict (cS r) (some o)):=hN A;refine⟨y,?_⟩;refine aX (i5 (a:=50) rfl ?_);have F:=ok.lN;have G:=ok.lF;have I:=ok.lC;have f:af H (17,p) (.dict (cS r) (some o)) (1,w)=some (.inst 0 es):=hN J;have g:af (af H (17,p) (.dict (cS r) (some o))) (3,w) (aI (a++r.tN)) (1,w)=some (.inst 0 es):=hN f;have A3:af (af (af H (17,p) (.dict (cS r) (some o))) (3,w) (aI (a++r.tN))) (7,w) (.list ((aU b r.tF).map bA)) (1,w)=some (.inst 0 es):=hN g;refine bj (bN (aa rfl (E2 (1,w) es (A4 rfl f u (ao (aa rfl (ai (ai ?_))))))));have B:af H (17,p) (.dict (cS r) (some o)) (3,w)=some (aI a):=hN K;refine jp (acc:=a) f h B ok.tN (ND F N rfl) ⟨rfl,?_⟩;refine⟨z,?_⟩;refine aX (i5 (a:=51) rfl ?_);refine aX (i5 (a:=51) rfl ?_);refine bj (bN (aa rfl (E2 (1,w) es (A4 rfl g s (ao (aa rfl (ai (ai ?_))))))));have C:af (af H (17,p) (.dict (cS r) (some o))) (3,w) (aI (a++r.tN)) (7,w)=some (.list (b.map bA)):=hN (hN L);refine mU (acc:=b) g i C (ND G O rfl) ⟨rfl,?_⟩;refine⟨A,?_⟩;refine aX (i5 (a:=52) rfl ?_);refine aX (i5 (a:=52) rfl ?_);refine aX (i5 (a:=52) rfl ?_);refine bj (bN (aa rfl (E2 (1,w) es (A4 rfl A3 v (ao (aa rfl (ai (ai ?_))))))));have D:af (af (af H (17,p) (.dict (cS r) (some o))) (3,w) (aI (a++r.tN))) (7,w) (.list ((aU b r.tF).map bA)) (8,w)=some (aI e):=hN (hN (hN M));refine jq (acc:=e) A3 l D (ND I le rfl) ⟨rfl,?_⟩;refine⟨E,?_⟩;exact q o
theorem vD{es eo}(I:∀j,j<n->es.lookup (8+j)=some (.str j)){F:List (Nat×MV)}(z:F.lookup 50=some (.tag (3,w))):∀(l acc:List Nat)(c:aq->Option MObj)(f:List (Nat×MV)),f.lookup 64=some (.tag (21,2))->f.lookup 42=some (.tag (1,w))->c (21,2)=some (.dict es eo)->c (1,w)=some (.inst 0 F)->c (3,w)=some (aI acc)->(∀j∈l,j<n)->acc.length+l.length<900->(∀E,P .next ⟨af c (3,w) (aI (aU acc l)),nx,E⟩)->∀(g:(aq->Option MObj)->Prop),(∀H,g H)->
  dq g (ba 97) (ca (jv (bh ko (ac 97) (ac 64)) (jv (bh lB (bG (ac 64) (ac 97)) (aB (ac 42) 50)) fN)) (bK (b9 1 cE (aB (ac 42) 50) [(bG (ac 64) (ac 97))])) bn) (l.map bA) ⟨c,nx,f⟩ P:=by
 intro l;induction l with
 |nil=>
  intro acc c f A y b x v C I q g B;refine⟨B _,?_⟩;have:=q f;rw[show aU acc []=acc from rfl,jN v] at this;exact this
 |cons j l J=>
  intro acc c f A y b x v C a q g B;simp only[List.length_cons] at a;refine⟨B _,?_⟩;have r:(ah f 97 (bA j)).lookup 64=some (.tag (21,2)):=(aJ (by decide)).trans A;have o:(ah f 97 (bA j)).lookup 42=some (.tag (1,w)):=(aJ (by decide)).trans y;have G:=I j (C j Ze);have u:∀P:MV->AS->Prop,P (.str j) ⟨c,nx,ah f 97 (bA j)⟩->bG (ac 64) (ac 97) ⟨c,nx,ah f 97 (bA j)⟩ P:=fun P h=>
   lG (aa r (aa bq ⟨.str j,by show jO (8+j) (c (21,2))=_;rw[b];exact G,h⟩))
  refine aX (gr (aK (aa bq (aa r ⟨true,?_,?_⟩))));·rw[show bA j=.str (8+j) from rfl,gG b,G];rfl
  refine gr (aK (u _ (aH o x (by decide) z rfl ⟨acc.contains j,?_,?_⟩)));·rw[iA v];exact flatIn_str
  rw[hV] at q;by_cases s:j∈acc
  ·rw[if_pos s] at q;have e:(!acc.contains j)=false:=by simp[s]
   rw[e];exact J acc _ _ r o b x v (fun i D=>C i (Zc _ D)) (Zv a) q g B
  ·rw[if_neg s] at q;have e:(!acc.contains j)=true:=by simp[s]
   rw[e];refine kG (dF ?_);refine bj (bS (aH o x (by decide) z rfl ⟨kl v,ao (u _ (ai (ds v (by simp;exact NB a rfl) ⟨rfl,?_⟩)))⟩));refine J (acc++[j]) _ _ r o (hN b) (hN x) ?_ (fun i D=>C i (Zc _ D)) (by simp;exact NA a) (fun E=>?_) g B;·rw[setH_at];unfold aI;rw[List.map_append];rfl
   ·rw[fc];exact q E
theorem oV{l acc:List Nat} {es eo}(i:∀j,j<n->es.lookup (8+j)=some (.str j)){e:List (Nat×MV)}(c:e.lookup 50=some (.tag (3,w)))(b:H (21,2)=some (.dict es eo))(f:H (1,w)=some (.inst 0 e))(g:H (3,w)=some (aI acc))(h:∀j∈l,j<n)(a:acc.length+l.length<900)(q:Q .none ⟨af H (3,w) (aI (aU acc l)),nx,m⟩):cO.1 [.tag (21,2),.tag (1,w),.lst (l.map bA)] [] ⟨H,nx,m⟩ Q:=by
 refine⟨rfl,?_⟩;show js _ _ _ ⟨H,nx,[(64,.tag (21,2)),(42,.tag (1,w)),(120,.lst (l.map bA))]⟩ _;refine cA (bu (aa rfl ⟨_,rfl,?_⟩));exact vD i c l acc H _ rfl rfl b f g h a (fun o=>q) _ fun _=>rfl
end
end
section
section
variable {n:Nat}{Ro:Nat->Rw}{st:St}{H H':aq->Option MObj}{nx:Nat}{m:List (Nat×MV)}{k j p w:Nat}{d dj dp dw:Nd}{t c:Tk}{Q:MV->AS->Prop}{P:aE->AS->Prop}
theorem R.tkLists(r:R n Ro st H nx)(G:c={ st.tk w with td:=c.td,fd:=c.fd,cd:=c.cd,pr:=c.pr })(C:H' (3,w)=some (aI c.td))(D:H' (7,w)=some (.list (c.fd.map bA)))(E:H' (8,w)=some (aI c.cd))(u:∀j,H' (17,j)=H (17,j)\/(st.tk j).told=true/\∃s,H' (17,j)=some (.dict (cS (Ro j)) s))(h:∀g i,g≠3->g≠7->g≠8->g≠17->H' (g,i)=H (g,i))(y:∀g i,i≠w->g≠17->H' (g,i)=H (g,i)):R n Ro (st.setTk w c) H' nx:=by
 have z:c.told=(st.tk w).told:=by rw[G]
 have v:∀j,j<n->if (st.tk j).told=true then ∃s,H' (17,j)=some (.dict (cS (Ro j)) s) else H' (17,j)=none:=fun j o=>by
  rcases u j with e|⟨A,B⟩
  ·refine e▸?_;exact(r.task j o).vals
  ·rw[if_pos A];exact B
 refine r.change rfl (fun i a b j=>h i j (Zn (av 20 0 4 0 a rfl)) (Zn (av 20 0 8 0 a rfl)) (Zn (av 20 0 9 0 a rfl)) (Zn (av 20 0 18 0 a rfl))) (fun i F=>(h 0 i (by decide) (by decide) (by decide) (by decide)).trans (r.tmp i F)) (fun j o=>?_)
  (fun j dj hd=>(r.node j dj hd).keep fun g l=>h g j (by unfold nG at l;exact l.elim (fun f=>(Zn (av 10 0 4 0 f.1 rfl))) fun f=>(Zn (av 100 0 4 0 f rfl))) (by unfold nG at l;exact l.elim (fun f=>(Zn (av 10 0 8 0 f.1 rfl))) fun f=>(Zn (av 100 0 8 0 f rfl))) (by unfold nG at l;exact l.elim (fun f=>(Zn (Zv f.1))) fun f=>(Zn (av 100 0 9 0 f rfl))) (by unfold nG at l;exact l.elim (fun f=>(Zh (av 0 16 1 17 f.2 rfl))) fun f=>(Zn (av 100 0 18 0 f rfl)))) fun j hd g l=>(h g j (by unfold nG at l;exact l.elim (fun f=>(Zn (av 10 0 4 0 f.1 rfl))) fun f=>(Zn (av 100 0 4 0 f rfl))) (by unfold nG at l;exact l.elim (fun f=>(Zn (av 10 0 8 0 f.1 rfl))) fun f=>(Zn (av 100 0 8 0 f rfl))) (by unfold nG at l;exact l.elim (fun f=>(Zn (Zv f.1))) fun f=>(Zn (av 100 0 9 0 f rfl))) (by unfold nG at l;exact l.elim (fun f=>(Zh (av 0 16 1 17 f.2 rfl))) fun f=>(Zn (av 100 0 18 0 f rfl)))).trans (r.nonode j hd g l)
 have x:=r.task j o;show TaskAt (Ro j) _ j (if j=w then c else st.tk j);by_cases q:j=w
 ·obtain rfl:=q.symm;refine(if_pos rfl)▸?_;refine⟨?_,C,D,E,?_⟩;·refine(h 1 w (by decide) (by decide) (by decide) (by decide))▸z▸?_;exact x.obj
  ·refine z▸?_;exact v w o
 ·refine(if_neg q)▸?_;refine⟨?_,(y 3 j q (by decide)).trans x.td,(y 7 j q (by decide)).trans x.fd,(y 8 j q (by decide)).trans x.cd,v j o⟩;refine(h 1 j (by decide) (by decide) (by decide) (by decide))▸?_;exact x.obj
theorem fe{x a:Nat}{es:List (Nat×MV)}{v:MV}{P:MV->AS->Prop}(hd:NodeAt H k d)(i:m.lookup x=some (aO k))(b:H (1,k)=some (.inst 0 es))(e:a∈dO 0)(f:es.lookup a=some v)(g:qK v=true)(h:P v ⟨H,nx,m⟩):aB (aB (ac x) 42) a ⟨H,nx,m⟩ P:=
 kU (aH (t:=(10,k)) i hd.obj (by decide) rfl rfl ⟨(1,k),E3 0 es v (A6 rfl b e f g h)⟩)
theorem iz(r:R n Ro st H nx)(e:st.nd k=some d)(f:k<n){x:Nat}{P:MV->AS->Prop}(g:m.lookup x=some (aO k))(h:P (.str k) ⟨H,nx,m⟩):aB (aB (ac x) 42) 62 ⟨H,nx,m⟩ P:=by
 refine eW ((r.task k f).obj) fun es a _ b _=>?_;exact fe (r.node k d e) g a (by decide) b rfl h
theorem dS{x a:Nat}{v:MV}{P:MV->AS->Prop}(r:R n Ro st H nx)(i:m.lookup x=some (.tag (20,0)))(b:a∈dO 3)(g:∀w,(gL w (dX st.cur)).lookup a=some v)(f:qK v=true)(h:P v ⟨H,nx,m⟩):aB (ac x) a ⟨H,nx,m⟩ P:=by
 obtain⟨w,e⟩:=r.disp;exact aH i e b (g w) f h
theorem lY(ys:List Nat):∀xs:List Nat,∃zs,aU xs ys=xs++zs/\zs.length<=ys.length:=by
 induction ys with
 |nil=>intro xs;exact⟨[],(List.append_nil _).symm,Zj _⟩
 |cons y ys a=>
  intro xs;rw[hV];split;·refine ar (a xs) fun zs e l=>?_;exact⟨zs,e,Nat.le_succ_of_le l⟩
  ·refine ar (a (xs++[y])) fun zs e l=>?_;exact⟨y::zs,by rw[e];exact List.append_assoc _ _ _,Nat.succ_le_succ l⟩
theorem wP{old:List Nat}{F:List (Nat×MV)}{T:aq}(G:T.1≠10)(x:F.lookup 52=some (.tag T)):∀(l acc:List Nat)(h:aq->Option MObj)(s:List (Nat×MV))(g:(aq->Option MObj)->Prop),(∀o,g (af h T o))->g h->s.lookup 181=some (bO old)->s.lookup 177=some (aO w)->h (10,w)=some (.inst 2 F)->h T=some (aI acc)->acc.length+l.length<900->(∀E,P .next ⟨af h T (aI (gj old l acc)),nx,E⟩)->
  dq g (ba 183) (ca (jv (bh lB (ac 183) (ac 181)) (jv (bh lB (ac 183) (aB (ac 177) 52)) fN)) (bK (b9 1 cE (aB (ac 177) 52) [(ac 183)])) bn) (l.map .str) ⟨h,nx,s⟩ P:=by
 intro l;induction l with
 |nil=>
  intro acc h s g y f r i u v A q;refine⟨f,?_⟩;have:=q s;rw[show gj old [] acc=acc from rfl,jN v] at this;exact this
 |cons j l D=>
  intro acc h s g y f r i u v A q;refine⟨f,?_⟩;have b:(ah s 183 (.str j)).lookup 181=some (bO old):=(aJ (by decide)).trans r;have a:(ah s 183 (.str j)).lookup 177=some (aO w):=(aJ (by decide)).trans i;have eq:gj old (j::l) acc=gj old l (if j∉old/\j∉acc then acc++[j] else acc):=rfl;rw[eq] at q;refine aX (gr (aK (aa bq (aa b ⟨old.contains j,?_,?_⟩))));·exact flatIn_str
  by_cases C:j∈old
  ·rw[if_neg fun z=>z.1 C] at q;have e:(!old.contains j)=false:=by simp[C]
   rw[e];exact D acc _ _ g y f b a u v (Zv A) q
  ·have e:(!old.contains j)=true:=by simp[C]
   rw[e];refine gr (aK (aa bq (aH a u (by decide) x rfl ⟨acc.contains j,?_,?_⟩)));·exact(iA v).trans (flatIn_str)
   by_cases B:j∈acc
   ·rw[if_neg fun z=>z.2 B] at q;have e:(!acc.contains j)=false:=by simp[B]
    rw[e];exact D acc _ _ g y f b a u v (Zv A) q
   ·rw[if_pos ⟨C,B⟩] at q;have e:(!acc.contains j)=true:=by simp[B]
    rw[e];refine kG (dF (oj a u (by decide) x v (by simp;exact NB A rfl) bq ?_));refine D (acc++[j]) _ _ g (fun o=>by rw[fc];exact y o) (y _) b a ((ae fun e=>G (by rw[<-e])).trans u) ?_ (by simp;exact NA A) fun E=>?_;·rw[setH_at];delta aI;rw[List.map_append];rfl
    ·rw[fc];exact q E
end
end
section
section
variable {n:Nat}{Ro:Nat->Rw}{st:St}{H H':aq->Option MObj}{nx:Nat}{m:List (Nat×MV)}{k j p w:Nat}{d dj dp dw:Nd}{t t':Tk}{Q:MV->AS->Prop}{P:aE->AS->Prop}
theorem jl{b a:Nd}:(st.setNd k b).setNd k a=st.setNd k a:=by
 delta St.setNd;dsimp only
 congr 1
 funext j;split<;>rfl
theorem jh{f:ap}{a:AS}{P:Option Int->AS->Prop}(h:f a (Ab P)):jK (some f) a P:=h
theorem ec{a:AS}{P:Option Int->AS->Prop}(h:P none a):jK none a P:=h
theorem iW{a:ap}{i g st:Option ap}{o:AS}{Q:MV->AS->Prop}(h:a o fun v c=>jK i c fun l e=>jK g e fun h f=>jK st f fun k b=>∃xs ys,bc b.H v=some xs/\g8 xs l h k=some ys/\newL ys b Q):fH a i g st o Q:=h
theorem zy{f:ap}{v:MV}{xs:List MV}{P:MV->AS->Prop}(a:∀A:MV->AS->Prop,A v ⟨H,nx,m⟩->f ⟨H,nx,m⟩ A)(b:bc H v=some xs)(h:P (.int (xs.length:Int)) ⟨H,nx,m⟩):cC iI [f] ⟨H,nx,m⟩ P:=
 cm (ao (a _ (ai ⟨v,xs,A3 rfl b h⟩)))
theorem nP{xs:List MV}{a:Int}(h:0<=a):g8 xs (some a) none none=some (xs.drop a.toNat):=if_pos h
theorem yt(old l:List Nat):∀cur:List Nat,cur.Nodup->(gj old l cur).Nodup/\(∀c,c∈gj old l cur↔c∈cur\/(c∈l/\c∉old)):=by
 induction l with
 |nil=>intro cur h;exact⟨h,fun c=>by show c∈cur↔_;simp⟩
 |cons x l e=>
  intro cur h;show(gj old l (if x∉old/\x∉cur then cur++[x] else cur)).Nodup/\∀c,c∈gj old l (if x∉old/\x∉cur then cur++[x] else cur)↔_;split
  ·rename_i q;obtain⟨a,b⟩:=e _ (cV h q.2);refine⟨a,fun c=>?_⟩;rw[b,List.mem_append,List.mem_singleton,List.mem_cons];constructor
   ·rintro ((z|rfl)|z);·exact .inl z
    ·exact .inr ⟨.inl rfl,q.1⟩
    ·exact .inr ⟨.inr z.1,z.2⟩
   ·rintro (z|⟨rfl|z,y⟩);·exact .inl (.inl z)
    ·exact .inl (.inr rfl)
    ·exact .inr ⟨z,y⟩
  ·rename_i q;obtain⟨a,b⟩:=e _ h;refine⟨a,fun c=>?_⟩;rw[b,List.mem_cons];constructor
   ·rintro (z|z);·exact .inl z
    ·exact .inr ⟨.inr z.1,z.2⟩
   ·rintro (z|⟨rfl|z,y⟩);·exact .inl z
    ·exact .inl (Decidable.byContradiction fun h=>q ⟨y,h⟩)
    ·exact .inr ⟨z,y⟩
theorem wQ(old:List Nat)(l:List Nat):∀cur:List Nat,(gj old l cur).length<=cur.length+(l.filter fun c=>decide (c∉old)).length:=by
 induction l with
 |nil=>intro cur;exact Zj _
 |cons x l b=>
  intro cur;show(gj old l (if x∉old/\x∉cur then cur++[x] else cur)).length<=_;have:=b (if x∉old/\x∉cur then cur++[x] else cur);have a:(l.filter fun c=>decide (c∉old)).length+(if x∉old then 1 else 0)=((x::l).filter fun c=>decide (c∉old)).length:=by
   by_cases q:x∉old;·simp[q]
   ·simp[q]
  refine a▸?_;by_cases q:x∉old/\x∉cur
  ·rw[if_pos q] at this ⊢;rw[if_pos q.1];simp only[List.length_append,List.length_cons,List.length_nil] at this;exact gq this
  ·rw[if_neg q] at this ⊢;exact gq this
theorem vA{old s cur:List Nat}:(gj old (old++s) cur).length<=cur.length+s.length:=by
 refine Zk (wQ _ _ _) ?_;rw[List.filter_append];have:old.filter (fun c=>decide (c∉old))=[]:=List.filter_eq_nil_iff.mpr fun a b=>by simp[b]
 refine this▸?_;exact Nat.add_le_add_left (List.length_filter_le _ _) _
set_option maxHeartbeats 1000000 in
theorem oI(r:R n Ro st H nx)(hn:n<=8)(ok:tH (Ro p))(hF:∀j∈(Ro p).tF,j<n)(ep:st.nd p=some dp)(ew:st.nd w=some dw)(hp:p<n)(hw:w<n)(ht:st.tk w=t)(told:(st.tk p).told=true)(la:t.td.length<700)(lb:t.fd.length<700)(le:t.cd.length<500)(ld:dw.td.length<700)(lc:dw.cd.length<200)(q:∀H',R n Ro ((st.setTk w (tellT (Ro p) p t)).setNd w (hY t (tellT (Ro p) p t) dw)) H' nx->Low H H' nx->Q .none ⟨H',nx,m⟩) :
  aZ.1 [.tag (20,0),aO p,aO w] [] ⟨H,nx,m⟩ Q:=by
 subst ht;have xp:=r.node p dp ep;have Y:=r.node w dw ew;have tp:=r.task p hp;have F:=r.task w hw;refine ff tp.obj fun ep1 p1 _ _ _ _ _ _ _ E=>?_;obtain⟨_,_,_,p73⟩:=E;refine ff F.obj fun u S wl w62 v w51 D w70 w98 E=>?_;obtain⟨w86,w85,w87,w73⟩:=E;obtain⟨eo,Z⟩:∃eo,H (17,p)=some (.dict (cS (Ro p)) eo):=by have:=tp.vals;rwa [if_pos told] at this
 have g1:=ok.lN;have g2:=ok.lF;have g3:=ok.lC;refine⟨rfl,?_⟩;show az _ _ ⟨H,nx,[(61,.tag (20,0)),(154,aO p),(177,aO w)]⟩ _;refine aj (aP (fe xp rfl p1 (by decide) (p73 told) rfl ?_));refine aj (aP (zy (fun A hA=>fe Y rfl S (by decide) v rfl hA) (ay F.td) ?_));refine aj (aP (nN (ay F.cd) (by simp;exact av 1 500 0 100000 le rfl) ?_ fun A hA=>fe Y rfl S (by decide) D rfl hA));rw[List.length_map];refine aj (bj (bN (kU (aH (t:=(10,w)) rfl Y.obj (by decide) rfl rfl (E2 (1,w) u (A4 rfl S w98 (ao (aa rfl (ai (ai ?_))))))))));refine pH (p:=p) (a:=(st.tk w).td) (b:=(st.tk w).fd) (e:=(st.tk w).cd) (r:=Ro p) S v w51 D w86 w85 w87 F.td F.fd F.cd Z ok (av 1 700 1 800 la rfl) (av 1 700 1 800 lb rfl) (av 1 500 1 800 le rfl) fun o=>⟨rfl,?_⟩
 generalize c:af (af (af (af H (17,p) (.dict (cS (Ro p)) (some o))) (3,w) (aI ((st.tk w).td++(Ro p).tN))) (7,w) (.list ((aU (st.tk w).fd (Ro p).tF).map bA))) (8,w) (aI (aU (st.tk w).cd (Ro p).tC))=H1;have B:∀g i,g≠3->g≠7->g≠8->g≠17->H1 (g,i)=H (g,i):=fun g i a b d e=>by
  rw[<-c,ae (aV d),ae (aV b),ae (aV a),ae (aV e)]
 have h3:H1 (3,w)=some (aI ((st.tk w).td++(Ro p).tN)):=(c▸hN (hN setH_at))
 have h7:H1 (7,w)=some (.list ((aU (st.tk w).fd (Ro p).tF).map bA)):=(c▸hN setH_at)
 have h8:H1 (8,w)=some (aI (aU (st.tk w).cd (Ro p).tC)):=by rw[<-c];exact setH_at
 have h:H1 (17,p)=some (.dict (cS (Ro p)) (some o)):=by rw[<-c];exact hN (hN (hN setH_at))
 have M:∀g i,i≠w->g≠17->H1 (g,i)=H (g,i):=fun g i a e=>by
  rw[<-c,ae (dh a),ae (dh a),ae (dh a),ae (aV e)]
 have L:∀i,i≠p->H1 (17,i)=H (17,i):=fun i a=>by
  refine c▸?_;exact hN (hN (hN (ae (dh a))))
 clear c;have C:H1 (1,w)=some (.inst 0 u):=(B 1 w (by decide) (by decide) (by decide) (by decide)).trans S;refine br r.tgt fun tes teo h21 htk=>?_;have y:H1 (21,2)=some (.dict tes teo):=(B 21 2 (by decide) (by decide) (by decide) (by decide)).trans h21;obtain⟨vd,hd⟩:=r.disp;have K:H1 (20,0)=some (.inst 3 (gL vd (dX st.cur))):=(B 20 0 (by decide) (by decide) (by decide) (by decide)).trans hd;have U:NodeAt H1 w dw:=Y.keep fun g z=>B g w (by unfold nG at z;exact z.elim (fun f=>(Zn (av 10 0 4 0 f.1 rfl))) fun f=>(Zn (av 100 0 4 0 f rfl))) (by unfold nG at z;exact z.elim (fun f=>(Zn (av 10 0 8 0 f.1 rfl))) fun f=>(Zn (av 100 0 8 0 f rfl))) (by unfold nG at z;exact z.elim (fun f=>(Zn (Zv f.1))) fun f=>(Zn (av 100 0 9 0 f rfl))) (by unfold nG at z;exact z.elim (fun f=>(Zh (av 0 16 1 17 f.2 rfl))) fun f=>(Zn (av 100 0 18 0 f rfl)));have O:lE H1 (.tag (17,p))=2:=kN h;refine aj (bj (cD (ao (aH (t:=(20,0)) rfl K (by decide) rfl rfl (ao (kU (aH (t:=(10,w)) rfl U.obj (by decide) rfl rfl (ao (bS (aa rfl ⟨O,ao (au (ao (bv (ai ⟨by decide,.inl (ai ⟨(17,p),E4 51 _ _ _ (A3 rfl h (ai (ai ?_)))⟩)⟩))))⟩))))))))));have la2:((st.tk w).td++(Ro p).tN).length<=708:=(List.length_append▸iG la g1)
 refine oV (l:=(Ro p).tF) (acc:=(st.tk w).td++(Ro p).tN) htk v y C h3 hF (uV g2 la2) ⟨rfl,?_⟩;have eT:(tellT (Ro p) p (st.tk w)).td=aU ((st.tk w).td++(Ro p).tN) (Ro p).tF:=rfl;refine ar (lY (Ro p).tF ((st.tk w).td++(Ro p).tN)) fun z1 N lz1=>?_;rw[<-eT] at N ⊢;have r2:R n Ro (st.setTk w (tellT (Ro p) p (st.tk w))) (af H1 (3,w) (aI (tellT (Ro p) p (st.tk w)).td)) nx:=
  r.tkLists rfl setH_at (hN h7) (hN h8) (fun j=>by
   by_cases e:j=p;·obtain rfl:=e.symm;exact .inr ⟨told,_,hN h⟩
   ·exact .inl (hN (L j e))) (fun g i a b d e=>(ae (aV a)).trans (B g i a b d e)) fun g i a e=>(ae (dh a)).trans (M g i a e)
 have l2:Low H (af H1 (3,w) (aI (tellT (Ro p) p (st.tk w)).td)) nx:=fun i _=>hN (B 0 i (by decide) (by decide) (by decide) (by decide));have J:af H1 (3,w) (aI (tellT (Ro p) p (st.tk w)).td) (8,w)=some (aI (tellT (Ro p) p (st.tk w)).cd):=hN h8;have s:af H1 (3,w) (aI (tellT (Ro p) p (st.tk w)).td) (1,w)=some (.inst 0 u):=hN C;have I:af H1 (3,w) (aI (tellT (Ro p) p (st.tk w)).td) (3,w)=some (aI (tellT (Ro p) p (st.tk w)).td):=setH_at;generalize af H1 (3,w) (aI (tellT (Ro p) p (st.tk w)).td)=H2 at r2 l2 J s I ⊢;clear K y C U O h3 h7 h8 h M L B;have G:(st.setTk w (tellT (Ro p) p (st.tk w))).nd w=some dw:=ew;have x:=r2.node w dw G;have lT:(tellT (Ro p) p (st.tk w)).td.length<=(st.tk w).td.length+16:=by
  refine N.symm▸List.length_append.symm▸List.length_append.symm▸?_;exact kQ g1 g2 lz1
 refine aj (aP (iW (fe x rfl s (by decide) v rfl (jh (aa rfl ⟨_,rfl,ec (ec (E2 _ _ (A3 (ay I) (nP (Int.natCast_nonneg _)) ?_)))⟩)))));refine⟨by simp;exact gq lT,.inl ?_⟩;refine List.map_drop▸?_;refine aj (bj (bS (aH (t:=(10,w)) rfl x.obj (by decide) rfl rfl ⟨kl x.td,ao (aa rfl (ai (rz x.td (zs:=((tellT (Ro p) p (st.tk w)).td.drop (st.tk w).td.length).map .str) rfl (by simp;exact iG ld (Nat.sub_le_iff_le_add'.mpr lT)) ⟨rfl,?_⟩)))⟩)));have W:=r2.ndTd G (dw.td++(tellT (Ro p) p (st.tk w)).td.drop (st.tk w).td.length);have e3:aI (dw.td++(tellT (Ro p) p (st.tk w)).td.drop (st.tk w).td.length)=.list (dw.td.map .str++((tellT (Ro p) p (st.tk w)).td.drop (st.tk w).td.length).map .str):=by unfold aI;exact congrArg _ List.map_append
 rw[e3] at W;have X:=W.node w _ (show(if w=w then _ else _)=_ from if_pos rfl);have V:af H2 (100+2*dw.g,w) (.list (dw.td.map .str++((tellT (Ro p) p (st.tk w)).td.drop (st.tk w).td.length).map .str)) (8,w)=some (aI (tellT (Ro p) p (st.tk w)).cd):=hN J fw;have c1:af H2 (100+2*dw.g,w) (.list (dw.td.map .str++((tellT (Ro p) p (st.tk w)).td.drop (st.tk w).td.length).map .str)) (1,w)=some (.inst 0 u):=hN s (Ne.symm fz);have l3:Low H (af H2 (100+2*dw.g,w) (.list (dw.td.map .str++((tellT (Ro p) p (st.tk w)).td.drop (st.tk w).td.length).map .str))) nx:=l2.tr (bP fz);generalize af H2 (100+2*dw.g,w) (.list (dw.td.map .str++((tellT (Ro p) p (st.tk w)).td.drop (st.tk w).td.length).map .str))=H3 at W X V c1 l3 ⊢;refine cA (bu (fe X rfl c1 (by decide) D rfl ⟨_,ay V,?_⟩));have lC:(tellT (Ro p) p (st.tk w)).cd.length<=(st.tk w).cd.length+8:=Zk (lZ _ _) (gq g3);refine wP (old:=(st.tk w).cd) (T:=(101+2*dw.g,w)) (by show 101+2*dw.g≠10;exact Zn (Zp (xJ rfl) (ZB _ _))) rfl (tellT (Ro p) p (st.tk w)).cd dw.cd H3 _ _ (fun o=>?_) (ay V) rfl rfl X.obj X.cd (xN lc le lC) fun m2=>?_;·exact ay (hN V (Zh (xO )))
 have r4:=W.ndCd (show(if w=w then _ else _)=_ from if_pos rfl) (gj (st.tk w).cd (tellT (Ro p) p (st.tk w)).cd dw.cd);rw[jl] at r4;exact q _ r4 (l3.tr (bP (by show 101+2*dw.g≠0;exact Zn (Zp (xJ rfl) (ZB _ _)))))
end
end
section
section
variable {n:Nat}{Ro:Nat->Rw}{st:St}{H H':aq->Option MObj}{nx:Nat}{m:List (Nat×MV)}{k j:Nat}{d f:Nd}{t:Tk}{Q:MV->AS->Prop}{P:aE->AS->Prop}
theorem rq{a:ap}{P:MV->AS->Prop}{v:MV}{xs:List MV}{g i:Nat}(e:bc H v=some xs)(l:xs.length<=100000)(c:H (g,i)=none)(h0:g≠0)(h:P (.tag (g,i)) ⟨af H (g,i) (.list xs),nx,m⟩)(b:∀A:MV->AS->Prop,A v ⟨H,nx,m⟩->a ⟨H,nx,m⟩ A):fH a none none none ⟨H,nx,m⟩ P:=
 b _ ⟨xs,xs,A3 e rfl (d9 c h0 l h)⟩
noncomputable def qN(k:Nat)(p:List Nat)(t:Tk):Nd:=⟨t.td,t.cd,p++[k],[],[],[],.none,[],[],0,0,[]⟩
noncomputable def o8(p:Option (Nat×Nd)):MV:=Option.casesOn p .none fun p=>aO p.1
noncomputable def ju(p:Option (Nat×Nd)):List Nat:=Option.casesOn p [] fun p=>p.2.anc
structure MkN(H H0:aq->Option MObj)(k:Nat)(es:List (Nat×MV))(F:List (Nat×MObj)):Prop where
 frame:∀g i,i≠k\/¬ nG g->H0 (g,i)=H (g,i)
 obj:H0 (10,k)=some (.inst 2 es)
 ten:(F.all fun x=>!(x.1 == 10))=true
 facts:∀x∈F,H0 (x.1,k)=some x.2
 free:∀g,nG g->g≠10->(F.all fun x=>!(x.1 == g))=true->H0 (g,k)=none
section
variable {H0:aq->Option MObj}{es:List (Nat×MV)}{F:List (Nat×MObj)}
theorem tO{g a i k:Nat}(h:i≠k\/¬ nG g)(b:nG a):((g,i):Nat×Nat)≠(a,k):=fun q=>by
 cases q;rcases h with h|h;·exact h rfl
 ·exact h b
theorem MkN.set(x:MkN H H0 k es F)(es':List (Nat×MV)):MkN H (af H0 (10,k) (.inst 2 es')) k es' F:=
 ⟨fun g i h=>(ae (tO h (.inl (by decide)))).trans (x.frame g i h),setH_at,x.ten,fun y b=>hN (x.facts y b) (by simpa using List.all_eq_true.mp x.ten y b),fun g c a e=>hN (x.free g c a e) a⟩
theorem MkN.upd(x:MkN H H0 k es F){g:Nat}(q:nG g)(r:g≠10)(o:MObj){p:List (Nat×MObj)}(u:(p.all fun x=>!(x.1 == 10))=true)(s:∀y∈p,y=(g,o)\/(y∈F/\y.1≠g))(l:∀e,(p.all fun x=>!(x.1 == e))=true->e≠g/\(F.all fun x=>!(x.1 == e))=true):MkN H (af H0 (g,k) o) k es p:=
 ⟨fun e i h=>(ae (tO h q)).trans (x.frame e i h),hN x.obj (Ne.symm r),u,fun y v=>by
  rcases s y v with rfl|⟨a,b⟩
  ·exact setH_at
  ·exact hN (x.facts y a) b,fun e a b c=>hN (x.free e a b (l e c).2) (l e c).1⟩
theorem MkN.new(x:MkN H H0 k es F){g:Nat}(c:nG g)(b:g≠10)(i:(F.all fun x=>!(x.1 == g))=true)(o:MObj):MkN H (af H0 (g,k) o) k es ((g,o)::F):=
 x.upd c b o (by rw[List.all_cons,x.ten,Bool.and_true];simpa using b) (fun y a=>by
  rcases List.mem_cons.mp a with rfl|a;·exact .inl rfl
  ·have:=List.all_eq_true.mp i y a;exact .inr ⟨a,by simpa using this⟩) fun l h=>by
  rw[List.all_cons,Bool.and_eq_true] at h;exact⟨fun e=>by obtain rfl:=e.symm;simp at h,h.2⟩
theorem MkN.head{g:Nat}{o o':MObj}(x:MkN H H0 k es ((g,o)::F))(b:nG g)(c:g≠10)(i:(F.all fun x=>!(x.1 == g))=true):MkN H (af H0 (g,k) o') k es ((g,o')::F):=
 x.upd b c o' x.ten (fun y a=>by
  rcases List.mem_cons.mp a with rfl|a;·exact .inl rfl
  ·have:=List.all_eq_true.mp i y a;exact .inr ⟨Zc _ a,by simpa using this⟩) fun l h=>by
  rw[List.all_cons,Bool.and_eq_true] at h;exact⟨fun e=>by obtain rfl:=e.symm;simp at h,by rw[List.all_cons,Bool.and_eq_true];exact h⟩
end
theorem zN{F:List (Nat×MObj)}{i b:Nat}(h:b<=i)(e:(F.all fun x=>Nat.blt x.1 b)=true):(F.all fun x=>!(x.1 == i))=true:=List.all_eq_true.mpr fun x a=>by
 refine(beq_eq_false_iff_ne.mpr (Zh (Zp (Zt (List.all_eq_true.mp e x a)) h))).symm▸?_;rfl
theorem fT{n:Nat}{t:aq}{C:Nat}{es es':List (Nat×MV)}{v:MV}{P:AS->Prop}(a:H t=some (.inst C es))(e:n∈dO C)(c:Nat.ble (es.length+1) 1000=true)(b:ah es n v=es')(h:P ⟨af H t (.inst C es'),nx,m⟩):o5 (.tag t) n v ⟨H,nx,m⟩ P:=by
 subst b;exact bT a e (bX c) h
theorem nZ{r:Rw}{p:Option (Nat×Nd)}(y:H (10,k)=some (.inst 2 []))(fr:∀g,nG g->g≠10->H (g,k)=none)(hp:∀j f,p=some (j,f)->NodeAt H j f/\j≠k)(tk:TaskAt r H k t)(h3:t.td.length<=900)(h8:t.cd.length<=900)(S:(ju p).length<999)(q:∀H',(∀g i,i≠k\/¬ nG g->H' (g,i)=H (g,i))->NodeAt H' k (qN k (ju p) t)->Q .none ⟨H',nx,m⟩) :
  iS.1 [.tag (10,k),.tag (1,k),o8 p] [] ⟨H,nx,m⟩ Q:=by
 refine rT tk.obj fun es t1 _ Y W _ X _=>?_;refine⟨rfl,?_⟩;show az _ _ ⟨H,nx,[(61,.tag (10,k)),(42,.tag (1,k)),(137,o8 p)]⟩ _;have M0:MkN H H k [] []:=⟨fun _ _ _=>rfl,y,rfl,fun _ h=>(nomatch h),fun g a b _=>fr g a b⟩
 have T:∀{H0 es F},MkN H H0 k es F->∀g,¬ nG g->H0 (g,k)=H (g,k):=fun x g h=>x.frame g k (.inr h);have V:¬ nG 1:=nz (by decide);have n3:¬ nG 3:=nz (by decide);have n8:¬ nG 8:=nz (by decide);have c:∀g,10<g->g<=16->nG g:=fun g a b=>.inl ⟨Zv a,b⟩;let A:List (Nat×MV):=gw k (qN k (ju p) t);refine aj (aR (aa rfl (aa rfl (fT (es':=A.take 1) y (by decide) rfl rfl ?_))));have s:=M0.set (A.take 1);generalize af H (10,k) _=H1 at s ⊢;refine aj (aR (rq (g:=100) (i:=k) (v:=.tag (3,k)) (ay ((T s 3 n3).trans tk.td)) (by simp;exact av 0 900 0 100000 h3 rfl) (s.free 100 (.inr (by decide)) (by decide) rfl) (by decide) (aa rfl (fT (es':=A.take 2) (hN s.obj) (by decide) rfl rfl ?_)) fun B R=>aH rfl ((T s 1 V).trans t1) (by decide) W rfl R));have u:=(s.new (g:=100) (.inr (by decide)) (by decide) rfl (.list (t.td.map .str))).set (A.take 2);generalize af (af H1 _ _) (10,k) _=H2 at u ⊢;refine aj (aR (rq (g:=101) (i:=k) (v:=.tag (8,k)) (ay ((T u 8 n8).trans tk.cd)) (by simp;exact av 0 900 0 100000 h8 rfl) (u.free 101 (.inr (by decide)) (by decide) rfl) (by decide) (aa rfl (fT (es':=A.take 3) (hN u.obj) (by decide) rfl rfl ?_)) fun B R=>aH rfl ((T u 1 V).trans t1) (by decide) X rfl R));have C:=(u.new (g:=101) (.inr (by decide)) (by decide) rfl (.list (t.cd.map .str))).set (A.take 3);generalize af (af H2 _ _) (10,k) _=H3 at C ⊢;refine aj (aR (bv (ai (d9 (g:=11) (i:=k) (C.free 11 (c 11 (by decide) (by decide)) (by decide) rfl) (by decide) (by decide) (aa rfl (fT (es':=A.take 4) (hN C.obj) (by decide) rfl rfl ?_))))));have w:=(C.new (g:=11) (c 11 (by decide) (by decide)) (by decide) rfl (.list [])).set (A.take 4);generalize af (af H3 _ _) (10,k) _=H4 at w ⊢;refine aj ?_;have key:∀(P:aE->AS->Prop),(∀z,MkN H z k (A.take 4) [(11,.list ((ju p).map .str)),(101,.list (t.cd.map .str)),(100,.list (t.td.map .str))]->P .next ⟨z,nx,[(61,.tag (10,k)),(42,.tag (1,k)),(137,o8 p)]⟩)->
   ca (c9 (ac 137)) (bK (b9 1 m9 (aB (ac 61) 138) [aB (ac 137) 138])) bn ⟨H4,nx,[(61,.tag (10,k)),(42,.tag (1,k)),(137,o8 p)]⟩ P:=by
  intro P h;induction p with
  |none=>exact aX (cw (aa rfl ⟨false,rfl,h H4 w⟩))
  |some pq=>
   obtain⟨j,f⟩:=pq;obtain⟨xj,hj⟩:=hp j f rfl;have o:NodeAt H4 j f:=xj.keep fun g _=>w.frame g j (.inl hj);refine aX (cw (aa rfl ⟨true,?_,?_⟩));·exact tN o.obj
   have e:=w.facts _ Ze;refine bj (bS (aH (t:=(10,k)) rfl w.obj (by decide) rfl rfl ⟨kl e,ao (aH (t:=(10,j)) rfl o.obj (by decide) rfl rfl (ai (rz e (ay o.anc) (by simp[ju] at S ⊢;exact av 1 999 0 1000 S rfl) ⟨rfl,?_⟩)))⟩));exact h _ (w.head (c 11 (by decide) (by decide)) (by decide) rfl)
 refine key _ fun z D=>?_;have e:=D.facts _ Ze;refine aj (bj (bS (aH (t:=(10,k)) rfl D.obj (by decide) rfl rfl ⟨kl e,ao (aH (t:=(1,k)) rfl ((T D 1 V).trans t1) (by decide) Y rfl (ai (ds e (by simp;exact av 1 999 1 1000 S rfl) ⟨rfl,?_⟩)))⟩)));have N:=D.head (o':=.list ((ju p).map .str++[.str k])) (c 11 (by decide) (by decide)) (by decide) rfl;generalize af z _ _=H6 at N ⊢;refine aj (aR (au (aa rfl (fT (es':=A.take 5) N.obj (by decide) rfl rfl ?_))));have E:=N.set (A.take 5);generalize af H6 _ _=H7 at E ⊢;refine aj (aR (uX (g:=12) (i:=k) (E.free 12 (c 12 (by decide) (by decide)) (by decide) rfl) (by decide) (aa rfl (fT (es':=A.take 6) (hN E.obj) (by decide) rfl rfl ?_))));have I:=(E.new (g:=12) (c 12 (by decide) (by decide)) (by decide) rfl (.set [])).set (A.take 6);generalize af (af H7 _ _) _ _=H8 at I ⊢;refine aj (aR (uX (g:=13) (i:=k) (I.free 13 (c 13 (by decide) (by decide)) (by decide) rfl) (by decide) (aa rfl (fT (es':=A.take 7) (hN I.obj) (by decide) rfl rfl ?_))));have J:=(I.new (g:=13) (c 13 (by decide) (by decide)) (by decide) rfl (.set [])).set (A.take 7);generalize af (af H8 _ _) _ _=H9 at J ⊢;refine aj (aR (iu (g:=14) (i:=k) (J.free 14 (c 14 (by decide) (by decide)) (by decide) rfl) (by decide) (aa rfl (fT (es':=A.take 8) (hN J.obj) (by decide) rfl rfl ?_))));have O:=(J.new (g:=14) (c 14 (by decide) (by decide)) (by decide) rfl (.dict [])).set (A.take 8);generalize af (af H9 _ _) _ _=Ha at O ⊢;refine aj (aR (au (aa rfl (fT (es':=A.take 9) O.obj (by decide) rfl rfl ?_))));have K:=O.set (A.take 9);generalize af Ha _ _=Hb at K ⊢;refine aj (aR (bv (ai (d9 (g:=15) (i:=k) (K.free 15 (c 15 (by decide) (by decide)) (by decide) rfl) (by decide) (by decide) (aa rfl (fT (es':=A.take 10) (hN K.obj) (by decide) rfl rfl ?_))))));have L:=(K.new (g:=15) (c 15 (by decide) (by decide)) (by decide) rfl (.list [])).set (A.take 10);generalize af (af Hb _ _) _ _=Hc at L ⊢;refine aj (aR (bv (ai (d9 (g:=16) (i:=k) (L.free 16 (c 16 (by decide) (by decide)) (by decide) rfl) (by decide) (by decide) (aa rfl (fT (es':=A.take 11) (hN L.obj) (by decide) rfl rfl ?_))))));have Z:=(L.new (g:=16) (c 16 (by decide) (by decide)) (by decide) rfl (.list [])).set (A.take 11);refine aR (au (aa rfl (fT (es':=A) Z.obj (by decide) rfl rfl ?_)));have M:=Z.set A;have G:=M.facts;refine q _ M.frame ⟨M.obj,(G (11,.list ((ju p).map .str++[.str k])) (ZC (i:=5) rfl)).trans (congrArg (fun l=>some (MObj.list l)) (show(ju p).map MV.str++[.str k]=(ju p++[k]).map .str from by rw[List.map_append];rfl)),G (12,_) (ZC (i:=4) rfl),G (13,_) (ZC (i:=3) rfl),G (14,_) (ZC (i:=2) rfl),G (15,_) (ZC (i:=1) rfl),G (16,_) (ZC (i:=0) rfl),G (100,_) (ZC (i:=7) rfl),G (101,_) (ZC (i:=6) rfl),fun h=>absurd rfl h,fun i U=>M.free i (.inr (by have:102+2*0<=i:=U;exact Zk (Zo _ _) this)) (by have:102+2*0<=i:=U;exact Zn (ZD (Zo _ _) this)) ?_⟩;have:102+2*0<=i:=U;exact zN (b:=102) this rfl
end
end
section
noncomputable def ia(st:St)(p:List Nat)(k:Nat):St:={ st.setNd k (qN k p (st.tk k)) with ord:=st.ord++[k] }
noncomputable def eu(l:List Nat)(k:Nat):List Nat:=if k∈l then l else l++[k]
section
variable {n:Nat}{Ro:Nat->Rw}{st:St}{H H':aq->Option MObj}{nx:Nat}{m:List (Nat×MV)}{k j:Nat}{d b:Nd}{t:Tk}{Q:MV->AS->Prop}{P:aE->AS->Prop}
theorem bp:(st.setNd k d).nd k=some d:=if_pos rfl
theorem cQ{i:Nat}(h:i≠k):(st.setNd k d).nd i=st.nd i:=if_neg h
theorem jL{l:List Nat}:(l.map fun j=>(j,aO j)).lookup k=if k∈l then some (aO k) else none:=by
 induction l with
 |nil=>rfl
 |cons a l c=>
  rw[List.map_cons,List.lookup_cons];by_cases h:k=a;·subst h;simp
  ·refine(beq_eq_false_iff_ne.mpr h)▸c▸?_;simp[h]
theorem ins_aput{l:List Nat}:ah (l.map fun j=>(j,aO j)) k (aO k)=(eu l k).map fun j=>(j,aO j):=by
 delta eu ah;by_cases h:k∈l
 ·rw[if_pos h,if_pos (by simp only[List.any_map,List.any_eq_true,Function.comp,beq_iff_eq];exact⟨k,h,rfl⟩),List.map_map];refine List.map_congr_left fun a _=>?_;show(if (a == k)=true then(a,aO k) else(a,aO a))=(a,aO a);split;·rename_i q;rw[eq_of_beq q]
  ·rfl
 ·rw[if_neg h,if_neg];·simp
  ·simp only[List.any_map,List.any_eq_true,Function.comp,beq_iff_eq,not_exists,not_and];intro x c e;exact h (e▸c)
theorem wZ{l:List Nat}(h:k∉l):eu l k=l++[k]:=if_neg h
theorem nB{p:Option (Nat×Nd)}(r:R n Ro st H nx)(G:k<n)(z:∀j b,p=some (j,b)->st.nd j=some b/\k∉b.anc)(c:k∈st.ord↔st.nd k≠none)(L:(st.tk k).td.length<=900)(M:(st.tk k).cd.length<=900)(N:(ju p).length<999)(O:st.ord.length<1000)(J:st.nd k≠none->Q .none ⟨H,nx,m⟩)(T:st.nd k=none->∀H',R n Ro (ia st (ju p) k) H' nx->Low H H' nx->Q (aO k) ⟨H',nx,m⟩) :
  cW.1 [.tag (20,0),o8 p,.str k] [] ⟨H,nx,m⟩ Q:=by
 refine⟨rfl,?_⟩;show az _ _ ⟨H,nx,[(61,.tag (20,0)),(137,o8 p),(129,.str k)]⟩ _;have hnd:=r.nodes;have k1:lE H (.tag (20,1))=2:=kN hnd;refine aj (aP (bS (dS r rfl (by decide) (fun _=>rfl) rfl ⟨k1,ao (aa rfl (ao (au (ai ⟨(20,1),E4 k .none _ _ (A3 rfl hnd ?_)⟩))))⟩)));rw[jL];by_cases a:st.nd k=none
 ·rw[if_neg fun h=>c.mp h a];have tk:=r.task k G;refine br r.tasks fun V U x B=>?_;refine aj (aX (aK (aa rfl (au ⟨true,A3 rfl rfl ?_⟩))));refine aj (aP (cD (ao (lG (dS r rfl (by decide) (fun _=>rfl) rfl (aa rfl ⟨.tag (1,k),?_,?_⟩))))));·show jO k (H (21,1))=_;refine x▸?_;exact B k G
  have I:=r.nonode k a;refine ao (aa rfl (ai (ai ⟨(10,k),⟨I 10 (.inl (by decide)),.inl (by show(10:Nat)≠0;decide)⟩,?_⟩)));have e:cf nx (10,k)=nx:=if_neg (by show(10:Nat)≠0;decide);dsimp only;have s:∀j b,p=some (j,b)->j≠k:=fun j b l e=>by
   have:=(z j b l).1;rw[e,a] at this;exact aQ this
  refine nZ (t:=st.tk k) (r:=Ro k) setH_at (fun g o q=>hN (I g o) q) (fun j b l=>⟨(r.node j b (z j b l).1).keep fun g _=>ae (dh (s j b l)),s j b l⟩) (tk.keep fun g o q=>ae (aV (q.elim (fun D=>(Zh (av 0 8 1 10 D rfl))) fun D=>(Zn (av 17 0 11 0 (Zd D.symm) rfl))))) L M N fun E K W=>?_;refine⟨rfl,?_⟩;have v:∀g i,i≠k\/¬ nG g->E (g,i)=H (g,i):=fun g i F=>(K g i F).trans (ae (tO F (.inl (by decide))));have u:¬ nG 20:=nz (by decide);obtain⟨w,f⟩:=r.disp;refine aj (iM (aa rfl (aH (t:=(20,0)) rfl ((v 20 0 (.inr u)).trans f) (by decide) rfl rfl (aa rfl (.inr (E4 (20,1) _ _ k (A5 rfl rfl ((v 20 1 (.inr u)).trans hnd) (by simpa using O) ?_)))))));refine aa rfl ?_;rw[show ah (st.ord.map fun j=>(j,aO j)) k (.tag (10,k))=(st.ord++[k]).map fun j=>(j,aO j) from ins_aput.trans (by rw[wZ fun h=>c.mp h a])];refine T a (af E (20,1) (mn (st.ord++[k]))) ?_ ?_;·refine r.newNd a (fun g i o q=>(ae q).trans (v g i o)) (W.keep fun g o=>ae (aV (ja o).1)) setH_at
  ·intro i X;exact hN (v 0 i (.inr (nz (by decide))))
 ·rw[if_pos (c.mpr a)];refine aj (aX (aK (aa rfl (au ⟨false,A3 rfl rfl ?_⟩))));refine aj (aX (gr (cw ?_)));cases A:p with
  |none=>exact aa rfl ⟨false,rfl,J a⟩
  |some S=>
   obtain⟨j,b⟩:=S;obtain⟨l,y⟩:=z j b A;have C:=r.node j b l;refine aa rfl ⟨true,?_,?_⟩;·exact tN C.obj
   refine gr (aK (aa rfl (aH (t:=(10,j)) rfl C.obj (by decide) rfl rfl ⟨false,?_,J a⟩)));rw[iA C.anc,flatIn_str];simpa using y
theorem r6{p:Nat×Nd}(r:R n Ro st H nx)(o:k<n)(s:st.nd p.1=some p.2/\k∉p.2.anc)(a:k∈st.ord↔st.nd k≠none)(g:(st.tk k).td.length<=900)(i:(st.tk k).cd.length<=900)(l:p.2.anc.length<999)(q:st.ord.length<1000)(u:st.ready.length<1000)(v:st.nd k≠none->Q .none ⟨H,nx,m⟩)(x:st.nd k=none->∀H',R n Ro { ia st p.2.anc k with ready:=st.ready++[k] } H' nx->Low H H' nx->Q .none ⟨H',nx,m⟩) :
  aW.1 [.tag (20,0),aO p.1,.str k] [] ⟨H,nx,m⟩ Q:=by
 refine⟨rfl,?_⟩;show az _ _ ⟨H,nx,[(61,.tag (20,0)),(137,aO p.1),(129,.str k)]⟩ _;obtain⟨w,hd⟩:=r.disp;refine aj (aP (bN (aa rfl (E2 (20,0) _ (A4 rfl hd rfl (ao (aa rfl (ao (aa rfl (ai (ai ?_)))))))))));refine nB (p:=some p) r o (fun j b e=>by obtain rfl:=Zb e;exact s) a g i l q (fun h=>?_) fun h H' c l'=>?_;·exact aX (aK (aa rfl (au ⟨true,A3 rfl rfl (v h)⟩)))
 ·refine aX (aK (aa rfl (au ⟨false,A3 rfl rfl ?_⟩)));refine bj (bS (dS c rfl (by decide) (fun _=>rfl) rfl ⟨kl c.ready,ao (aa rfl (ai (ds c.ready (by simpa[ia,St.setNd] using u) ⟨rfl,?_⟩)))⟩));have f:=c.setReady (st.ready++[k]);rw[List.map_append] at f;exact x h _ f (l'.tr bP)
end
end
section
def iE(k:Nat):Prop:=k=2\/k=4
structure RowsOK(n:Nat)(Ro:Nat->Rw):Prop where
 n:n<=7
 needs:∀k,∀j∈(Ro k).needs,j<k/\¬ iE j
 calcs:∀k,∀j∈(Ro k).calcs,j<k/\iE j
 tN:∀k,∀j∈(Ro k).tN,j<k/\¬ iE j
 tF:∀k,∀j∈(Ro k).tF,j<k/\¬ iE j
 tC:∀k,∀j∈(Ro k).tC,j<k/\iE j
 nn:∀k,(Ro k).needs.Nodup/\(Ro k).calcs.Nodup/\(Ro k).tN.Nodup/\(Ro k).tF.Nodup/\(Ro k).tC.Nodup
inductive Cl(Ro:Nat->Rw)(e:Nat->Prop)(k:Nat):Nat->Prop
 |base {c:Nat}(h:c∈(Ro k).calcs):Cl Ro e k c
 |step {c c':Nat}(x:Cl Ro e k c)(y:e c)(h:c'∈(Ro c).tC):Cl Ro e k c'
def Fl(Ro:Nat->Rw)(e:Nat->Prop)(k j:Nat):Prop:=∃c,Cl Ro e k c/\e c/\j∈(Ro c).tF
def Nl(Ro:Nat->Rw)(e:Nat->Prop)(k j:Nat):Prop:=j∈(Ro k).needs\/∃c,Cl Ro e k c/\e c/\(j∈(Ro c).tN\/j∈(Ro c).tF)
theorem Cl.mono{Ro:Nat->Rw}{e a:Nat->Prop}(h:∀j,e j->a j){k c:Nat}(x:Cl Ro e k c):Cl Ro a k c:=by
 induction x with
 |base h=>exact .base h
 |step _ y z b=>exact .step b (h _ y) z
theorem Nl.mono{Ro:Nat->Rw}{e g:Nat->Prop}(h:∀j,e j->g j){k j:Nat}(x:Nl Ro e k j):Nl Ro g k j:=
 x.imp id fun f=>by refine bz f ?_;intro c a b d;exact⟨c,A3 (a.mono h) (h _ b) d⟩
theorem Cl.ok{n:Nat}{Ro:Nat->Rw}(o:RowsOK n Ro){e:Nat->Prop}{k c:Nat}(x:Cl Ro e k c):c<k/\iE c:=by
 induction x with
 |base h=>exact o.calcs _ _ h
 |step _ _ h a=>exact⟨Zs (o.tC _ _ h).1 a.1,(o.tC _ _ h).2⟩
theorem Nl.ok{n:Nat}{Ro:Nat->Rw}(o:RowsOK n Ro){e:Nat->Prop}{k j:Nat}(x:Nl Ro e k j):j<k/\¬ iE j:=by
 rcases x with h|⟨c,a,_,h|h⟩
 ·exact o.needs _ _ h
 ·exact⟨Zs (o.tN _ _ h).1 (a.ok o).1,(o.tN _ _ h).2⟩
 ·exact⟨Zs (o.tF _ _ h).1 (a.ok o).1,(o.tF _ _ h).2⟩
noncomputable def aF(st:St)(j:Nat):RS:=Option.casesOn (st.nd j) .none Nd.rs
theorem dg{st:St}{j:Nat}{d:Nd}(e:st.nd j=some d):aF st j=d.rs:=by exact congrArg _ e
theorem kE{st:St}{j:Nat}(e:st.nd j=none):aF st j=.none:=by exact congrArg _ e
def En(st:St)(j:Nat):Prop:=aF st j≠.none
theorem En.node{st:St}{j:Nat}(h:En st j):∃d,st.nd j=some d/\d.rs≠.none:=by
 cases e:st.nd j with
 |none=>exact absurd (kE e) h
 |some d=>exact⟨d,rfl,((dg e)▸h)⟩
def cP(st:St)(v j:Nat):Prop:=st.lp=j/\v∈st.ll
def gU(st:St)(k:Nat)(d:Nd)(j:Nat):Prop:=j∈d.td\/(st.cur=some k/\j∈st.xt)
def gx(st:St)(k:Nat)(d:Nd)(j:Nat):Prop:=j∈d.cd\/(st.cur=some k/\j∈st.xc)
def Knows(st:St)(d:Nd)(j:Nat):Prop:=(aF st j=.fail->j∈d.bad)/\(aF st j=.ign->j∈d.ign)
noncomputable def uQ(r:Rw):Tk:=⟨r.needs,[],r.calcs,[],false⟩
set_option genInjectivity false in
structure Sc where
 n:Nat
 Ro:Nat->Rw
 A:Nat->Prop
 sel:List Nat
structure TA(S:Sc)(st:St)(k:Nat)(d:Nd):Prop where
 lt:k<S.n
 al:S.A k
 tdW:∀j∈(st.tk k).td,Nl S.Ro (En st) k j
 cdW:∀j∈(st.tk k).cd,Cl S.Ro (En st) k j
 fdW:∀j∈(st.tk k).fd,Fl S.Ro (En st) k j
 bs:(∀j∈(S.Ro k).needs,j∈(st.tk k).td)/\∀j∈(S.Ro k).calcs,j∈(st.tk k).cd
 prW:∀c∈(st.tk k).pr,c∈(st.tk k).cd/\En st c/\(∀j∈(S.Ro c).tN,j∈(st.tk k).td)/\(∀j∈(S.Ro c).tF,j∈(st.tk k).td/\j∈(st.tk k).fd)/\∀j∈(S.Ro c).tC,j∈(st.tk k).cd
 nd:(st.tk k).cd.Nodup/\(st.tk k).fd.Nodup/\(st.tk k).pr.Nodup
 anc:d.anc.Nodup/\∀a∈d.anc,k<=a/\a<S.n
 cnt:(st.tk k).td.length<=7+16*(st.tk k).pr.length
structure TB(S:Sc)(st:St)(k:Nat)(d:Nd):Prop where
 nd:d.wr.Nodup/\d.wc.Nodup/\d.wm.Nodup/\d.cd.Nodup/\(st.cur=some k->st.xc.Nodup/\∀i∈st.xc,i∉d.cd)
 tdL:∀j∈(st.tk k).td,gU st k d j\/j∈d.wr\/(En st j/\Knows st d j)
 cdL:∀j∈(st.tk k).cd,gx st k d j\/j∈d.wc\/(j∈(st.tk k).pr/\Knows st d j)
 pT:∀j,gU st k d j->j∈(st.tk k).td
 pC:∀j,gx st k d j->j∈(st.tk k).cd/\j∉(st.tk k).pr/\j∉d.wc
 wrW:∀j∈d.wr,j∈(st.tk k).td/\(∃dj,st.nd j=some dj/\k∈dj.wm)/\(En st j->cP st k j)
 wcW:∀j∈d.wc,j∈(st.tk k).cd/\j∉(st.tk k).pr/\(∃dj,st.nd j=some dj/\k∈dj.wm)/\(En st j->cP st k j)
 bdW:∀j∈d.bad,(j∈(st.tk k).td\/j∈(st.tk k).cd)/\aF st j=.fail
 igW:∀j∈d.ign,(j∈(st.tk k).td\/j∈(st.tk k).cd)/\aF st j=.ign
 wmW:∀v∈d.wm,(¬ En st k\/cP st v k)->∃dv,st.nd v=some dv/\(k∈dv.wr\/k∈dv.wc\/(st.cur=some v/\(k∈st.xt\/k∈st.xc)))
 cnt:d.bad.length+d.ign.length+d.wr.length+d.wc.length+d.td.length+d.cd.length<=(st.tk k).td.length+(st.tk k).cd.length
 cnh:st.cur=some k->d.bad.length+d.ign.length+d.wr.length+d.wc.length+d.td.length+d.cd.length+st.xt.length+st.xc.length<=(st.tk k).td.length+(st.tk k).cd.length
structure TC(S:Sc)(st:St)(k:Nat)(d:Nd):Prop where
 ph:d.ph=0\/(d.ph=1/\d.td=[]/\d.cd=[]/\d.wr=[]/\d.wc=[]/\(st.cur=some k->st.xt=[]/\st.xc=[]))
 rs:d.ph=0->d.rs=.none
 wait:k∈st.wait->d.ph=0/\d.td=[]/\d.cd=[]/\(d.wr≠[]\/d.wc≠[])/\k∉st.ready/\st.cur≠some k
 rdy:k∈st.ready->d.ph=0/\st.cur≠some k
 plc:d.ph=0->k∈st.wait\/k∈st.ready\/st.cur=some k
structure J(S:Sc)(st:St):Prop where
 ord:(∀k,k∈st.ord↔st.nd k≠none)/\st.ord.Nodup
 na:∀k d,st.nd k=some d->TA S st k d
 nb:∀k d,st.nd k=some d->TB S st k d
 nc:∀k d,st.nd k=some d->TC S st k d
 rdn:st.ready.Nodup/\∀k∈st.ready,st.nd k≠none
 wtn:st.wait.Nodup/\∀k∈st.wait,st.nd k≠none
 crx:∀k,st.cur=some k->st.nd k≠none
 ttr:∀k∈st.ttr,k<S.n/\S.A k
 sel:∀k∈S.sel,st.nd k≠none\/k∈st.ttr
 told:∀j,(st.tk j).told=true↔En st j/\iE j
 fresh:∀k,st.nd k=none->st.tk k=uQ (S.Ro k)
 hand:st.cur=none->st.xt=[]/\st.xc=[]
 cl:∀k,S.A k->∀j,Nl S.Ro (En st) k j\/Cl S.Ro (En st) k j->S.A j/\j<S.n
section
variable {S:Sc}{st st':St}{k i:Nat}{d d':Nd}
theorem En.congr(h:∀j,aF st' j=aF st j):En st'=En st:=funext fun j=>by unfold En;rw[h]
theorem TA.keep(x:TA S st k d)(rs:∀j,aF st' j=aF st j)(a:st'.tk k=st.tk k)(b:d'.anc=d.anc):TA S st' k d':=by
 have e:=En.congr rs;refine⟨x.lt,x.al,?_,?_,?_,?_,?_,?_,?_,?_⟩;·refine e▸a▸?_;exact x.tdW
 ·refine e▸a▸?_;exact x.cdW
 ·refine e▸a▸?_;exact x.fdW
 ·refine a▸?_;exact x.bs
 ·refine e▸a▸?_;exact x.prW
 ·refine a▸?_;exact x.nd
 ·refine b▸?_;exact x.anc
 ·refine a▸?_;exact x.cnt
theorem TC.keep(x:TC S st k d)(m:k∈st'.wait↔k∈st.wait)(l:k∈st'.ready↔k∈st.ready)(j:st'.cur=some k↔st.cur=some k)(p:st.cur=some k->st'.xt=st.xt/\st'.xc=st.xc)(e:d'={ d with wm:=d'.wm }):TC S st' k d':=by
 refine e.symm▸?_;refine⟨?_,x.rs,fun q=>?_,fun q=>?_,fun q=>?_⟩
 ·rcases x.ph with h|⟨a,b,c,f,g,h⟩
  ·exact .inl h
  ·refine .inr (A6 a b c f g (fun q=>?_));obtain⟨n,o⟩:=p (j.mp q);refine n▸o▸?_;exact h (j.mp q)
 ·refine dc (x.wait (m.mp q)) fun a b c f g h=>?_;exact A6 a b c f (fun z=>g (l.mp z)) (fun z=>h (j.mp z))
 ·obtain⟨a,b⟩:=x.rdy (l.mp q);exact⟨a,fun z=>b (j.mp z)⟩
 ·rw[m,l,j];exact x.plc q
theorem TB.keep(x:TB S st k d)(rs:∀j,aF st' j=aF st j)(n:st'.tk k=st.tk k)(D:∀j m,st.nd j=some m->∃o,st'.nd j=some o/\∀v∈m.wm,v∈o.wm)(p:st'.cur=some k↔st.cur=some k)(r:st.cur=some k->st'.xt=st.xt/\st'.xc=st.xc)(w:∀j,cP st' k j↔cP st k j)(e:d'={ d with wm:=d'.wm })(E:d'.wm.Nodup)(wm:∀v∈d'.wm,(¬ En st' k\/cP st' v k)->∃s,st'.nd v=some s/\(k∈s.wr\/k∈s.wc\/(st'.cur=some v/\(k∈st'.xt\/k∈st'.xc)))):TB S st' k d':=by
 have t:=En.congr rs;have z:∀j,gU st' k d' j↔gU st k d j:=fun j=>by
  delta gU;rw[e,p];constructor
  ·rintro (h|⟨g,l⟩);·exact .inl h
   ·rw[(r g).1] at l;exact .inr ⟨g,l⟩
  ·rintro (h|⟨g,l⟩);·exact .inl h
   ·exact .inr ⟨g,by rw[(r g).1];exact l⟩
 have pc:∀j,gx st' k d' j↔gx st k d j:=fun j=>by
  delta gx;rw[e,p];constructor
  ·rintro (h|⟨g,l⟩);·exact .inl h
   ·rw[(r g).2] at l;exact .inr ⟨g,l⟩
  ·rintro (h|⟨g,l⟩);·exact .inl h
   ·exact .inr ⟨g,by rw[(r g).2];exact l⟩
 have y:∀j,Knows st' d' j↔Knows st d j:=fun j=>by unfold Knows;rw[rs,e]
 have fn:∀{j},(∃m,st.nd j=some m/\k∈m.wm)->∃m,st'.nd j=some m/\k∈m.wm:=fun{j} u=>by
  refine ar u ?_;intro m a b;refine ar (D j m a) fun o A C=>?_;exact⟨o,A,C k b⟩
 refine⟨(A5 (e▸x.nd.1) (e▸x.nd.2.1) E (e▸x.nd.2.2.2.1) (fun q=>?_)),fun j f=>?_,fun j f=>?_,fun j f=>?_,fun j f=>?_,fun j f=>?_,fun j f=>?_,fun j f=>?_,fun j f=>?_,wm,?_,fun q=>?_⟩;·exact((r (p.mp q)).2)▸e▸x.nd.2.2.2.2 (p.mp q)
 ·rw[n] at f;rw[z,y,t,e];exact x.tdL j f
 ·rw[n] at f ⊢;rw[pc,y,e];exact x.cdL j f
 ·rw[n];exact x.pT j ((z j).mp f)
 ·rw[n,e];exact x.pC j ((pc j).mp f)
 ·replace f:=e▸f;refine bM (x.wrW j f) fun a b c=>?_;rw[n,t,w];exact A3 a (fn b) c
 ·rw[e] at f;refine gm (x.wcW j f) fun a B b c=>?_;rw[n,t,w];exact A4 a B (fn b) c
 ·rw[e] at f;rw[n,rs];exact x.bdW j f
 ·rw[e] at f;rw[n,rs];exact x.igW j f
 ·refine e▸n▸?_;exact x.cnt
 ·obtain⟨g,l⟩:=r (p.mp q);refine e▸n▸g▸l▸?_;exact x.cnh (p.mp q)
theorem J.lt(j:J S st)(h:st.nd k≠none):k<S.n:=by
 obtain⟨d,e⟩:=Option.ne_none_iff_exists'.mp h;exact(j.na k d e).lt
theorem J.self(o:RowsOK S.n S.Ro)(j:J S st)(hd:st.nd k=some d):k∉(st.tk k).td/\k∉(st.tk k).cd:=
 ⟨fun h=>Nat.lt_irrefl k (((j.na k d hd).tdW k h).ok o).1,fun h=>Nat.lt_irrefl k (((j.na k d hd).cdW k h).ok o).1⟩
theorem J.one{st4:St}{d4:Nd}(o:RowsOK S.n S.Ro)(j:J S st)(hd:st.nd k=some d)(Y:st4.nd=(st.setNd k d4).nd)(Q:st4.ord=st.ord)(R:st4.ttr=st.ttr)(tk:∀i,i≠k->st4.tk i=st.tk i)(tl:(st4.tk k).told=(st.tk k).told)(rs:d4.rs=d.rs)(wm:d4.wm=d.wm)(N:∀i,i≠k->(i∈st4.wait↔i∈st.wait))(M:∀i,i≠k->(i∈st4.ready↔i∈st.ready))(A:∀i,i≠k->(st4.cur=some i↔st.cur=some i))(D:∀i,i≠k->st.cur=some i->st4.xt=st.xt/\st4.xc=st.xc)(I:∀i j,i≠k->(cP st4 i j↔cP st i j))(O:∀j,cP st4 k j->cP st k j)(F:∀i,(¬ En st i\/cP st4 k i)->(i∈d.wr\/i∈d.wc\/(st.cur=some k/\(i∈st.xt\/i∈st.xc)))->(i∈d4.wr\/i∈d4.wc\/(st4.cur=some k/\(i∈st4.xt\/i∈st4.xc))))(Z:st4.ready.Nodup)(wn:st4.wait.Nodup)(z:st4.cur=none->st4.xt=[]/\st4.xc=[])(T:TA S st4 k d4)(U:(∀v∈d4.wm,(¬ En st4 k\/cP st4 v k)->∃g,st4.nd v=some g/\(k∈g.wr\/k∈g.wc\/(st4.cur=some v/\(k∈st4.xt\/k∈st4.xc))))->TB S st4 k d4)(V:TC S st4 k d4):J S st4/\∀i,aF st4 i=aF st i:=by
 have u:∀i,st4.nd i=if i=k then some d4 else st.nd i:=fun i=>by rw[Y];rfl
 have w:st4.nd k=some d4:=by rw[u,if_pos rfl]
 have no:∀i,i≠k->st4.nd i=st.nd i:=fun i h=>by rw[u,if_neg h]
 have ex:∀i,st4.nd i≠none↔st.nd i≠none:=fun i=>by
  rw[u];by_cases e:i=k;·obtain rfl:=e.symm;refine(if_pos rfl)▸hd▸?_;simp
  ·rw[if_neg e]
 have p:∀i,aF st4 i=aF st i:=fun i=>by
  by_cases e:i=k;·obtain rfl:=e.symm;rw[dg w,dg hd,rs]
  ·exact congrArg _ (no i e)
 have C:=En.congr p;have dk:∀{l:List Nat}{P:Nat->Prop},(∀i,i≠k->(i∈l->P i))->P k->∀i∈l,P i:=fun h X i b=>by
  by_cases e:i=k;·obtain rfl:=e.symm;exact X
  ·exact h i e b
 have t:st.nd k≠none:=(hd▸Option.some_ne_none _)
 refine⟨⟨⟨fun i=>?_,?_⟩,fun i y b=>?_,fun i y b=>?_,fun i y b=>?_,⟨Z,fun i b=>?_⟩,⟨wn,fun i b=>?_⟩,fun i b=>?_,?_,fun i b=>?_,fun i=>?_,fun i b=>?_,z,?_⟩,p⟩;·rw[Q,ex,j.ord.1]
 ·refine Q.symm▸?_;exact j.ord.2
 ·by_cases e:i=k;·obtain rfl:=e.symm;rw[w] at b;obtain rfl:=Zb b;exact T
  ·rw[no i e] at b;exact(j.na i y b).keep p (tk i e) rfl
 ·by_cases e:i=k
  ·obtain rfl:=e.symm;rw[w] at b;obtain rfl:=Zb b;refine U fun v r q=>?_;have x:=j.nb k d hd;rw[C] at q;rw[wm] at r;by_cases c:v=k
   ·obtain rfl:=c.symm;exfalso;refine ar (x.wmW k r (q.imp id (O k))) fun g m f=>?_;rw[hd] at m;obtain rfl:=Zb m;have s:=j.self o hd;rcases f with h|h|⟨h,f|f⟩
    ·exact s.1 (x.wrW k h).1
    ·exact s.2 (x.wcW k h).1
    ·exact s.1 (x.pT k (.inr ⟨h,f⟩))
    ·exact s.2 (x.pC k (.inr ⟨h,f⟩)).1
   ·refine ar (x.wmW v r (q.imp id (I v k c).mp)) fun g m f=>?_;refine⟨g,((no v c).trans (m)),f.imp id (Or.imp id fun⟨B,K⟩=>⟨(A v c).mpr B,?_⟩)⟩;obtain⟨G,H⟩:=D v c B;refine G▸H▸?_;exact K
  ·rw[no i e] at b;have E:=j.nb i y b;refine E.keep p (tk i e) (fun a W z=>?_) (A i e) (D i e) (fun a=>I i a e) rfl E.nd.2.2.1 fun v r q=>?_
   ·by_cases L:a=k;·obtain rfl:=L.symm;rw[hd] at z;obtain rfl:=Zb z;exact⟨d4,w,fun v r=>(wm▸r)⟩
    ·exact⟨W,((no a L)▸z),fun _ h=>h⟩
   ·rw[C] at q;by_cases c:v=k
    ·obtain rfl:=c.symm;refine ar (E.wmW k r (q.imp id (O i))) fun g m f=>?_;rw[hd] at m;obtain rfl:=Zb m;exact⟨d4,w,F i q f⟩
    ·refine ar (E.wmW v r (q.imp id (I v i c).mp)) fun g m f=>?_;refine⟨g,((no v c)▸m),f.imp id (Or.imp id fun⟨B,K⟩=>⟨(A v c).mpr B,?_⟩)⟩;obtain⟨G,H⟩:=D v c B;refine G▸H▸?_;exact K
 ·by_cases e:i=k;·obtain rfl:=e.symm;rw[w] at b;obtain rfl:=Zb b;exact V
  ·rw[no i e] at b;exact(j.nc i y b).keep (N i e) (M i e) (A i e) (D i e) rfl
 ·rw[ex];by_cases e:i=k;·subst e;exact t
  ·exact j.rdn.2 i ((M i e).mp b)
 ·rw[ex];by_cases e:i=k;·subst e;exact t
  ·exact j.wtn.2 i ((N i e).mp b)
 ·rw[ex];by_cases e:i=k;·subst e;exact t
  ·exact j.crx i ((A i e).mp b)
 ·refine R▸?_;exact j.ttr
 ·rw[ex,R];exact j.sel i b
 ·refine C.symm▸?_;by_cases e:i=k;·obtain rfl:=e.symm;refine tl▸?_;exact j.told k
  ·refine(tk i e)▸?_;exact j.told i
 ·have e:i≠k:=fun e=>by obtain rfl:=e.symm;replace b:=w.symm.trans b;exact jF b
  replace b:=(no i e).symm.trans b;refine(tk i e)▸?_;exact j.fresh i b
 ·refine C▸?_;exact j.cl
end
end
section
section
variable {S:Sc}{st st' st4:St}{k i j:Nat}{d d4 s:Nd}{r:RS}
theorem kS(a:st4.nd=(st.setNd k d4).nd)(hd:st.nd k=some d)(h:d4.rs=d.rs):∀i,aF st4 i=aF st i:=fun i=>by
 delta aF;refine a▸?_;by_cases e:i=k;·obtain rfl:=e.symm;refine bp▸hd▸?_;exact h
 ·exact congrArg _ (cQ e)
theorem lD{v:Nat}(c:st4.nd=(st.setNd k d4).nd)(hd:st.nd k=some d)(h:d4.wm=d.wm)(x:∃s,st.nd j=some s/\v∈s.wm):∃s,st4.nd j=some s/\v∈s.wm:=by
 refine c.symm▸?_;by_cases e:j=k;·subst e;refine ar x ?_;intro s a b;rw[hd] at a;obtain rfl:=Zb a;exact⟨d4,bp,(h▸b)⟩
 ·refine(cQ e).symm▸?_;exact x
theorem Knows.iff(rs:∀i,aF st' i=aF st i):Knows st' d i↔Knows st d i:=by delta Knows;rw[rs]
structure Noted(r:RS)(j:Nat)(d d4:Nd):Prop where
 bad:∀i,i∈d4.bad↔i∈d.bad\/(i=j/\r=.fail)
 ign:∀i,i∈d4.ign↔i∈d.ign\/(i=j/\r=.ign)
 len:d4.bad.length+d4.ign.length<=d.bad.length+d.ign.length+1
theorem mX(r:RS)(j:Nat)(d:Nd):r.note j d={ d with bad:=(r.note j d).bad,ign:=(r.note j d).ign }/\Noted r j d (r.note j d):=by
 induction r<;>exact⟨rfl,fun i=>by simp[RS.note],fun i=>by simp[RS.note],by simp[RS.note]<;>exact sL ⟩
theorem Noted.knows(x:Noted (aF st j) j d d4)(h:i=j\/Knows st d i):Knows st d4 i:=by
 delta Knows;rw[x.bad,x.ign];rcases h with rfl|h;·exact⟨fun q=>.inr ⟨rfl,q⟩,fun q=>.inr ⟨rfl,q⟩⟩
 ·exact⟨fun q=>.inl (h.1 q),fun q=>.inl (h.2 q)⟩
structure Only(st st4:St)(k:Nat)(d d4:Nd):Prop where
 n4:st4.nd=(st.setNd k d4).nd
 e4:st4={ st with nd:=st4.nd,tk:=st4.tk,xt:=st4.xt,xc:=st4.xc,ll:=st4.ll }
 f4:d4.anc=d.anc/\d4.wm=d.wm/\d4.rs=d.rs/\d4.ph=d.ph
 hh:st.cur=some k\/(st4.xt=st.xt/\st4.xc=st.xc)
 hl:∀i,i≠k->(i∈st4.ll↔i∈st.ll)
 ld:k∈st4.ll->k∈st.ll
 tk:∀i,i≠k->st4.tk i=st.tk i
 tl:(st4.tk k).told=(st.tk k).told
theorem Only.rs(x:Only st st4 k d d4)(hd:st.nd k=some d):∀i,aF st4 i=aF st i:=kS x.n4 hd x.f4.2.2.1
theorem Only.late(x:Only st st4 k d d4):∀i j,i≠k->(cP st4 i j↔cP st i j):=fun i j h=>by
 delta cP;rw[x.hl i h,x.e4]
theorem J.only(o:RowsOK S.n S.Ro)(b:J S st)(hd:st.nd k=some d)(x:Only st st4 k d d4)(g:∀i,(¬ En st i\/cP st4 k i)->(i∈d.wr\/i∈d.wc\/(st.cur=some k/\(i∈st.xt\/i∈st.xc)))->(i∈d4.wr\/i∈d4.wc\/(st.cur=some k/\(i∈st4.xt\/i∈st4.xc))))(p:TA S st4 k d4)(t:(∀v∈d4.wm,(¬ En st4 k\/cP st4 v k)->∃l,st4.nd v=some l/\(k∈l.wr\/k∈l.wc\/(st4.cur=some v/\(k∈st4.xt\/k∈st4.xc))))->TB S st4 k d4)(u:d.ph=0->k∈st.wait->d4.td=[]/\d4.cd=[]/\(d4.wr≠[]\/d4.wc≠[]))(w:d.ph=1->d4.td=[]/\d4.cd=[]/\d4.wr=[]/\d4.wc=[]/\(st.cur=some k->st4.xt=[]/\st4.xc=[])):J S st4:=by
 have c:=b.nc k d hd;have f:st4.wait=st.wait:=by rw[x.e4]
 have e:st4.ready=st.ready:=by rw[x.e4]
 have a:st4.cur=st.cur:=by rw[x.e4]
 refine(b.one o hd x.n4 (by rw[x.e4]) (by rw[x.e4]) x.tk x.tl x.f4.2.2.1 x.f4.2.1 (fun _ _=>(f▸Iff.rfl)) (fun _ _=>(e▸Iff.rfl)) (fun _ _=>(a▸Iff.rfl)) (fun i h q=>?_) x.late (fun j q=>⟨by rw[<-q.1,x.e4],x.ld q.2⟩) (a▸g) (e▸b.rdn.1) (f▸b.wtn.1) (fun q=>?_) p t ⟨?_,fun h=>?_,fun h=>?_,fun h=>?_,fun h=>?_⟩).1
 ·rcases x.hh with h'|h';·rw[h'] at q;obtain rfl:=Zb q;exact absurd rfl h
  ·exact h'
 ·replace q:=a.symm.trans q;rcases x.hh with h'|h';·rw[h'] at q;exact jF q
  ·exact h'.1▸h'.2▸b.hand q
 ·refine x.f4.2.2.2▸a▸?_;rcases c.ph with h|h;·exact .inl h
  ·exact .inr ⟨h.1,w h.1⟩
 ·refine x.f4.2.2.1▸?_;rw[x.f4.2.2.2] at h;exact c.rs h
 ·rw[f] at h;refine dc (c.wait h) fun m D E F y z=>?_;refine x.f4.2.2.2▸e▸a▸?_;refine bM (u m h) fun A B C=>?_;exact A6 m A B C y z
 ·rw[e] at h;refine x.f4.2.2.2▸a▸?_;exact c.rdy h
 ·rw[x.f4.2.2.2] at h;refine f▸e▸a▸?_;exact c.plc h
theorem J.look(o:RowsOK S.n S.Ro)(f:J S st)(hd:st.nd k=some d)(x:Only st st4 k d d4)(c:st4.tk k=st.tk k)(I:d.ph=0)(kl:k∉st4.ll)(m:∀i,¬ En st i->(i∈d.wr\/i∈d.wc\/(st.cur=some k/\(i∈st.xt\/i∈st.xc)))->(i∈d4.wr\/i∈d4.wc\/(st.cur=some k/\(i∈st4.xt\/i∈st4.xc))))(F:∀i,Knows st d i->Knows st d4 i)(pT:∀i,gU st k d i->gU st4 k d4 i\/i∈d4.wr\/(En st i/\Knows st d4 i))(w:∀i,gU st4 k d4 i->gU st k d i)(pC:∀i,gx st k d i->gx st4 k d4 i\/i∈d4.wc)(v:∀i,gx st4 k d4 i->gx st k d i/\i∉d4.wc)(N:∀i∈d.wr,i∈d4.wr\/(En st i/\Knows st d4 i))(A:∀i∈d4.wr,¬ En st i/\(i∈d.wr\/(gU st k d i/\∃s,st.nd i=some s/\k∈s.wm)))(M:∀i∈d.wc,i∈d4.wc)(y:∀i∈d4.wc,¬ En st i/\(i∈d.wc\/(gx st k d i/\∃s,st.nd i=some s/\k∈s.wm)))(G:∀i∈d4.bad,i∈d.bad\/(i∈(st.tk k).td/\aF st i=.fail))(K:∀i∈d4.ign,i∈d.ign\/(i∈(st.tk k).td/\aF st i=.ign))(u:d4.wr.Nodup/\d4.wc.Nodup/\d4.cd.Nodup)(L:st.cur=some k->st4.xc.Nodup/\∀i∈st4.xc,i∉d4.cd)(l:d4.bad.length+d4.ign.length+d4.wr.length+d4.wc.length+d4.td.length+d4.cd.length<=(st.tk k).td.length+(st.tk k).cd.length)(g:st.cur=some k->d4.bad.length+d4.ign.length+d4.wr.length+d4.wc.length+d4.td.length+d4.cd.length+st4.xt.length+st4.xc.length<=(st.tk k).td.length+(st.tk k).cd.length)(H:k∈st.wait->d4.td=[]/\d4.cd=[]/\(d4.wr≠[]\/d4.wc≠[])):J S st4:=by
 have b:=f.nb k d hd;have rs:=x.rs hd;have p:=En.congr rs;have E:st4.cur=st.cur:=by rw[x.e4]
 refine f.only o hd x (fun i q=>m i (q.elim id fun z=>absurd z.2 kl)) ((f.na k d hd).keep rs c x.f4.1) (fun wm=>⟨(A5 u.1 u.2.1 (by rw[x.f4.2.1];exact b.nd.2.2.1) u.2.2 (by rw[E];exact L)),fun i a=>?_,fun i a=>?_,fun i a=>?_,fun i a=>?_,fun i a=>?_,fun i a=>?_,fun i a=>?_,fun i a=>?_,wm,(c▸l),(E▸c▸g)⟩) (fun _=>H) fun h=>by rw[I] at h;exact absurd h (by decide)
 ·rw[c] at a;rw[p,Knows.iff rs];rcases b.tdL i a with h|h|h;·exact pT i h
  ·exact .inr (N i h)
  ·exact .inr (.inr ⟨h.1,F i h.2⟩)
 ·rw[c] at a ⊢;rw[Knows.iff rs];rcases b.cdL i a with h|h|h;·exact(pC i h).imp id .inl
  ·exact .inr (.inl (M i h))
  ·exact .inr (.inr ⟨h.1,F i h.2⟩)
 ·rw[c];exact b.pT i (w i a)
 ·rw[c];obtain⟨B,C⟩:=v i a;refine bM (b.pC i B) fun D O _=>?_;exact A3 D O C
 ·rw[c,p];obtain⟨h0,h|⟨e,t⟩⟩:=A i a;·exact A3 ((b.wrW i h).1) (lD x.n4 hd x.f4.2.1 (b.wrW i h).2.1) (fun q=>absurd q h0)
  ·exact A3 (b.pT i e) (lD x.n4 hd x.f4.2.1 t) (fun q=>absurd q h0)
 ·rw[c,p];obtain⟨h0,h|⟨e,t⟩⟩:=y i a
  ·refine gm (b.wcW i h) fun B C D _=>?_;exact A4 B C (lD x.n4 hd x.f4.2.1 D) (fun q=>absurd q h0)
  ·exact A4 ((b.pC i e).1) ((b.pC i e).2.1) (lD x.n4 hd x.f4.2.1 t) (fun q=>absurd q h0)
 ·rw[c,rs];rcases G i a with h|h;·exact b.bdW i h
  ·exact⟨.inl h.1,h.2⟩
 ·rw[c,rs];rcases K i a with h|h;·exact b.igW i h
  ·exact⟨.inl h.1,h.2⟩
theorem RowsOK.rw{n:Nat}{Ro:Nat->Rw}(o:RowsOK n Ro){c:Nat}(f:c<n):tH (Ro c):=by
 refine je (o.nn c) fun _ _ a b e=>?_;have g:=o.n;have l:∀{l:List Nat},l.Nodup->(∀j∈l,j<c)->l.length<=8:=fun h h'=>Zk (aN h h') (bR 1 0 0 7 0 8 f g rfl);exact⟨fun j h=>by have:=(o.tN c j h).1;exact bR 2 0 0 7 1 8 (bR 1 0 1 0 2 0 this f rfl) g rfl,fun j h=>by have:=(o.tF c j h).1;exact bR 2 0 0 7 1 8 (bR 1 0 1 0 2 0 this f rfl) g rfl,l a fun j h=>(o.tN c j h).1,l b fun j h=>(o.tF c j h).1,l e fun j h=>(o.tC c j h).1⟩
theorem Bc{a b c:Nat}(h:a<=7+16*b)(k:c<=8+8):a+c<=7+16*(b+(0+1)):=iG h k
theorem Bf{B I f g w c t q a T C m z x y:Nat}(l:f+g<=B+I+1)(e:a<=q+z)(p:0<y)(h:B+I+w+c+t+q+x+y<=T+C):f+g+w+c+(t+m)+a+x+(y - 1)<=T+m+(C+z):=mo l e h (Zd (Zu p))
theorem Be{B I f g w c t q a T C m z:Nat}(l:f+g<=B+I+1)(e:a<=q+z)(p:0<c)(h:B+I+w+c+t+q<=T+C):f+g+w+(c - 1)+(t+m)+a<=T+m+(C+z):=mo l e h (Zd (Zu p))
theorem Bd{B I f g w c t q a T C m z x y:Nat}(l:f+g<=B+I+1)(e:a<=q+z)(p:0<c)(h:B+I+w+c+t+q+x+y<=T+C):f+g+w+(c - 1)+(t+m)+a+x+y<=T+m+(C+z):=mo l e h (Zd (Zu p))
theorem J.tell(o:RowsOK S.n S.Ro)(J0:J S st)(hd:st.nd k=some d)(x:Only st st4 k d d4)(hp:d.ph=0)(kl:k∉st4.ll){c:Nat}(X:En st c)(K:st4.tk k=tellT (S.Ro c) c (st.tk k))(d1:d4.td=d.td++(st4.tk k).td.drop (st.tk k).td.length)(d2:d4.cd=gj (st.tk k).cd (st4.tk k).cd d.cd)(V:d4.wr=d.wr)(nt:Noted (aF st c) c d d4)(ex:st4.xt=st.xt)(t:(st.cur=some k/\c∈st.xc/\d4.wc=d.wc/\st4.xc=st.xc.erase c)\/(c∈d.wc/\d4.wc=d.wc.erase c/\st4.xc=st.xc))(N:∀i∈d.wr++d.wc,i≠c->¬ En st i)(hw:k∉st.wait):J S st4:=by
 have a:=J0.na k d hd;have b:=J0.nb k d hd;have rs:=x.rs hd;have P:=En.congr rs;have W:st4.cur=st.cur:=by rw[x.e4]
 refine ar (lY (S.Ro c).tF ((st.tk k).td++(S.Ro c).tN)) fun zd hzd lzd=>?_;have I:(st4.tk k).td=(st.tk k).td++((S.Ro c).tN++zd):=by rw[K];show aU _ _=_;rw[hzd,List.append_assoc]
 have u:∀i,i∈(st4.tk k).td↔i∈(st.tk k).td\/i∈(S.Ro c).tN\/i∈(S.Ro c).tF:=fun i=>by
  rw[K];show i∈aU _ _↔_;rw[mem_addAll,List.mem_append,or_assoc]
 replace d1:=List.drop_left▸I▸d1;have F:∀i,i∈(st4.tk k).td↔i∈(st.tk k).td\/i∈(S.Ro c).tN++zd:=fun i=>by rw[I,List.mem_append]
 refine ar (lY (S.Ro c).tC (st.tk k).cd) fun zc hzc lzc=>?_;have T:(st4.tk k).cd=(st.tk k).cd++zc:=by rw[K];exact hzc
 have g:∀i,i∈(st4.tk k).cd↔i∈(st.tk k).cd\/i∈(S.Ro c).tC:=fun i=>(K▸mem_addAll)
 have G:∀i,i∈(st4.tk k).fd↔i∈(st.tk k).fd\/i∈(S.Ro c).tF:=fun i=>by rw[K];exact mem_addAll
 have R:(st4.tk k).pr=(st.tk k).pr++[c]:=(K▸rfl)
 have w:∀i,i∈(st4.tk k).pr↔i∈(st.tk k).pr\/i=c:=fun i=>by rw[R];simp
 obtain⟨nd4,C⟩:=yt (st.tk k).cd (st4.tk k).cd d.cd b.nd.2.2.2.1;rw[<-d2] at nd4 C;have H:d4.cd.length<=d.cd.length+zc.length:=(d2▸T▸vA)
 have D:c∈(st.tk k).cd/\c∉(st.tk k).pr/\c∉d.cd:=by
  rcases t with⟨A,E,_⟩|⟨A,_⟩
  ·refine bM (b.pC c (.inr ⟨A,E⟩)) fun v B _=>?_;exact A3 v B ((b.nd.2.2.2.2 A).2 c E)
  ·refine bM (b.wcW c A) fun v B _=>?_;exact A3 v B (fun h=>(b.pC c (.inl h)).2.2 A)
 have U:=a.cdW c D.1;have Z:∀i∈d.wc,i=c\/i∈d4.wc:=fun i f=>by
  rcases t with⟨_,_,h,_⟩|⟨_,h,_⟩
  ·refine h▸?_;exact .inr f
  ·refine h▸?_;by_cases e:i=c;·exact .inl e
   ·exact .inr ((List.mem_erase_of_ne e).mpr f)
 have L:∀i∈d4.wc,i∈d.wc/\i≠c:=fun i f=>by
  rcases t with⟨A,E,h,_⟩|⟨_,h,_⟩
  ·replace f:=h▸f;exact⟨f,fun e=>(b.pC c (.inr ⟨A,E⟩)).2.2 (e▸f)⟩
  ·replace f:=h▸f;have:=(b.nd.2.1.mem_erase_iff).mp f;exact⟨this.2,this.1⟩
 have hxc:∀i,st.cur=some k->i∈st.xc->i=c\/i∈st4.xc:=fun i q f=>by
  rcases t with⟨_,_,_,h⟩|⟨_,_,h⟩
  ·refine h.symm▸?_;by_cases e:i=c;·exact .inl e
   ·exact .inr ((List.mem_erase_of_ne e).mpr f)
  ·exact h▸.inr f
 have M:∀i,st.cur=some k->i∈st4.xc->i∈st.xc/\i≠c:=fun i q f=>by
  rcases t with⟨_,_,_,h⟩|⟨h0,_,h⟩
  ·rw[h] at f;have:=((b.nd.2.2.2.2 q).1.mem_erase_iff).mp f;exact⟨this.2,this.1⟩
  ·replace f:=h▸f;exact⟨f,fun e=>(b.pC i (.inr ⟨q,f⟩)).2.2 (e▸h0)⟩
 have Q:∀i,i∈d4.td↔i∈d.td\/i∈(S.Ro c).tN++zd:=fun i=>by rw[d1,List.mem_append]
 have Ni:∀i,i∈(S.Ro c).tN\/i∈(S.Ro c).tF->Nl S.Ro (En st) k i:=fun i h=>.inr ⟨c,A3 U X h⟩;have kn:∀i,(i=c\/Knows st d i)->Knows st d4 i:=fun i h=>nt.knows h;refine J0.only o hd x (fun i q h=>?_) ?_ (fun wm=>?_) (fun _ h=>absurd h hw) fun h=>by rw[hp] at h;exact absurd h (by decide)
 ·have q:¬ En st i:=q.elim id fun z=>absurd z.2 kl;have Y:i≠c:=fun e=>q (e▸X);rcases h with h|h|⟨h,z|z⟩
  ·exact .inl (V▸h)
  ·exact .inr (.inl ((Z i h).resolve_left Y))
  ·exact .inr (.inr ⟨h,.inl (ex▸z)⟩)
  ·exact .inr (.inr ⟨h,.inr ((hxc i h z).resolve_left Y)⟩)
 ·have lc:c<S.n:=Zs (U.ok o).1 a.lt;have rw':=o.rw lc;refine⟨a.lt,a.al,fun i f=>?_,fun i f=>?_,fun i f=>?_,⟨fun i f=>(u i).mpr (.inl (a.bs.1 i f)),fun i f=>(g i).mpr (.inl (a.bs.2 i f))⟩,fun i f=>?_,(A3 ?_ ?_ ?_),(x.f4.1▸a.anc),?_⟩;·exact P▸((u i).mp f).elim (a.tdW i) (Ni i)
  ·refine P▸?_;exact((g i).mp f).elim (a.cdW i) (Cl.step U X)
  ·refine P▸?_;exact((G i).mp f).elim (a.fdW i) fun h=>⟨c,A3 U X h⟩
  ·refine P▸?_;rcases (w i).mp f with h|rfl
   ·refine je (a.prW i h) fun v B O z4 z5=>?_;exact A5 ((g i).mpr (.inl v)) B (fun j q=>(u j).mpr (.inl (O j q))) (fun j q=>⟨(u j).mpr (.inl (z4 j q).1),(G j).mpr (.inl (z4 j q).2)⟩) (fun j q=>(g j).mpr (.inl (z5 j q)))
   ·exact A5 ((g i).mpr (.inl D.1)) X (fun j q=>(u j).mpr (.inr (.inl q))) (fun j q=>⟨(u j).mpr (.inr (.inr q)),(G j).mpr (.inr q)⟩) (fun j q=>(g j).mpr (.inr q))
  ·rw[K];exact iP a.nd.1
  ·rw[K];exact iP a.nd.2.1
  ·refine R.symm▸?_;exact cV a.nd.2.2 D.2.1
  ·refine R▸I▸?_;simp only[List.length_append,List.length_cons,List.length_nil];exact Bc a.cnt (Nat.add_le_add rw'.lN (Zk lzd rw'.lF))
 ·have cnt:d4.bad.length+d4.ign.length+d4.wr.length+d4.wc.length+d4.td.length+d4.cd.length<=(st4.tk k).td.length+(st4.tk k).cd.length/\(st.cur=some k->d4.bad.length+d4.ign.length+d4.wr.length+d4.wc.length+d4.td.length+d4.cd.length+st4.xt.length+st4.xc.length<=(st4.tk k).td.length+(st4.tk k).cd.length):=by
   have l:=nt.len;rw[I,T,d1,V,ex];simp only[List.length_append];rcases t with⟨A,E,h3,h4⟩|⟨A,E,h3⟩
   ·refine h3▸h4▸List.length_erase_of_mem E▸?_;have y:=fun m=>Bf (m:=m) l H (List.length_pos_of_mem E) (b.cnh A);exact⟨Zk (Zk (ZB _ _) (ZB _ _)) (y _),fun _=>y _⟩
   ·refine E▸h3▸List.length_erase_of_mem A▸?_;have p:=List.length_pos_of_mem A;exact⟨Be l H p b.cnt,fun q=>Bd l H p (b.cnh q)⟩
  have xt4:∀i,(st4.cur=some k/\i∈st4.xt)↔(st.cur=some k/\i∈st.xt):=fun i=>by rw[W,ex]
  refine⟨(A5 (V▸b.nd.1) ?_ (x.f4.2.1▸b.nd.2.2.1) nd4 (fun q=>?_)),fun i f=>?_,fun i f=>?_,fun i f=>?_,fun i f=>?_,fun i f=>?_,fun i f=>?_,fun i f=>?_,fun i f=>?_,wm,cnt.1,by rw[W];exact cnt.2⟩
  ·rcases t with⟨_,_,h,_⟩|⟨_,h,_⟩
   ·refine h▸?_;exact b.nd.2.1
   ·refine h▸?_;exact b.nd.2.1.erase c
  ·rw[W] at q;obtain⟨v,B⟩:=b.nd.2.2.2.2 q;refine⟨?_,fun i f h=>?_⟩
   ·rcases t with⟨_,_,_,h⟩|⟨_,_,h⟩
    ·refine h▸?_;exact v.erase c
    ·refine h▸?_;exact v
   ·have:=M i q f;rcases (C i).mp h with y|y;·exact B i this.1 y
    ·exact y.2 (b.pC i (.inr ⟨q,this.1⟩)).1
  ·rw[P,Knows.iff rs];rcases (F i).mp f with h|h
   ·rcases b.tdL i h with y|y|y;·refine .inl (y.imp (fun y=>(Q i).mpr (.inl y)) fun y=>(xt4 i).mpr y)
    ·exact .inr (.inl (V▸y))
    ·exact .inr (.inr ⟨y.1,kn i (.inr y.2)⟩)
   ·exact .inl (.inl ((Q i).mpr (.inr h)))
  ·rw[Knows.iff rs];by_cases h:i∈(st.tk k).cd
   ·rcases b.cdL i h with(y|⟨y1,y2⟩)|y|y;·exact .inl (.inl ((C i).mpr (.inl y)))
    ·rcases hxc i y1 y2 with rfl|z;·exact .inr (.inr ⟨(w i).mpr (.inr rfl),kn i (.inl rfl)⟩)
     ·exact .inl (.inr ⟨(W.trans (y1)),z⟩)
    ·rcases Z i y with rfl|z;·exact .inr (.inr ⟨(w i).mpr (.inr rfl),kn i (.inl rfl)⟩)
     ·exact .inr (.inl z)
    ·exact .inr (.inr ⟨(w i).mpr (.inl y.1),kn i (.inr y.2)⟩)
   ·exact .inl (.inl ((C i).mpr (.inr ⟨f,h⟩)))
  ·rcases f with h|h
   ·rcases (Q i).mp h with y|y;·exact(F i).mpr (.inl (b.pT i (.inl y)))
    ·exact(F i).mpr (.inr y)
   ·exact(F i).mpr (.inl (b.pT i (.inr ((xt4 i).mp h))))
  ·have key:i≠c/\(i∉(st.tk k).pr)/\i∈(st4.tk k).cd/\i∉d.wc:=by
    rcases f with h|⟨A,E⟩
    ·rcases (C i).mp h with y|y
     ·refine bM (b.pC i (.inl y)) fun v B O=>?_;exact A4 (fun e=>D.2.2 (e▸y)) B ((g i).mpr (.inl v)) O
     ·exact A4 (fun e=>y.2 (e▸D.1)) (fun q=>y.2 (a.prW i q).1) y.1 (fun q=>y.2 (b.wcW i q).1)
    ·rw[W] at A;have y:=M i A E;refine bM (b.pC i (.inr ⟨A,y.1⟩)) fun v B O=>?_;exact A4 y.2 B ((g i).mpr (.inl v)) O
   exact A3 key.2.2.1 (fun q=>((w i).mp q).elim key.2.1 key.1) (fun q=>key.2.2.2 (L i q).1)
  ·replace f:=V▸f;refine bM (b.wrW i f) fun v B O=>?_;have hni:i≠c:=fun e=>((a.tdW i v).ok o).2 (e▸(U.ok o).2);exact A3 ((u i).mpr (.inl v)) (lD x.n4 hd x.f4.2.1 B) (fun q=>absurd (by rw[P] at q;exact q) (N i (List.mem_append_left _ f) hni))
  ·obtain⟨A,E⟩:=L i f;refine gm (b.wcW i A) fun v B O z4=>?_;exact A4 ((g i).mpr (.inl v)) (fun q=>((w i).mp q).elim B E) (lD x.n4 hd x.f4.2.1 O) (fun q=>absurd (by rw[P] at q;exact q) (N i (List.mem_append_right _ A) E))
  ·rw[rs];rcases (nt.bad i).mp f with h|⟨rfl,h⟩
   ·obtain⟨v,B⟩:=b.bdW i h;exact⟨v.imp (fun z=>(u i).mpr (.inl z)) fun z=>(g i).mpr (.inl z),B⟩
   ·exact⟨.inr ((g i).mpr (.inl D.1)),h⟩
  ·rw[rs];rcases (nt.ign i).mp f with h|⟨rfl,h⟩
   ·obtain⟨v,B⟩:=b.igW i h;exact⟨v.imp (fun z=>(u i).mpr (.inl z)) fun z=>(g i).mpr (.inl z),B⟩
   ·exact⟨.inr ((g i).mpr (.inl D.1)),h⟩
end
end
section
section
variable {S:Sc}{st st' st4:St}{k i j p:Nat}{d d4 a dp:Nd}{r:RS}
theorem J.notEn(f:J S st)(hd:st.nd k=some d)(g:st.ll=[]):(∀i∈d.wr,¬ En st i)/\∀i∈d.wc,¬ En st i:=by
 have b:=f.nb k d hd;have e:∀{i},cP st k i->False:=fun h=>by have:=h.2;rw[g] at this;cases this
 exact⟨fun i c q=>e ((b.wrW i c).2.2 q),fun i c q=>e ((b.wcW i c).2.2.2 q)⟩
theorem J.round(o:RowsOK S.n S.Ro)(c:J S st)(hd:st.nd k=some d)(e:st.cur=some k)(f:st.xt=[]/\st.xc=[])(m:d.ph=0)(l:st.ll=[]) :J S { st.setNd k d.rnd with xt:=d.td,xc:=d.cd }:=by
 delta Nd.rnd;have b:=c.nb k d hd;obtain⟨q,nc⟩:=c.notEn hd l;have kl:k∉st.ll:=by rw[l];exact fun h=>nomatch h
 refine c.look o hd (d4:={ d with td:=[],cd:=[],g:=d.g+1,pc:=d.cd }) ⟨rfl,rfl,(A4 rfl rfl rfl rfl),.inl e,fun _ _=>Iff.rfl,id,fun _ _=>rfl,rfl⟩ rfl m kl (fun i _ h=>?_) (fun _ h=>h) (fun i h=>.inl (.inr ⟨e,?_⟩)) (fun i h=>?_) (fun i h=>.inl (.inr ⟨e,?_⟩)) (fun i h=>?_)
  (fun i h=>.inl h) (fun i h=>⟨q i h,.inl h⟩) (fun i h=>h) (fun i h=>⟨nc i h,.inl h⟩) (fun i h=>.inl h) (fun i h=>.inl h) (A3 b.nd.1 b.nd.2.1 .nil) (fun _=>⟨b.nd.2.2.2.1,by simp⟩) ?_ (fun _=>?_) fun h=>absurd e ((c.nc k d hd).wait h).2.2.2.2.2
 ·rcases h with h|h|⟨_,h|h⟩
  ·exact .inl h
  ·exact .inr (.inl h)
  ·rw[f.1] at h;cases h
  ·rw[f.2] at h;cases h
 ·exact h.elim id fun h=>by rw[f.1] at h;cases h.2
 ·rcases h with h|h;·cases h
  ·exact .inl h.2
 ·exact h.elim id fun h=>by rw[f.2] at h;cases h.2
 ·rcases h with h|h;·cases h
  ·exact⟨.inl h.2,(b.pC i (.inl h.2)).2.2⟩
 ·have:=b.cnt;simp only[List.length_nil];exact gq this
 ·have:=b.cnt;simp only[List.length_nil];omega
theorem J.doneT(o:RowsOK S.n S.Ro)(s:J S st)(hd:st.nd k=some d)(f:st.cur=some k)(I:d.ph=0)(B:st.ll=[])(u:j∈st.xt)(A:En st j):J S { st.setNd k ((aF st j).note j d) with xt:=st.xt.erase j }:=by
 have b:=s.nb k d hd;obtain⟨K,nc⟩:=s.notEn hd B;have kl:k∉st.ll:=(B▸fun h=>nomatch h)
 obtain⟨e,m⟩:=mX (aF st j) j d;generalize (aF st j).note j d=d4 at e m ⊢;have w:d4.wr=d.wr/\d4.wc=d.wc/\d4.td=d.td/\d4.cd=d.cd/\d4.anc=d.anc/\d4.wm=d.wm/\d4.rs=d.rs/\d4.ph=d.ph:=by rw[e];exact A8 rfl rfl rfl rfl rfl rfl rfl rfl
 refine dc w ?_;clear w;intro g c t l E v;obtain⟨F,G,H⟩:=v;clear e;have C:=b.pT j (.inr ⟨f,u⟩);have D:∀i,(i=j\/Knows st d i)->Knows st d4 i:=fun i h=>m.knows h;have x:∀i,i∈st.xt->i=j\/i∈st.xt.erase j:=fun i h=>by
  by_cases q:i=j;·exact .inl q
  ·exact .inr ((List.mem_erase_of_ne q).mpr h)
 have l1:=m.len;have l2:=List.length_erase_of_mem u;have l3:=List.length_pos_of_mem u;refine s.look o hd (d4:=d4) ⟨rfl,rfl,(A4 E F G H),.inl f,fun _ _=>Iff.rfl,id,fun _ _=>rfl,rfl⟩ rfl I kl (fun i q h=>?_) (fun i h=>D i (.inr h)) (fun i h=>?_) (fun i h=>?_) (fun i h=>.inl (by unfold gx;rw[l];exact h)) (fun i h=>?_)
  (fun i h=>.inl (by rw[g];exact h)) (fun i h=>by rw[g] at h;exact⟨K i h,.inl h⟩) (fun i h=>by rw[c];exact h) (fun i h=>by rw[c] at h;exact⟨nc i h,.inl h⟩) (fun i h=>?_) (fun i h=>?_) (g▸c▸l▸(A3 b.nd.1 b.nd.2.1 b.nd.2.2.2.1)) (l▸b.nd.2.2.2.2) ?_ (fun _=>?_) fun h=>absurd f ((s.nc k d hd).wait h).2.2.2.2.2
 ·refine g.symm▸c.symm▸?_;rcases h with h|h|⟨y,h|h⟩
  ·exact .inl h
  ·exact .inr (.inl h)
  ·exact .inr (.inr ⟨y,.inl ((x i h).resolve_left fun z=>q (z▸A))⟩)
  ·exact .inr (.inr ⟨y,.inr h⟩)
 ·rcases h with h|⟨_,h⟩
  ·exact .inl (.inl (t▸h))
  ·rcases x i h with rfl|h;·exact .inr (.inr ⟨A,D i (.inl rfl)⟩)
   ·exact .inl (.inr ⟨f,h⟩)
 ·rcases h with h|h;·exact .inl (t▸h)
  ·exact .inr ⟨f,List.mem_of_mem_erase h.2⟩
 ·have h':gx st k d i:=by unfold gx at h ⊢;rw[l] at h;exact h
  refine c.symm▸?_;exact⟨h',(b.pC i h').2.2⟩
 ·rcases (m.bad i).mp h with h|⟨rfl,h⟩
  ·exact .inl h
  ·exact .inr ⟨C,h⟩
 ·rcases (m.ign i).mp h with h|⟨rfl,h⟩
  ·exact .inl h
  ·exact .inr ⟨C,h⟩
 ·have:=b.cnh f;rw[g,c,t,l];exact kQ l1 l3 this
 ·have:=b.cnh f;show _+(st.xt.erase j).length+st.xc.length<=_;rw[g,c,t,l,l2];exact kQ l1 this (Zd (Zu l3))
theorem J.drop(o:RowsOK S.n S.Ro)(e:J S st)(hd:st.nd k=some d)(f:st.cur=some k)(m:d.ph=0)(g:st.ll=[]){x':List Nat}(l:∀i,i∈x'↔i∈st.xt)(c:x'.length<=st.xt.length):J S { st with xt:=x' }:=by
 have b:=e.nb k d hd;obtain⟨s,nc⟩:=e.notEn hd g;have kl:k∉st.ll:=by rw[g];exact fun h=>nomatch h
 have q:st.nd=(st.setNd k d).nd:=by rw[St.setNd_self hd]
 have iff:∀i,gU { st with xt:=x' } k d i↔gU st k d i:=fun i=>by
  unfold gU;rw[show({ st with xt:=x' }:St).xt=x' from rfl,l]
 refine e.look o hd (d4:=d) ⟨q,rfl,(A4 rfl rfl rfl rfl),.inl f,fun _ _=>Iff.rfl,id,fun _ _=>rfl,rfl⟩ rfl m kl (fun i _ h=>?_) (fun _ h=>h) (fun i h=>.inl ((iff i).mpr h)) (fun i h=>(iff i).mp h) (fun i h=>.inl h) (fun i h=>⟨h,(b.pC i h).2.2⟩)
  (fun i h=>.inl h) (fun i h=>⟨s i h,.inl h⟩) (fun i h=>h) (fun i h=>⟨nc i h,.inl h⟩) (fun i h=>.inl h) (fun i h=>.inl h) (A3 b.nd.1 b.nd.2.1 b.nd.2.2.2.1) b.nd.2.2.2.2 b.cnt (fun _=>?_) fun h=>absurd f ((e.nc k d hd).wait h).2.2.2.2.2
 ·refine h.imp id (Or.imp id fun z=>⟨z.1,z.2.imp (l i).mpr id⟩)
 ·have:=b.cnh f;dsimp only[List.length_nil,St.setNd];exact iG c this
theorem J.waitT(o:RowsOK S.n S.Ro)(e:J S st)(hd:st.nd k=some d)(c:st.cur=some k)(m:d.ph=0)(f:st.ll=[])(g:∀i∈st.xt,¬ En st i/\∃a,st.nd i=some a/\k∈a.wm):J S { st.setNd k { d with wr:=aU d.wr st.xt } with xt:=[] }:=by
 have b:=e.nb k d hd;obtain⟨q,nc⟩:=e.notEn hd f;have kl:k∉st.ll:=(f▸fun h=>nomatch h)
 have l1:=lZ st.xt d.wr;refine e.look o hd (d4:={ d with wr:=aU d.wr st.xt }) ⟨rfl,rfl,(A4 rfl rfl rfl rfl),.inl c,fun _ _=>Iff.rfl,id,fun _ _=>rfl,rfl⟩ rfl m kl (fun i _ h=>?_) (fun _ h=>h) (fun i h=>?_) (fun i h=>?_) (fun i h=>.inl h) (fun i h=>⟨h,(b.pC i h).2.2⟩)
  (fun i h=>.inl (mem_addAll.mpr (.inl h))) (fun i h=>?_) (fun i h=>h) (fun i h=>⟨nc i h,.inl h⟩) (fun i h=>.inl h) (fun i h=>.inl h) (A3 (iP b.nd.1) b.nd.2.1 b.nd.2.2.2.1) b.nd.2.2.2.2 ?_ (fun _=>?_) fun h=>absurd c ((e.nc k d hd).wait h).2.2.2.2.2
 ·rcases h with h|h|⟨l,h|h⟩
  ·exact .inl (mem_addAll.mpr (.inl h))
  ·exact .inr (.inl h)
  ·exact .inl (mem_addAll.mpr (.inr h))
  ·exact .inr (.inr ⟨l,.inr h⟩)
 ·rcases h with h|h;·exact .inl (.inl h)
  ·exact .inr (.inl (mem_addAll.mpr (.inr h.2)))
 ·rcases h with h|h;·exact .inl h
  ·cases h.2
 ·rcases mem_addAll.mp h with h|h;·exact⟨q i h,.inl h⟩
  ·exact⟨(g i h).1,.inr ⟨.inr ⟨c,h⟩,(g i h).2⟩⟩
 ·have:=b.cnh c;dsimp only[List.length_nil,St.setNd];exact iG l1 this
 ·have:=b.cnh c;dsimp only[List.length_nil,St.setNd];exact iG l1 this
theorem J.waitC(o:RowsOK S.n S.Ro)(e:J S st)(hd:st.nd k=some d)(c:st.cur=some k)(m:d.ph=0)(f:st.ll=[])(g:∀i∈st.xc,¬ En st i/\∃a,st.nd i=some a/\k∈a.wm):J S { st.setNd k { d with wc:=aU d.wc st.xc } with xc:=[] }:=by
 have b:=e.nb k d hd;obtain⟨q,nc⟩:=e.notEn hd f;have kl:k∉st.ll:=(f▸fun h=>nomatch h)
 have l1:=lZ st.xc d.wc;refine e.look o hd (d4:={ d with wc:=aU d.wc st.xc }) ⟨rfl,rfl,(A4 rfl rfl rfl rfl),.inl c,fun _ _=>Iff.rfl,id,fun _ _=>rfl,rfl⟩ rfl m kl (fun i _ h=>?_) (fun _ h=>h) (fun i h=>.inl h) (fun i h=>h) (fun i h=>?_) (fun i h=>?_)
  (fun i h=>.inl h) (fun i h=>⟨q i h,.inl h⟩) (fun i h=>mem_addAll.mpr (.inl h)) (fun i h=>?_) (fun i h=>.inl h) (fun i h=>.inl h) (A3 b.nd.1 (iP b.nd.2.1) b.nd.2.2.2.1) (fun _=>⟨.nil,by simp⟩) ?_ (fun _=>?_) fun h=>absurd c ((e.nc k d hd).wait h).2.2.2.2.2
 ·rcases h with h|h|⟨l,h|h⟩
  ·exact .inl h
  ·exact .inr (.inl (mem_addAll.mpr (.inl h)))
  ·exact .inr (.inr ⟨l,.inl h⟩)
  ·exact .inr (.inl (mem_addAll.mpr (.inr h)))
 ·rcases h with h|h;·exact .inl (.inl h)
  ·exact .inr (mem_addAll.mpr (.inr h.2))
 ·rcases h with h|h
  ·refine⟨.inl h,fun z=>?_⟩;rcases mem_addAll.mp z with z|z;·exact(b.pC i (.inl h)).2.2 z
   ·exact(b.nd.2.2.2.2 c).2 i z h
  ·cases h.2
 ·rcases mem_addAll.mp h with h|h;·exact⟨nc i h,.inl h⟩
  ·exact⟨(g i h).1,.inr ⟨.inr ⟨c,h⟩,(g i h).2⟩⟩
 ·have:=b.cnh c;dsimp only[List.length_nil,St.setNd];exact iG l1 this
 ·have:=b.cnh c;dsimp only[List.length_nil,St.setNd];exact iG l1 this
end
end
section
section
variable {S:Sc}{st st' st4:St}{k i j p w:Nat}{d d4 f dp dw:Nd}{r:RS}
theorem TB.place(x:TB S st k d)(rs:∀j,aF st4 j=aF st j)(n:st4.tk k=st.tk k)(E:∀{j v},(∃f,st.nd j=some f/\v∈f.wm)->∃f,st4.nd j=some f/\v∈f.wm)(F:st.cur=some k->st.xt=[]/\st.xc=[])(m:st4.cur=some k->st4.xt=[]/\st4.xc=[])(D:∀j,cP st4 k j↔cP st k j)(e:d4={ d with ph:=d4.ph })(wm:∀v∈d4.wm,(¬ En st4 k\/cP st4 v k)->∃z,st4.nd v=some z/\(k∈z.wr\/k∈z.wc\/(st4.cur=some v/\(k∈st4.xt\/k∈st4.xc)))):TB S st4 k d4:=by
 have A:=En.congr rs;have J:d4.td=d.td/\d4.cd=d.cd/\d4.wr=d.wr/\d4.wc=d.wc/\d4.wm=d.wm/\d4.bad=d.bad/\d4.ign=d.ign:=by rw[e];exact A7 rfl rfl rfl rfl rfl rfl rfl
 refine dc J ?_;intro B t s o K C;obtain⟨u,y⟩:=C;have nil:∀{l l':List Nat}{P:Prop}{i:Nat},P/\i∈l->(P->l=[])->False:=fun h h'=>by have:=h.2;replace this:=(h' h.1)▸this;cases this
 have H:∀i,gU st4 k d4 i↔gU st k d i:=fun i=>by
  delta gU;refine B▸?_;exact⟨fun h=>h.elim .inl fun h=>(nil (l':=[]) h fun q=>(m q).1).elim,fun h=>h.elim .inl fun h=>(nil (l':=[]) h fun q=>(F q).1).elim⟩
 have pc:∀i,gx st4 k d4 i↔gx st k d i:=fun i=>by
  delta gx;refine t▸?_;exact⟨fun h=>h.elim .inl fun h=>(nil (l':=[]) h fun q=>(m q).2).elim,fun h=>h.elim .inl fun h=>(nil (l':=[]) h fun q=>(F q).2).elim⟩
 have G:∀i,Knows st4 d4 i↔Knows st d i:=fun i=>by unfold Knows;rw[rs,u,y]
 refine⟨(A5 (by rw[s];exact x.nd.1) (by rw[o];exact x.nd.2.1) (by rw[K];exact x.nd.2.2.1) (by rw[t];exact x.nd.2.2.2.1) (fun q=>?_)),fun j g=>?_,fun j g=>?_,fun j g=>?_,fun j g=>?_,fun j g=>?_,fun j g=>?_,fun j g=>?_,fun j g=>?_,wm,?_,fun q=>?_⟩;·rw[(m q).2];exact⟨.nil,by simp⟩
 ·rw[n] at g;rw[H,G,A,s];exact x.tdL j g
 ·rw[n] at g ⊢;rw[pc,G,o];exact x.cdL j g
 ·rw[n];exact x.pT j ((H j).mp g)
 ·rw[n,o];exact x.pC j ((pc j).mp g)
 ·replace g:=s▸g;refine bM (x.wrW j g) fun a b c=>?_;rw[n,A,D];exact A3 a (E b) c
 ·rw[o] at g;refine gm (x.wcW j g) fun a I b c=>?_;rw[n,A,D];exact A4 a I (E b) c
 ·rw[u] at g;rw[n,rs];exact x.bdW j g
 ·rw[y] at g;rw[n,rs];exact x.igW j g
 ·rw[B,t,s,o,u,y,n];exact x.cnt
 ·rw[B,t,s,o,u,y,n,(m q).1,(m q).2];exact x.cnt
theorem J.place(o:RowsOK S.n S.Ro)(c:J S st)(hd:st.nd k=some d)(e:st4.nd=(st.setNd k d4).nd)(b:st4={ st with nd:=st4.nd,wait:=st4.wait,ready:=st4.ready,cur:=st4.cur })(m:d4={ d with ph:=d4.ph })(C:∀i,i≠k->(i∈st4.wait↔i∈st.wait))(B:∀i,i≠k->(i∈st4.ready↔i∈st.ready))(A:∀i,i≠k->(st4.cur=some i↔st.cur=some i))(a:(st.xt=[]/\st.xc=[])\/(st4.cur=st.cur/\st.cur≠some k))(D:st4.ready.Nodup)(E:st4.wait.Nodup)(u:TC S st4 k d4):J S st4:=by
 have v:d4.wr=d.wr/\d4.wc=d.wc/\d4.wm=d.wm/\d4.rs=d.rs/\d4.anc=d.anc:=by rw[m];exact A5 rfl rfl rfl rfl rfl
 refine je v ?_;intro x y s t z;have g:st4.xt=st.xt:=by rw[b]
 have l:st4.xc=st.xc:=by rw[b]
 have tk:st4.tk=st.tk:=by rw[b]
 have lt:∀i j,cP st4 i j↔cP st i j:=fun i j=>by unfold cP;rw[b]
 have rs:=kS e hd t;refine(c.one o hd e (by rw[b]) (by rw[b]) (fun i _=>by rw[tk]) (by rw[tk]) t s C B A (fun _ _ _=>⟨g,l⟩) (fun i j _=>lt i j) (fun j h=>(lt k j).mp h) (fun i _ h=>?_) D E (fun q=>?_) ((c.na k d hd).keep rs (by rw[tk]) z) (fun wm=>(c.nb k d hd).place rs (by rw[tk]) (lD e hd s) (fun q=>?_) (fun q=>?_) (fun j=>lt k j) m wm) u).1
 ·refine x▸y▸?_;rcases h with h|h|⟨h,h'⟩
  ·exact .inl h
  ·exact .inr (.inl h)
  ·rcases a with a|a;·rw[a.1,a.2] at h';rcases h' with h'|h'<;>cases h'
   ·exact absurd h a.2
 ·refine g▸l▸?_;rcases a with a|a;·exact a
  ·exact c.hand (a.1▸q)
 ·rcases a with a|a;·exact a
  ·exact absurd q a.2
 ·rw[g,l];rcases a with a|a;·exact a
  ·rw[a.1] at q;exact absurd q a.2
theorem lj(hd:st.nd k=some d):st.nd=(st.setNd k d).nd:=by rw[St.setNd_self hd]
theorem vJ{l:List Nat}(h:i≠k):i∈l.filter (fun j=>!(j == k))↔i∈l:=by simp[List.mem_filter,h]
theorem J.woke(o:RowsOK S.n S.Ro)(a:J S st)(e:k∈st.wait):J S { st with ready:=st.ready++[k],wait:=st.wait.filter fun j=>!(j == k) }:=by
 obtain⟨d,hd⟩:=Option.ne_none_iff_exists'.mp (a.wtn.2 k e);have c:=a.nc k d hd;refine dc (c.wait e) fun g m q s l b=>?_;refine a.place o hd (d4:=d) (lj hd) rfl rfl (fun i h=>vJ h) (fun i h=>by simp[h]) (fun _ _=>Iff.rfl) (.inr ⟨rfl,b⟩) (cV a.rdn.1 l) (a.wtn.1.filter _) ⟨c.ph,c.rs,fun h=>?_,fun _=>⟨g,b⟩,fun _=>.inr (.inl (by simp))⟩;exact absurd h (by simp[List.mem_filter])
theorem oO{l:List Nat}(h:l.Nodup):(eu l k).Nodup:=by
 delta eu;split;·exact h
 ·rename_i q;exact cV h q
theorem mem_insL{l:List Nat}:i∈eu l k↔i∈l\/i=k:=by
 delta eu;split;·rename_i h;exact⟨.inl,fun q=>q.elim id fun e=>e▸h⟩
 ·simp
theorem J.toWait(o:RowsOK S.n S.Ro)(a:J S st)(hd:st.nd k=some d)(b:st.cur=some k)(m:d.ph=0)(s:st.xt=[]/\st.xc=[])(e:d.td=[])(g:d.cd=[])(l:d.wr≠[]\/d.wc≠[]):J S { st with wait:=eu st.wait k,cur:=none }:=by
 have c:=a.nc k d hd;refine a.place o hd (d4:=d) (lj hd) rfl rfl (fun i h=>by show i∈eu _ _↔_;rw[mem_insL];simp[h]) (fun i h=>Iff.rfl) (fun i h=>by rw[b];simp[Ne.symm h]) (.inl s) a.rdn.1 (oO a.wtn.1) ⟨c.ph.imp id fun h=>(A6 h.1 h.2.1 h.2.2.1 h.2.2.2.1 h.2.2.2.2.1 (fun q=>nomatch q)),c.rs,fun h=>(A6 m e g l (fun q=>(c.rdy q).2 b) (fun q=>nomatch q)),fun h=>absurd b (c.rdy h).2,fun _=>.inl (mem_insL.mpr (.inr rfl))⟩
theorem J.give(o:RowsOK S.n S.Ro)(a:J S st)(hd:st.nd k=some d)(b:st.cur=some k)(e:st.xt=[]/\st.xc=[])(g:d.td=[])(l:d.cd=[])(m:d.wr=[])(q:d.wc=[]):J S (st.setNd k { d with ph:=1 }):=by
 have c:=a.nc k d hd;refine a.place o hd (d4:={ d with ph:=1 }) rfl rfl rfl (fun _ _=>Iff.rfl) (fun _ _=>Iff.rfl) (fun _ _=>Iff.rfl) (.inl e) a.rdn.1 a.wtn.1 ⟨.inr (A6 rfl g l m q (fun _=>e)),(fun h=>nomatch (show(1:Nat)=0 from h)),fun h=>absurd b (c.wait h).2.2.2.2.2,fun h=>absurd b (c.rdy h).2,(fun h=>nomatch (show(1:Nat)=0 from h))⟩
theorem J.leave(o:RowsOK S.n S.Ro)(b:J S st)(hd:st.nd k=some d)(e:st.cur=some k)(g:d.ph=1):J S { st with cur:=none }:=by
 have c:=b.nc k d hd;have a:=c.ph.resolve_left (by rw[g];decide);refine b.place o hd (d4:=d) (lj hd) rfl rfl (fun _ _=>Iff.rfl) (fun _ _=>Iff.rfl) (fun i h=>by rw[e];simp[Ne.symm h]) (.inl (a.2.2.2.2.2 e)) b.rdn.1 b.wtn.1 ⟨.inr (A6 a.1 a.2.1 a.2.2.1 a.2.2.2.1 a.2.2.2.2.1 (fun q=>nomatch q)),c.rs,fun h=>absurd e (c.wait h).2.2.2.2.2,fun h=>absurd e (c.rdy h).2,fun h=>by rw[g] at h;exact absurd h (by decide)⟩
theorem J.pop(o:RowsOK S.n S.Ro)(a:J S st)(g:st.cur=none){l:List Nat}(e:st.ready=k::l):J S { st with ready:=l,cur:=some k }:=by
 have b:k∈st.ready:=by rw[e];exact Ze
 obtain⟨d,hd⟩:=Option.ne_none_iff_exists'.mp (a.rdn.2 k b);have c:=a.nc k d hd;have m:=a.rdn.1;rw[e] at m;obtain⟨q,s⟩:=List.nodup_cons.mp m;refine a.place o hd (d4:=d) (lj hd) rfl rfl (fun _ _=>Iff.rfl) (fun i h=>by rw[e];simp[h]) (fun i h=>by rw[g];simp[Ne.symm h]) (.inl (a.hand g)) s a.wtn.1 ⟨.inl (c.rdy b).1,c.rs,fun h=>absurd b (c.wait h).2.2.2.2.1,fun h=>absurd h q,fun _=>.inr (.inr rfl)⟩
theorem J.setTtr(a:J S st){tt:List Nat}(c:∀i∈tt,i∈st.ttr)(b:∀i∈S.sel,st.nd i≠none\/i∈tt):J S { st with ttr:=tt }:=
 ⟨a.ord,fun k d h=>(a.na k d h).keep (fun _=>rfl) rfl rfl,fun k d h=>(a.nb k d h).keep (fun _=>rfl) rfl (fun j f e=>⟨f,e,fun _ h=>h⟩) Iff.rfl (fun _=>⟨rfl,rfl⟩) (fun _=>Iff.rfl) rfl (a.nb k d h).nd.2.2.1 (a.nb k d h).wmW,fun k d h=>(a.nc k d h).keep Iff.rfl Iff.rfl Iff.rfl (fun _=>⟨rfl,rfl⟩) rfl,a.rdn,a.wtn,a.crx,fun k h=>a.ttr k (c k h),b,a.told,a.fresh,a.hand,a.cl⟩
end
end
section
section
variable {S:Sc}{st st' st4:St}{k i j p w:Nat}{d d4 c dp dw:Nd}{r:RS}
theorem J.addWm(o:RowsOK S.n S.Ro)(f:J S st)(hd:st.nd k=some d)(G:st.cur=some k)(D:st.nd j=some c)(V:j∈st.xt\/j∈st.xc)(t:d4={ c with wm:=eu c.wm k })(W:st4.nd=(st.setNd j d4).nd)(Y:st4={ st with nd:=st4.nd }):J S st4/\j≠k:=by
 have b:=f.nb k d hd;have H:j≠k:=fun e=>by
  have s:=f.self o hd;subst e;rcases V with h|h;·exact s.1 (b.pT j (.inr ⟨G,h⟩))
  ·exact s.2 (b.pC j (.inr ⟨G,h⟩)).1
 have X:d4.wm=eu c.wm k:=by rw[t]
 have A:d4={ c with wm:=d4.wm }:=by rw[t]
 clear t;have rs:=kS W D (by rw[A]);have F:=En.congr rs;have I:∀i,st4.nd i=if i=j then some d4 else st.nd i:=fun i=>by rw[W];rfl
 have E:st4.tk=st.tk/\st4.ord=st.ord/\st4.wait=st.wait/\st4.ready=st.ready/\st4.ttr=st.ttr/\st4.cur=st.cur/\st4.xt=st.xt/\st4.xc=st.xc/\(∀i a,cP st4 i a↔cP st i a):=by rw[Y];exact A9 rfl rfl rfl rfl rfl rfl rfl rfl (fun _ _=>Iff.rfl)
 refine dc E ?_;intro z N O R P M;obtain⟨u,B,C,Q⟩:=M;have ex:∀i,st4.nd i≠none↔st.nd i≠none:=fun i=>by
  rw[I];split;·rename_i e;refine e▸D▸?_;simp
  ·exact Iff.rfl
 have get:∀{i g},st4.nd i=some g->∃l,st.nd i=some l/\g={ l with wm:=g.wm }/\(g.wm=l.wm\/(i=j/\g.wm=eu l.wm k)):=fun{i g} h=>by
  rw[I] at h;split at h;·rename_i e;obtain rfl:=Zb h;exact⟨c,A3 (e▸D) A (.inr ⟨e,X⟩)⟩
  ·exact⟨g,A3 h rfl (.inl rfl)⟩
 have put:∀{i g},st.nd i=some g->∃m,st4.nd i=some m/\m.wr=g.wr/\m.wc=g.wc/\∀v∈g.wm,v∈m.wm:=fun{i g} h=>by
  rw[I];split
  ·rename_i e;obtain rfl:=e.symm;rw[D] at h;obtain rfl:=Zb h;exact⟨d4,A4 rfl (by rw[A]) (by rw[A]) (fun v q=>by rw[X];exact mem_insL.mpr (.inl q))⟩
  ·exact⟨g,A4 h rfl rfl (fun _ h=>h)⟩
 refine⟨⟨⟨fun i=>by rw[ex,N];exact f.ord.1 i,by rw[N];exact f.ord.2⟩,fun i g h=>?_,fun i g h=>?_,fun i g h=>?_,by rw[R];exact⟨f.rdn.1,fun i h=>(ex i).mpr (f.rdn.2 i h)⟩,by rw[O];exact⟨f.wtn.1,fun i h=>(ex i).mpr (f.wtn.2 i h)⟩,fun i h=>(ex i).mpr (f.crx i (by rw[<-u];exact h)),by rw[P];exact f.ttr,fun i h=>by rw[ex,P];exact f.sel i h,by rw[F,z];exact f.told,fun i h=>?_,by rw[u,B,C];exact f.hand,by rw[F];exact f.cl⟩,H⟩
 ·refine bz (get h) fun l h0 e _=>?_;exact(f.na i l h0).keep rs (by rw[z]) (by rw[e])
 ·refine bz (get h) fun l h0 e U=>?_;have x:=f.nb i l h0;refine x.keep rs (by rw[z]) (fun a da Z=>?_) (by rw[u]) (fun _=>⟨B,C⟩) (Q i) e ?_ fun v q T=>?_;·refine eW (put Z) fun m L _ _ z4=>?_;exact⟨m,L,z4⟩
  ·rcases U with h|⟨_,h⟩
   ·rw[h];exact x.nd.2.2.1
   ·rw[h];exact oO x.nd.2.2.1
  ·rw[F,Q] at T;refine u▸B▸C▸?_;have old:v∈l.wm->∃y,st4.nd v=some y/\(i∈y.wr\/i∈y.wc\/(st.cur=some v/\(i∈st.xt\/i∈st.xc))):=fun q=>by
    refine ar (x.wmW v q T) fun y L z2=>?_;refine eW (put L) fun m K y2 y3 _=>?_;exact⟨m,K,by rw[y2,y3];exact z2⟩
   rcases U with h|⟨E,h⟩
   ·replace q:=h▸q;exact old q
   ·replace q:=h▸q;rcases mem_insL.mp q with h|h;·exact old h
    ·obtain rfl:=h.symm;obtain rfl:=E.symm;refine ar (put hd) fun m K _=>?_;exact⟨m,K,.inr (.inr ⟨G,V⟩)⟩
 ·refine bz (get h) fun l h0 e _=>?_;exact(f.nc i l h0).keep (by rw[O]) (by rw[R]) (by rw[u]) (fun _=>⟨B,C⟩) e
 ·refine z▸?_;refine f.fresh i ?_;cases h':st.nd i with
  |none=>rfl
  |some g=>exact absurd h ((ex i).mpr (h'▸Option.some_ne_none _))
theorem J.made(o:RowsOK S.n S.Ro)(g:J S st)(B:st.nd j=none)(O:j<S.n)(E:S.A j){a:List Nat}(T:a.Nodup)(H:∀i∈a,j<i/\i<S.n)(n4:st4.nd=(ia st a j).nd)(Q:st4.ord=st.ord++[j])(X:st4={ st with nd:=st4.nd,ord:=st4.ord,ready:=st4.ready,cur:=st4.cur,ttr:=st4.ttr })(P:∀i,i≠j->(i∈st4.ready↔i∈st.ready))(rn:st4.ready.Nodup)(F:∀i,i≠j->(st4.cur=some i↔st.cur=some i))(Y:st4.cur=none->st.cur=none)(pl:(j∈st4.ready/\st4.cur≠some j)\/(j∉st4.ready/\st4.cur=some j/\st.xt=[]/\st.xc=[]))(tt:∀i∈st4.ttr,i∈st.ttr)(hs:∀i∈S.sel,st.nd i≠none\/i∈st4.ttr\/i=j):J S st4:=by
 have C:∀i,st4.nd i=if i=j then some (qN j a (st.tk j)) else st.nd i:=fun i=>by rw[n4];rfl
 have s:st4.nd j=some (qN j a (st.tk j)):=by rw[C,if_pos rfl]
 have no:∀i,i≠j->st4.nd i=st.nd i:=fun i h=>by rw[C,if_neg h]
 have W:st4.tk=st.tk/\st4.wait=st.wait/\st4.xt=st.xt/\st4.xc=st.xc/\st4.lp=st.lp/\st4.ll=st.ll:=by rw[X];exact A6 rfl rfl rfl rfl rfl rfl
 refine dc W ?_;intro m D u y M N;have rs:∀i,aF st4 i=aF st i:=fun i=>by
  by_cases e:i=j;·obtain rfl:=e.symm;rw[dg s,kE B];rfl
  ·exact congrArg _ (no i e)
 have I:=En.congr rs;have ex:∀i,st4.nd i≠none↔(st.nd i≠none\/i=j):=fun i=>by
  by_cases e:i=j;·obtain rfl:=e.symm;rw[s];simp
  ·refine(no i e)▸?_;simp[e]
 have nx:∀{i l},st.nd i=some l->i≠j:=fun h e=>by rw[e,B] at h;exact aQ h
 have tk:=g.fresh j B;have nr:j∉st.ord:=fun h=>(g.ord.1 j).mp h B;have Z:∀i,i≠j->(i∈st4.wait↔i∈st.wait):=fun i _=>by rw[D]
 refine⟨⟨fun i=>?_,?_⟩,fun i l h=>?_,fun i l h=>?_,fun i l h=>?_,⟨rn,fun i h=>?_⟩,⟨by rw[D];exact g.wtn.1,fun i h=>?_⟩,fun i h=>?_,fun i h=>g.ttr i (tt i h),fun i h=>?_,by rw[I,m];exact g.told,fun i h=>?_,fun h=>?_,by rw[I];exact g.cl⟩;·rw[Q,ex,List.mem_append,List.mem_singleton,g.ord.1]
 ·rw[Q];exact cV g.ord.2 nr
 ·by_cases e:i=j
  ·subst e;rw[s] at h;obtain rfl:=Zb h;have f:st4.tk i=uQ (S.Ro i):=by rw[m];exact tk
   refine bM (o.nn i) fun R K _=>?_;refine⟨O,E,?_,?_,?_,?_,?_,?_,⟨cV T fun h=>Nat.lt_irrefl i (H i h).1,fun x b=>?_⟩,?_⟩;·refine f▸?_;exact fun x b=>.inl b
   ·refine f▸?_;exact fun x b=>.base b
   ·refine f▸?_;exact fun x b=>gY b
   ·refine f▸?_;exact⟨fun _ h=>h,fun _ h=>h⟩
   ·exact f▸fun x b=>gY b
   ·refine f▸?_;exact A3 K .nil .nil
   ·rcases List.mem_append.mp b with h|h;·exact⟨Zv (H x h).1,(H x h).2⟩
    ·rw[List.mem_singleton.mp h];exact⟨Zj _,O⟩
   ·refine f▸?_;have:=o.n;have:=aN R fun x b=>(o.needs i x b).1;show(S.Ro i).needs.length<=7+16*0;omega
  ·replace h:=(no i e)▸h;exact(g.na i l h).keep rs (by rw[m]) rfl
 ·by_cases e:i=j
  ·subst e;rw[s] at h;obtain rfl:=Zb h;have f:st4.tk i=uQ (S.Ro i):=by rw[m];exact tk
   rw[tk] at s ⊢;refine bM (o.nn i) fun R K _=>?_;have t:st4.cur=some i->st4.xt=[]/\st4.xc=[]:=fun q=>by
    rw[u,y];rcases pl with h|h;·exact absurd q h.2
    ·exact h.2.2
   refine⟨(A5 .nil .nil .nil K (fun q=>by rw[(t q).2];exact⟨.nil,by simp⟩)),fun x b=>?_,fun x b=>?_,fun x b=>?_,fun x b=>?_,fun x b=>gY b,fun x b=>gY b,fun x b=>gY b,fun x b=>gY b,fun x b=>gY b,?_,fun q=>?_⟩;·rw[f] at b;exact .inl (.inl b)
   ·rw[f] at b;exact .inl (.inl b)
   ·rw[f];rcases b with h|h;·exact h
    ·rw[(t h.1).1] at h;exact nomatch h.2
   ·rw[f];rcases b with h|h;·exact A3 h (fun q=>gY q) (fun q=>gY q)
    ·rw[(t h.1).2] at h;exact nomatch h.2
   ·rw[f];show 0+0+0+0+_+_<=_;simp only[Nat.zero_add];exact Zj _
   ·rw[f,(t q).1,(t q).2];show 0+0+0+0+_+_+0+0<=_;simp only[Nat.zero_add];exact Zj _
  ·rw[no i e] at h;have x:=g.nb i l h;refine x.keep rs (by rw[m]) (fun a U E=>⟨U,by rw[no a (nx E)];exact E,fun _ h=>h⟩) (F i e) (fun _=>⟨u,y⟩) (fun a=>by unfold cP;rw[M,N]) rfl x.nd.2.2.1 fun v hv G=>?_;rw[I] at G;delta cP at G;rw[M,N] at G;refine ar (x.wmW v hv G) fun V L z2=>?_;exact⟨V,by rw[no v (nx L)];exact L,z2.imp id (Or.imp id fun z=>⟨(F v (nx L)).mpr z.1,by rw[u,y];exact z.2⟩)⟩
 ·by_cases e:i=j
  ·subst e;rw[s] at h;obtain rfl:=Zb h;have nw:i∉st4.wait:=fun h=>g.wtn.2 i (by rw[<-D];exact h) B;refine⟨.inl rfl,fun _=>rfl,fun h=>absurd h nw,fun h=>⟨rfl,?_⟩,fun _=>?_⟩
   ·rcases pl with q|q;·exact q.2
    ·exact absurd h q.1
   ·rcases pl with q|q;·exact .inr (.inl q.1)
    ·exact .inr (.inr q.2.1)
  ·replace h:=(no i e)▸h;exact(g.nc i l h).keep (Z i e) (P i e) (F i e) (fun _=>⟨u,y⟩) rfl
 ·rw[ex];by_cases e:i=j;·exact .inr e
  ·exact .inl (g.rdn.2 i ((P i e).mp h))
 ·rw[ex];replace h:=D▸h;exact .inl (g.wtn.2 i h)
 ·rw[ex];by_cases e:i=j;·exact .inr e
  ·exact .inl (g.crx i ((F i e).mp h))
 ·rw[ex];rcases hs i h with z|z|z;·exact .inl (.inl z)
  ·exact .inr z
  ·exact .inl (.inr z)
 ·refine m▸?_;refine g.fresh i ?_;cases h':st.nd i with
  |none=>rfl
  |some l=>exact absurd h ((ex i).mpr (.inl (h'▸Option.some_ne_none _)))
 ·refine u▸y▸?_;exact g.hand (Y h)
end
end
section
section
variable {S:Sc}{st st' st4:St}{k i j p w:Nat}{d d4 f dp dw:Nd}{r:RS}{g:Nat->Prop}
theorem J.ends(o:RowsOK S.n S.Ro)(t:J S st)(hd:st.nd p=some dp)(M:dp.ph=1)(hr0:dp.rs=.none)(hr:r≠.none)(l:st.xt=[]/\st.xc=[])(hl:st.ll=[])(n4:st4.nd=(st.setNd p { dp with rs:=r }).nd)(e4:st4={ st with nd:=st4.nd,tk:=st4.tk,lp:=p,ll:=dp.wm })(tk:∀i,st4.tk i={ st.tk i with told:=(st4.tk i).told })(tf:∀i,i≠p->st4.tk i=st.tk i)(tp:(st4.tk p).told=true↔iE p)(AA:∀i,S.A i->g i)(cl:∀k,g k->∀j,Nl S.Ro (fun i=>En st i\/i=p) k j\/Cl S.Ro (fun i=>En st i\/i=p) k j->g j/\j<S.n):J { S with A:=g } st4/\(∀i,i≠p->aF st4 i=aF st i)/\aF st4 p=r:=by
 have Q:st4.nd p=some { dp with rs:=r }:=by rw[n4,bp]
 have no:∀i,i≠p->st4.nd i=st.nd i:=fun i h=>by rw[n4,cQ h]
 have W:st4.ord=st.ord/\st4.wait=st.wait/\st4.ready=st.ready/\st4.ttr=st.ttr/\st4.cur=st.cur/\st4.xt=st.xt/\st4.xc=st.xc/\st4.lp=p/\st4.ll=dp.wm:=by rw[e4];exact A9 rfl rfl rfl rfl rfl rfl rfl rfl rfl
 refine dc W ?_;clear W;intro f2 f3 g4 f5 C I;obtain⟨K,G,f9,f10⟩:=I;have T:aF st4 p=r:=dg Q;have D:∀i,i≠p->aF st4 i=aF st i:=fun i h=>by unfold aF;exact congrArg _ (no i h)
 have P:¬ En st p:=fun h=>h ((dg hd)▸hr0);have X:∀i,En st4 i↔(En st i\/i=p):=fun i=>by
  by_cases e:i=p;·obtain rfl:=e.symm;exact⟨fun _=>.inr rfl,fun _=>by unfold En;refine T.symm▸?_;exact hr⟩
  ·delta En;refine(D i e)▸?_;simp[e]
 have ee:En st4=fun i=>En st i\/i=p:=funext fun i=>propext (X i);have mono:∀i,En st i->En st4 i:=fun i h=>(X i).mpr (.inl h);have O:∀{i},En st i->i≠p:=fun h e=>P (e▸h);have R:∀{i x},aF st i=x->x≠.none->aF st4 i=x:=fun{i x} h l=>((D i (O (by unfold En;refine h.symm▸?_;exact l)))▸h)
 have U:∀i,(st4.tk i).td=(st.tk i).td/\(st4.tk i).fd=(st.tk i).fd/\(st4.tk i).cd=(st.tk i).cd/\(st4.tk i).pr=(st.tk i).pr:=fun i=>by rw[tk];exact A4 rfl rfl rfl rfl
 have ex:∀i,st4.nd i≠none↔st.nd i≠none:=fun i=>by
  by_cases e:i=p;·obtain rfl:=e.symm;rw[Q,hd];simp
  ·rw[no i e]
 have get:∀{i m},st4.nd i=some m->∃s,st.nd i=some s/\m={ s with rs:=m.rs }/\(i≠p->m=s)/\(i=p->s=dp):=fun{i m} h=>by
  by_cases e:i=p;·obtain rfl:=e.symm;rw[Q] at h;obtain rfl:=Zb h;exact⟨dp,A4 hd rfl (fun q=>absurd rfl q) (fun _=>rfl)⟩
  ·rw[no i e] at h;exact⟨m,A4 h rfl (fun _=>rfl) (fun q=>absurd q e)⟩
 have put:∀{i m},st.nd i=some m->∃F,st4.nd i=some F/\F={ m with rs:=F.rs }:=fun{i m} h=>by
  by_cases e:i=p;·obtain rfl:=e.symm;rw[hd] at h;obtain rfl:=Zb h;exact⟨_,Q,rfl⟩
  ·exact⟨m,((no i e).trans (h)),rfl⟩
 refine A3 ⟨⟨fun i=>by rw[ex,f2];exact t.ord.1 i,(f2▸t.ord.2)⟩,fun i m h=>?_,fun i m h=>?_,fun i m h=>?_,(g4▸⟨t.rdn.1,fun i h=>(ex i).mpr (t.rdn.2 i h)⟩),(f3▸⟨t.wtn.1,fun i h=>(ex i).mpr (t.wtn.2 i h)⟩),fun i h=>(ex i).mpr (t.crx i (C▸h)),(f5▸fun i h=>⟨(t.ttr i h).1,AA i (t.ttr i h).2⟩),fun i h=>by rw[ex,f5];exact t.sel i h,fun i=>?_,fun i h=>?_,(C▸K▸G▸t.hand),(ee▸cl)⟩ D T
 ·refine bz (get h) fun s h0 e _=>?_;refine gm (U i) fun t1 Y B H=>?_;have a:=t.na i s h0;refine⟨a.lt,AA i a.al,?_,?_,?_,?_,?_,?_,(e▸a.anc),?_⟩;·refine t1▸?_;exact fun x l=>(a.tdW x l).mono mono
  ·refine B▸?_;exact fun x l=>(a.cdW x l).mono mono
  ·refine Y▸?_;exact fun x l=>by refine bz (a.fdW x l) fun c u y E=>?_;exact⟨c,A3 (u.mono mono) (mono c y) E⟩
  ·refine t1▸B▸?_;exact a.bs
  ·refine t1▸Y▸B▸H▸?_;exact fun c hc=>by refine bM (a.prW c hc) fun u y E=>?_;exact A3 u (mono c y) E
  ·refine Y▸B▸H▸?_;exact a.nd
  ·refine t1▸H▸?_;exact a.cnt
 ·refine bz (get h) fun s h0 e hi=>?_;refine gm (U i) fun t1 Y B H=>?_;have a:=t.na i s h0;have b:=t.nb i s h0;have W:m.td=s.td/\m.cd=s.cd/\m.wr=s.wr/\m.wc=s.wc/\m.wm=s.wm/\m.bad=s.bad/\m.ign=s.ign:=(e▸A7 rfl rfl rfl rfl rfl rfl rfl)
  refine dc W ?_;intro y1 Z V L y5 I;obtain⟨y6,y7⟩:=I;have pt:∀x,gU st4 i m x↔gU st i s x:=fun x=>by unfold gU;rw[y1,C,K]
  have pc:∀x,gx st4 i m x↔gx st i s x:=fun x=>by unfold gx;rw[Z,C,G]
  have kn:∀{x},En st x->Knows st s x->Knows st4 m x:=fun{x} l h=>by unfold Knows;refine(D x (O l))▸y6▸y7▸?_;exact h
  have wf:∀{x},(∃f,st.nd x=some f/\i∈f.wm)->(En st x->cP st i x)->(∃f,st4.nd x=some f/\i∈f.wm)/\(En st4 x->cP st4 i x):=fun{x} zp1 E=>by
   refine ar zp1 ?_;intro f u y;refine ar (put u) fun F q1 q2=>?_;refine⟨⟨F,q1,(q2▸y)⟩,fun q=>?_⟩;rcases (X x).mp q with q|e0;·have:=(E q).2;replace this:=hl▸this;cases this
   ·obtain rfl:=e0.symm;rw[hd] at u;obtain rfl:=Zb u;exact⟨f9,(f10▸y)⟩
  refine⟨by rw[Z,V,L,y5,C,G];exact b.nd,fun x l=>?_,fun x l=>?_,fun x l=>?_,fun x l=>?_,fun x l=>?_,fun x l=>?_,fun x l=>?_,fun x l=>?_,fun v hv N=>?_,by rw[y1,Z,V,L,y6,y7,t1,B];exact b.cnt,by rw[y1,Z,V,L,y6,y7,t1,B,C,K,G];exact b.cnh⟩
  ·rw[t1] at l;rw[pt,V];exact(b.tdL x l).imp id (Or.imp id fun z=>⟨mono x z.1,kn z.1 z.2⟩)
  ·rw[B] at l;rw[pc,L,H];exact(b.cdL x l).imp id (Or.imp id fun z=>⟨z.1,kn (a.prW x z.1).2.1 z.2⟩)
  ·rw[t1];exact b.pT x ((pt x).mp l)
  ·rw[B,H,L];exact b.pC x ((pc x).mp l)
  ·rw[V] at l;refine bM (b.wrW x l) fun u y E=>?_;refine t1▸?_;exact⟨u,wf y E⟩
  ·rw[L] at l;refine gm (b.wcW x l) fun u z0 y E=>?_;exact B▸H▸A3 u z0 (wf y E)
  ·rw[y6] at l;obtain⟨u,y⟩:=b.bdW x l;rw[t1,B];exact⟨u,R y (by decide)⟩
  ·rw[y7] at l;obtain⟨u,y⟩:=b.igW x l;rw[t1,B];exact⟨u,R y (by decide)⟩
  ·replace hv:=y5▸hv;have due:¬ En st i\/cP st v i:=by
    rcases N with N|N;·exact .inl fun z=>N (mono i z)
    ·have:i=p:=N.1.symm.trans f9;refine this▸?_;exact .inl P
   refine ar (b.wmW v hv due) fun dv u y=>?_;refine ar (put u) fun F q1 q2=>?_;exact⟨F,q1,by rw[q2,C,K,G];exact y⟩
 ·refine eW (get h) fun s h0 e h1 h2=>?_;by_cases q:i=p
  ·have:=h2 q;subst this;have c:=t.nc i s h0;have cp:=c.ph.resolve_left (by rw[M];decide);refine e.symm▸?_;refine⟨.inr (A6 cp.1 cp.2.1 cp.2.2.1 cp.2.2.2.1 cp.2.2.2.2.1 (C▸K▸G▸cp.2.2.2.2.2)),fun z=>?_,fun z=>?_,fun z=>?_,fun z=>?_⟩
   ·have:s.ph=0:=z;rw[M] at this;exact absurd this (by decide)
   ·rw[f3] at z;have:=(c.wait z).1;rw[M] at this;exact absurd this (by decide)
   ·rw[g4] at z;have:=(c.rdy z).1;rw[M] at this;exact absurd this (by decide)
   ·have:s.ph=0:=z;rw[M] at this;exact absurd this (by decide)
  ·have:=h1 q;subst this;have c:=(t.nc i m h0).keep (st':=st4) (d':=m) (f3▸Iff.rfl) (g4▸Iff.rfl) (C▸Iff.rfl) (fun _=>⟨K,G⟩) rfl;exact⟨c.ph,c.rs,c.wait,c.rdy,c.plc⟩
 ·rw[X];by_cases e:i=p;·obtain rfl:=e.symm;refine tp.trans ?_;simp
  ·rw[tf i e,t.told];simp[e]
 ·have e:i≠p:=fun e=>by obtain rfl:=e.symm;rw[Q] at h;exact jF h
  rw[no i e] at h;refine(tf i e)▸?_;exact t.fresh i h
theorem J.tellT(o:RowsOK S.n S.Ro)(u:J S st)(B:st.nd w=some dw)(A:p∈dw.wr)(O:En st p)(F:st.lp=p)(E:st.ll.Nodup)(Y:st.xt=[]/\st.xc=[])(P:w∈st.wait->dw.wr.erase p≠[]\/dw.wc≠[]) :J S { st.setNd w { (aF st p).note p dw with wr:=dw.wr.erase p } with ll:=st.ll.erase w }:=by
 have b:=u.nb w dw B;have c:=u.nc w dw B;have I:=(b.wrW p A).1;have G:dw.ph=0:=c.ph.resolve_right fun h=>by rw[h.2.2.2.1] at A;cases A
 have m:∀i,i≠p->(En st i->cP st w i)->¬ En st i:=fun i h q z=>h ((q z).1.symm.trans F);obtain⟨e,H⟩:=mX (aF st p) p dw;generalize D:({ (aF st p).note p dw with wr:=dw.wr.erase p }:Nd)=d4;have L:d4.wr=dw.wr.erase p/\d4.wc=dw.wc/\d4.td=dw.td/\d4.cd=dw.cd/\d4.anc=dw.anc/\d4.wm=dw.wm/\d4.rs=dw.rs/\d4.ph=dw.ph/\d4.bad=((aF st p).note p dw).bad/\d4.ign=((aF st p).note p dw).ign:=by rw[<-D,e];exact⟨rfl,rfl,rfl,rfl,rfl,rfl,rfl,rfl,rfl,rfl⟩
 refine dc L ?_;clear L;intro s l y t R K;obtain⟨T,U,V,v,x⟩:=K;clear e;have a:Noted (aF st p) p dw d4:=⟨(v▸H.bad),(x▸H.ign),(v▸x▸H.len)⟩
 have M:∀i∈dw.wr,i=p\/i∈dw.wr.erase p:=fun i h=>by
  by_cases q:i=p;·exact .inl q
  ·exact .inr ((List.mem_erase_of_ne q).mpr h)
 have l1:=a.len;have l2:=List.length_erase_of_mem A;have l3:=List.length_pos_of_mem A;have kl:w∉st.ll.erase w:=fun h=>((E.mem_erase_iff).mp h).1 rfl;refine u.look o B (st4:={ st.setNd w d4 with ll:=st.ll.erase w }) (d4:=d4) ⟨rfl,rfl,(A4 R T U V),.inr ⟨rfl,rfl⟩,fun i h=>List.mem_erase_of_ne h,fun h=>absurd h kl,fun _ _=>rfl,rfl⟩ rfl G kl (fun i q h=>?_) (fun i h=>a.knows (.inr h)) (fun i h=>.inl (by unfold gU;rw[y];exact h)) (fun i h=>by unfold gU at h;rw[y] at h;exact h) (fun i h=>.inl (by unfold gx;rw[t];exact h)) (fun i h=>?_)
  (fun i h=>?_) (fun i h=>?_) (fun i h=>(l▸h)) (fun i h=>?_) (fun i h=>?_) (fun i h=>?_) (s▸l▸t▸(A3 (b.nd.1.erase p) b.nd.2.1 b.nd.2.2.2.1)) (t▸b.nd.2.2.2.2) ?_ (fun q=>?_) fun h=>?_
 ·refine s▸l▸?_;rcases h with h|h|⟨C,h|h⟩
  ·exact .inl ((M i h).resolve_left fun z=>q (z▸O))
  ·exact .inr (.inl h)
  ·exact .inr (.inr ⟨C,.inl h⟩)
  ·exact .inr (.inr ⟨C,.inr h⟩)
 ·have h':gx st w dw i:=by unfold gx at h ⊢;rw[t] at h;exact h
  refine l▸?_;exact⟨h',(b.pC i h').2.2⟩
 ·refine s.symm▸?_;rcases M i h with Q|h;·obtain rfl:=Q.symm;exact .inr ⟨O,a.knows (.inl rfl)⟩
  ·exact .inl h
 ·rw[s] at h;obtain⟨C,N⟩:=(b.nd.1.mem_erase_iff).mp h;exact⟨m i C (b.wrW i N).2.2,.inl N⟩
 ·rw[l] at h;refine⟨m i (fun z=>?_) (b.wcW i h).2.2.2,.inl h⟩;subst z;exact(((u.na w dw B).tdW i I).ok o).2 (((u.na w dw B).cdW i (b.wcW i h).1).ok o).2
 ·rcases (a.bad i).mp h with h|⟨rfl,h⟩
  ·exact .inl h
  ·exact .inr ⟨I,h⟩
 ·rcases (a.ign i).mp h with h|⟨rfl,h⟩
  ·exact .inl h
  ·exact .inr ⟨I,h⟩
 ·have:=b.cnt;refine s▸l▸y▸t▸?_;exact mo l1 (Zd l2) this (Zd (Zu l3))
 ·have:=b.cnh q;refine s▸l▸y▸t▸?_;dsimp only[St.setNd];exact mo l1 (Zd l2) this (Zd (Zu l3))
 ·refine gm (c.wait h) fun _ W X _=>?_;refine s▸l▸y▸t▸?_;exact A3 W X (P h)
end
end
section
noncomputable def dn(st:St)(i:Nat):Nat:=Option.casesOn (st.nd i) 0 Nd.ph
theorem dy{st:St}{j:Nat}{d:Nd}(e:st.nd j=some d):dn st j=d.ph:=by exact congrArg _ e
theorem mz{st:St}{j:Nat}(e:st.nd j=none):dn st j=0:=by exact congrArg _ e
noncomputable def mu(n:Nat)(st:St):Nat:=2*(n - st.ord.length)+st.ready.length
structure Wk(n:Nat)(st st':St):Prop where
 rs:∀i,aF st' i=aF st i
 ph:∀i,dn st' i=dn st i
 ex:∀i,st.nd i≠none->st'.nd i≠none
 mu:mu n st'<=mu n st
 cur:st'.cur=st.cur
 ll:st'.ll=st.ll
 ttr:st'.ttr=st.ttr
 wait:st'.wait=st.wait
theorem Wk.refl(n:Nat)(st:St):Wk n st st:=⟨fun _=>rfl,fun _=>rfl,fun _ h=>h,Zj _,rfl,rfl,rfl,rfl⟩
theorem Wk.trans{n:Nat}{a b c:St}(x:Wk n a b)(y:Wk n b c):Wk n a c:=
 ⟨fun i=>(y.rs i).trans (x.rs i),fun i=>(y.ph i).trans (x.ph i),fun i h=>y.ex i (x.ex i h),Zk y.mu x.mu,y.cur.trans x.cur,y.ll.trans x.ll,y.ttr.trans x.ttr,y.wait.trans x.wait⟩
structure Gr(n:Nat)(st st':St):Prop where
 wk:Wk n st st'
 nd:∀j dj,st.nd j=some dj->st'.nd j=some dj
 tk:st'.tk=st.tk
 xt:st'.xt=st.xt
 xc:st'.xc=st.xc
theorem Gr.refl(n:Nat)(st:St):Gr n st st:=⟨.refl n st,fun _ _ h=>h,rfl,rfl,rfl⟩
theorem Gr.trans{n:Nat}{a b c:St}(x:Gr n a b)(y:Gr n b c):Gr n a c:=⟨x.wk.trans y.wk,fun j d h=>y.nd j d (x.nd j d h),y.tk.trans x.tk,y.xt.trans x.xt,y.xc.trans x.xc⟩
section
variable {S:Sc}{st st' st4:St}{k i j p w:Nat}{d d4 dj dp dw:Nd}
theorem Wk.one(b:st4.nd=(st.setNd k d4).nd)(hd:st.nd k=some d)(rs:d4.rs=d.rs)(ph:d4.ph=d.ph)(a:st4={ st with nd:=st4.nd,tk:=st4.tk,xt:=st4.xt,xc:=st4.xc })(n:Nat):Wk n st st4:=by
 refine⟨kS b hd rs,fun i=>?_,fun i h=>?_,?_,by rw[a],by rw[a],by rw[a],by rw[a]⟩
 ·delta dn;refine b▸?_;by_cases e:i=k;·obtain rfl:=e.symm;refine bp▸hd▸?_;exact ph
  ·exact congrArg _ (cQ e)
 ·refine b▸?_;by_cases e:i=k;·obtain rfl:=e.symm;refine bp▸?_;exact Option.some_ne_none _
  ·refine(cQ e).symm▸?_;exact h
 ·rw[a];exact Zj _
theorem J.ordl(a:J S st):st.ord.length<=S.n:=aN a.ord.2 fun x b=>a.lt ((a.ord.1 x).mp b)
theorem J.rdl(o:RowsOK S.n S.Ro)(a:J S st):st.ready.length<=7:=Zk (aN a.rdn.1 fun x b=>a.lt (a.rdn.2 x b)) o.n
theorem J.wtl(o:RowsOK S.n S.Ro)(a:J S st):st.wait.length<=7:=Zk (aN a.wtn.1 fun x b=>a.lt (a.wtn.2 x b)) o.n
theorem J.tkl(o:RowsOK S.n S.Ro)(g:J S st)(f:k<S.n):(st.tk k).pr.length<=7/\(st.tk k).td.length<=119/\(st.tk k).cd.length<=7/\(st.tk k).fd.length<=7:=by
 have r:=o.n;have l:∀{l:List Nat},l.Nodup->(∀x∈l,x<S.n)->l.length<=7:=fun h h'=>Zk (aN h h') r;cases hd:st.nd k with
 |none=>
  refine(g.fresh k hd)▸?_;refine bM (o.nn k) fun s t _=>?_;exact A4 (Nat.zero_le _) (Zk (l s fun x b=>Zs (o.needs k x b).1 f) (by decide)) (l t fun x b=>Zs (o.calcs k x b).1 f) (Nat.zero_le _)
 |some d=>
  have a:=g.na k d hd;have e:∀x∈(st.tk k).cd,x<S.n:=fun x b=>Zs ((a.cdW x b).ok o).1 f;have m:=l a.nd.2.2 fun x b=>e x (a.prW x b).1;have q:=a.cnt;refine A4 m (iG q (Nat.mul_le_mul_left 16 m)) (l a.nd.1 e) (l a.nd.2.1 fun x b=>?_);refine bz (a.fdW x b) fun c u y v=>?_;exact Zs (o.tF c x v).1 (Zs (u.ok o).1 f)
theorem J.ndl(o:RowsOK S.n S.Ro)(c:J S st)(hd:st.nd k=some d):d.anc.length<=7/\d.bad.length+d.ign.length+d.wr.length+d.wc.length+d.td.length+d.cd.length<=126/\(¬ En st k->d.wm.length<=7):=by
 have e:=o.n;have a:=c.na k d hd;have b:=c.nb k d hd;refine gm (c.tkl o a.lt) fun _ f g _=>?_;have l:=b.cnt;refine A3 (Zk (aN a.anc.1 fun x q=>(a.anc.2 x q).2) e) (kQ f g l) (fun h=>Zk (aN b.nd.2.2.1 fun v m=>?_) e);refine ar (b.wmW v m (.inl h)) fun r z _=>?_;exact c.lt (z▸Option.some_ne_none _)
end
section
variable {S:Sc}{st st' st4:St}{H H':aq->Option MObj}{nx:Nat}{m:List (Nat×MV)}{k i j p w:Nat}{d d4 dj dp dw:Nd}{Q:MV->AS->Prop}{P:aE->AS->Prop}
theorem wz(o:RowsOK S.n S.Ro)(r:R S.n S.Ro st H nx)(c:J S st)(hd:st.nd k=some d)(y:st.cur=some k)(f:i<k)(v:S.A i)(q:∀st' H',R S.n S.Ro st' H' nx->J S st'->Gr S.n st st'->st'.nd i≠none->Low H H' nx->Q .none ⟨H',nx,m⟩):aW.1 [.tag (20,0),aO k,.str i] [] ⟨H,nx,m⟩ Q:=by
 have a:=c.na k d hd;have l:i<S.n:=Zs f a.lt;have B:=o.n;refine gm (c.tkl o l) fun _ t1 F _=>?_;have C:=(c.ndl o hd).1;have t:=c.ordl;have E:=c.rdl o;refine r6 (p:=(k,d)) r l ⟨hd,fun h=>absurd (a.anc.2 i h).1 (Nat.not_le_of_lt f)⟩ (c.ord.1 i) (av 0 119 0 900 t1 rfl) (av 0 7 0 900 F rfl) (av 0 7 1 999 C rfl) (bR 0 0 0 7 1 1000 t B rfl) (av 0 7 1 1000 E rfl) (fun h=>q st H r c (.refl _ _) h (.refl _ _)) fun h H' D l'=>?_;have u:J S { ia st d.anc i with ready:=st.ready++[i] }:=
  c.made o h l v a.anc.1 (fun x b=>⟨Zp f (a.anc.2 x b).1,(a.anc.2 x b).2⟩) rfl rfl rfl (fun x b=>by simp[b]) (cV c.rdn.1 fun z=>c.rdn.2 i z h) (fun _ _=>Iff.rfl) id (.inl ⟨by simp,by show st.cur≠some i;refine y.symm▸?_;simp;exact Zn f⟩) (fun _ h=>h) fun x b=>(c.sel x b).imp id .inl
 have s:(ia st d.anc i).nd i=some (qN i d.anc (st.tk i)):=bp;have no:∀x,x≠i->(ia st d.anc i).nd x=st.nd x:=fun x b=>cQ b;have ne:∀{x g},st.nd x=some g->x≠i:=fun b e=>by rw[e,h] at b;exact aQ b
 refine q _ H' D u ⟨⟨fun x=>?_,fun x=>?_,fun x b=>?_,?_,rfl,rfl,rfl,rfl⟩,fun x g b=>(no x (ne b)).trans b,rfl,rfl,rfl⟩ (by show(ia st d.anc i).nd i≠none;rw[s];exact Option.some_ne_none _) l'
 ·by_cases e:x=i;·obtain rfl:=e.symm;refine Eq.trans ?_ (kE h).symm;exact dg s
  ·delta aF;rw[show({ ia st d.anc i with ready:=st.ready++[i] }:St).nd x=_ from no x e]
 ·by_cases e:x=i;·obtain rfl:=e.symm;refine Eq.trans ?_ (mz h).symm;exact dy s
  ·delta dn;rw[show({ ia st d.anc i with ready:=st.ready++[i] }:St).nd x=_ from no x e]
 ·obtain⟨g,e⟩:=Option.ne_none_iff_exists'.mp b;refine(no x (ne e))▸?_;exact b
 ·have:(st.ord++[i]).length<=S.n:=u.ordl;show 2*(S.n - (st.ord++[i]).length)+(st.ready++[i]).length<=2*(S.n - st.ord.length)+st.ready.length;rw[List.length_append] at this ⊢;rw[List.length_append];exact mo (Zd (Zu t).symm) (Zd (Zu t).symm) (Zd (Zu this)) (Zd (Zu this))
theorem tm{x:Nat}(z:x≠61/\x≠154)(o:RowsOK S.n S.Ro):∀(l:List Nat)(b:St)(t:aq->Option MObj)(s:List (Nat×MV)),R S.n S.Ro b t nx->J S b->b.nd k=some d->b.cur=some k->s.lookup 61=some (.tag (20,0))->s.lookup 154=some (aO k)->(∀i∈l,i<k/\S.A i)->(∀a e L,R S.n S.Ro a e nx->J S a->Gr S.n b a->(∀i∈l,a.nd i≠none)->Low t e nx->(∀y,y≠x->L.lookup y=s.lookup y)->P .next ⟨e,nx,L⟩)->∀(g:(aq->Option MObj)->Prop),(∀a e,R S.n S.Ro a e nx->a.nd k=some d->g e)->
  dq g (ba x) (bK (cr 3 162 aW.1 (ac 61) [(ac 154),(ac x)] [])) (l.map .str) ⟨t,nx,s⟩ P:=by
 intro l;induction l with
 |nil=>intro b t s r B hd D f c F q g u;exact⟨u _ _ r hd,q b t s r B (.refl _ _) (fun _ h=>nomatch h) (.refl _ _) fun _ _=>rfl⟩
 |cons j l X=>
  intro b t s r B hd D f c F q g u;obtain⟨v,V⟩:=r.disp;obtain⟨W,U⟩:=F j Ze;refine⟨u _ _ r hd,bj (bN (aa ((aJ (Ne.symm z.1)).trans f) (E2 (20,0) _ (A4 rfl V rfl (ao (aa ((aJ (Ne.symm z.2)).trans c) (ao (aa bq (ai (ai ?_))))))))))⟩;refine wz o r B hd D W U fun a e r2 Y C O l2=>⟨rfl,?_⟩
  refine X a e _ r2 Y (C.nd _ _ hd) (C.wk.cur.trans D) ((aJ (Ne.symm z.1)).trans f) ((aJ (Ne.symm z.2)).trans c) (fun i E=>F i (Zc _ E)) (fun G M m3 r3 Z I T l3 y3=>?_) g u;refine q G M m3 r3 Z (C.trans I) (fun i E=>?_) (l2.tr l3) fun y K=>(y3 y K).trans (aJ K);rcases List.mem_cons.mp E with N|h;·obtain rfl:=N.symm;exact I.wk.ex _ O
  ·exact T i h
end
end
section
noncomputable def hand(c:Bool)(st:St):List Nat:=Bool.casesOn c st.xt st.xc
structure Lk(n k:Nat)(d d':Nd)(st st':St):Prop where
 wk:Wk n st st'
 nd:st'.nd k=some d'
 gp:d'.g=d.g/\d'.pc=d.pc
 pr:(d'.td=d.td/\d'.cd=d.cd/\(st'.tk k).pr.length=(st.tk k).pr.length)\/(st.tk k).pr.length<(st'.tk k).pr.length
section
variable {S:Sc}{n:Nat}{st st' st4:St}{H H':aq->Option MObj}{nx:Nat}{m:List (Nat×MV)}{k i j p w:Nat}{d d4 f dp dw:Nd}{Q:MV->AS->Prop}{P:aE->AS->Prop}
theorem Lk.refl(hd:st.nd k=some d):Lk n k d d st st:=⟨.refl n st,hd,⟨rfl,rfl⟩,.inl (A3 rfl rfl rfl)⟩
theorem Lk.trans{a b c:Nd}{s1 q r:St}(x:Lk n k a b s1 q)(y:Lk n k b c q r):Lk n k a c s1 r:=by
 refine⟨x.wk.trans y.wk,y.nd,⟨y.gp.1.trans x.gp.1,y.gp.2.trans x.gp.2⟩,?_⟩;rcases x.pr with⟨a1,s,g⟩|h
 ·rcases y.pr with⟨l,o,e⟩|h';·exact .inl (A3 (l.trans a1) (o.trans s) (e.trans g))
  ·exact .inr (ZD (Zd g.symm) h')
 ·rcases y.pr with⟨l,o,e⟩|h';·exact .inr (Zk h (Zd e.symm))
  ·exact .inr (Zs h h')
theorem Wk.phd(x:Wk n st st')(h:st.nd k=some d)(h':st'.nd k=some d4):d4.ph=d.ph:=by rw[<-dy h,<-dy h',x.ph]
theorem lL(r:R S.n S.Ro st H nx)(e:st.nd k=some d):de H (aO k)=some true:=tN (r.node k d e).obj
theorem oL(r:R S.n S.Ro st H nx)(a:J S st)(e:st.nd j=some f):iL H (.tag (20,1)) (.str j)=some (aO j):=by
 show jO j (H (20,1))=_;rw[r.nodes];show(st.ord.map fun j=>(j,aO j)).lookup j=_;rw[jL,if_pos ((a.ord.1 j).mpr (e▸Option.some_ne_none _))]
theorem wj{r:RS}:dT r.mv [.none,.str 36]=some (decide (r=.none)):=by induction r<;>rfl
theorem inOf_tup{r:RS}{xs:List MV}:gy H r.mv (.tup xs)=dT r.mv xs:=by induction r<;>rfl
set_option maxHeartbeats 1000000 in
theorem wD(o:RowsOK S.n S.Ro)(r:R S.n S.Ro st H nx)(l:J S st)(hd:st.nd k=some d)(D:st.cur=some k)(hp:d.ph=0)(U:st.ll=[])(O:st.nd j=some f)(he:f.rs≠.none)(b:Bool)(V:j∈hand b st)(N:m.lookup 61=some (.tag (20,0)))(s:m.lookup 154=some (aO k))(C:m.lookup 165=some (.bool b))(u:m.lookup 167=some (aO j))(q:∀c B d2,R S.n S.Ro c B nx->J S c->Lk S.n k d d2 st c->hand b c=(hand b st).erase j->hand (!b) c=hand (!b) st->Low H B nx->P .next ⟨B,nx,m⟩) :
  az (bK (cr 2 148 cn.1 (ac 154) [(ac 167)] [])) (ca (c9 (ac 165)) (bK (cr 3 169 aZ.1 (ac 61) [(ac 167),(ac 154)] [])) bn) ⟨H,nx,m⟩ P:=by
 have G:=dg O;have M:En st j:=by unfold En;refine G▸?_;exact he
 have ln:=l.ndl o hd;refine aj (bj (bN (aa s (E2 (10,k) _ (A4 rfl ((r.node k d hd).obj) rfl (ao (aa u (ai (ai ?_)))))))));refine km r hd O (nA ln.2.1) (nA ln.2.1) fun H1 y l1=>⟨rfl,aX (cw (aa C ⟨b,rfl,?_⟩))⟩
 replace y:=G▸y;induction b with
 |false=>
  have j1:=l.doneT o hd D hp U V M;have x:((aF st j).note j d).rs=d.rs/\((aF st j).note j d).ph=d.ph/\((aF st j).note j d).g=d.g/\((aF st j).note j d).pc=d.pc/\((aF st j).note j d).td=d.td/\((aF st j).note j d).cd=d.cd:=by rw[(mX (aF st j) j d).1];exact A6 rfl rfl rfl rfl rfl rfl
  refine q _ H1 ((aF st j).note j d) (y.hand rfl) j1 ⟨Wk.one (st4:={ st.setNd k ((aF st j).note j d) with xt:=st.xt.erase j }) rfl hd x.1 x.2.1 rfl _,bp,⟨x.2.2.1,x.2.2.2.1⟩,.inl (A3 x.2.2.2.2.1 x.2.2.2.2.2 rfl)⟩ rfl rfl l1
 |true=>
  obtain⟨e,I⟩:=mX (aF st j) j d;generalize (aF st j).note j d=dA at e I y;have a:=l.na k d hd;have bb:=l.nb k d hd;have jc:=bb.pC j (.inr ⟨D,V⟩);have L:=(a.cdW j jc.1).ok o;have X:=a.lt;have W:j<S.n:=Zs L.1 X;have tl:=l.tkl o X;have eA:dA.td=d.td/\dA.cd=d.cd/\dA.anc=d.anc/\dA.wm=d.wm/\dA.rs=d.rs/\dA.ph=d.ph/\dA.wr=d.wr/\dA.wc=d.wc/\dA.g=d.g/\dA.pc=d.pc:=by rw[e];exact⟨rfl,rfl,rfl,rfl,rfl,rfl,rfl,rfl,rfl,rfl⟩
  refine dc eA ?_;intro a1 a2 a3 a4 a5 zq1;obtain⟨a6,a7,a8,a9,K⟩:=zq1;have hn:=o.n;obtain⟨v,hD⟩:=y.disp;have T:j≠k:=fun z=>Nat.lt_irrefl k (z▸L.1);refine bj (bN (aa N (E2 (20,0) _ (A4 rfl hD rfl (ao (aa u (ao (aa s (ai (ai ?_))))))))));refine oI (p:=j) (w:=k) (dp:=f) (dw:=dA) (t:=st.tk k) y (av 0 7 0 8 hn rfl) (o.rw W) (fun i E=>Zs (o.tF j i E).1 W) ((cQ T).trans O) bp W X rfl ((l.told j).mpr ⟨M,L.2⟩) (av 0 119 1 700 tl.2.1 rfl) (av 0 7 1 700 tl.2.2.2 rfl) (av 0 7 1 500 tl.2.2.1 rfl) (by rw[a1];exact nA ln.2.1) (by rw[a2];exact nA ln.2.1) fun B r2 l2=>⟨rfl,?_⟩
  have Y:(((st.setNd k dA).setTk k (tellT (S.Ro j) j (st.tk k))).setNd k (hY (st.tk k) (tellT (S.Ro j) j (st.tk k)) dA)).nd=(st.setNd k (hY (st.tk k) (tellT (S.Ro j) j (st.tk k)) dA)).nd:=by
   show((st.setNd k dA).setNd k (hY (st.tk k) (tellT (S.Ro j) j (st.tk k)) dA)).nd=_;exact congrArg _ jl
  have A:(((st.setNd k dA).setTk k (tellT (S.Ro j) j (st.tk k))).setNd k (hY (st.tk k) (tellT (S.Ro j) j (st.tk k)) dA)).tk k=tellT (S.Ro j) j (st.tk k):=if_pos rfl;have ns:(((st.setNd k dA).setTk k (tellT (S.Ro j) j (st.tk k))).setNd k (hY (st.tk k) (tellT (S.Ro j) j (st.tk k)) dA)).nd k=some (hY (st.tk k) (tellT (S.Ro j) j (st.tk k)) dA):=bp;generalize F:((st.setNd k dA).setTk k (tellT (S.Ro j) j (st.tk k))).setNd k (hY (st.tk k) (tellT (S.Ro j) j (st.tk k)) dA)=s2 at r2 Y A ns;have es:s2={ st with nd:=s2.nd,tk:=s2.tk }:=by rw[<-F];rfl
  have Z:∀i,i≠k->s2.tk i=st.tk i:=fun i E=>by rw[<-F];exact if_neg E
  obtain⟨nr,nc⟩:=l.notEn hd U;have es':({ s2 with xc:=st.xc.erase j }:St)={ st with nd:=s2.nd,tk:=s2.tk,xt:=st.xt,xc:=st.xc.erase j,ll:=st.ll }:=by rw[es]
  have j2:J S { s2 with xc:=st.xc.erase j }:=by
   refine es'▸?_;refine l.tell o hd (d4:=hY (st.tk k) (tellT (S.Ro j) j (st.tk k)) dA) ⟨Y,rfl,(A4 a3 a4 a5 a6),.inl D,fun _ _=>Iff.rfl,id,Z,by show(s2.tk k).told=_;rw[A];rfl⟩ hp (U▸fun h=>nomatch h) M A ?_ ?_ a7 ⟨I.bad,I.ign,I.len⟩ rfl (.inl (A4 D V a8 rfl)) (fun i E _=>?_) fun z=>((l.nc k d hd).wait z).2.2.2.2.2 D;·show dA.td++_=d.td++_;rw[a1];rw[A]
   ·show gj _ _ dA.cd=gj _ (s2.tk k).cd d.cd;rw[a2,A]
   ·rcases List.mem_append.mp E with z|z;·exact nr i z
    ·exact nc i z
  refine q _ B (hY (st.tk k) (tellT (S.Ro j) j (st.tk k)) dA) (r2.hand rfl) j2 ⟨?_,ns,⟨a9,K⟩,.inr ?_⟩ rfl ?_ (l1.tr l2);·refine es'▸?_;exact Wk.one (st4:={ st with nd:=s2.nd,tk:=s2.tk,xt:=st.xt,xc:=st.xc.erase j,ll:=st.ll }) Y hd a5 a6 rfl _
  ·show(st.tk k).pr.length<(s2.tk k).pr.length;rw[A];show _<((st.tk k).pr++[j]).length;simp
  ·show s2.xt=st.xt;rw[es]
end
end
section
section
variable {S:Sc}{n:Nat}{st st' st4:St}{H H':aq->Option MObj}{nx:Nat}{m:List (Nat×MV)}{k i j p w:Nat}{d d4 a dp dw:Nd}{Q:MV->AS->Prop}{P:aE->AS->Prop}
structure Loc(m:List (Nat×MV))(k i0:Nat)(b:Bool):Prop where
 l61:m.lookup 61=some (.tag (20,0))
 l154:m.lookup 154=some (aO k)
 l165:m.lookup 165=some (.bool b)
 l166:m.lookup 166=some (.tag (0,i0))
theorem Loc.put{i0:Nat}{b:Bool}(x:Loc m k i0 b){y:Nat}{v:MV}(h:y=62\/y=167):Loc (ah m y v) k i0 b:=by
 rcases h with rfl|rfl;·exact⟨(aJ (by decide)).trans x.l61,(aJ (by decide)).trans x.l154,(aJ (by decide)).trans x.l165,(aJ (by decide)).trans x.l166⟩
 ·exact⟨(aJ (by decide)).trans x.l61,(aJ (by decide)).trans x.l154,(aJ (by decide)).trans x.l165,(aJ (by decide)).trans x.l166⟩
theorem Lk.hand{b:St}(hd:st.nd k=some d)(e:b={ st with xt:=b.xt,xc:=b.xc }):Lk n k d d st b:=by
 rw[e];exact⟨Wk.one (st:=st) (st4:={ st with xt:=b.xt,xc:=b.xc }) (lj hd) hd rfl rfl rfl n,hd,⟨rfl,rfl⟩,.inl (A3 rfl rfl rfl)⟩
theorem Lk.ph{b e:St}{c f:Nd}(h:b.nd k=some c)(x:Lk n k c f b e):f.ph=c.ph:=x.wk.phd h x.nd
theorem wi(o:RowsOK S.n S.Ro){i0:Nat}(hi:i0<nx){b:Bool}{g:(aq->Option MObj)->Prop}(hg:∀f x B,R S.n S.Ro f x nx->f.nd k=some B->B.g=d.g->B.pc=d.pc->g x):∀(l acc:List Nat)(c:St)(y:Nd)(E:aq->Option MObj)(K:List (Nat×MV)),R S.n S.Ro c E nx->J S c->c.nd k=some y->y.g=d.g/\y.pc=d.pc->c.cur=some k->y.ph=0->c.ll=[]->hand b c=acc++l->(∀i∈l,c.nd i≠none)->(∀i∈acc,¬ En c i)->acc.Nodup->acc.length+l.length<900->E (0,i0)=some (aI acc)->Loc K k i0 b->(∀f x U B,R S.n S.Ro f x nx->J S f->Lk S.n k y B c f->hand (!b) f=hand (!b) c->(∀i∈hand b f,¬ En f i/\(i∈acc\/i∈l))->(hand b f).Nodup->x (0,i0)=some (aI (hand b f))->Low E x i0->Loc U k i0 b->P .next ⟨x,nx,U⟩)->
  dq g (ba 62) (az (cJ 167 (bG (aB (ac 61) 150) (ac 62))) (ca (fS (kI (c9 (ac 167))) (fS (bh ko (aB (ac 167) 143) (mx [(ax .none),(ax (.str 36))])) eX)) (ca (bh lB (ac 62) (ac 166)) (bK (b9 1 cE (ac 166) [(ac 62)])) bn) (az (bK (cr 2 148 cn.1 (ac 154) [(ac 167)] [])) (ca (c9 (ac 165)) (bK (cr 3 169 aZ.1 (ac 61) [(ac 167),(ac 154)] [])) bn)))) (l.map .str) ⟨E,nx,K⟩ P:=by
 intro l;induction l with
 |nil=>
  intro acc c y E K r F hd gd G T O D hx M W s I L q;rw[List.append_nil] at D;exact⟨hg _ _ _ r hd gd.1 gd.2,q c E K y r F (.refl hd) rfl (by rw[D];exact fun i h=>⟨M i h,.inl h⟩) (D▸W) (D▸I) (.refl _ _) L⟩
 |cons j l ih=>
  intro acc c y E K r F hd gd G T O D hx M W s I L q;obtain⟨a,N⟩:=Option.ne_none_iff_exists'.mp (hx j Ze);have xj:=r.node j a N;have A:∀v,Loc (ah (ah K 62 (.str j)) 167 v) k i0 b:=fun v=>(L.put (.inl rfl)).put (.inr rfl);have V:∀v,(ah (ah K 62 (.str j)) 167 v).lookup 62=some (.str j):=fun v=>(aJ (by decide)).trans bq;refine⟨hg _ _ _ r hd gd.1 gd.2,aj (aP (lG (dS r (L.put (.inl rfl)).l61 (by decide) (fun _=>rfl) rfl (aa bq ⟨aO j,oL r F N,?_⟩))))⟩;refine aX (gz (lH (cw (aa bq ⟨true,lL r N,?_⟩))));refine gz (aK (aH (t:=(10,j)) bq xj.obj (by decide) rfl v6 (ao (au (ao (au (ai ⟨by decide,decide (a.rs=.none),(inOf_tup.trans (wj)),?_⟩)))))));by_cases Z:a.rs=.none
  ·rw[decide_eq_true Z];have nej:¬ En c j:=fun z=>z ((dg N).trans Z);refine aX (aK (aa (V _) (aa (A _).l166 ⟨acc.contains j,((iA I)▸flatIn_str▸rfl),?_⟩)));by_cases u:j∈acc
   ·rw[show(!acc.contains j)=false by simp[u]];induction b with
    |true=>
     have z:c.xc.Nodup:=((F.nb k y hd).nd.2.2.2.2 G).1;rw[show c.xc=acc++j::l from D] at z;exact absurd rfl ((List.nodup_append.mp z).2.2 j u j Ze)
    |false=>
     have e1:c.xt=acc++j::l:=D;have j1:=F.drop o hd G T O (x':=acc++l) (fun i=>by rw[e1];simp only[List.mem_append,List.mem_cons];exact⟨fun z=>z.imp id .inr,fun z=>z.elim .inl fun z=>z.elim (fun e=>.inl (e▸u)) .inr⟩) (by rw[e1];simp only[List.length_append,List.length_cons];exact Zz _);have lk:Lk S.n k y y c { c with xt:=acc++l }:=.hand hd rfl;refine ih acc { c with xt:=acc++l } y E _ (r.hand rfl) j1 hd gd G T O rfl (fun i h=>hx i (Zc _ h)) M W (Zv s) I (A _) fun f x U B r2 j2 k2 Y X n2 w2 l2 A=>?_;exact q f x U B r2 j2 (lk.trans k2) Y (fun i h=>⟨(X i h).1,(X i h).2.imp id (Zc _)⟩) n2 w2 l2 A
   ·rw[show(!acc.contains j)=true by simp[u]];refine bj (bS (aa (A _).l166 ⟨kl I,ao (aa (V _) (ai (ds I (by simp;exact NB s rfl) ⟨rfl,?_⟩)))⟩));have e3:acc.map MV.str++[.str j]=(acc++[j]).map .str:=by rw[List.map_append];rfl
    rw[e3];refine ih (acc++[j]) c y _ _ (r.tmpSet (Zj _) hi) F hd gd G T O (by rw[D,List.append_assoc];rfl) (fun i h=>hx i (Zc _ h)) (fun i h=>?_) (cV W u) (by rw[List.length_append];show acc.length+1+_<_;exact NA s) setH_at (A _) fun f x U B r2 j2 k2 Y X n2 w2 l2 A=>?_
    ·rcases List.mem_append.mp h with z|z;·exact M i z
     ·refine(List.mem_singleton.mp z)▸?_;exact nej
    ·refine q f x U B r2 j2 k2 Y (fun i h=>⟨(X i h).1,?_⟩) n2 w2 (fun i C=>(l2 i C).trans (ae (dh (Zh C)))) A;rcases (X i h).2 with z|z
     ·rcases List.mem_append.mp z with z|z;·exact .inl z
      ·refine(List.mem_singleton.mp z)▸?_;exact .inr Ze
     ·exact .inr (Zc _ z)
  ·rw[decide_eq_false Z];have ej:En c j:=fun z=>Z ((dg N).symm.trans z);have u:j∉acc:=fun z=>M j z ej;have er:(acc++j::l).erase j=acc++l:=by rw[List.erase_append_right _ u,List.erase_cons_head]
   refine wD o r F hd G T O N Z b (by rw[D];simp) (A _).l61 (A _).l154 (A _).l165 bq fun f x B r2 j2 k2 Y h3 l2=>?_;refine ih acc f B x _ r2 j2 k2.nd ⟨k2.gp.1.trans gd.1,k2.gp.2.trans gd.2⟩ (k2.wk.cur.trans G) ((k2.ph hd).trans T) (k2.wk.ll.trans O) (by rw[Y,D,er]) (fun i h=>k2.wk.ex i (hx i (Zc _ h))) (fun i h=>by unfold En;rw[k2.wk.rs];exact M i h) W (Zv s) ((l2 i0 hi).trans I) (A _) fun st3 H3 m3 d3 r3 j3 k3 y3 c3 n3 w3 l3 L3=>?_;exact q st3 H3 m3 d3 r3 j3 (k2.trans k3) (y3.trans h3) (fun i h=>⟨(c3 i h).1,(c3 i h).2.imp id (Zc _)⟩) n3 w3 (fun i C=>(l3 i C).trans (l2 i (Zs C hi))) L3
theorem wh(o:RowsOK S.n S.Ro){i0:Nat}(hi:i0<nx){b:Bool}{l0:List Nat}:∀(l:List Nat)(f:St)(s:aq->Option MObj)(x:List (Nat×MV)),R S.n S.Ro f s nx->J S f->f.nd k=some d->f.cur=some k->(∀i∈l,i∈hand b f/\¬ En f i/\f.nd i≠none)->s (0,i0)=some (aI l0)->Loc x k i0 b->(∀g t C,R S.n S.Ro g t nx->J S g->Lk S.n k d d f g->hand b g=hand b f->hand (!b) g=hand (!b) f->(∀i,(i∈l\/∃a,f.nd i=some a/\k∈a.wm)->∃a,g.nd i=some a/\k∈a.wm)->t (0,i0)=some (aI l0)->Low s t nx->Loc C k i0 b->P .next ⟨t,nx,C⟩)->
  dq (fun H=>b6 H (.tag (0,i0))=some (l0.map .str)) (ba 62) (hZ (aB (bG (aB (ac 61) 150) (ac 62)) 142) (aB (aB (ac 154) 42) 62) (ac 154)) (l.map .str) ⟨s,nx,x⟩ P:=by
 intro l;induction l with
 |nil=>
  intro f s x r u hd F I y L q;exact⟨ay y,q f s x r u (.refl hd) rfl rfl (fun i h=>h.elim (fun z=>nomatch z) id) y (.refl _ _) L⟩
 |cons j l X=>
  intro f s x r u hd F I y L q;refine bM (I j Ze) fun O D E=>?_;obtain⟨a,v⟩:=Option.ne_none_iff_exists'.mp E;have T:=r.node j a v;have wl:=(u.ndl o v).2.2 D;have A:Loc (ah x 62 (.str j)) k i0 b:=L.put (.inl rfl);refine⟨ay y,iM (aa A.l154 (kU (lG (dS r A.l61 (by decide) (fun _=>rfl) rfl (aa bq ⟨aO j,oL r u v,(10,j),E3 2 _ (.tag (14,j)) (A6 rfl T.obj (by decide) rfl rfl (iz r hd (u.na k d hd).lt A.l154 (.inr (E4 (14,j) _ none k (A5 rfl rfl T.wm (by simp;exact av 0 7 1 1000 wl rfl) ?_)))))⟩)))))⟩;refine(show ah (a.wm.map fun j=>(j,aO j)) k (aO k)=(eu a.wm k).map fun j=>(j,aO j) from ins_aput)▸?_;have W:j∈f.xt\/j∈f.xc:=by
   induction b;·exact .inl O
   ·exact .inr O
  obtain⟨Y,G⟩:=u.addWm o hd F v W (d4:={ a with wm:=eu a.wm k }) (st4:=f.setNd j { a with wm:=eu a.wm k }) rfl rfl rfl;have lk:Lk S.n k d d f (f.setNd j { a with wm:=eu a.wm k }):=⟨Wk.one (d4:={ a with wm:=eu a.wm k }) rfl v rfl rfl rfl _,(cQ (Ne.symm G)).trans hd,⟨rfl,rfl⟩,.inl (A3 rfl rfl rfl)⟩
  refine X _ _ _ (r.ndWm v (eu a.wm k)) Y lk.nd F (fun i h=>?_) (hN y) A fun g t C r2 Z k2 D E w2 t2 l2 U=>?_
  ·refine bM (I i (Zc _ h)) fun K M z3=>?_;exact A3 (by cases b<;>exact K) (by unfold En;rw[lk.wk.rs];exact M) (lk.wk.ex i z3)
  ·have N:∀c,hand c (f.setNd j { a with wm:=eu a.wm k })=hand c f:=fun c=>by induction c<;>rfl
   refine q g t C r2 Z (lk.trans k2) (D.trans (N _)) (E.trans (N _)) (fun i h=>w2 i ?_) t2 (Low.tr bP l2) U;have new:∃B,(f.setNd j { a with wm:=eu a.wm k }).nd j=some B/\k∈B.wm:=⟨_,bp,mem_insL.mpr (.inr rfl)⟩
   rcases h with h|⟨B,K,M⟩
   ·rcases List.mem_cons.mp h with V|h;·obtain rfl:=V.symm;exact .inr new
    ·exact .inl h
   ·by_cases e:i=j;·obtain rfl:=e.symm;exact .inr new
    ·exact .inr ⟨B,(cQ e).trans K,M⟩
theorem pU(o:RowsOK S.n S.Ro)(b:Bool){L:MV}(r:R S.n S.Ro st H nx)(E:J S st)(hd:st.nd k=some d)(F:st.cur=some k)(hp:d.ph=0)(hl:st.ll=[])(hx:∀i∈hand b st,st.nd i≠none)(Z:∀c s l f,R S.n S.Ro c s l->c.nd k=some f->f.g=d.g->f.pc=d.pc->b6 s L=some ((hand b st).map .str))(q:∀c s l K f,nx<=l->R S.n S.Ro c s l->J S c->Lk S.n k d f st c->hand b c=[]->hand (!b) c=hand (!b) st->Low H s nx->P .next ⟨s,l,K⟩) :
  qR.1 ⟨H,nx,[(61,.tag (20,0)),(154,aO k),(104,L),(165,.bool b)]⟩ P:=by
 refine aj (aP (bv (ai (eB (r.tmp nx (Zj _)) (by decide) ?_))));have M:R S.n S.Ro st (af H (0,nx) (aI [])) (nx+1):=r.tmpSet (i:=nx) (nx':=nx+1) (Zz _) (Zr _);have lo:Low H (af H (0,nx) (aI [])) nx:=fun i y=>ae (dh (Zh y));have hw:af H (0,nx) (aI []) (0,nx)=some (aI []):=setH_at;show az _ _ ⟨af H (0,nx) (aI []),nx+1,_⟩ _;generalize af H (0,nx) (aI [])=H0 at M lo hw ⊢;have ln:=E.nb k d hd;have l1:=E.tkl o (E.na k d hd).lt;have lh:(hand b st).length<900:=by
  have:=ln.cnh F;induction b;·show st.xt.length<_;exact xN l1.2.1 l1.2.2.1 this
  ·show st.xc.length<_;exact xN l1.2.1 l1.2.2.1 this
 refine aj (cA (bu (aa rfl ⟨_,Z st H0 (nx+1) d M hd rfl rfl,?_⟩)));refine wi (k:=k) (d:=d) o (Zr nx) (b:=b) (fun c s f N e2 g2 p2=>Z c s _ f N e2 g2 p2) (hand b st) [] st d H0 _ M E hd ⟨rfl,rfl⟩ F hp hl rfl hx (fun _ h=>nomatch h) .nil (by simpa using lh) hw ⟨rfl,rfl,rfl,rfl⟩ fun c s K f N j2 k2 Y I n2 w2 l2 U=>?_;refine aj (cA (bu (aa U.l166 ⟨_,ay w2,?_⟩)));refine wh (k:=k) (d:=f) o (Zr nx) (b:=b) (l0:=hand b c) (hand b c) c s K N j2 k2.nd (k2.wk.cur.trans F) (fun i h=>(A3 h ((I i h).1) (k2.wk.ex i (hx i ((I i h).2.resolve_left fun z=>nomatch z))))) w2 U fun e H3 m3 O D k3 W X t3 T l3 x=>?_;have B:f.ph=0:=(k2.ph hd).trans hp;have u:e.cur=some k:=(k2.trans k3).wk.cur.trans F;have A:e.ll=[]:=(k2.trans k3).wk.ll.trans hl;have v:=O.node k f k3.nd;have k4:=k2.trans k3;have C:∀i∈hand b e,¬ En e i/\∃a,e.nd i=some a/\k∈a.wm:=fun i h=>by
  rw[W] at h;exact⟨by unfold En;rw[k3.wk.rs];exact(I i h).1,t3 i (.inl h)⟩
 rw[<-W] at T;have V:=(D.nb k f k3.nd).cnh u;have G:=D.tkl o (D.na k f k3.nd).lt;have lw:Low H H3 nx:=fun i y=>(l3 i (Nat.lt_succ_of_lt y)).trans ((l2 i y).trans (lo i y));refine aX (cw (aa x.l165 ⟨b,rfl,?_⟩));cases b with
 |false=>
  refine bj (bS (aH (t:=(10,k)) x.l154 v.obj (by decide) rfl rfl ⟨kN v.wr,ao (aa x.l166 (ai ⟨(12,k),E3 _ f.wr e.xt (A5 rfl v.wr (ay T) (kQ V G.2.1 G.2.2.1) ⟨rfl,?_⟩)⟩))⟩));exact q _ _ _ _ { f with wr:=aU f.wr e.xt } (Zz _) ((O.ndWr k3.nd _).hand rfl) (D.waitT o k3.nd u B A C) (k4.trans ⟨Wk.one (st4:={ e.setNd k { f with wr:=aU f.wr e.xt } with xt:=[] }) rfl k3.nd rfl rfl rfl _,bp,⟨rfl,rfl⟩,.inl (A3 rfl rfl rfl)⟩) rfl (X.trans Y) (lw.tr bP)
 |true=>
  refine bj (bS (aH (t:=(10,k)) x.l154 v.obj (by decide) rfl rfl ⟨kN v.wc,ao (aa x.l166 (ai ⟨(13,k),E3 _ f.wc e.xc (A5 rfl v.wc (ay T) (kQ V G.2.1 G.2.2.1) ⟨rfl,?_⟩)⟩))⟩));exact q _ _ _ _ { f with wc:=aU f.wc e.xc } (Zz _) ((O.ndWc k3.nd _).hand rfl) (D.waitC o k3.nd u B A C) (k4.trans ⟨Wk.one (st4:={ e.setNd k { f with wc:=aU f.wc e.xc } with xc:=[] }) rfl k3.nd rfl rfl rfl _,bp,⟨rfl,rfl⟩,.inl (A3 rfl rfl rfl)⟩) rfl (X.trans Y) (lw.tr bP)
end
end
section
section
variable {S:Sc}{n:Nat}{st st' st4:St}{H H':aq->Option MObj}{nx:Nat}{m:List (Nat×MV)}{k i j p w:Nat}{d d4 dj dp dw:Nd}{Q:MV->AS->Prop}{P:aE->AS->Prop}
theorem Gr.lk(x:Gr n st st')(hd:st.nd k=some d):Lk n k d d st st':=⟨x.wk,x.nd k d hd,⟨rfl,rfl⟩,.inl (A3 rfl rfl (x.tk▸rfl))⟩
theorem lW{t:aq}{l:List Nat}(h:H t=some (aI l)):de H (.tag t)=some (!l.isEmpty):=
 (tN h).trans (by induction l<;>rfl)
theorem J.hnd(o:RowsOK S.n S.Ro)(c:J S st)(hd:st.nd k=some d)(f:st.cur=some k)(b:Bool):∀i∈Mini.Tactic.hand b st,i<k/\S.A i:=fun i g=>by
 have a:=c.na k d hd;have e:=c.nb k d hd;induction b with
 |false=>
  have h:=a.tdW i (e.pT i (.inr ⟨f,g⟩));exact⟨(h.ok o).1,(c.cl k a.al i (.inl h)).1⟩
 |true=>
  have h:=a.cdW i (e.pC i (.inr ⟨f,g⟩)).1;exact⟨(h.ok o).1,(c.cl k a.al i (.inr h)).1⟩
theorem sg(o:RowsOK S.n S.Ro)(r:R S.n S.Ro st H nx)(f:J S st)(hd:st.nd k=some d)(l:st.cur=some k)(t:d.ph=0)(s:st.ll=[])(u:∀i∈st.xt,st.nd i≠none)(q:∀a c b e,nx<=b->R S.n S.Ro a c b->J S a->Lk S.n k d e st a->a.xt=[]->a.xc=st.xc->Low H c nx->Q .none ⟨c,b,m⟩) :
  bJ.1 [.tag (20,0),aO k,bO st.xt] [] ⟨H,nx,m⟩ Q:=
 ⟨rfl,pU o false r f hd l t s u (fun _ _ _ _ _ _ _ _=>rfl) fun a c b z e x y v k2 g h l2=>q a c b e x y v k2 g h l2⟩
theorem nX(o:RowsOK S.n S.Ro)(r:R S.n S.Ro st H nx)(s:J S st)(hd:st.nd k=some d)(y:st.cur=some k)(B:d.ph=0)(A:st.ll=[])(C:∀i∈st.xc,st.nd i≠none){g:Nat}(z:99+2*d.g=g)(u:d.g≠0)(f:d.pc=st.xc)(q:∀a c b e,nx<=b->R S.n S.Ro a c b->J S a->Lk S.n k d e st a->a.xc=[]->a.xt=st.xt->Low H c nx->Q .none ⟨c,b,m⟩) :
  bQ.1 [.tag (20,0),aO k,.tag (g,k)] [.bool true] ⟨H,nx,m⟩ Q:=
 ⟨rfl,pU o true r s hd y B A C (fun a c b e h t l p2=>ay (by
  have:=(h.node k e t).pc (l▸u);rw[l,z,p2,f] at this;exact this)) fun a c b F e E h D k2 v x l2=>q a c b e E h D k2 v x l2⟩
structure qU(m:List (Nat×MV))(k:Nat):Prop where
 l61:m.lookup 61=some (.tag (20,0))
 l154:m.lookup 154=some (aO k)
 l171:m.lookup 171=some (.tag (1,k))
set_option maxHeartbeats 1000000 in
theorem wy(o:RowsOK S.n S.Ro)(r:R S.n S.Ro st H nx)(J0:J S st)(hd:st.nd k=some d)(hc:st.cur=some k)(hp:d.ph=0)(hl:st.ll=[])(hx:st.xt=[]/\st.xc=[])(L:qU m k)(qc:∀b e c G q,nx<=c->R S.n S.Ro b e c->J S b->Wk S.n st b->b.nd k=some q->b.xt=[]/\b.xc=[]->(st.tk k).pr.length<(b.tk k).pr.length->Low H e nx->qU G k->P .cont ⟨e,c,G⟩)(qw:∀b e c G q,nx<=c->R S.n S.Ro b e c->J S b->Wk S.n st b->b.nd k=some q->b.xt=[]/\b.xc=[]->q.td=[]->q.cd=[]->q.wr≠[]\/q.wc≠[]->Low H e nx->P (.ret (.str 43)) ⟨e,c,G⟩)(qt:∀b e c G q,nx<=c->R S.n S.Ro (b.setNd k { q with ph:=1 }) e c->J S b->Wk S.n st b->b.nd k=some q->b.xt=[]/\b.xc=[]->q.td=[]->q.cd=[]->q.wr=[]->q.wc=[]->Low H e nx->P (.ret (.str 42)) ⟨e,c,G⟩) :(az (cJ 172 (aB (ac 154) 52)) (az (eH (ac 154) 52 (dJ [])) (az (cJ 173 (fH (aB (ac 154) 50) none none none)) (az (eH (ac 154) 50 (dJ [])) (az (js (dH (ac 172)) (ba 52) (bK (cr 3 162 aW.1 (ac 61) [(ac 154),(ac 52)] []))) (az (bK (cr 3 164 bQ.1 (ac 61) [(ac 154),(ac 172)] [(ax (.bool true))])) (az (js (dH (ac 173)) (ba 50) (bK (cr 3 162 aW.1 (ac 61) [(ac 154),(ac 50)] []))) (az (bK (cr 3 164 bJ.1 (ac 61) [(ac 154),(ac 173)] [])) (ca (fS (c9 (aB (ac 154) 52)) (fS (c9 (aB (ac 154) 50)) eX)) jI (ca (fS (c9 (aB (ac 154) 140)) (fS (c9 (aB (ac 154) 141)) eX)) (fj (ax (.str 43))) (az (eH (ac 154) 146 (ax (.int 1))) (fj (ax (.str 42)))))))))))))) ⟨H,nx,m⟩ P:=by
 have x:=r.node k d hd;have ln:=J0.ndl o hd;have f3:H (103+2*d.g,k)=none:=x.fr _ (sL );have f2:H (102+2*d.g,k)=none:=x.fr _ (Zj _);refine aj (aP (aH (t:=(10,k)) L.l154 x.obj (by decide) rfl rfl ?_));refine aj (aR (bv (ai (d9 f3 fz (by decide) (aa ((aJ (by decide)).trans L.l154) (bT (hN x.obj fw) (by decide) (bX rfl) ?_))))));refine aj (aP (nN (v:=.tag (100+2*d.g,k)) (xs:=d.td.map .str) (ay (hN (hN x.td n0) (Zn (xO )))) (by simp;exact gq ln.2.1) ?_ fun A hA=>aH (t:=(10,k)) ((aJ (by decide)).trans L.l154) setH_at (by decide) rfl rfl hA));refine aj (aR (bv (ai (d9 (hN (hN f2 n0) (Zn (xO ))) fz (by decide) (aa ((aJ (by decide)).trans ((aJ (by decide)).trans L.l154)) (bT (hN setH_at (Zh (xO ))) (by decide) (bX rfl) ?_))))));have r1:=(r.round hd).hand (st':={ st.setNd k d.rnd with xt:=d.td,xc:=d.cd }) rfl;have lo1:Low H (af (af (af (af H (103+2*d.g,k) (aI [])) (10,k) (.inst 2 (ah (gw k d) 52 (.tag (103+2*d.g,k))))) (102+2*d.g,k) (aI [])) (10,k) (.inst 2 (ah (ah (gw k d) 52 (.tag (103+2*d.g,k))) 50 (.tag (102+2*d.g,k))))) nx:=
  (((bP fz).tr (bP (Zn (Zo _ _)))).tr (bP (Zn (Zp (xJ rfl) (ZB _ _))))).tr (bP (Zn (Zo _ _)))
 show az _ _ ⟨(af (af (af (af H (103+2*d.g,k) (aI [])) (10,k) (.inst 2 (ah (gw k d) 52 (.tag (103+2*d.g,k))))) (102+2*d.g,k) (aI [])) (10,k) (.inst 2 (ah (ah (gw k d) 52 (.tag (103+2*d.g,k))) 50 (.tag (102+2*d.g,k))))),nx,_⟩ _;generalize af (af (af (af H (103+2*d.g,k) (aI [])) (10,k) (.inst 2 (ah (gw k d) 52 (.tag (103+2*d.g,k))))) (102+2*d.g,k) (aI [])) (10,k) (.inst 2 (ah (ah (gw k d) 52 (.tag (103+2*d.g,k))) 50 (.tag (102+2*d.g,k))))=H1 at r1 lo1 ⊢;have j1:=J0.round o hd hc hx hp hl;have w1:Wk S.n st { st.setNd k d.rnd with xt:=d.td,xc:=d.cd }:=Wk.one (st4:={ st.setNd k d.rnd with xt:=d.td,xc:=d.cd }) (d4:=d.rnd) rfl hd rfl rfl rfl _;have V:({ st.setNd k d.rnd with xt:=d.td,xc:=d.cd }:St).nd k=some d.rnd:=bp;have t1:({ st.setNd k d.rnd with xt:=d.td,xc:=d.cd }:St).tk=st.tk:=rfl;have xt1:({ st.setNd k d.rnd with xt:=d.td,xc:=d.cd }:St).xt=d.td:=rfl;have F:({ st.setNd k d.rnd with xt:=d.td,xc:=d.cd }:St).xc=d.cd:=rfl;generalize ({ st.setNd k d.rnd with xt:=d.td,xc:=d.cd }:St)=st1 at r1 j1 w1 V t1 xt1 F;have T:(d.rnd:Nd).ph=0:=hp;have O:99+2*(d.rnd:Nd).g=101+2*d.g:=by show 99+2*(d.g+1)=_;exact Nat.le_antisymm (sL ) (sL )
 have M:(d.rnd:Nd).g≠0:=Nat.succ_ne_zero _;have N:(d.rnd:Nd).pc=d.cd:=rfl;have U:(d.rnd:Nd).td=[]/\(d.rnd:Nd).cd=[]:=⟨rfl,rfl⟩
 generalize (d.rnd:Nd)=d1 at V T O M N U;have B:=w1.cur.trans hc;have hl1:=w1.ll.trans hl;have pcs:∀b e c,R S.n S.Ro b e c->b.nd k=some d1->b6 e (.tag (101+2*d.g,k))=some (d.cd.map .str):=fun b e c r2 W=>ay (by
  have:=(r2.node k d1 W).pc M;rw[O,N] at this;exact this)
 refine aj (cA (bu (aa ((aJ (by decide)).trans bq) ⟨_,pcs st1 H1 nx r1 V,?_⟩)));refine tm (k:=k) (d:=d1) (by decide) o d.cd st1 H1 _ r1 j1 V B ((aJ (by decide)).trans ((aJ (by decide)).trans L.l61)) ((aJ (by decide)).trans ((aJ (by decide)).trans L.l154)) (fun i Z=>j1.hnd o V B true i (by show i∈st1.xc;refine F.symm▸?_;exact Z)) (fun b e G r2 j2 X x2 lo2 y2=>?_) _ fun b e r2 W=>pcs b e nx r2 W;have L2:∀y,y≠52->y≠172->y≠173->G.lookup y=m.lookup y:=fun y h1 h2 h3=>(y2 y h1).trans ((aJ h3).trans (aJ h2));have W:=X.nd k d1 V;obtain⟨v2,hD2⟩:=r2.disp;refine aj (bj (bN (aa ((L2 61 (by decide) (by decide) (by decide)).trans L.l61) (E2 (20,0) _ (A4 rfl hD2 rfl (ao (aa ((L2 154 (by decide) (by decide) (by decide)).trans L.l154) (ao (aa ((y2 172 (by decide)).trans ((aJ (by decide)).trans bq)) (ai (ao (au (ai ?_)))))))))))));refine nX o r2 j2 W (X.wk.cur.trans B) T (X.wk.ll.trans hl1) (fun i Z=>x2 i (by rw[<-F,<-X.xc];exact Z)) O M (by rw[X.xc,F];exact N) fun st3 H3 nx3 d3 n3 r3 j3 k3 xc3 xt3 lo3=>⟨rfl,?_⟩
 have k13:=(X.lk V).trans k3;have Y:=k13.wk.cur.trans B;have hl3:=k13.wk.ll.trans hl1;have K:st3.xt=d.td:=xt3.trans (X.xt.trans xt1);refine aj (cA (bu (aa ((y2 173 (by decide)).trans bq) ⟨d.td.map .str,rfl,?_⟩)));refine tm (k:=k) (d:=d3) (by decide) o d.td st3 H3 _ r3 j3 k3.nd Y ((L2 61 (by decide) (by decide) (by decide)).trans L.l61) ((L2 154 (by decide) (by decide) (by decide)).trans L.l154) (fun i Z=>j3.hnd o k3.nd Y false i (by show i∈st3.xt;refine K.symm▸?_;exact Z)) (fun st4 H4 I r4 j4 g4 x4 lo4 y4=>?_) _ fun b e r2 W=>rfl;have L4:∀y,y≠50->y≠52->y≠172->y≠173->I.lookup y=m.lookup y:=fun y h0 h1 h2 h3=>(y4 y h0).trans (L2 y h1 h2 h3);have l154:=(L4 154 (by decide) (by decide) (by decide) (by decide)).trans L.l154;have e4:=g4.nd k d3 k3.nd;have xt4:st4.xt=d.td:=g4.xt.trans K;obtain⟨v4,hD4⟩:=r4.disp;refine aj (bj (bN (aa ((L4 61 (by decide) (by decide) (by decide) (by decide)).trans L.l61) (E2 (20,0) _ (A4 rfl hD4 rfl (ao (aa l154 (ao (aa ((y4 173 (by decide)).trans ((y2 173 (by decide)).trans bq)) (ai (ai ?_)))))))))));have w4:=sg (Q:=fun v σ=>xW (zm (ca (fS (c9 (aB (ac 154) 52)) (fS (c9 (aB (ac 154) 50)) eX)) jI (ca (fS (c9 (aB (ac 154) 140)) (fS (c9 (aB (ac 154) 141)) eX)) (fj (ax (.str 43))) (az (eH (ac 154) 146 (ax (.int 1))) (fj (ax (.str 42)))))) P) v σ) (m:=I) o r4 j4 e4 (g4.wk.cur.trans Y) ((k3.ph W).trans T) (g4.wk.ll.trans hl3) (fun i Z=>x4 i (xt4▸Z));rw[xt4] at w4;refine w4 fun f H5 u s n5 r5 j5 k5 xt5 xc5 lo5=>⟨rfl,?_⟩
 have k15:=(k13.trans (g4.lk k3.nd)).trans k5;have ww:=w1.trans k15.wk;have xx:f.xt=[]/\f.xc=[]:=⟨xt5,xc5.trans (g4.xc.trans xc3)⟩
 have nn:nx<=u:=Zk n3 n5;have lo:Low H H5 nx:=(lo1.tr lo2).tr (lo3.trans (lo4.tr lo5) n3);have E:=r5.node k s k5.nd;have LA:qU I k:=⟨(L4 61 (by decide) (by decide) (by decide) (by decide)).trans L.l61,l154,(L4 171 (by decide) (by decide) (by decide) (by decide)).trans L.l171⟩
 have pr:s.td≠[]\/s.cd≠[]->(st.tk k).pr.length<(f.tk k).pr.length:=fun h=>by
  rcases k15.pr with⟨z1,z2,_⟩|z;·rw[U.1] at z1;rw[U.2] at z2;exact(h.elim (fun h=>h z1) fun h=>h z2).elim
  ·replace z:=t1▸z;exact z
 refine aX (gz (cw (aH (t:=(10,k)) l154 E.obj (by decide) rfl rfl ⟨_,lW E.cd,?_⟩)));cases C:s.cd with
 |cons a l=>exact qc f H5 u I s nn r5 j5 ww k5.nd xx (pr (.inr (by rw[C];exact List.cons_ne_nil _ _))) lo LA
 |nil=>
  refine gz (cw (aH (t:=(10,k)) l154 E.obj (by decide) rfl rfl ⟨_,lW E.td,?_⟩));cases D:s.td with
  |cons a l=>exact qc f H5 u I s nn r5 j5 ww k5.nd xx (pr (.inl (by rw[D];exact List.cons_ne_nil _ _))) lo LA
  |nil=>
   refine aX (gz (cw (aH (t:=(10,k)) l154 E.obj (by decide) rfl rfl ⟨_,jk E.wr,?_⟩)));cases hwr:s.wr with
   |cons a l=>exact cK (au (qw f H5 u I s nn r5 j5 ww k5.nd xx D C (.inl (by rw[hwr];exact List.cons_ne_nil _ _)) lo))
   |nil=>
    refine gz (cw (aH (t:=(10,k)) l154 E.obj (by decide) rfl rfl ⟨_,jk E.wc,?_⟩));cases hwc:s.wc with
    |cons a l=>exact cK (au (qw f H5 u I s nn r5 j5 ww k5.nd xx D C (.inr (by rw[hwc];exact List.cons_ne_nil _ _)) lo))
    |nil=>
     refine aj (aR (au (aa l154 (bT E.obj (by decide) (bX rfl) (cK (au ?_))))));exact qt f _ u I s nn (r5.ndObj k5.nd { s with ph:=1 } rfl rfl) j5 ww k5.nd xx D C hwr hwc (lo.tr bP)
end
end
section
section
variable {S:Sc}{n:Nat}{st st' st4:St}{H H':aq->Option MObj}{nx:Nat}{m:List (Nat×MV)}{k i j p w:Nat}{d d4 dj dp dw:Nd}{Q:MV->AS->Prop}{P:aE->AS->Prop}
theorem bU{a:MS}{b:AS}(h:P .next b):sJ a bn P false b:=h
theorem sU(r:R S.n S.Ro st H nx)(e:st.nd k=some d){n:Nat}(h:m.lookup 154=some (aO k)){P:Bool->AS->Prop}(q:P (d.ph == n) ⟨H,nx,m⟩):bh gT (aB (ac 154) 146) (ax (.int n)) ⟨H,nx,m⟩ P:=by
 refine aK (aH (t:=(10,k)) h (r.node k d e).obj (by decide) rfl rfl (au ⟨_,rfl,?_⟩));have:((d.ph:Int) == (n:Int))=(d.ph == n):=by
  by_cases h:d.ph=n;·subst h;simp
  ·rw[beq_eq_false_iff_ne.mpr h,beq_eq_false_iff_ne.mpr];exact fun e=>h (Int.ofNat.inj e)
 rw[this];exact q
theorem sj(o:RowsOK S.n S.Ro)(r:R S.n S.Ro st H nx)(T:J S st)(hd:st.nd k=some d)(hc:st.cur=some k)(hl:st.ll=[])(hx:st.xt=[]/\st.xc=[])(qn:d.ph=1->Q .none ⟨H,nx,m⟩)(qw:∀a e b c,d.ph=0->nx<=b->R S.n S.Ro a e b->J S a->Wk S.n st a->a.nd k=some c->a.xt=[]/\a.xc=[]->c.td=[]->c.cd=[]->c.wr≠[]\/c.wc≠[]->Low H e nx->Q (.str 43) ⟨e,b,m⟩)(qt:∀a e b c,d.ph=0->nx<=b->R S.n S.Ro (a.setNd k { c with ph:=1 }) e b->J S a->Wk S.n st a->a.nd k=some c->a.xt=[]/\a.xc=[]->c.td=[]->c.cd=[]->c.wr=[]->c.wc=[]->Low H e nx->Q (.str 42) ⟨e,b,m⟩) :
  cX.1 [.tag (20,0),aO k] [] ⟨H,nx,m⟩ Q:=by
 have x:=r.node k d hd;have hk:=(T.na k d hd).lt;refine⟨rfl,?_⟩;show az _ _ ⟨H,nx,[(61,.tag (20,0)),(154,aO k)]⟩ _;refine aj (aP (aH (t:=(10,k)) rfl x.obj (by decide) rfl rfl ?_));have L0:qU (ah [(61,.tag (20,0)),(154,aO k)] 171 (.tag (1,k))) k:=⟨rfl,rfl,rfl⟩
 rcases (T.nc k d hd).ph with I|I
 ·refine aj (lm 8 ?_);have M:∀(f:Nat)(h:St)(L:aq->Option MObj)(q:Nat)(O:List (Nat×MV))(N:Nd)(B:aE->AS->Prop),8<=f+(h.tk k).pr.length->nx<=q->R S.n S.Ro h L q->J S h->Wk S.n st h->h.nd k=some N->h.xt=[]/\h.xc=[]->Low H L nx->qU O k->
    (∀a e b l c,nx<=b->R S.n S.Ro a e b->J S a->Wk S.n st a->a.nd k=some c->a.xt=[]/\a.xc=[]->c.td=[]->c.cd=[]->c.wr≠[]\/c.wc≠[]->Low H e nx->B (.ret (.str 43)) ⟨e,b,l⟩)->
    (∀a e b l c,nx<=b->R S.n S.Ro (a.setNd k { c with ph:=1 }) e b->J S a->Wk S.n st a->a.nd k=some c->a.xt=[]/\a.xc=[]->c.td=[]->c.cd=[]->c.wr=[]->c.wc=[]->Low H e nx->B (.ret (.str 42)) ⟨e,b,l⟩)->
    g7 (bh gT (aB (ac 154) 146) (ax (.int 0))) (az (cJ 172 (aB (ac 154) 52)) (az (eH (ac 154) 52 (dJ [])) (az (cJ 173 (fH (aB (ac 154) 50) none none none)) (az (eH (ac 154) 50 (dJ [])) (az (js (dH (ac 172)) (ba 52) (bK (cr 3 162 aW.1 (ac 61) [(ac 154),(ac 52)] []))) (az (bK (cr 3 164 bQ.1 (ac 61) [(ac 154),(ac 172)] [(ax (.bool true))])) (az (js (dH (ac 173)) (ba 50) (bK (cr 3 162 aW.1 (ac 61) [(ac 154),(ac 50)] []))) (az (bK (cr 3 164 bJ.1 (ac 61) [(ac 154),(ac 173)] [])) (ca (fS (c9 (aB (ac 154) 52)) (fS (c9 (aB (ac 154) 50)) eX)) jI (ca (fS (c9 (aB (ac 154) 140)) (fS (c9 (aB (ac 154) 141)) eX)) (fj (ax (.str 43))) (az (eH (ac 154) 146 (ax (.int 1))) (fj (ax (.str 42)))))))))))))) f ⟨L,q,O⟩ B:=by
   intro f;induction f with
   |zero=>
    intro h L q O N B hf _ _ V;have:=(V.tkl o hk).1;omega
   |succ f ih=>
    intro h L q O N B hf G r1 V K U x1 C Y Z bt;have p1:N.ph=0:=(K.phd hd U).trans I;refine sU (n:=0) r1 U Y.l154 ?_;rw[p1];refine wy o r1 V U (K.cur.trans hc) p1 (K.ll.trans hl) x1 Y (fun a e b l c v y u z s A W g L2=>?_) (fun a e b l c v y u z s A D E F g=>?_) fun a e b l c v y u z s A D E F X g=>?_;·exact ih a e b l c B (iG hf W) (Zk G v) y u (K.trans z) s A (C.trans g G) L2 Z bt
    ·exact Z a e b l c (Zk G v) y u (K.trans z) s A D E F (C.trans g G)
    ·exact bt a e b l c (Zk G v) y u (K.trans z) s A D E F X (C.trans g G)
  exact M 8 st H nx _ d _ (ZB _ _) (Zj _) r T (.refl _ _) hd hx (.refl _ _) L0 (fun a e b l c v y u z s A D E F g=>qw a e b c I v y u z s A D E F g) fun a e b l c v y u z s A D E F X g=>qt a e b c I v y u z s A D E F X g
 ·refine aj (lm 1 (sU (n:=0) r hd rfl ?_));rw[I.1];refine mK ((r.task k hk).obj) fun es t1 t2 t3 t4 t5 t6 t7 _=>?_;refine aj (aX (cw (aH (t:=(1,k)) rfl t1 (by decide) t7 rfl ⟨false,rfl,?_⟩)));exact bU (cK (au (qn I.1)))
end
end
section
noncomputable def fu(n:Nat)(st:St):Nat:=mu n st+Option.casesOn st.cur 0 fun _=>1
structure Kp(st st2:St):Prop where
 rs:∀i,aF st2 i=aF st i
 ph:∀i,dn st2 i=dn st i
 ll:st2.ll=st.ll
 hx:st2.xt=[]/\st2.xc=[]
theorem Kp.trans{a b c:St}(x:Kp a b)(y:Kp b c):Kp a c:=⟨fun i=>(y.rs i).trans (x.rs i),fun i=>(y.ph i).trans (x.ph i),y.ll.trans x.ll,y.hx⟩
theorem St.cur_none{s:St}(h:s.cur=none):({ s with cur:=none }:St)=s:=by induction s;cases h;rfl
section
variable {S:Sc}{n:Nat}{st st' st4:St}{H H':aq->Option MObj}{nx:Nat}{m:List (Nat×MV)}{k i j p w:Nat}{d d4 dj dp dw:Nd}{Q:MV->AS->Prop}{P:aE->AS->Prop}{X:AS->Prop}
theorem yx(b:st.nd j=none){a:List Nat}(c:st4.nd=(ia st a j).nd):(∀i,aF st4 i=aF st i)/\∀i,dn st4 i=dn st i:=by
 have e:st4.nd j=some (qN j a (st.tk j)):=by rw[c];exact bp
 have ne:∀i,i≠j->st4.nd i=st.nd i:=fun i h=>by rw[c];exact cQ h
 refine⟨fun i=>?_,fun i=>?_⟩
 ·by_cases h:i=j;·subst h;rw[dg e,kE b];rfl
  ·exact congrArg _ (ne i h)
 ·by_cases h:i=j;·subst h;rw[dy e,mz b];rfl
  ·exact congrArg _ (ne i h)
theorem si(o:RowsOK S.n S.Ro)(r:R S.n S.Ro st H nx)(q:J S st)(y:st.cur=none)(q0:∀c,R S.n S.Ro { st with ttr:=[] } c nx->J S { st with ttr:=[] }->st.ready=[]->Low H c nx->Q .none ⟨c,nx,m⟩)(q1:∀b c k,R S.n S.Ro { b with cur:=none } c nx->J S b->b.cur=some k->Kp st b->mu S.n b<mu S.n st->Low H c nx->Q (aO k) ⟨c,nx,m⟩) :
  cy.1 [.tag (20,0),.tag (20,3),.tag (20,4)] [] ⟨H,nx,m⟩ Q:=by
 refine⟨rfl,?_⟩;show az _ _ ⟨H,nx,[(61,.tag (20,0)),(152,.tag (20,3)),(153,.tag (20,4))]⟩ _;refine aj (aX (cw (aa rfl ⟨!st.ready.isEmpty,(tN r.ready).trans (by induction st.ready<;>rfl),?_⟩)));cases g:st.ready with
 |cons k l=>
  refine cK (bS (aa rfl ⟨kl r.ready,ao (au (ai (.inr (E4 (20,3) _ 0 (aO k) (A5 rfl r.ready (by decide) (by rw[g];rfl) ?_)))))⟩));have N:((st.ready.map aO).eraseIdx (0:Int).toNat)=l.map aO:=by rw[g];rfl
  refine N▸?_;refine q1 { st with ready:=l,cur:=some k } _ k ?_ (q.pop o y g) rfl ⟨fun _=>rfl,fun _=>rfl,rfl,q.hand y⟩ ?_ bP
  ·have:=r.setReady l;rw[<-St.cur_none (s:={ st with ready:=l }) y] at this;exact this
  ·show 2*_+l.length<2*_+st.ready.length;rw[g];exact Nat.add_lt_add_left (Zr _) _
 |nil=>
  refine aj (lm (st.ttr.length+1) ?_);have K:∀(f:Nat)(tt:List Nat)(t:aq->Option MObj)(x:List (Nat×MV))(B:aE->AS->Prop),tt.length<f->x.lookup 61=some (.tag (20,0))->x.lookup 153=some (.tag (20,4))->R S.n S.Ro { st with ttr:=tt } t nx->J S { st with ttr:=tt }->Low H t nx->
    (∀c A,R S.n S.Ro { st with ttr:=[] } c nx->J S { st with ttr:=[] }->Low H c nx->B .next ⟨c,nx,A⟩)->(∀b c A k,R S.n S.Ro { b with cur:=none } c nx->J S b->b.cur=some k->Kp st b->mu S.n b<mu S.n st->Low H c nx->B (.ret (aO k)) ⟨c,nx,A⟩)->
    g7 (c9 (ac 153)) (az (cJ 129 (b9 1 o6 (ac 153) [])) (az (cJ 154 (cr 3 156 cW.1 (ac 61) [ax .none,ac 129] [])) (ca (c9 (ac 154)) (fj (ac 154)) bn))) f ⟨t,nx,x⟩ B:=by
   intro f;induction f with
   |zero=>intro tt t x B L;exact absurd L (ZA _)
   |succ f ih=>
    intro tt t x B L E e M D lo Z b1;refine cw (aa e ⟨_,lW M.ttr,?_⟩);rcases List.eq_nil_or_concat tt with rfl|⟨l,k,F⟩
    ·exact Z t x M D lo
    ·rw[List.concat_eq_append] at F;subst F;have T:(!(l++[k]).isEmpty)=true:=by simp
     refine T▸?_;obtain⟨O,hA⟩:=D.ttr k (by simp);have p4:t (20,4)=some (.list ((l++[k]).map .str)):=M.ttr;refine aj (aP (bS (aa e ⟨kl p4,ai (.inl (E3 (20,4) _ (.str k) (A4 rfl p4 (by simp) ?_)))⟩)));have N:((l++[k]).map MV.str).eraseIdx (((l++[k]).map MV.str).length - 1)=l.map .str:=by
      simp[List.eraseIdx_append_of_length_le]
     dsimp only;refine N▸?_;have C:R S.n S.Ro { st with ttr:=l } (af t (20,4) (aI l)) nx:=M.setTtr l;have I:Low H (af t (20,4) (aI l)) nx:=lo.tr bP;obtain⟨v,hD⟩:=C.disp;have tl:=q.tkl o O;have W:=q.ordl;have hn:=o.n;refine aj (aP (bN (aa ((aJ (by decide)).trans E) (E2 (20,0) _ (A4 rfl hD rfl (ao (au (ao (aa bq (ai (ai ?_)))))))))));refine nB (p:=none) C O (fun _ _ h=>nomatch h) (q.ord.1 k) (by show(st.tk k).td.length<=900;exact av 0 119 0 900 tl.2.1 rfl) (by show(st.tk k).cd.length<=900;exact av 0 7 0 900 tl.2.2.1 rfl) (by decide) (bR 0 0 0 7 1 1000 W hn rfl) (fun h=>?_) fun h c Y l3=>?_
     ·refine aX (cw (aa bq ⟨false,rfl,?_⟩));refine ih l _ _ B ?_ ((aJ (by decide)).trans ((aJ (by decide)).trans E)) ((aJ (by decide)).trans ((aJ (by decide)).trans e)) C (D.setTtr (tt:=l) (fun i u=>List.mem_append_left _ u) fun i u=>?_) I Z b1;·simp at L;exact L
      ·rcases D.sel i u with z|z;·exact .inl z
       ·rcases List.mem_append.mp z with z|z;·exact .inr z
        ·rw[List.mem_singleton.mp z];exact .inl h
     ·have G:st.nd k=none:=h;refine aX (cw (aa bq ⟨true,lL Y bp,?_⟩));refine cK (aa bq ?_);have j3:J S { ia { st with ttr:=l } [] k with cur:=some k }:=
       D.made o h O hA (a:=[]) .nil (fun _ z=>nomatch z) rfl rfl rfl (fun _ _=>Iff.rfl) q.rdn.1 (fun i u=>by show(some k=some i)↔(st.cur=some i);rw[y];simp[Ne.symm u]) (fun z=>nomatch z) (.inr (A3 (fun z=>q.rdn.2 k z G) rfl (q.hand y))) (fun i u=>List.mem_append_left _ u) fun i u=>by
        rcases D.sel i u with z|z;·exact .inl z
        ·rcases List.mem_append.mp z with z|z;·exact .inr (.inl z)
         ·exact .inr (.inr (List.mem_singleton.mp z))
      obtain⟨x,A⟩:=yx (st4:={ ia { st with ttr:=l } [] k with cur:=some k }) G (a:=[]) rfl;refine b1 { ia { st with ttr:=l } [] k with cur:=some k } c _ k ?_ j3 rfl ⟨x,A,rfl,q.hand y⟩ ?_ (I.tr l3)
      ·rw[<-St.cur_none (s:=ia { st with ttr:=l } (ju none) k) y] at Y;exact Y
      ·have:(st.ord++[k]).length<=S.n:=j3.ordl;show 2*(S.n - (st.ord++[k]).length)+st.ready.length<2*(S.n - st.ord.length)+st.ready.length;rw[List.length_append] at this ⊢;have:([k]:List Nat).length=1:=rfl;exact AK (Zd this.symm) (Zd (Zu W).symm) (Zd (Zu W).symm) (Zd (Zu (by assumption))) (Zd (Zu (by assumption)))
  exact K _ st.ttr H _ _ (Zr _) rfl rfl r q (.refl _ _) (fun c A C U l2=>q0 c C U g l2) fun b c A k C U c2 k2 V l2=>q1 b c k C U c2 k2 V l2
end
end
section
section
variable {S:Sc}{n:Nat}{st st' st4:St}{H H':aq->Option MObj}{nx:Nat}{m:List (Nat×MV)}{k i j p w:Nat}{d d4 dj dp dw:Nd}{Q:MV->AS->Prop}{P:aE->AS->Prop}{X:AS->Prop}
theorem ut{c:Option Nat}(r:R S.n S.Ro st H nx)(e:∀k,c=some k->st.nd k≠none):de H (dX c)=some c.isSome:=by
 induction c with
 |none=>rfl
 |some k=>obtain⟨d,q⟩:=Option.ne_none_iff_exists'.mp (e k rfl);exact lL r q
theorem ur{t:aq}{l:List Nat}(h:H t=some (mn l)):de H (.tag t)=some (!l.isEmpty):=
 (tN h).trans (by induction l<;>rfl)
theorem zZ{c:Option Nat}:qK (dX c)=true:=by induction c<;>rfl
def wg(S:Sc)(a:St):Prop:=a.cur=none/\a.ready=[]/\a.ttr=[]
theorem yn(o:RowsOK S.n S.Ro)(r:R S.n S.Ro st H nx)(z:J S st)(D:st.xt=[]/\st.xc=[])(h:m.lookup 61=some (.tag (20,0)))(E:∀b c k,R S.n S.Ro b c nx->J S b->b.cur=some k->Kp st b->mu S.n b<fu S.n st->Low H c nx->P .next ⟨c,nx,m⟩)(I:∀b c,R S.n S.Ro b c nx->J S b->wg S b->Kp st b->Low H c nx->(b.wait=[]->P (.ret .none) ⟨c,nx,m⟩)/\(b.wait≠[]->X ⟨c,nx,m⟩)) :
  pM (kI (c9 (aB (ac 61) 154))) (lz (xS (eH (ac 61) 154 (cr 3 174 cy.1 (ac 61) [(aB (ac 61) 152),(aB (ac 61) 153)] []))) (pM (kI (c9 (aB (ac 61) 154))) (lz (pM (c9 (aB (ac 61) 151)) (qV (ax (.str 40))) (xS bn)) (xS (fj (ax .none)))) (xS bn))) (xS bn) ⟨H,nx,m⟩ P X:=by
 refine tA (lH (cw (dS (v:=dX st.cur) r h (by decide) (fun _=>rfl) zZ ⟨_,ut r z.crx,?_⟩)));cases t:st.cur with
 |some k=>
  exact E st H k r z t ⟨fun _=>rfl,fun _=>rfl,rfl,D⟩ (by unfold fu;rw[t];exact Zr _) (.refl _ _)
 |none=>
  obtain⟨v,F⟩:=r.disp;refine mY (yY (aR (bN (aa h (E2 (20,0) _ (A4 rfl F rfl (ao (dS r h (by decide) (fun _=>rfl) rfl (ao (dS r h (by decide) (fun _=>rfl) rfl (ai (ai ?_))))))))))));refine si o r z t (fun c u y G l2=>?_) fun b c k u y x k2 B l2=>?_
  ·obtain⟨f,q⟩:=u.disp;refine aa h (bT q (by decide) (bX rfl) ?_);have g:R S.n S.Ro { st with ttr:=[] } (af c (20,0) (.inst 3 (ah (gL f (dX ({ st with ttr:=[] }:St).cur)) 154 .none))) nx:=by
    have:=u.setCur (v:=f) none (es:=ah (gL f (dX ({ st with ttr:=[] }:St).cur)) 154 .none) rfl;rw[St.cur_none (s:={ st with ttr:=[] }) t] at this;exact this
   have l3:Low H (af c (20,0) (.inst 3 (ah (gL f (dX ({ st with ttr:=[] }:St).cur)) 154 .none))) nx:=l2.tr bP;generalize af c (20,0) (.inst 3 (ah (gL f (dX ({ st with ttr:=[] }:St).cur)) 154 .none))=H3 at g l3 ⊢;refine tA (lH (cw (dS (v:=.none) g h (by decide) (fun _=>by show some (dX st.cur)=_;rw[t];rfl) rfl ⟨false,rfl,?_⟩)));obtain⟨K,L⟩:=I _ H3 g y ⟨t,G,rfl⟩ ⟨fun _=>rfl,fun _=>rfl,rfl,D⟩ l3;refine mY (tA (cw (dS g h (by decide) (fun _=>rfl) rfl ⟨_,ur g.wait,?_⟩)));cases C:st.wait with
   |nil=>exact K C
   |cons a l=>exact L (by show st.wait≠[];rw[C];exact List.cons_ne_nil _ _)
  ·obtain⟨f,q⟩:=u.disp;refine aa h (bT q (by decide) (bX rfl) ?_);have g:R S.n S.Ro b (af c (20,0) (.inst 3 (ah (gL f (dX ({ b with cur:=none }:St).cur)) 154 (aO k)))) nx:=by
    have:=u.setCur (v:=f) (some k) (es:=ah (gL f (dX ({ b with cur:=none }:St).cur)) 154 (aO k)) rfl;have e:({ ({ b with cur:=none }:St) with cur:=some k }:St)=b:=by rw[<-x]
    rw[e] at this;exact this
   have l3:Low H (af c (20,0) (.inst 3 (ah (gL f (dX ({ b with cur:=none }:St).cur)) 154 (aO k)))) nx:=l2.tr bP;generalize af c (20,0) (.inst 3 (ah (gL f (dX ({ b with cur:=none }:St).cur)) 154 (aO k)))=H3 at g l3 ⊢;obtain⟨M,A⟩:=Option.ne_none_iff_exists'.mp (y.crx k x);refine tA (lH (cw (dS (v:=aO k) g h (by decide) (fun _=>by rw[x];rfl) rfl ⟨true,lL g A,?_⟩)));exact E b H3 k g y x k2 (by unfold fu;rw[t];exact B) l3
theorem lR(r:R S.n S.Ro st H nx)(a:st.cur=some k){x:Nat}(b:m.lookup x=some (.tag (20,0))){P:MV->AS->Prop}(h:P (aO k) ⟨H,nx,m⟩):aB (ac x) 154 ⟨H,nx,m⟩ P:=
 dS r b (by decide) (fun _=>by rw[a];rfl) rfl h
structure Gv(S:Sc)(st st2:St)(k:Nat):Prop where
 rs:∀i,aF st2 i=aF st i
 ph:∀i,i≠k->dn st2 i=dn st i
 pk:dn st k=0/\dn st2 k=1
 ll:st2.ll=st.ll
 hx:st2.xt=[]/\st2.xc=[]
 cur:st2.cur=some k
 nd:st2.nd k≠none
theorem yk(o:RowsOK S.n S.Ro)(r:R S.n S.Ro st H nx)(y:J S st)(t:st.cur=some k)(U:st.ll=[])(K:st.xt=[]/\st.xc=[])(C:m.lookup 61=some (.tag (20,0)))(L:∀f a g b A,f=.cont\/f=.next->nx<=b->R S.n S.Ro a g b->J S a->a.cur=none->Kp st a->mu S.n a<=mu S.n st->A.lookup 61=some (.tag (20,0))->Low H g nx->P f ⟨g,b,A⟩)(V:∀a g b A,nx<=b->R S.n S.Ro a g b->J S a->Gv S st a k->Low H g nx->P (.ret (aO k)) ⟨g,b,A⟩) :(az (cJ 186 (cr 3 170 cX.1 (ac 61) [(aB (ac 61) 154)] [])) (az (ca (bh yZ (ac 186) (ax .none)) (az (eH (ac 61) 154 (ax .none)) jI) bn) (az (ca (bh gT (ac 186) (ax (.str 42))) (fj (aB (ac 61) 154)) bn) (az (k9 (bh gT (ac 186) (ax (.str 43)))) (az (hZ (aB (ac 61) 151) (aB (aB (aB (ac 61) 154) 42) 62) (aB (ac 61) 154)) (eH (ac 61) 154 (ax .none))))))) ⟨H,nx,m⟩ P:=by
 obtain⟨v,I⟩:=r.disp;obtain⟨d,hd⟩:=Option.ne_none_iff_exists'.mp (y.crx k t);have T:=(y.na k d hd).lt;have c:∀v:MV,(ah m 186 v).lookup 61=some (.tag (20,0)):=fun v=>(aJ (by decide)).trans C;refine aj (aP (bN (aa C (E2 (20,0) _ (A4 rfl I rfl (ao (lR r t C (ai (ai ?_)))))))));refine sj o r y hd t U K (fun u=>?_) (fun a g b q u D h z e s x E F G l2=>?_) fun a g b q u D h z e s x E F G Z l2=>?_
 ·refine aj (aX (aK (aa bq (au ⟨true,A3 rfl rfl ?_⟩))));refine aj (aR (au (aa (c _) (bT I (by decide) (bX rfl) ?_))));exact L .cont { st with cur:=none } _ nx _ (.inl rfl) (Zj _) (r.setCur none rfl) (y.leave o hd t u) rfl ⟨fun _=>rfl,fun _=>rfl,rfl,K⟩ (Zj _) (c _) bP
 ·have l:=e.cur.trans t;have p2:q.ph=0:=(e.phd hd s).trans u;have Y:=z.wtl o;refine aj (aX (aK (aa bq (au ⟨false,A3 rfl rfl ?_⟩))));refine aj (aX (aK (aa bq (au ⟨false,rfl,?_⟩))));refine aj (nT (aK (aa bq (au ⟨true,A3 rfl rfl ?_⟩))));refine eW ((h.task k T).obj) fun es t1 t2 W _=>?_;refine aj (iM (lR h l (c _) (dS h (c _) (by decide) (fun _=>rfl) rfl (kU (kU (lR h l (c _) ⟨(10,k),E3 2 _ (.tag (1,k)) ⟨rfl,(h.node k q s).obj,by decide,rfl,rfl,(1,k),0,es,.str k,rfl,t1,by decide,W,rfl,.inr (E4 (20,2) _ none k (A5 rfl rfl h.wait (by simp;exact av 0 7 1 1000 Y rfl) ?_))⟩⟩))))));refine(show ah (a.wait.map fun j=>(j,aO j)) k (aO k)=(eu a.wait k).map fun j=>(j,aO j) from ins_aput)▸?_;have M:=h.setWait (eu a.wait k);obtain⟨v3,B⟩:=M.disp;refine aR (au (aa (c _) (bT B (by decide) (bX rfl) ?_)));exact L .next { a with wait:=eu a.wait k,cur:=none } _ b _ (.inr rfl) D (M.setCur none rfl) (z.toWait o s l p2 x E F G) rfl ⟨e.rs,e.ph,e.ll,x⟩ e.mu (c _) ((l2.tr bP).tr bP)
 ·have l:=e.cur.trans t;refine aj (aX (aK (aa bq (au ⟨false,A3 rfl rfl ?_⟩))));refine aj (aX (aK (aa bq (au ⟨true,rfl,?_⟩))));have N:(a.setNd k { q with ph:=1 }).cur=some k:=l;refine cK (lR h N (c _) ?_);refine V (a.setNd k { q with ph:=1 }) g b _ D h (z.give o s l x E F G Z) ⟨fun i=>(kS (d4:={ q with ph:=1 }) (st4:=a.setNd k { q with ph:=1 }) rfl s rfl i).trans (e.rs i),fun i O=>?_,⟨(dy hd).trans u,dy bp⟩,e.ll,x,l,by rw[bp];exact Option.some_ne_none _⟩ l2;refine Eq.trans ?_ (e.ph i);exact congrArg _ (cQ O)
theorem Gv.pre{a b c:St}(x:Kp a b)(y:Gv S b c k):Gv S a c k:=⟨fun i=>(y.rs i).trans (x.rs i),fun i e=>(y.ph i e).trans (x.ph i),⟨(x.ph k).symm.trans y.pk.1,y.pk.2⟩,y.ll.trans x.ll,y.hx,y.cur,y.nd⟩
theorem vv(o:RowsOK S.n S.Ro):∀(f:Nat)(st:St)(H:aq->Option MObj)(nx:Nat)(m:List (Nat×MV))(P:aE->AS->Prop)(X:AS->Prop),fu S.n st<f->R S.n S.Ro st H nx->J S st->st.ll=[]->st.xt=[]/\st.xc=[]->m.lookup 61=some (.tag (20,0))->(∀a e b s,nx<=b->R S.n S.Ro a e b->J S a->wg S a->Kp st a->Low H e nx->(a.wait=[]->P (.ret .none) ⟨e,b,s⟩)/\(a.wait≠[]->X ⟨e,b,s⟩))->(∀k a e b s,nx<=b->R S.n S.Ro a e b->J S a->Gv S st a k->Low H e nx->P (.ret (aO k)) ⟨e,b,s⟩)->
  kR (c9 (ax (.bool true))) (lz (pM (kI (c9 (aB (ac 61) 154))) (lz (xS (eH (ac 61) 154 (cr 3 174 cy.1 (ac 61) [(aB (ac 61) 152),(aB (ac 61) 153)] []))) (pM (kI (c9 (aB (ac 61) 154))) (lz (pM (c9 (aB (ac 61) 151)) (qV (ax (.str 40))) (xS bn)) (xS (fj (ax .none)))) (xS bn))) (xS bn)) (xS (az (cJ 186 (cr 3 170 cX.1 (ac 61) [(aB (ac 61) 154)] [])) (az (ca (bh yZ (ac 186) (ax .none)) (az (eH (ac 61) 154 (ax .none)) jI) bn) (az (ca (bh gT (ac 186) (ax (.str 42))) (fj (aB (ac 61) 154)) bn) (az (k9 (bh gT (ac 186) (ax (.str 43)))) (az (hZ (aB (ac 61) 151) (aB (aB (aB (ac 61) 154) 42) 62) (aB (ac 61) 154)) (eH (ac 61) 154 (ax .none))))))))) f ⟨H,nx,m⟩ P X:=by
 intro f;induction f with
 |zero=>intro st H nx m P X v;exact absurd v (ZA _)
 |succ f ih=>
  intro st H nx m P X v r W O hx T U V;refine cw (au ⟨true,rfl,?_⟩);refine mY (yn o r W hx T (fun a e k L A Y k2 G l2=>?_) fun a e L A i2 k2 l2=>U a e nx m (Zj _) L A i2 k2 l2);refine yY (yk o L A Y (k2.ll.trans O) k2.hx T (fun fl c t h E y q M B Z k3 I z l3=>?_) fun c t h E q M B g3 l3=>V k c t h E q M B (.pre k2 g3) (l2.tr l3));have x:fu S.n c<f:=by
   have:fu S.n c=mu S.n c:=by unfold fu;refine Z▸?_;rfl
   exact xM v G I (Zd this)
  have g:=ih c t h E P X x M B ((k2.trans k3).ll.trans O) k3.hx z (fun st4 u l F K N C i4 k4 D=>U st4 u l F (Zk q K) N C i4 ((k2.trans k3).trans k4) ((l2.tr l3).trans D q)) fun k st4 u l F K N C g4 D=>V k st4 u l F (Zk q K) N C (.pre (k2.trans k3) g4) ((l2.tr l3).trans D q);rcases y with rfl|rfl;·exact g
  ·exact g
end
end
section
abbrev mZ:MS:=ca (jv (c9 (ac 178)) (jv (bh ko (aB (aB (ac 177) 42) 62) (aB (ac 61) 151)) fN)) (az (bK (b9 1 cE (aB (ac 61) 152) [(ac 177)])) (zj (aB (ac 61) 151) (aB (aB (ac 177) 42) 62))) bn
abbrev vX:MS:=(az (bK (cr 2 148 cn.1 (ac 177) [(ac 154)] [])) (az (cJ 129 (aB (aB (ac 154) 42) 62)) (az (ca (bh ko (ac 129) (aB (ac 177) 140)) (az (bK (b9 3 lg (aB (ac 177) 140) [(ac 129)])) (cJ 178 (tP (v7 (aB (ac 177) 140) (aB (ac 177) 141))))) (az (k9 (bh ko (ac 129) (aB (ac 177) 141))) (az (bK (b9 3 lg (aB (ac 177) 141) [(ac 129)])) (az (cJ 178 (ax (.bool true))) (bK (cr 3 169 aZ.1 (ac 61) [(ac 154),(ac 177)] [])))))) mZ)))
section
variable {S:Sc}{n:Nat}{st st' st4:St}{H H':aq->Option MObj}{nx:Nat}{m:List (Nat×MV)}{k i j p w:Nat}{d d4 dj dp dw dA:Nd}{Q:MV->AS->Prop}{P:aE->AS->Prop}{X:AS->Prop}
theorem wH{t:Tk}{b a:Nd}:((st.setNd k b).setTk w t).setNd k a=(st.setTk w t).setNd k a:=jl (st:=st.setTk w t)
theorem J.tellC(o:RowsOK S.n S.Ro)(q:J S st)(v:st.nd w=some dw)(t:p∈dw.wc)(I:En st p)(f:st.lp=p)(s:st.ll.Nodup)(x:w∉st.wait) :J S { (st.setTk w (Mini.Tactic.tellT (S.Ro p) p (st.tk w))).setNd w (hY (st.tk w) (Mini.Tactic.tellT (S.Ro p) p (st.tk w)) { (aF st p).note p dw with wc:=dw.wc.erase p }) with ll:=st.ll.erase w }:=by
 have b:=q.nb w dw v;have c:=q.nc w dw v;have u:dw.ph=0:=c.ph.resolve_right fun h=>by rw[h.2.2.2.2.1] at t;cases t
 have kl:w∉st.ll.erase w:=fun h=>((s.mem_erase_iff).mp h).1 rfl;obtain⟨e,l⟩:=mX (aF st p) p dw;have G:((aF st p).note p dw).anc=dw.anc/\((aF st p).note p dw).wm=dw.wm/\((aF st p).note p dw).rs=dw.rs/\((aF st p).note p dw).ph=dw.ph/\((aF st p).note p dw).td=dw.td/\((aF st p).note p dw).cd=dw.cd/\((aF st p).note p dw).wr=dw.wr:=by rw[e];exact A7 rfl rfl rfl rfl rfl rfl rfl
 refine dc G ?_;intro a1 A B C D y;obtain⟨E,F⟩:=y;generalize (aF st p).note p dw=dN at l a1 A B C D E F ⊢;have a:(st.setTk w (Mini.Tactic.tellT (S.Ro p) p (st.tk w))).tk w=Mini.Tactic.tellT (S.Ro p) p (st.tk w):=if_pos rfl;refine q.tell o v (d4:=hY (st.tk w) (Mini.Tactic.tellT (S.Ro p) p (st.tk w)) { dN with wc:=dw.wc.erase p }) ⟨rfl,rfl,(A4 a1 A B C),.inr ⟨rfl,rfl⟩,fun i h=>List.mem_erase_of_ne h,fun h=>absurd h kl,fun i r=>if_neg r,by show((st.setTk w _).tk w).told=_;refine a.symm▸?_;rfl⟩ u kl I a ?_ ?_ F ⟨l.bad,l.ign,l.len⟩ rfl (.inr (A3 t rfl rfl)) (fun i r g z=>?_) x;·show dN.td++_=dw.td++((st.setTk w _).tk w).td.drop _;rw[D,a]
 ·show gj _ _ dN.cd=gj _ ((st.setTk w _).tk w).cd dw.cd;rw[E,a]
 ·rcases List.mem_append.mp r with h|h;·exact g (((b.wrW i h).2.2 z).1.symm.trans f)
  ·exact g (((b.wcW i h).2.2.2 z).1.symm.trans f)
theorem wN{l:List Nat}:nL (l.map fun j=>(j,aO j)) k=(l.filter fun j=>!(j == k)).map fun j=>(j,aO j):=by
 delta nL;refine List.filter_map.trans ?_;rfl
theorem rp{b:Bool}(r:R S.n S.Ro st H nx)(hd:st.nd w=some dw)(l:w<S.n)(c:m.lookup 61=some (.tag (20,0)))(a:m.lookup 177=some (aO w))(e:m.lookup 178=some (.bool b))(q:st.ready.length<900)(o:¬ (b=true/\w∈st.wait)->P .next ⟨H,nx,m⟩)(s:b=true->w∈st.wait->∀H',R S.n S.Ro { st with ready:=st.ready++[w],wait:=st.wait.filter fun j=>!(j == w) } H' nx->Low H H' nx->P .next ⟨H',nx,m⟩) :
  mZ ⟨H,nx,m⟩ P:=by
 refine aX (gr (cw (aa e ⟨b,rfl,?_⟩)));induction b with
 |false=>exact o fun z=>nomatch z.1
 |true=>
  refine gr (aK (iz r hd l a (dS r c (by decide) (fun _=>rfl) rfl ⟨decide (w∈st.wait),?_,?_⟩)))
  ·rw[gG r.wait,jL];by_cases h:w∈st.wait<;>simp[h]
  by_cases h:w∈st.wait
  ·rw[decide_eq_true h];refine kG (dF ?_);refine aj (bj (bS (dS r c (by decide) (fun _=>rfl) rfl ⟨kl r.ready,ao (aa a (ai (ds r.ready (by simpa using (Zp q (bX rfl))) ⟨rfl,?_⟩)))⟩)));have f:=r.setReady (st.ready++[w]);rw[List.map_append] at f;refine dS f c (by decide) (fun _=>rfl) rfl (iz f hd l a (E4 (20,2) w _ none (A5 rfl rfl f.wait ?_ ?_)));·rw[jL,if_pos h];rfl
   have g:=f.setWait (st.wait.filter fun j=>!(j == w));unfold mn at g;rw[<-wN] at g;exact s rfl h _ g (Low.tr bP bP)
  ·rw[decide_eq_false h];exact o fun z=>h z.2
structure Up(st st2:St):Prop where
 rs:∀i,aF st2 i=aF st i
 ph:∀i,dn st2 i=dn st i
 cur:st2.cur=st.cur
 hx:st2.xt=[]/\st2.xc=[]
theorem Up.trans{a b c:St}(x:Up a b)(y:Up b c):Up a c:=⟨fun i=>(y.rs i).trans (x.rs i),fun i=>(y.ph i).trans (x.ph i),y.cur.trans x.cur,y.hx⟩
theorem Up.one(a:st4.nd=(st.setNd w d4).nd)(hd:st.nd w=some d)(rs:d4.rs=d.rs)(ph:d4.ph=d.ph)(b:st4.cur=st.cur)(c:st4.xt=[]/\st4.xc=[]):Up st st4:=by
 refine⟨kS a hd rs,fun i=>?_,b,c⟩;delta dn;refine a▸?_;by_cases e:i=w;·obtain rfl:=e.symm;refine bp▸hd▸?_;exact ph
 ·exact congrArg _ (cQ e)
set_option maxHeartbeats 1000000 in
theorem wq(o:RowsOK S.n S.Ro):∀(l:List Nat)(c:St)(N:aq->Option MObj)(x:List (Nat×MV)),R S.n S.Ro c N nx->J S c->c.nd p=some dp->dp.rs≠.none->c.lp=p->c.ll=l->l.Nodup->(∀w∈l,w∈dp.wm)->c.xt=[]/\c.xc=[]->x.lookup 61=some (.tag (20,0))->x.lookup 154=some (aO p)->(∀W Y m2,R S.n S.Ro W Y nx->J S W->Up c W->W.ll=[]->Low N Y nx->P .next ⟨Y,nx,m2⟩)->∀(g:(aq->Option MObj)->Prop),(∀H,g H)->
  dq g (ba 177) vX (l.map aO) ⟨N,nx,x⟩ P:=by
 intro l;induction l with
 |nil=>intro c N x r y hp he v I hln hwm hx h61 h154 q g hg;exact⟨hg _,q c N x r y ⟨fun _=>rfl,fun _=>rfl,rfl,hx⟩ I (.refl _ _)⟩
 |cons w l ih=>
  intro c N x r y hp he v I hln hwm hx h61 h154 q g hg;have mem:w∈c.ll:=(I▸Ze)
  obtain⟨hwl,hln2⟩:=List.nodup_cons.mp hln;have A:c.ll.Nodup:=(I▸hln)
  have er:c.ll.erase w=l:=by rw[I,List.erase_cons_head]
  refine ar ((y.nb p dp hp).wmW w (hwm w Ze) (.inr ⟨v,mem⟩)) fun dw s u=>?_;have u:p∈dw.wr\/p∈dw.wc:=by
   rcases u with z|z|⟨_,z⟩
   ·exact .inl z
   ·exact .inr z
   ·rw[hx.1,hx.2] at z;rcases z with z|z<;>cases z
  have a:=y.na w dw s;have b:=y.nb w dw s;have ln:=y.ndl o s;have tl:=y.tkl o a.lt;have rdl:=y.rdl o;have hn:=o.n;have rsp:aF c p=dp.rs:=dg hp;have ep:En c p:=by unfold En;refine rsp▸?_;exact he
  have hpw:p<w:=u.elim (fun z=>((a.tdW p (b.wrW p z).1).ok o).1) fun z=>((a.cdW p (b.wcW p z).1).ok o).1;have hne:p≠w:=Zh hpw;have a61:(ah x 177 (aO w)).lookup 61=some (.tag (20,0)):=(aJ (by decide)).trans h61;have E:(ah x 177 (aO w)).lookup 154=some (aO p):=(aJ (by decide)).trans h154;have V:p<S.n:=y.lt (hp▸Option.some_ne_none _);have U:∀(st4:St)(D:aq->Option MObj)(m4:List (Nat×MV))(d4:Nd),R S.n S.Ro st4 D nx->J S st4->st4.nd=(c.setNd w d4).nd->d4.rs=dw.rs->d4.ph=dw.ph->st4.cur=c.cur->st4.xt=c.xt/\st4.xc=c.xc->st4.lp=c.lp->st4.ll=c.ll.erase w->m4.lookup 61=some (.tag (20,0))->m4.lookup 154=some (aO p)->Low N D nx->
    dq g (ba 177) vX (l.map aO) ⟨D,nx,m4⟩ P:=by
   intro st4 D m4 d4 r4 j4 n4 rs4 ph4 c4 x4 lp4 ll4 b61 b154 l4;have hx4:st4.xt=[]/\st4.xc=[]:=⟨x4.1.trans hx.1,x4.2.trans hx.2⟩
   exact ih st4 D m4 r4 j4 (by rw[n4,cQ hne];exact hp) he (lp4.trans v) (ll4.trans er) hln2 (fun i hi=>hwm i (Zc _ hi)) hx4 b61 b154 (fun st5 H5 m5 r5 j5 u5 ll5 l5=>q st5 H5 m5 r5 j5 ((Up.one n4 s rs4 ph4 c4 hx4).trans u5) ll5 (l4.tr l5)) g hg
  refine⟨hg _,aj (bj (bN (aa bq (E2 (10,w) _ (A4 rfl ((r.node w dw s).obj) rfl (ao (aa E (ai (ai ?_)))))))))⟩;refine km r s hp (nA ln.2.1) (nA ln.2.1) fun Y r2 l2=>⟨rfl,?_⟩
  replace r2:=rsp▸r2;obtain⟨e,nt⟩:=mX (aF c p) p dw;have eN:((aF c p).note p dw).rs=dw.rs/\((aF c p).note p dw).ph=dw.ph/\((aF c p).note p dw).wr=dw.wr/\((aF c p).note p dw).wc=dw.wc/\((aF c p).note p dw).td=dw.td/\((aF c p).note p dw).cd=dw.cd:=by rw[e];exact A6 rfl rfl rfl rfl rfl rfl
  refine dc eN ?_;intro n1 n2 n3 n5 n6 n7;have e2:(c.setNd w ((aF c p).note p dw)).nd w=some ((aF c p).note p dw):=bp;have e2p:(c.setNd w ((aF c p).note p dw)).nd p=some dp:=(cQ hne).trans hp;have x2:=r2.node w _ e2;refine aj (aP (iz r2 e2p V E ?_));have O:(ah (ah x 177 (aO w)) 129 (.str p)).lookup 61=some (.tag (20,0)):=(aJ (by decide)).trans a61;have F:(ah (ah x 177 (aO w)) 129 (.str p)).lookup 154=some (aO p):=(aJ (by decide)).trans E;have f:(ah (ah x 177 (aO w)) 129 (.str p)).lookup 177=some (aO w):=(aJ (by decide)).trans bq;refine aj (aX (aK (aa bq (aH (t:=(10,w)) f x2.obj (by decide) rfl rfl ⟨_,rM x2.wr,?_⟩))));refine n3.symm▸?_;by_cases C:p∈dw.wr
  ·refine(show dw.wr.contains p=true by simp[C]).symm▸?_;refine dF (aj (bj (bS (aH (t:=(10,w)) f x2.obj (by decide) rfl rfl ⟨kN x2.wr,ao (aa bq (ai (rr x2.wr (n3▸b.nd.1) (n3▸C) ⟨rfl,?_⟩)))⟩))));have M:=r2.ndWr e2 (((aF c p).note p dw).wr.erase p);replace M:=n3▸jl▸M;refine n3▸?_;have e3:(c.setNd w { (aF c p).note p dw with wr:=dw.wr.erase p }).nd w=some { (aF c p).note p dw with wr:=dw.wr.erase p }:=bp;have x3:=M.node w _ e3;have l3:Low N (af Y (12,w) (.set (dw.wr.erase p))) nx:=l2.tr bP;generalize af Y (12,w) (.set (dw.wr.erase p))=H3 at M x3 l3 ⊢;have go:∀(bb:Bool),(bb=true↔dw.wr.erase p=[]/\dw.wc=[])->∀B:aE->AS->Prop,(∀D m4,dq g (ba 177) vX (l.map aO) ⟨D,nx,m4⟩ P->B .next ⟨D,nx,m4⟩)->mZ ⟨H3,nx,ah (ah (ah x 177 (aO w)) 129 (.str p)) 178 (.bool bb)⟩ B:=fun bb hb B hB=>by
    refine rp (w:=w) (b:=bb) M e3 a.lt ((aJ (by decide)).trans O) ((aJ (by decide)).trans f) bq (av 0 7 1 900 rdl rfl) (fun hq=>?_) fun h1 h2 D r4 l4=>?_
    ·have j3:=y.tellT o s C ep v A hx fun hw=>by
      by_cases z1:dw.wr.erase p=[]
      ·by_cases z2:dw.wc=[];·exact absurd ⟨hb.mpr ⟨z1,z2⟩,hw⟩ hq
       ·exact .inr z2
      ·exact .inl z1
     exact hB _ _ <| U _ H3 _ _ (M.hand rfl) j3 rfl n1 n2 rfl ⟨rfl,rfl⟩ rfl rfl ((aJ (by decide)).trans O) ((aJ (by decide)).trans F) l3
    ·have j3:=(y.woke o h2).tellT o (w:=w) (p:=p) s C ep v A hx fun hw=>by
      simp[List.mem_filter] at hw
     exact hB _ _ <| U _ D _ _ (r4.hand rfl) j3 rfl n1 n2 rfl ⟨rfl,rfl⟩ rfl rfl ((aJ (by decide)).trans O) ((aJ (by decide)).trans F) (l3.tr l4)
   refine aj (aP (zK (xZ (aH (t:=(10,w)) f x3.obj (by decide) rfl rfl ⟨_,jk x3.wr,?_⟩))));cases hwr:dw.wr.erase p with
   |cons z zs=>
    refine⟨_,jk x3.wr,?_⟩;refine(show(!!({ (aF c p).note p dw with wr:=dw.wr.erase p }:Nd).wr.isEmpty)=false by show(!!(dw.wr.erase p).isEmpty)=false;refine hwr.symm▸?_;rfl).symm▸?_;exact go false ⟨(fun z=>nomatch z),fun z=>by rw[hwr] at z;exact nomatch z.1⟩ _ fun _ _ h=>h
   |nil=>
    refine aH (t:=(10,w)) f x3.obj (by decide) rfl rfl ⟨_,jk x3.wc,?_⟩;show mZ _ _;have n5':({ (aF c p).note p dw with wr:=dw.wr.erase p }:Nd).wc=dw.wc:=n5;refine n5'▸?_;refine go _ ⟨fun z=>⟨hwr,?_⟩,fun z=>?_⟩ _ fun _ _ h=>h
    ·cases h:dw.wc with
     |nil=>rfl
     |cons a l=>rw[h] at z;exact nomatch z
    ·refine z.2▸?_;rfl
  ·have K:p∈dw.wc:=u.resolve_left C;refine(show dw.wr.contains p=false by simp[C]).symm▸?_;have L:Y (13,w)=some (.set dw.wc):=(n5▸x2.wc)
   have told:(c.tk p).told=true:=(y.told p).mpr ⟨ep,((a.cdW p (b.wcW p K).1).ok o).2⟩;refine qa (aj (nT (aK (aa bq (aH (t:=(10,w)) f x2.obj (by decide) rfl rfl ⟨_,A3 (rM L) (by simp[K]) ?_⟩)))));refine aj (bj (bS (aH (t:=(10,w)) f x2.obj (by decide) rfl rfl ⟨kN L,ao (aa bq (ai (rr L b.nd.2.1 K ⟨rfl,?_⟩)))⟩)));have M:=r2.ndWc e2 (dw.wc.erase p);rw[jl] at M;have l3:Low N (af Y (13,w) (.set (dw.wc.erase p))) nx:=l2.tr bP;refine aj (aP (au ?_));have T:(ah (ah (ah x 177 (aO w)) 129 (.str p)) 178 (.bool true)).lookup 61=some (.tag (20,0)):=(aJ (by decide)).trans O;have G:(ah (ah (ah x 177 (aO w)) 129 (.str p)) 178 (.bool true)).lookup 154=some (aO p):=(aJ (by decide)).trans F;have Z:(ah (ah (ah x 177 (aO w)) 129 (.str p)) 178 (.bool true)).lookup 177=some (aO w):=(aJ (by decide)).trans f;obtain⟨v3,hD3⟩:=M.disp;refine bj (bN (aa T (E2 (20,0) _ (A4 rfl hD3 rfl (ao (aa G (ao (aa Z (ai (ai ?_))))))))));refine oI (p:=p) (w:=w) (dp:=dp) (dw:={ (aF c p).note p dw with wc:=dw.wc.erase p }) (t:=c.tk w) M (av 0 7 0 8 hn rfl) (o.rw V) (fun i hi=>Zs (o.tF p i hi).1 V) ((cQ hne).trans hp) bp V a.lt rfl told (av 0 119 1 700 tl.2.1 rfl) (av 0 7 1 700 tl.2.2.2 rfl) (av 0 7 1 500 tl.2.2.1 rfl) (by show((aF c p).note p dw).td.length<700;refine n6.symm▸?_;exact nA ln.2.1) (by show((aF c p).note p dw).cd.length<200;refine n7.symm▸?_;exact nA ln.2.1) fun D r4 l4=>⟨rfl,?_⟩
   rw[wH] at r4;refine rp (w:=w) (b:=true) r4 bp a.lt T Z bq (av 0 7 1 900 rdl rfl) (fun hq=>?_) fun h1 h2 H5 r5 l5=>?_
   ·have j3:=y.tellC o s K ep v A fun z=>hq ⟨rfl,z⟩;exact U _ D _ _ (r4.hand rfl) j3 rfl n1 n2 rfl ⟨rfl,rfl⟩ rfl rfl T G (l3.tr l4)
   ·have j3:=(y.woke o h2).tellC o (w:=w) (p:=p) s K ep v A fun hw=>by
     simp[List.mem_filter] at hw
    exact U _ H5 _ _ (r5.hand rfl) j3 rfl n1 n2 rfl ⟨rfl,rfl⟩ rfl rfl T G ((l3.tr l4).tr l5)
theorem pG(q:Q .none ⟨H,nx,m⟩):cZ.1 [.tag (20,0),.none] [] ⟨H,nx,m⟩ Q:=by
 refine⟨rfl,?_⟩;exact aj (aX (aK (aa rfl (au ⟨true,A3 rfl rfl (cK (au q))⟩))))
theorem nq(o:RowsOK S.n S.Ro)(r:R S.n S.Ro st H nx)(s:J S st)(f:st.nd p=some dp)(v:dp.rs≠.none)(e:st.lp=p)(c:st.ll=dp.wm)(g:dp.wm.length<900)(y:st.xt=[]/\st.xc=[])(q:∀a b,R S.n S.Ro a b nx->J S a->Up st a->a.ll=[]->Low H b nx->Q .none ⟨b,nx,m⟩):cZ.1 [.tag (20,0),aO p] [] ⟨H,nx,m⟩ Q:=by
 have x:=r.node p dp f;refine⟨rfl,?_⟩;show az _ _ ⟨H,nx,[(61,.tag (20,0)),(176,aO p)]⟩ _;refine aj (aX (aK (aa rfl (au ⟨false,A3 rfl rfl ?_⟩))));refine aj (aP (aa rfl ?_));refine aj (aX (cw (aH (t:=(10,p)) rfl x.obj (by decide) rfl rfl ⟨false,rfl,?_⟩)));refine bU (aj (aX (aK (aH (t:=(10,p)) rfl x.obj (by decide) rfl v6 (au ⟨false,?_,?_⟩)))));·induction dp.rs<;>rfl
 refine bU (cA (bu (cm (ao (bS (aH (t:=(10,p)) rfl x.obj (by decide) rfl rfl ⟨kN x.wm,ai ⟨(14,p),E2 _ none (A3 rfl x.wm (ai ⟨.view false (14,p),rfl,.inr (.inr (E3 (14,p) _ none ⟨rfl,x.wm,by simp;exact av 1 900 0 100000 g rfl,.inl ?_⟩))⟩))⟩⟩))))));have u:(dp.wm.map fun j=>(j,aO j)).map (·.2)=dp.wm.map aO:=by rw[List.map_map];rfl
 refine u▸?_;refine⟨_,rfl,?_⟩;exact wq (dp:=dp) o dp.wm st H _ r s f v e c (s.nb p dp f).nd.2.2.1 (fun _ h=>h) y rfl rfl (fun a b C A z B l l2=>q a b A z B l l2) _ fun _=>rfl
end
end
section
section
variable {S:Sc}{n:Nat}{st st' st4:St}{H H':aq->Option MObj}{nx:Nat}{m:List (Nat×MV)}{k i j w:Nat}{p:Option Nat}{d d4 dj dp dw dA:Nd}{Q:MV->AS->Prop}{P:aE->AS->Prop}{X:AS->Prop}
structure Od(S:Sc)(st st2:St):Prop where
 j:J S st2
 idle:wg S st2
 rs:∀i,aF st2 i=aF st i
 ph:∀i,dn st2 i=dn st i
 ll:st2.ll=[]
 hx:st2.xt=[]/\st2.xc=[]
structure Gd(S:Sc)(st st2:St)(k:Nat):Prop where
 j:J S st2
 rs:∀i,aF st2 i=aF st i
 ph:∀i,i≠k->dn st2 i=dn st i
 pk:dn st k=0/\dn st2 k=1
 ll:st2.ll=[]
 hx:st2.xt=[]/\st2.xc=[]
 cur:st2.cur=some k
 nd:st2.nd k≠none
def tG(st:St)(p:Option Nat):Prop:=(p=none/\st.ll=[])\/∃k dp,p=some k/\st.nd k=some dp/\dp.rs≠.none/\st.lp=k/\st.ll=dp.wm/\dp.wm.length<900
theorem Am(o:RowsOK S.n S.Ro)(a:J S st):fu S.n st<23:=by
 have:=a.rdl o;have:=o.n;have:fu S.n st<=mu S.n st+1:=Nat.add_le_add_left (by induction st.cur with|none=>exact Nat.zero_le _|some k=>exact Zj _) _;delta mu at this;omega
theorem ym(o:RowsOK S.n S.Ro)(r:R S.n S.Ro st H nx)(F:J S st)(hx:st.xt=[]/\st.xc=[])(W:tG st p)(Y:∀b c a,nx<=a->R S.n S.Ro b c a->Od S st b->Low H c nx->(b.wait=[]->Q .none ⟨c,a,m⟩)/\(b.wait≠[]->X ⟨c,a,m⟩))(Z:∀k b c a,nx<=a->R S.n S.Ro b c a->Gd S st b k->Low H c nx->Q (aO k) ⟨c,a,m⟩):iD.1 [.tag (20,0),dX p] [] ⟨H,nx,m⟩ Q X:=by
 refine⟨rfl,?_⟩;show lz _ _ ⟨H,nx,[(61,.tag (20,0)),(176,dX p)]⟩ _ _;obtain⟨v,T⟩:=r.disp;refine mY (yY (bj (bN (aa rfl (E2 (20,0) _ (A4 rfl T rfl (ao (aa rfl (ai (ai ?_))))))))));have u:∀(e:St)(s:aq->Option MObj),R S.n S.Ro e s nx->J S e->Up st e->e.ll=[]->Low H s nx->∀(A:aE->AS->Prop)(B:AS->Prop),(∀(c:aq->Option MObj) a x v,Q v ⟨c,a,m⟩->A (.ret v) ⟨c,a,x⟩)->(∀(c:aq->Option MObj) a x,X ⟨c,a,m⟩->B ⟨c,a,x⟩)->
   ∃f,kR _ _ f ⟨s,nx,[(61,.tag (20,0)),(176,dX p)]⟩ A B:=fun e s D y q l1 g A B G O=>by
  refine⟨23,vv o 23 e s nx _ A B (Am o y) D y l1 q.hx rfl (fun b c a x C E z i2 k2 t=>?_) fun k b c a x C E z l t=>?_⟩
  ·obtain⟨z1,z2⟩:=Y b c a C E ⟨z,i2,fun i=>(k2.rs i).trans (q.rs i),fun i=>(k2.ph i).trans (q.ph i),k2.ll.trans l1,k2.hx⟩ (g.tr t);exact⟨fun h=>G _ _ _ _ (z1 h),fun h=>O _ _ _ (z2 h)⟩
  ·exact G _ _ _ _ (Z k b c a C E ⟨z,fun i=>(l.rs i).trans (q.rs i),fun i U=>(l.ph i U).trans (q.ph i),⟨(q.ph k).symm.trans l.pk.1,l.pk.2⟩,l.ll.trans l1,l.hx,l.cur,l.nd⟩ (g.tr t))
 rcases W with⟨rfl,V⟩|⟨k,dp,rfl,I,K,L,M,N⟩
 ·exact pG ⟨rfl,mY (u st H r F ⟨fun _=>rfl,fun _=>rfl,rfl,hx⟩ V (.refl _ _) _ _ (fun _ _ _ _ h=>h) fun _ _ _ h=>h)⟩
 ·refine nq o r F I K L M N hx fun e s D y q l1 g=>⟨rfl,mY (u e s D y q l1 g _ _ (fun _ _ _ _ h=>h) fun _ _ _ h=>h)⟩
theorem rY(o:RowsOK S.n S.Ro)(r:R S.n S.Ro st H nx)(g:J S st)(t:st.xt=[]/\st.xc=[])(s:tG st p)(x:∀b c a,nx<=a->R S.n S.Ro b c a->Od S st b->Low H c nx->(b.wait=[]->Q (.tup [.str 41,.none]) ⟨c,a,m⟩)/\(b.wait≠[]->Q (.tup [.str 40,.none]) ⟨c,a,m⟩))(y:∀k b c a,nx<=a->R S.n S.Ro b c a->Gd S st b k->Low H c nx->Q (.tup [.str 42,aO k]) ⟨c,a,m⟩):ki.1 [.tag (20,0),dX p] [] ⟨H,nx,m⟩ Q:=by
 refine⟨rfl,?_⟩;obtain⟨v,q⟩:=r.disp;show az _ _ ⟨H,nx,[(206,.tag (20,0)),(25,dX p)]⟩ _;refine aj (Ai (aa rfl (E2 (20,0) _ (A4 rfl q rfl (ao (aa rfl (ai ⟨rfl,?_⟩)))))));refine ym o r g t s (fun b c a e f u l2=>?_) fun k b c a e f l l2=>?_
 ·obtain⟨z,A⟩:=x b c a e f u l2;refine⟨fun h=>?_,fun h=>A h⟩;exact cK (jb (aK (aa rfl (au ⟨true,A3 rfl rfl (ao (au (ao (au (ai ⟨by decide,z h⟩)))))⟩))))
 ·exact cK (jb (aK (aa rfl (au ⟨false,A3 rfl rfl (ao (au (ao (aa rfl (ai ⟨bX rfl,y k b c a e f l l2⟩)))))⟩))))
end
end
section
inductive LS where
 |no|reached|given|ended
 deriving DecidableEq
noncomputable def LS.num(s:LS):Nat:=LS.casesOn s 20 21 26 25
noncomputable def aw(j:Nat):MV:=.int (j:Int)
noncomputable def bf(l:List Nat):MV:=.lst (l.map aw)
noncomputable def Rw.mv(r:Rw):MV:=.tup [bf r.needs,bf r.calcs,.tup [bf r.tN,bf r.tF,bf r.tC],.str r.kd]
noncomputable def bH(n:Nat)(Ro:Nat->Rw):MV:=.lst ((List.range n).map fun k=>(Ro k).mv)
noncomputable def LS.mv(s:LS):MV:=.str s.num
noncomputable def cu(n:Nat)(s:Nat->LS):List MV:=(List.range n).map fun k=>(s k).mv
noncomputable def upd(s:Nat->LS)(k:Nat)(v:LS):Nat->LS:=fun i=>if i=k then v else s i
theorem LS.num_eq{a b:LS}:(a.num == b.num)=decide (a=b):=by induction a<;>induction b<;>rfl
theorem LS.num_ne{a b:LS}:(a.num != b.num)=decide (a≠b):=by induction a<;>induction b<;>rfl
theorem jA{n k:Nat}{f:Nat->MV}(h:k<n):((List.range n).map f)[k]?=some (f k):=by
 refine(List.getElem?_map)▸(List.getElem?_range h)▸?_;rfl
theorem qx{n k:Nat}{f:Nat->MV}{v:MV}(h:k<n):((List.range n).map f).set k v=(List.range n).map fun i=>if i=k then v else f i:=by
 apply List.ext_getElem?;intro i;refine(List.getElem?_set).trans ?_;by_cases e:k=i
 ·subst e;rw[if_pos rfl,if_pos (by simpa using h),jA h];simp
 ·rw[if_neg e,List.getElem?_map,List.getElem?_map];by_cases a:i<n
  ·rw[List.getElem?_range a];show some (f i)=some (if i=k then v else f i);rw[if_neg (Ne.symm e)]
  ·rw[List.getElem?_eq_none (by simpa using a)];rfl
theorem yj{n k:Nat}{s:Nat->LS}{v:LS}(h:k<n):(cu n s).set k v.mv=cu n (upd s k v):=by
 delta cu;refine(qx h).trans ?_;refine List.map_congr_left fun i _=>?_;delta upd;split<;>rfl
def Frm(H H':aq->Option MObj)(nx:Nat):Prop:=∀t,(t.1≠0\/t.2<nx)->H' t=H t
def Fr(H:aq->Option MObj)(nx:Nat):Prop:=∀i,nx<=i->H (0,i)=none
section
variable {st:St}{H H' d:aq->Option MObj}{nx nx':Nat}{m:List (Nat×MV)}{k j n:Nat}{Ro:Nat->Rw}{s:Nat->LS}{Q:MV->AS->Prop}{P:aE->AS->Prop}
theorem Frm.refl:Frm H H nx:=fun _ _=>rfl
theorem Frm.trans(x:Frm H H' nx)(y:Frm H' d nx')(h:nx<=nx'):Frm H d nx:=fun t a=>(y t (a.imp id fun z=>Zp z h)).trans (x t a)
theorem Frm.set{i:Nat}{o:MObj}(h:nx<=i):Frm H (af H (0,i) o) nx:=fun t a=>ae fun e=>by
 subst e;rcases a with a|a;·exact a rfl
 ·exact absurd h (Nat.not_le_of_lt a)
theorem Fr.set{i:Nat}{o:MObj}(x:Fr H nx)(h:nx<=nx')(b:i<nx'):Fr (af H (0,i) o) nx':=fun j a=>(ae (dh (Zn (Zp b a)))).trans (x j (Zk h a))
theorem R.frame(r:R n Ro st H nx)(x:Frm H H' nx)(f:Fr H' nx'):R n Ro st H' nx':=by
 have ne:∀g i,g≠0->H' (g,i)=H (g,i):=fun g i h=>x (g,i) (.inl h);refine⟨fun j l=>(r.task j l).keep fun g a b=>ne g j (Zn a),fun j e hd=>(r.node j e hd).keep fun g c=>ne g j (ja c).2,fun j hd g c=>(ne g j (ja c).2).trans (r.nonode j hd g c),?_,(ne _ _ (by decide)).trans r.nodes,(ne _ _ (by decide)).trans r.wait,(ne _ _ (by decide)).trans r.ready,(ne _ _ (by decide)).trans r.ttr,?_,?_,f⟩;·rw[ne _ _ (by decide)];exact r.disp
 ·rw[ne _ _ (by decide)];exact r.tasks
 ·rw[ne _ _ (by decide)];exact r.tgt
theorem lM{f:Nat->MV}(h:k<n):iL H (.lst ((List.range n).map f)) (aw k)=some (f k):=by
 show(if 0<=(k:Int) then((List.range n).map f)[(k:Int).toNat]? else none)=_;rw[if_pos (Int.natCast_nonneg k),Int.toNat_natCast,jA h]
theorem vB{t:aq}{xs:List MV}{v:MV}(h:H t=some (.list xs))(e:xs[k]?=some v):iL H (.tag t) (aw k)=some v:=by
 show(match b6 H (.tag t) with|some xs=>if 0<=(k:Int) then xs[(k:Int).toNat]? else none|none=>none)=_;have:b6 H (.tag t)=some xs:=ay h;refine this.symm▸?_;show(if 0<=(k:Int) then xs[(k:Int).toNat]? else none)=_;rw[if_pos (Int.natCast_nonneg k),Int.toNat_natCast,e]
theorem mV{x y a:Nat}{v:MV}{P:MV->AS->Prop}(e:m.lookup x=some (bH n Ro))(f:m.lookup y=some (aw k))(b:k<n)(c:iL H (Ro k).mv (.int (a:Int))=some v)(h:P v ⟨H,nx,m⟩) :
  bG (bG (ac x) (ac y)) (ax (.int (a:Int))) ⟨H,nx,m⟩ P:=
 ⟨_,e,_,f,(Ro k).mv,lM b,v,c,h⟩
theorem zx{x y:Nat}{P:MV->AS->Prop}(b:m.lookup x=some (bH n Ro))(c:m.lookup y=some (aw k))(a:k<n)(h:P (Ro k).mv ⟨H,nx,m⟩):bG (ac x) (ac y) ⟨H,nx,m⟩ P:=
 ⟨_,b,_,c,(Ro k).mv,lM a,h⟩
theorem qS{x y:Nat}{t:aq}{P:MV->AS->Prop}(c:m.lookup x=some (.tag t))(e:m.lookup y=some (aw k))(b:k<n)(a:H t=some (.list (cu n s)))(h:P (s k).mv ⟨H,nx,m⟩):bG (ac x) (ac y) ⟨H,nx,m⟩ P:=
 ⟨_,c,_,e,(s k).mv,vB a (jA b),h⟩
theorem kY{a b:Nat}{P:Bool->AS->Prop}(h:P (a == b) ⟨H,nx,m⟩):gT (.str a) (.str b) ⟨H,nx,m⟩ P:=⟨_,rfl,h⟩
theorem m6{a b:Nat}{P:Bool->AS->Prop}(h:P (a != b) ⟨H,nx,m⟩):qM (.str a) (.str b) ⟨H,nx,m⟩ P:=.inr (.inl (E2 a b (A3 rfl rfl h)))
theorem pa{t:aq}{v:LS}{P:AS->Prop}(a:k<n)(b:H t=some (.list (cu n s)))(h:P ⟨af H t (.list (cu n (upd s k v))),nx,m⟩):ty (.tag t) (aw k) v.mv ⟨H,nx,m⟩ P:=by
 refine .inl (E3 t (cu n s) k (A6 rfl rfl b (Int.natCast_nonneg k) ?_ ?_));·simpa[cu] using a
 ·rw[Int.toNat_natCast,yj a];exact h
theorem lJ(n:Nat):iT (n:Int)=(List.range n).map aw:=by
 delta iT aw;rw[Int.toNat_natCast]
theorem rC:bc H (bH n Ro)=some ((List.range n).map fun k=>(Ro k).mv):=rfl
theorem kD{x:Nat}{P:MV->AS->Prop}(a:m.lookup x=some (bH n Ro))(h:P (.rng (n:Int)) ⟨H,nx,m⟩):cC kT [(cC iI [(ac x)])] ⟨H,nx,m⟩ P:=by
 refine cm (ao (cm (ao (aa a (ai ?_)))));refine⟨_,_,A3 rfl rC ?_⟩;refine ai ⟨_,rfl,?_⟩;rw[List.length_map,List.length_range];exact h
theorem ke{f:ap}{b:AS}{Q:List MV->((aq->Option MObj)->Prop)->AS->Prop}(h:f b fun v a=>∃n,v=.rng n/\0<=n/\n<=100000/\Q (iT n) (fun _=>True) a):jW f b Q:=h
theorem pW{x y:Nat}{b:MS}(a:n<=7)(c:m.lookup x=some (bH n Ro))(h:dq (fun _=>True) (ba y) b ((List.range n).map aw) ⟨H,nx,m⟩ P):js (jW (cC kT [(cC iI [(ac x)])])) (ba y) b ⟨H,nx,m⟩ P:=by
 refine cA (ke (kD c ⟨n,A4 rfl (Int.natCast_nonneg n) (NJ a rfl) ?_⟩));exact h
theorem aL{xs:List MV}{P:MV->AS->Prop}(a:xs.length<=100000)(h:P (.lst xs) ⟨H,nx,m⟩):newL xs ⟨H,nx,m⟩ P:=⟨a,.inl h⟩
theorem gM{p:Type}{x:Nat}{t:MT}{o:ap}{m0 C:List (Nat×MV)}{g:(aq->Option MObj)->Prop}{R:MV->AS->Prop}(f:p->MV)(b:p->Bool)(e:p->MV)(z:g H)(l:List p):∀(acc:List MV)(c:List (Nat×MV)),(∀y,y≠x->c.lookup y=m0.lookup y)->(∀a∈l,∀h:List (Nat×MV),(∀y,y≠x->h.lookup y=m0.lookup y)->h.lookup x=some (f a)->(∀P,P (b a) ⟨H,nx,h⟩->t ⟨H,nx,h⟩ P)/\(b a=true->∀P,P (e a) ⟨H,nx,h⟩->o ⟨H,nx,h⟩ P))->
  acc.length+l.length<=900->newL (acc++(l.filter b).map e) ⟨H,nx,C⟩ R->eU g (ba x) t o C (l.map f) acc ⟨H,nx,c⟩ R:=by
 induction l with
 |nil=>
  intro acc c _ _ _ q;rw[List.filter_nil,List.map_nil,List.append_nil] at q;exact⟨z,q⟩
 |cons a l B=>
  intro acc c D v w q;refine⟨z,?_⟩;have k1:∀y,y≠x->(ah c x (f a)).lookup y=m0.lookup y:=fun y A=>by rw[aG,if_neg A];exact D y A
  refine Za (v a Ze (ah c x (f a)) k1 (by rw[aG,if_pos rfl])) fun F E=>?_;refine F _ ?_;cases r:b a with
  |true=>
   refine E r _ (A3 rfl (NB w rfl) ?_);refine B (acc++[e a]) _ k1 (fun i u=>v i (Zc _ u)) (by simp;exact za w) ?_;rw[List.filter_cons_of_pos r] at q;rw[List.append_assoc];exact q
  |false=>
   refine⟨rfl,?_⟩;refine B acc _ k1 (fun i u=>v i (Zc _ u)) (Zv w) ?_;rw[List.filter_cons_of_neg (by rw[r];decide)] at q;exact q
theorem hK{fs:List Nat}{f:ii}{st:MV->AS->AS}{t:MT}{b:ap}{c:AS}{P:MV->AS->Prop}(h:f c fun xs g a=>eU g st t b a.m xs [] ⟨a.H,a.nx,cT fs a.m⟩ P):eR fs f st t b c P:=h
theorem om{a:Nat}{v:MV}(h:m.lookup a=some v):(cT [a] m).lookup a=some v:=by
 delta cT;rw[List.filterMap_cons];rw[h];simp
theorem lQ{l:List MV}:nK l []=some l.isEmpty:=by
 induction l<;>rfl
theorem pB{l:List Nat}:dT (aw k) (l.map aw)=some (l.contains k):=by
 induction l with
 |nil=>rfl
 |cons a l e=>
  show(match fV (aw a) (aw k),dT (aw k) (l.map aw) with|some b,some c=>some (b||c)|_,_=>none)=_;refine e▸?_;show some (((a:Int) == (k:Int))||l.contains k)=_
  congr 2
  by_cases h:a=k;·obtain rfl:=h.symm;simp
  ·rw[beq_eq_false_iff_ne.mpr (by omega),beq_eq_false_iff_ne.mpr (Ne.symm h)]
theorem jP{xs:List Nat}{f:ap}{b:AS}{P:aE->AS->Prop}(h:f b fun v a=>∃ys,v=.tup ys/\xs.length=ys.length/\P .next (k6 xs ys a)):jX xs f b P:=h
theorem ms{t:MT}{a:AS}{P:MV->AS->Prop}(h:t a (kB P)):mB t a P:=h
end
end
section
structure As(Ro:Nat->Rw)(e:Nat->Prop)(k:Nat)(N F C:List Nat):Prop where
 N:N.Pairwise (·<·)/\∀j,j∈N↔Nl Ro e k j
 F:F.Pairwise (·<·)/\∀j,j∈F↔Fl Ro e k j
 C:C.Pairwise (·<·)/\∀j,j∈C↔Cl Ro e k j
structure AI(Ro:Nat->Rw)(e:Nat->Prop)(k:Nat)(todo calcs needs files:List Nat):Prop where
 w:∀c,c∈calcs\/c∈todo->Cl Ro e k c
 b:∀c∈(Ro k).calcs,c∈calcs\/c∈todo
 s:∀c∈calcs,e c->∀c'∈(Ro c).tC,c'∈calcs\/c'∈todo
 nd:calcs.Nodup
 N:∀j,j∈needs↔j∈(Ro k).needs\/∃c∈calcs,e c/\j∈(Ro c).tN
 F:∀j,j∈files↔∃c∈calcs,e c/\j∈(Ro c).tF
 l:needs.length+files.length<=7+16*calcs.length
section
variable {st:St}{H H' H'':aq->Option MObj}{nx nx':Nat}{m:List (Nat×MV)}{i j k n:Nat}{Ro:Nat->Rw}{s:Nat->LS}{e:Nat->Prop}{f d r g:List Nat}{Q:MV->AS->Prop}{P:aE->AS->Prop}
theorem AI.skip(a:AI Ro e k (j::f) d r g)(h:j∈d):AI Ro e k f d r g:=by
 have o:∀{c},c∈d\/c∈j::f->c∈d\/c∈f:=fun z=>z.elim .inl fun z=>(List.mem_cons.mp z).elim (fun q=>.inl (q▸h)) .inr;exact⟨fun c z=>a.w c (z.imp id (Zc _)),fun c z=>o (a.b c z),fun c t u p v=>o (a.s c t u p v),a.nd,a.N,a.F,a.l⟩
theorem AI.take(o:RowsOK n Ro)(D:k<n)(a:AI Ro e k (j::f) d r g)(h:j∉d)(y:e j):AI Ro e k (f++(Ro j).tC) (d++[j]) (r++(Ro j).tN) (g++(Ro j).tF):=by
 have x:=a.w j (.inr Ze);have B:∀{c},c∈d\/c∈j::f->c∈d++[j]\/c∈f++(Ro j).tC:=fun z=>z.elim (fun z=>.inl (List.mem_append_left _ z)) fun z=>(List.mem_cons.mp z).elim (fun q=>.inl (by simp[q])) fun z=>.inr (List.mem_append_left _ z);have v:=o.rw (Zs (x.ok o).1 D);refine⟨fun c z=>?_,fun c z=>B (a.b c z),fun c t u C p=>?_,cV a.nd h,fun i=>?_,fun i=>?_,?_⟩
 ·rcases z with z|z
  ·rcases List.mem_append.mp z with z|z;·exact a.w c (.inl z)
   ·rw[List.mem_singleton.mp z];exact x
  ·rcases List.mem_append.mp z with z|z;·exact a.w c (.inr (Zc _ z))
   ·exact .step x y z
 ·rcases List.mem_append.mp t with z|z;·exact B (a.s c z u C p)
  ·rw[List.mem_singleton.mp z] at p;exact .inr (List.mem_append_right _ p)
 ·rw[List.mem_append,a.N];constructor
  ·rintro ((z|⟨c,t,u⟩)|z);·exact .inl z
   ·exact .inr ⟨c,List.mem_append_left _ t,u⟩
   ·exact .inr ⟨j,A3 (by simp) y z⟩
  ·rintro (z|⟨c,t,u,p⟩);·exact .inl (.inl z)
   ·rcases List.mem_append.mp t with z|z;·exact .inl (.inr ⟨c,A3 z u p⟩)
    ·rw[List.mem_singleton.mp z] at p;exact .inr p
 ·rw[List.mem_append,a.F];constructor
  ·rintro (⟨c,t,u⟩|z);·exact⟨c,List.mem_append_left _ t,u⟩
   ·exact⟨j,A3 (by simp) y z⟩
  ·intro A;refine bz A ?_;intro c t u p;rcases List.mem_append.mp t with z|z;·exact .inl ⟨c,A3 z u p⟩
   ·rw[List.mem_singleton.mp z] at p;exact .inr p
 ·have:=a.l;have:=v.lN;have:=v.lF;simp only[List.length_append,List.length_cons,List.length_nil];omega
theorem AI.pass(a:AI Ro e k (j::f) d r g)(h:j∉d)(y:¬ e j):AI Ro e k f (d++[j]) r g:=by
 have B:∀{c},c∈d\/c∈j::f->c∈d++[j]\/c∈f:=fun z=>z.elim (fun z=>.inl (List.mem_append_left _ z)) fun z=>(List.mem_cons.mp z).elim (fun q=>.inl (by simp[q])) .inr;have A:∀{p:Nat->Prop},(∃c∈d++[j],e c/\p c)↔∃c∈d,e c/\p c:=by
  intro p;constructor
  ·intro v;refine bz v ?_;intro c t o u;rcases List.mem_append.mp t with z|z;·exact⟨c,A3 z o u⟩
   ·rw[List.mem_singleton.mp z] at o;exact absurd o y
  ·intro x;refine ar x ?_;intro c t o;exact⟨c,List.mem_append_left _ t,o⟩
 refine⟨fun c z=>a.w c ?_,fun c z=>B (a.b c z),fun c t o C u=>?_,cV a.nd h,fun i=>by rw[a.N,A],fun i=>by rw[a.F,A],?_⟩
 ·rcases z with z|z
  ·rcases List.mem_append.mp z with z|z;·exact .inl z
   ·refine(List.mem_singleton.mp z)▸?_;exact .inr Ze
  ·exact .inr (Zc _ z)
 ·rcases List.mem_append.mp t with z|z;·exact B (a.s c z o C u)
  ·rw[List.mem_singleton.mp z] at o;exact absurd o y
 ·have:=a.l;simp only[List.length_append,List.length_cons,List.length_nil];exact gq this
theorem AI.mem(a:AI Ro e k [] d r g)(j:Nat):j∈d↔Cl Ro e k j:=by
 refine⟨fun h=>a.w j (.inl h),fun h=>?_⟩;have no:∀{c},c∈d\/c∈([]:List Nat)->c∈d:=fun z=>z.elim id fun z=>nomatch z;induction h with
 |base h=>exact no (a.b _ h)
 |step _ y z l=>exact no (a.s _ l y _ z)
theorem my{l:List Nat}(h:l.Nodup)(o:∀c∈l,iE c):l.length<=2:=by
 match l,h,o with
 |[],_,_=>exact Nat.zero_le _
 |[_],_,_=>exact Zz _
 |[_,_],_,_=>exact Zj _
 |a::b::c::l,h,o=>
  exfalso;have t:=o a (Ze);have u:=o b (by simp);have v:=o c (by simp);simp only[List.nodup_cons,List.mem_cons,not_or] at h;refine bM h ?_;clear h;intro p q _;obtain⟨w,x,_⟩:=p;obtain⟨y,_⟩:=q;rcases t with rfl|rfl<;>rcases u with rfl|rfl<;>rcases v with rfl|rfl<;>first|exact w rfl|exact x rfl|exact y rfl
theorem mE{l:List Nat}:h9 (l.map fun j:Nat=>(j:Int))=l.map aw:=by delta h9;rw[List.map_map];rfl
theorem pn{ns:List Int}{l:List Nat}(h:∀a∈ns,a∈l.map fun j:Nat=>(j:Int)):h9 ns=(ns.map Int.toNat).map aw/\(∀j,j∈ns.map Int.toNat↔(j:Int)∈ns)/\(ns.Pairwise (·<·)->(ns.map Int.toNat).Pairwise (·<·)):=by
 have p:∀a∈ns,((a.toNat:Nat):Int)=a:=fun a c=>by
  refine ar (List.mem_map.mp (h a c)) fun j _ o=>?_;obtain rfl:=o;rfl
 refine A3 ?_ (fun j=>?_) (fun q=>?_)
 ·delta h9;rw[List.map_map];exact List.map_congr_left fun a c=>by show MV.int a=.int ((a.toNat:Nat):Int);rw[p a c]
 ·rw[List.mem_map];constructor;·intro t;refine ar t ?_;clear t;intro a c o;obtain rfl:=o;rw[p a c];exact c
  ·exact fun z=>⟨_,z,rfl⟩
 ·rw[List.pairwise_map];refine q.imp_of_mem fun{a b} c v u=>?_;have w:=p a c;have x:=p b v;omega
theorem rJ:∀{l:List Int},l.Nodup->l.Pairwise (·<=·)->l.Pairwise (·<·):=fun h o=>(h.and o).imp fun c=>by obtain⟨a,b⟩:=c;omega
theorem qX{a:Nat}{v:MV}{P:MV->AS->Prop}(c:m.lookup 199=some (bH n Ro))(b:m.lookup 194=some (aw j))(l:j<n)(o:iL H (.tup [bf (Ro j).tN,bf (Ro j).tF,bf (Ro j).tC]) (.int (a:Int))=some v)(h:P v ⟨H,nx,m⟩) :
  bG (bG (bG (ac 199) (ac 194)) (ax (.int 2))) (ax (.int (a:Int))) ⟨H,nx,m⟩ P:=
 ⟨_,c,_,b,(Ro j).mv,lM l,_,rfl,_,o,h⟩
end
end
section
noncomputable def dR(l:List Nat):MObj:=.list (l.map aw)
def Ed(s:Nat->LS)(j:Nat):Prop:=s j=.ended
section
variable {st:St}{H H' H'':aq->Option MObj}{nx nx':Nat}{m:List (Nat×MV)}{i j k n:Nat}{Ro:Nat->Rw}{s:Nat->LS}{r d p g:List Nat}{Q:MV->AS->Prop}{P:aE->AS->Prop}
structure zb(m:List (Nat×MV))(n:Nat)(Ro:Nat->Rw)(i0 ic it:Nat)(p g:List Nat):Prop where
 l199:m.lookup 199=some (bH n Ro)
 l200:m.lookup 200=some (.tag (0,i0))
 l192:m.lookup 192=some (bf p)
 l236:m.lookup 236=some (bf g)
 l232:m.lookup 232=some (.tag (0,ic))
 l237:m.lookup 237=some (.tag (0,it))
theorem iX{a b:ap}{x y:MV}{l l':List Nat}{P:MV->AS->Prop}(c:∀A:MV->AS->Prop,A x ⟨H,nx,m⟩->a ⟨H,nx,m⟩ A)(e:∀A:MV->AS->Prop,A y ⟨H,nx,m⟩->b ⟨H,nx,m⟩ A)(f:bc H x=some (l.map aw))(o:bc H y=some (l'.map aw))(h:newL ((l++l').map aw) ⟨H,nx,m⟩ P):kJ a b ⟨H,nx,m⟩ P:=
 c _ (e _ (E2 _ _ (A3 f o (List.map_append▸h))))
theorem yu{x:MV}{l:List Nat}{P:Bool->AS->Prop}(a:bc H x=some (l.map aw))(h:P (!l.isEmpty) ⟨H,nx,m⟩):sI x (.lst []) ⟨H,nx,m⟩ P:=by
 refine⟨_,E2 ([]) _ (A4 a rfl lQ ?_)⟩;induction l<;>exact h
set_option maxHeartbeats 1000000 in
theorem xh(o:RowsOK n Ro)(hk:k<n){i0 ic:Nat}(hi:i0<nx)(hic:nx<=ic)(hH:H (0,i0)=some (.list (cu n s))):∀(f:Nat)(r d p g:List Nat)(v:aq->Option MObj)(b it:Nat)(I:List (Nat×MV)),f<=1000->r.length+8*(8 - d.length)<f->Frm H v nx->Fr v b->nx<=b->nx<=it->it<b->ic<b->ic≠it->v (0,ic)=some (dR d)->v (0,it)=some (dR r)->AI Ro (Ed s) k r d p g->zb I n Ro i0 ic it p g->(∀d p g x R it T,nx<=R->Frm H x nx->Fr x R->x (0,ic)=some (dR d)->AI Ro (Ed s) k [] d p g->zb T n Ro i0 ic it p g->P .next ⟨x,R,T⟩)->
  g7 (bh sI (ac 237) (dJ [])) (az (cJ 194 (b9 1 o6 (ac 237) [(ax (.int 0))])) (ca (bh lB (ac 194) (ac 232)) (az (bK (b9 1 cE (ac 232) [(ac 194)])) (ca (bh gT (bG (ac 200) (ac 194)) (ax (.str 25))) (az (cJ 192 (kJ (ac 192) (bG (bG (bG (ac 199) (ac 194)) (ax (.int 2))) (ax (.int 0))))) (az (cJ 236 (kJ (ac 236) (bG (bG (bG (ac 199) (ac 194)) (ax (.int 2))) (ax (.int 1))))) (cJ 237 (kJ (ac 237) (bG (bG (bG (ac 199) (ac 194)) (ax (.int 2))) (ax (.int 2))))))) bn)) bn)) f ⟨v,b,I⟩ P:=by
 intro f;induction f with
 |zero=>intro r d p g v b it I _ V;exact absurd V (ZA _)
 |succ f ih=>
  intro r d p g v b it I F V U f1 y M C t G Y ht a L q;have hn:=o.n;refine aK (aa L.l237 (bv (ai (aL (by decide) (yu (ay ht) ?_)))));induction r with
  |nil=>exact q d p g v b it I y U f1 Y a L
  |cons j r=>
   have cj:=(a.w j (.inr Ze)).ok o;have W:j<n:=Zs cj.1 hk;have lc:d.length<=7:=Zk (aN a.nd fun c Y=>Zs ((a.w c (.inl Y)).ok o).1 hk) hn;have la:=a.l;simp only[List.length_cons] at V;refine aj (aP (bS (aa L.l237 ⟨kl ht,ao (au (ai (.inr (E4 (0,it) _ 0 (aw j) (A5 rfl ht (by decide) rfl ?_)))))⟩)));show(ca _ _ _) ⟨af v (0,it) (dR r),b,ah I 194 (aw j)⟩ _;have f2:Fr (af v (0,it) (dR r)) b:=f1.set (Zj _) C;have J:Frm H (af v (0,it) (dR r)) nx:=U.trans (.set M) (Zj _);have N:af v (0,it) (dR r) (0,it)=some (dR r):=setH_at;have B:af v (0,it) (dR r) (0,ic)=some (dR d):=(ae (dh G)).trans Y;generalize af v (0,it) (dR r)=x at f2 J N B ⊢;have u:zb (ah I 194 (aw j)) n Ro i0 ic it p g:=⟨(aJ (by decide)).trans L.l199,(aJ (by decide)).trans L.l200,(aJ (by decide)).trans L.l192,(aJ (by decide)).trans L.l236,(aJ (by decide)).trans L.l232,(aJ (by decide)).trans L.l237⟩
   have e:(ah I 194 (aw j)).lookup 194=some (aw j):=bq;generalize ah I 194 (aw j)=T at u e ⊢;refine aX (aK (aa e (aa u.l232 ⟨d.contains j,?_,?_⟩)))
   ·show gy x (aw j) (.tag (0,ic))=_;exact(lO (show b6 x (.tag (0,ic))=some (d.map aw) from ay B))▸pB
   by_cases D:j∈d
   ·rw[show(!d.contains j)=false by simp[D]];exact ih r d p g x b it T (Zv F) (nA V) J f2 y M C t G B N (a.skip D) u q
   rw[show(!d.contains j)=true by simp[D]];refine aj (bj (bS (aa u.l232 ⟨kl B,ao (aa e (ai (ds B (by simp;exact av 0 7 1 1000 lc rfl) ⟨rfl,?_⟩)))⟩)));have e3:d.map aw++[aw j]=(d++[j]).map aw:=by rw[List.map_append];rfl
   rw[e3];show(ca _ _ _) ⟨af x (0,ic) (dR (d++[j])),b,T⟩ _;have X:Fr (af x (0,ic) (dR (d++[j]))) b:=f2.set (Zj _) t;have E:Frm H (af x (0,ic) (dR (d++[j]))) nx:=J.trans (.set hic) (Zj _);have K:af x (0,ic) (dR (d++[j])) (0,ic)=some (dR (d++[j])):=setH_at;have O:af x (0,ic) (dR (d++[j])) (0,it)=some (dR r):=(ae (dh (Ne.symm G))).trans N;generalize af x (0,ic) (dR (d++[j]))=H3 at X E K O ⊢;have hH3:H3 (0,i0)=some (.list (cu n s)):=(E _ (.inr hi)).trans hH;refine aX (aK (qS u.l200 e W hH3 (au (kY ?_))));by_cases Z:s j=.ended
   ·rw[Z];have S:=o.rw W;have h1:=S.lN;have h2:=S.lF;have h3:=S.lC;refine aj (aP (iX (fun A z=>aa u.l192 z) (fun A z=>qX (a:=0) u.l199 e W rfl z) rfl rfl (aL (by simp;exact kQ la h1 (Nat.mul_le_mul_left 16 lc)) ?_)));refine aj (aP (iX (fun A z=>aa ((aJ (by decide)).trans u.l236) z) (fun A z=>qX (a:=1) ((aJ (by decide)).trans u.l199) ((aJ (by decide)).trans e) W rfl z) rfl rfl (aL (by simp;exact kQ la h2 (Nat.mul_le_mul_left 16 lc)) ?_)));refine aP (iX (fun A z=>aa ((aJ (by decide)).trans ((aJ (by decide)).trans u.l237)) z) (fun A z=>qX (a:=2) ((aJ (by decide)).trans ((aJ (by decide)).trans u.l199)) ((aJ (by decide)).trans ((aJ (by decide)).trans e)) W rfl z) (ay O) rfl (eB (X b (Zj _)) (by simp;exact kQ F V h3) ?_));refine ih (r++(Ro j).tC) (d++[j]) (p++(Ro j).tN) (g++(Ro j).tF) _ (b+1) b _ (Zv F) (by simp only[List.length_append,List.length_cons,List.length_nil];lia) (E.trans (.set y) (Zj _)) (X.set (Zz _) (Zr _)) (Nat.le_succ_of_le y) y (Zr _) (Nat.lt_succ_of_lt t) (Zh t) ((ae (dh (Zh t))).trans K) setH_at (a.take o hk D Z) ⟨?_,?_,?_,?_,?_,bq⟩ q;·exact(aJ (by decide)).trans ((aJ (by decide)).trans ((aJ (by decide)).trans u.l199))
    ·exact(aJ (by decide)).trans ((aJ (by decide)).trans ((aJ (by decide)).trans u.l200))
    ·exact(aJ (by decide)).trans ((aJ (by decide)).trans bq)
    ·exact(aJ (by decide)).trans bq
    ·exact(aJ (by decide)).trans ((aJ (by decide)).trans ((aJ (by decide)).trans u.l232))
   ·rw[show((s j).num == 25)=false by cases h:s j<;>first|rfl|exact absurd h Z];exact ih r (d++[j]) p g H3 b it T (Zv F) (by simp only[List.length_append,List.length_cons,List.length_nil];lia) E X y M C t G K O (a.pass D Z) u q
set_option maxHeartbeats 1000000 in
theorem qY(o:RowsOK n Ro)(G:k<n){i0:Nat}(hi:i0<nx)(hH:H (0,i0)=some (.list (cu n s)))(Z:Fr H nx)(q:∀N F C I t,nx<=t->Frm H I nx->Fr I t->As Ro (Ed s) k N F C->Q (.tup [bf N,bf F,bf C]) ⟨I,t,m⟩):fR.1 [bH n Ro,.tag (0,i0),aw k] [] ⟨H,nx,m⟩ Q:=by
 refine⟨rfl,?_⟩;show az _ _ ⟨H,nx,[(199,bH n Ro),(200,.tag (0,i0)),(191,aw k)]⟩ _;have hn:=o.n;refine bM (o.nn k) fun u1 u2 _=>?_;have l1:(Ro k).needs.length<=7:=Zk (aN u1 fun x D=>Zs (o.needs k x D).1 G) hn;have l2:(Ro k).calcs.length<=7:=Zk (aN u2 fun x D=>Zs (o.calcs k x D).1 G) hn;refine aj (aP (cm (ao (mV (a:=0) (v:=bf (Ro k).needs) rfl rfl G rfl (ai ⟨_,rfl,.inl ⟨_,rfl,aL (by simp;exact av 0 7 0 100000 l1 rfl) ?_⟩⟩)))));refine aj (aP (bv (ai (aL (by decide) ?_))));refine aj (aP (bv (ai (eB (Z nx (Zj _)) (by decide) ?_))));refine aj (aP (cm (ao (mV (a:=1) (v:=bf (Ro k).calcs) rfl rfl G rfl (ai ⟨_,rfl,.inl ⟨_,rfl,eB ((Z.set (Zz nx) (Zr nx)) (nx+1) (Zj _)) (by simp;exact av 0 7 0 100000 l2 rfl) ?_⟩⟩)))));refine aj (lm 73 ?_);refine xh (k:=k) (ic:=nx) (i0:=i0) (s:=s) (H:=H) (nx:=nx) o G hi (Zj _) hH 73 (Ro k).calcs [] (Ro k).needs [] _ (nx+1+1) (nx+1) _ (by decide) (by simp only[List.length_nil];lia) ((Frm.set (Zj _)).trans (.set (Zz _)) (Zj _)) ((Z.set (Zz nx) (Zr nx)).set (Zz _) (Zr _)) (ZB _ 2) (Zz _) (Zr _) (Nat.lt_succ_of_lt (Zr _)) (Zh (Zr _)) ((ae (dh (Zh (Zr _)))).trans setH_at) setH_at ⟨fun c z=>z.elim (fun z=>nomatch z) .base,fun c z=>.inr z,(fun c z=>nomatch z),.nil,fun j=>⟨.inl,fun z=>z.elim id fun R=>by refine ar R ?_;clear R;intro _ z _;exact nomatch z⟩,fun j=>⟨(fun z=>nomatch z),fun S=>by refine ar S ?_;clear S;intro _ z _;exact nomatch z⟩,(l1)⟩ ⟨rfl,rfl,rfl,rfl,rfl,rfl⟩ fun d p g I t it m2 hn2 W f2 Y a L=>?_;have two:=my a.nd fun c hc=>((a.w c (.inl hc)).ok o).2;have la:=a.l;refine cK (ao ?_);refine iX (fun A X=>aa L.l192 X) (fun A X=>aa L.l236 X) rfl rfl (aL (by simp;exact iG la (Nat.mul_le_mul_left 16 two)) (.inr ⟨(p++g).map fun j:Nat=>(j:Int),A3 (by rw[mE];rfl) (by simp;exact uV la (Nat.mul_le_mul_left 16 two)) (fun M p' m'=>?_)⟩));refine bM (pn (ns:=M) (l:=p++g) fun a J=>(m' a).mp J) fun e1 e2 e3=>?_;have mN:∀j,j∈p++g↔Nl Ro (Ed s) k j:=fun j=>by
  rw[List.mem_append,a.N,a.F];constructor
  ·rintro ((z|⟨c,f,u,b⟩)|⟨c,f,u,b⟩);·exact .inl z
   ·exact .inr ⟨c,A3 ((a.mem c).mp f) u (.inl b)⟩
   ·exact .inr ⟨c,A3 ((a.mem c).mp f) u (.inr b)⟩
  ·rintro (z|⟨c,f,u,b|b⟩);·exact .inl (.inl z)
   ·exact .inl (.inr ⟨c,A3 ((a.mem c).mpr f) u b⟩)
   ·exact .inr ⟨c,A3 ((a.mem c).mpr f) u b⟩
 have mF:∀j,j∈g↔Fl Ro (Ed s) k j:=fun j=>by
  rw[a.F];exact⟨fun T=>by refine bz T ?_;clear T;intro c f u b;exact⟨c,A3 ((a.mem c).mp f) u b⟩,fun U=>by refine bz U ?_;clear U;intro c f u b;exact⟨c,A3 ((a.mem c).mpr f) u b⟩⟩
 have lt:∀{ns:List Int}{l:List Nat},(ns.map Int.toNat).Pairwise (·<·)->(∀j,j∈ns.map Int.toNat↔(j:Int)∈ns)->(∀a,a∈ns↔a∈l.map fun j:Nat=>(j:Int))->(∀j∈l,j<k)->((ns.map Int.toNat).map aw).length<=100000:=fun{ns l} hp hm hl hk'=>by
  have:(ns.map Int.toNat).length<=k:=aN (hp.imp fun h=>Zh h) fun j B=>by
   refine ar (List.mem_map.mp ((hl _).mp ((hm j).mp B))) fun x D e=>?_;have:x=j:=by exact Int.ofNat.inj e
   exact this▸hk' x D
  rw[List.length_map];exact bR 1 0 0 7 0 100000 (bR 0 0 1 0 1 0 this G rfl) hn rfl
 have mm:∀{ns:List Int}{l:List Nat},(∀j,j∈ns.map Int.toNat↔(j:Int)∈ns)->(∀a,a∈ns↔a∈l.map fun j:Nat=>(j:Int))->∀j,j∈ns.map Int.toNat↔j∈l:=fun{ns l} hm hl j=>by
  rw[hm,hl,List.mem_map];exact⟨fun V=>by refine ar V ?_;clear V;intro x D e;have:x=j:=Int.ofNat.inj e;exact this▸D,fun h=>⟨j,h,rfl⟩⟩
 refine e1▸?_;refine aL (lt (e3 p') e2 m' fun j B=>(((mN j).mp B).ok o).1) (ao (aa L.l236 (.inr ⟨g.map fun j:Nat=>(j:Int),A3 (by rw[mE];rfl) (by simp;exact uV la (Nat.mul_le_mul_left 16 two)) (fun O p2 E=>?_)⟩)));refine bM (pn (ns:=O) (l:=g) fun a J=>(E a).mp J) fun b1 b2 b3=>?_;refine b1▸?_;refine aL (lt (b3 p2) b2 E fun j B=>?_) (ao (cm (ao (aa L.l232 (ai ⟨_,rfl,.inr ⟨d.map fun j:Nat=>(j:Int),A3 (by rw[mE];exact ay Y) (by simp;exact av 0 2 1 64 two rfl) (fun y p3 o3=>?_)⟩⟩)))))
 ·refine bz ((mF j).mp B) fun c f u b=>?_;exact Zs (o.tF c j b).1 (f.ok o).1
 have m3:∀a,a∈y↔a∈d.map fun j:Nat=>(j:Int):=fun a=>p3.mem_iff;refine bM (pn (ns:=y) (l:=d) fun a J=>(m3 a).mp J) fun c1 c2 c3=>?_;have K:y.Nodup:=p3.nodup_iff.mpr (List.pairwise_map.mpr (a.nd.imp fun h e=>h (Int.ofNat.inj e)));refine c1▸?_;refine aL (lt (c3 (rJ K o3)) c2 m3 fun j B=>(((a.mem j).mp B).ok o).1) (ai ⟨bX rfl,?_⟩);exact q (M.map Int.toNat) (O.map Int.toNat) (y.map Int.toNat) I t hn2 W f2 ⟨⟨e3 p',fun j=>(mm e2 m' j).trans (mN j)⟩,⟨b3 p2,fun j=>(mm b2 E j).trans (mF j)⟩,⟨c3 (rJ K o3),fun j=>(mm c2 m3 j).trans (a.mem j)⟩⟩
end
end
section
noncomputable def ez(s:Nat->LS)(j:Nat):Nat->LS:=if s j=.no then upd s j .reached else s
def Wl(Ro:Nat->Rw)(s:Nat->LS)(k j:Nat):Prop:=Nl Ro (Ed s) k j\/Cl Ro (Ed s) k j
section
variable {st:St}{H H' H'':aq->Option MObj}{nx nx':Nat}{m:List (Nat×MV)}{i j k n:Nat}{Ro:Nat->Rw}{s w:Nat->LS}{todo B E D:List Nat}{Q:MV->AS->Prop}{P:aE->AS->Prop}
theorem vf{a:AS}{P:aE->AS->Prop}(h:P .next a):bn a P:=h
def Grew(s w:Nat->LS):Prop:=∀i,w i=s i\/(s i=.no/\w i=.reached)
theorem Grew.refl(s:Nat->LS):Grew s s:=fun _=>.inl rfl
theorem Grew.trans{a b d:Nat->LS}(x:Grew a b)(y:Grew b d):Grew a d:=fun i=>by
 rcases x i with h|⟨l,f⟩
 ·rcases y i with g|⟨c,e⟩
  ·exact .inl (g.trans h)
  ·exact .inr ⟨(h▸c),e⟩
 ·rcases y i with g|⟨c,e⟩
  ·exact .inr ⟨l,g.trans f⟩
  ·replace c:=f.symm.trans c;exact LS.noConfusion c
theorem Grew.ne(x:Grew s w)(h:s i≠.no):w i=s i:=(x i).elim id fun g=>absurd g.1 h
theorem Grew.no(x:Grew s w)(h:s i≠.no):w i≠.no:=((x.ne h)▸h)
theorem reach1_grew{j:Nat}:Grew s (ez s j):=fun i=>by
 unfold ez;split
 ·rename_i h;unfold upd;split;·rename_i e;subst e;exact .inr ⟨h,rfl⟩
  ·exact .inl rfl
 ·exact .inl rfl
theorem nD:∀(l:List Nat)(s:Nat->LS),Grew s (l.foldl ez s)/\(∀j∈l,l.foldl ez s j≠.no)/\(∀i,i∉l->l.foldl ez s i=s i)
 |[],s=>(A3 (.refl s) (fun j g=>(nomatch g)) (fun _ _=>rfl))
 |j::l,s=>by
  refine bM (nD l (ez s j)) fun a b c=>?_;refine List.foldl_cons.symm▸?_;refine A3 (reach1_grew.trans a) (fun i d=>?_) (fun i d=>?_)
  ·rcases List.mem_cons.mp d with f|d
   ·obtain rfl:=f.symm;refine a.no ?_;unfold ez;split;·unfold upd;refine(if_pos rfl).symm▸?_;intro h;exact LS.noConfusion h
    ·assumption
   ·exact b i d
  ·refine(c i fun h=>d (Zc _ h)).trans ?_;unfold ez;split;·unfold upd;rw[if_neg fun(e:i=j)=>d (e▸Ze)]
   ·rfl
theorem sq{i0:Nat}:∀(l:List Nat)(s:Nat->LS)(o:aq->Option MObj)(c:List (Nat×MV)),c.lookup 200=some (.tag (0,i0))->o (0,i0)=some (.list (cu n s))->(∀j∈l,j<n)->(∀b,(∀y,y≠194->b.lookup y=c.lookup y)->P .next ⟨af o (0,i0) (.list (cu n (l.foldl ez s))),nx,b⟩)->∀(g:(aq->Option MObj)->Prop),(∀H,g H)->
  dq g (ba 194) (ca (bh gT (bG (ac 200) (ac 194)) (ax (.str 20))) (hZ (ac 200) (ac 194) (ax (.str 21))) bn) (l.map aw) ⟨o,nx,c⟩ P:=by
 intro l;induction l with
 |nil=>
  intro s o c f p t q g r;refine⟨r _,?_⟩;have:=q c fun _ _=>rfl;rw[List.foldl_nil,jN p] at this;exact this
 |cons j l F=>
  intro s o c f p t q g r;have A:=t j Ze;refine⟨r _,?_⟩;have a:(ah c 194 (aw j)).lookup 200=some (.tag (0,i0)):=by rw[aG,if_neg (by decide)];exact f
  have d:(ah c 194 (aw j)).lookup 194=some (aw j):=by rw[aG,if_pos rfl]
  have keep:∀b:List (Nat×MV),(∀y,y≠194->b.lookup y=(ah c 194 (aw j)).lookup y)->∀y,y≠194->b.lookup y=c.lookup y:=fun b h y C=>(h y C).trans (by rw[aG,if_neg C]);refine aX (aK (qS a d A p ?_));refine au (kY ?_);show(match ((s j).num == LS.num .no) with|true=>_|false=>_);rw[LS.num_eq];by_cases e:s j=.no
  ·rw[decide_eq_true e];show hZ _ _ _ _ _;refine iM (au ?_);refine aa a ?_;refine aa d ?_;refine pa (v:=.reached) A p ?_;refine F (upd s j .reached) _ _ a setH_at (fun i z=>t i (Zc _ z)) (fun b x=>?_) g r;rw[fc];have:=q b (keep b x);rw[List.foldl_cons] at this;have u:ez s j=upd s j .reached:=by unfold ez;rw[if_pos e]
   rw[u] at this;exact this
  ·rw[decide_eq_false e];refine vf ?_;refine F s _ _ a p (fun i z=>t i (Zc _ z)) (fun b x=>?_) g r;have:=q b (keep b x);rw[List.foldl_cons] at this;have u:ez s j=s:=by unfold ez;rw[if_neg e]
   rw[u] at this;exact this
theorem Grew.ed(x:Grew s w):Ed w=Ed s:=by
 funext i;refine propext ⟨fun h=>?_,fun h=>?_⟩
 ·unfold Ed at h ⊢;rcases x i with z|⟨b,a⟩
  ·refine z▸?_;exact h
  ·rw[a] at h;exact LS.noConfusion h
 ·unfold Ed at h ⊢;refine(x.ne (by rw[h];decide)).symm▸?_;exact h
theorem Wl.ok(o:RowsOK n Ro)(h:Wl Ro s k j):j<k:=h.elim (fun z=>(z.ok o).1) fun z=>(z.ok o).1
theorem Frm.upd{t:aq}{a b:MObj}(x:Frm (af H t a) H' nx):Frm (af H t b) (af H' t b) nx:=fun u c=>by
 by_cases e:u=t;·subst e;rw[setH_at,setH_at]
 ·rw[ae e,ae e,x u c,ae e]
structure Rch(n:Nat)(Ro:Nat->Rw)(s w:Nat->LS)(lo:Nat):Prop where
 g:Grew s w
 cl:∀k,lo<=k->k<n->w k≠.no->∀j,Wl Ro w k j->w j≠.no
 fr:∀j,s j=.no->w j≠.no->∃p,w p≠.no/\Wl Ro w p j/\p<n
theorem ud(o:RowsOK n Ro){i0:Nat}(X:i0<nx):∀(mm:Nat)(s1:Nat->LS)(v:aq->Option MObj)(c:Nat)(t:List (Nat×MV)),mm<=n->Rch n Ro s s1 mm->Frm (af H (0,i0) (.list (cu n s1))) v nx->Fr v c->nx<=c->t.lookup 199=some (bH n Ro)->t.lookup 200=some (.tag (0,i0))->(∀s2 I d m2,Rch n Ro s s2 0->nx<=d->Frm (af H (0,i0) (.list (cu n s2))) I nx->Fr I d->P .next ⟨I,d,m2⟩)->∀(g:(aq->Option MObj)->Prop),(∀H,g H)->
  dq g (ba 191) (ca (bh qM (bG (ac 200) (ac 191)) (ax (.str 20))) (az (jX [192,236,232] (db fR.1 [(ac 199),(ac 200),(ac 191)] [])) (js (dH (kJ (ac 192) (ac 232))) (ba 194) (ca (bh gT (bG (ac 200) (ac 194)) (ax (.str 20))) (hZ (ac 200) (ac 194) (ax (.str 21))) bn))) bn) ((List.range mm).reverse.map aw) ⟨v,c,t⟩ P:=by
 intro mm;induction mm with
 |zero=>intro s1 v c t Y r fr W b x y q g T;exact⟨T _,q s1 v c t r b fr W⟩
 |succ k ih=>
  intro s1 v c t Y r fr W b x y q g T;have K:k<n:=Y;have hn:=o.n;have e:(List.range (k+1)).reverse=k::(List.range k).reverse:=by rw[List.range_succ,List.reverse_append];rfl
  refine e.symm▸?_;have J:v (0,i0)=some (.list (cu n s1)):=(fr _ (.inr X)).trans setH_at;have f:(ah t 191 (aw k)).lookup 199=some (bH n Ro):=(aJ (by decide)).trans x;have a:(ah t 191 (aw k)).lookup 200=some (.tag (0,i0)):=(aJ (by decide)).trans y;refine⟨T _,aX (aK (qS a bq K J (au (m6 ?_))))⟩;show sJ _ _ _ ((s1 k).num != LS.num .no) _;refine LS.num_ne.symm▸?_;by_cases Z:s1 k=.no
  ·rw[decide_eq_false (fun z=>z Z)];exact bU (ih s1 v c _ (Zv Y) ⟨r.g,fun i O R G j S=>by
    rcases Nat.eq_or_lt_of_le O with z|z;·subst z;exact absurd Z G
    ·exact r.cl i z R G j S,r.fr⟩ fr W b f a q g T)
  ·rw[decide_eq_true (show s1 k≠.no from Z)];refine dF (aj (jP (cD (ao (aa f (ao (aa a (ao (aa bq (ai (ai ?_)))))))))));refine qY o K (Zp X b) J W fun N F C I d V L f2 ok=>?_;refine⟨_,A3 rfl rfl ?_⟩;have lN:N.length<=7:=Zk (aN (ok.N.1.imp fun h=>Zh h) fun j U=>Zs ((((ok.N.2 j).mp U)).ok o).1 K) hn;have lC:C.length<=7:=Zk (aN (ok.C.1.imp fun h=>Zh h) fun j U=>Zs ((((ok.C.2 j).mp U)).ok o).1 K) hn;have u:∀j,j∈N++C↔Wl Ro s1 k j:=fun j=>by rw[List.mem_append,ok.N.2,ok.C.2];exact Iff.rfl
   show js _ _ _ ⟨I,d,ah (ah (ah (ah t 191 (aw k)) 192 (bf N)) 236 (bf F)) 232 (bf C)⟩ _;refine cA (bu (iX (fun A hA=>aa ((aJ (by decide)).trans ((aJ (by decide)).trans bq)) hA) (fun A hA=>aa bq hA) rfl rfl (aL (by simp;exact xL lN lC rfl) ⟨_,rfl,?_⟩)));have hH2:I (0,i0)=some (.list (cu n s1)):=(L _ (.inr (Zp X b))).trans J;refine sq (N++C) s1 I _ ((aJ (by decide)).trans ((aJ (by decide)).trans ((aJ (by decide)).trans a))) hH2 (fun j U=>Zs (((u j).mp U).ok o) K) (fun m3 G=>?_) _ fun _=>rfl;refine bM (nD (N++C) s1) fun M g2 g3=>?_;have wl:∀i j,Wl Ro ((N++C).foldl ez s1) i j↔Wl Ro s1 i j:=fun i j=>by unfold Wl;rw[M.ed]
   refine ih ((N++C).foldl ez s1) _ d m3 (Zv Y) ⟨r.g.trans M,fun i O R G j S=>?_,fun j O R=>?_⟩ ((fr.trans L b).upd) (fun i l=>(ae (dh (Zn (Zp X (Zk b (Zk V l)))))).trans (f2 i l)) (Zk b V) ((G 199 (by decide)).trans ((aJ (by decide)).trans ((aJ (by decide)).trans ((aJ (by decide)).trans f)))) ((G 200 (by decide)).trans ((aJ (by decide)).trans ((aJ (by decide)).trans ((aJ (by decide)).trans a)))) q g T
   ·rw[wl] at S;rcases Nat.eq_or_lt_of_le O with z|z;·subst z;exact g2 j ((u j).mpr S)
    ·have ni:i∉N++C:=fun l=>by have:=((u i).mp l).ok o;exact Nat.lt_asymm z this
     rw[g3 i ni] at G;exact M.no (r.cl i z R G j S)
   ·by_cases z:s1 j=.no
    ·have:j∈N++C:=Decidable.byContradiction fun q=>R ((g3 j q).trans z);exact⟨k,A3 (M.no Z) ((wl k j).mpr ((u j).mp this)) K⟩
    ·refine bz (r.fr j O z) fun p z1 z2 z3=>?_;exact⟨p,A3 (M.no z1) ((wl p j).mpr z2) z3⟩
theorem wB(o:RowsOK n Ro){i0:Nat}(u:i0<nx)(p:H (0,i0)=some (.list (cu n s)))(t:Fr H nx)(q:∀c b a,Rch n Ro s c 0->nx<=a->Frm (af H (0,i0) (.list (cu n c))) b nx->Fr b a->Q .none ⟨b,a,m⟩):kf.1 [bH n Ro,.tag (0,i0)] [] ⟨H,nx,m⟩ Q:=by
 refine⟨rfl,?_⟩;refine cA (bu ?_);show fH _ _ _ _ ⟨H,nx,[(199,bH n Ro),(200,.tag (0,i0))]⟩ _;have g:=o.n;show cC xV _ _ _;refine cm (ao (kD (n:=n) (Ro:=Ro) rfl (ai ⟨_,rfl,.inr (.inl ⟨n,A4 rfl (Int.natCast_nonneg n) (NJ g rfl) (aL (by rw[lJ];simp;exact av 0 7 0 100000 g rfl) ?_)⟩)⟩)));refine⟨1,rfl,-1,rfl,E2 _ _ (A3 rfl rfl (aL (by rw[lJ];simp;exact av 0 7 0 100000 g rfl) ⟨_,rfl,?_⟩))⟩;rw[lJ,<-List.map_reverse];refine ud (s:=s) (H:=H) (nx:=nx) o u n s H nx _ (Zj _) ⟨.refl s,fun k d e=>absurd e (Nat.not_lt_of_le d),fun j d e=>absurd d e⟩ (by rw[jN p];exact .refl) t (Zj _) rfl rfl (fun c b a v r h l f=>q c b a r h l f) _ fun _=>rfl
theorem vH(o:RowsOK n Ro){i0 i1:Nat}(h0:i0<nx)(h1:nx<=i1)(hH:H (0,i0)=some (.list (cu n s))):∀(l acc:List Nat)(V:aq->Option MObj)(f:Nat)(x:List (Nat×MV)),Frm H V nx->Fr V f->nx<=f->i1<f->x.lookup 199=some (bH n Ro)->x.lookup 200=some (.tag (0,i0))->x.lookup 203=some (.tag (0,i1))->V (0,i1)=some (dR acc)->(∀j∈l,j<n)->acc.length+l.length<900->(∀L p a U,(∀k,k∈L↔k∈acc\/(k∈l/\s k=.reached/\∀j,Wl Ro s k j->s j=.ended))->nx<=a->Frm H p nx->Fr p a->p (0,i1)=some (dR L)->U.lookup 203=some (.tag (0,i1))->P .next ⟨p,a,U⟩)->∀(g:(aq->Option MObj)->Prop),(∀H,g H)->
  dq g (ba 191) (ca (bh gT (bG (ac 200) (ac 191)) (ax (.str 21))) (az (jX [192,236,232] (db fR.1 [(ac 199),(ac 200),(ac 191)] [])) (ca (bh pP (eR [200] (dH (kJ (ac 192) (ac 232))) (ba 194) (bh qM (bG (ac 200) (ac 194)) (ax (.str 25))) (ac 194)) (dJ [])) (bK (b9 1 cE (ac 203) [(ac 191)])) bn)) bn) (l.map aw) ⟨V,f,x⟩ P:=by
 intro l;induction l with
 |nil=>
  intro acc V f x fr f1 u T h199 h200 R hA hl t q g hg;exact⟨hg _,q acc V f x (fun k=>⟨.inl,fun z=>z.elim id fun z=>nomatch z.1⟩) u fr f1 hA R⟩
 |cons k l ih=>
  intro acc V f x fr f1 u T h199 h200 R hA hl t q g hg;have hk:=hl k Ze;have hn:=o.n;simp only[List.length_cons] at t;have hH1:V (0,i0)=some (.list (cu n s)):=(fr _ (.inr h0)).trans hH;have M:(ah x 191 (aw k)).lookup 199=some (bH n Ro):=(aJ (by decide)).trans h199;have I:(ah x 191 (aw k)).lookup 200=some (.tag (0,i0)):=(aJ (by decide)).trans h200;have W:(ah x 191 (aw k)).lookup 203=some (.tag (0,i1)):=(aJ (by decide)).trans R;have skip:∀(p:aq->Option MObj)(a:Nat)(U:List (Nat×MV)),¬ (s k=.reached/\∀j,Wl Ro s k j->s j=.ended)->Frm H p nx->Fr p a->f<=a->U.lookup 199=some (bH n Ro)->U.lookup 200=some (.tag (0,i0))->U.lookup 203=some (.tag (0,i1))->p (0,i1)=some (dR acc)->dq g (ba 191) (ca (bh gT (bG (ac 200) (ac 191)) (ax (.str 21))) (az (jX [192,236,232] (db fR.1 [(ac 199),(ac 200),(ac 191)] [])) (ca (bh pP (eR [200] (dH (kJ (ac 192) (ac 232))) (ba 194) (bh qM (bG (ac 200) (ac 194)) (ax (.str 25))) (ac 194)) (dJ [])) (bK (b9 1 cE (ac 203) [(ac 191)])) bn)) bn) (l.map aw) ⟨p,a,U⟩ P:=fun p a U no J f2 G r c d S=>
   ih acc p a U J f2 (Zk u G) (Zp T G) r c d S (fun j K=>hl j (Zc _ K)) (Zv t) (fun L H3 nx3 m3 mL hn3 fr3 f3 hA3 O=>q L H3 nx3 m3 (fun i=>by
    rw[mL,List.mem_cons];exact⟨fun z=>z.imp id fun z=>⟨.inr z.1,z.2⟩,fun z=>z.imp id fun z=>⟨z.1.resolve_left fun e=>no (e▸z.2),z.2⟩⟩) hn3 fr3 f3 hA3 O) g hg
  refine⟨hg _,aX (aK (qS I bq hk hH1 (au (kY ?_))))⟩;show sJ _ _ _ ((s k).num == LS.num .reached) _;rw[LS.num_eq];by_cases hs:s k=.reached
  ·rw[decide_eq_true hs];refine dF (aj (jP (cD (ao (aa M (ao (aa I (ao (aa bq (ai (ai ?_)))))))))));refine qY o hk (Zp h0 u) hH1 f1 fun N F C p a G J f2 ok=>?_;refine⟨_,A3 rfl rfl ?_⟩;have lN:N.length<=7:=Zk (aN (ok.N.1.imp fun h=>Zh h) fun j K=>Zs ((((ok.N.2 j).mp K)).ok o).1 hk) hn;have lC:C.length<=7:=Zk (aN (ok.C.1.imp fun h=>Zh h) fun j K=>Zs ((((ok.C.2 j).mp K)).ok o).1 hk) hn;have mm':∀j,j∈N++C↔Wl Ro s k j:=fun j=>by rw[List.mem_append,ok.N.2,ok.C.2];exact Iff.rfl
   have hH2:p (0,i0)=some (.list (cu n s)):=(J _ (.inr (Zp h0 u))).trans hH1;have S:p (0,i1)=some (dR acc):=(J _ (.inr T)).trans hA;show ca _ _ _ ⟨p,a,ah (ah (ah (ah x 191 (aw k)) 192 (bf N)) 236 (bf F)) 232 (bf C)⟩ _;have b:∀{y v},y≠192->y≠236->y≠232->(ah x 191 (aw k)).lookup y=some v->(ah (ah (ah (ah x 191 (aw k)) 192 (bf N)) 236 (bf F)) 232 (bf C)).lookup y=some v:=fun h1 h2 h3 h=>(aJ h3).trans ((aJ h2).trans ((aJ h1).trans h));have Y:(ah (ah (ah (ah x 191 (aw k)) 192 (bf N)) 236 (bf F)) 232 (bf C)).lookup 192=some (bf N):=(aJ (by decide)).trans ((aJ (by decide)).trans bq);have Z:(ah (ah (ah (ah x 191 (aw k)) 192 (bf N)) 236 (bf F)) 232 (bf C)).lookup 232=some (bf C):=bq;have X:=b (y:=191) (by decide) (by decide) (by decide) bq;have r:=b (by decide) (by decide) (by decide) M;have c:=b (by decide) (by decide) (by decide) I;have d:=b (by decide) (by decide) (by decide) W;generalize ah (ah (ah (ah x 191 (aw k)) 192 (bf N)) 236 (bf F)) 232 (bf C)=m3 at Y Z X r c d ⊢;clear b;refine aX (aK (hK (bu (iX (fun A hA=>aa Y hA) (fun A hA=>aa Z hA) rfl rfl (aL (by simp;exact xL lN lC rfl) ⟨_,rfl,?_⟩)))));show eU _ _ _ _ _ _ _ ⟨p,a,cT [200] m3⟩ _;refine gM (H:=p) (nx:=a) (m0:=cT [200] m3) (g:=fun H=>b6 H (MV.lst ((N++C).map aw))=some ((N++C).map aw)) aw (fun j=>decide (s j≠.ended)) aw rfl (N++C) [] _ (fun _ _=>rfl) (fun j K U k2 kx=>⟨fun P1 hp=>?_,fun _ P1 hp=>aa kx hp⟩) (by simp;exact xL lN lC rfl) ?_
   ·refine aK (qS ((k2 200 (by decide)).trans (om c)) kx (Zs (((mm' j).mp K).ok o) hk) hH2 (au (m6 ?_)));show P1 ((s j).num != LS.num .ended) _;rw[LS.num_ne];exact hp
   refine aL (by rw[List.nil_append,List.length_map];exact Zk (List.length_filter_le _ _) (by simp;exact xL lN lC rfl)) ?_;rw[List.nil_append];refine bv (ai (aL (by decide) ⟨_,E2 ([]) _ (A4 rfl rfl lQ ?_)⟩));have iff:(((N++C).filter fun j=>decide (s j≠.ended)).map aw).isEmpty=true↔∀j,Wl Ro s k j->s j=.ended:=by
    rw[List.isEmpty_iff,List.map_eq_nil_iff,List.filter_eq_nil_iff];exact⟨fun h j K=>Decidable.byContradiction fun z=>h j ((mm' j).mpr K) (decide_eq_true z),fun h j K=>by rw[h j ((mm' j).mp K)];exact fun h=>jU h⟩
   by_cases he:∀j,Wl Ro s k j->s j=.ended
   ·rw[iff.mpr he];refine dF (bj (bS (aa d ⟨kl S,ao (aa X (ai (ds S (by simp;exact NB t rfl) ⟨rfl,?_⟩)))⟩)));have e3:acc.map aw++[aw k]=(acc++[k]).map aw:=by rw[List.map_append];rfl
    refine e3.symm▸?_;refine ih (acc++[k]) _ a m3 ((fr.trans J u).trans (.set h1) (Zj _)) (f2.set (Zj _) (Zp T G)) (Zk u G) (Zp T G) r c d setH_at (fun j K=>hl j (Zc _ K)) (by rw[List.length_append];show acc.length+1+_<_;exact NA t) (fun L H3 nx3 m3 mL hn3 fr3 f3 hA3 O=>q L H3 nx3 m3 (fun i=>?_) hn3 fr3 f3 hA3 O) g hg;rw[mL,List.mem_append,List.mem_singleton,List.mem_cons];constructor
    ·rintro ((z|rfl)|z);·exact .inl z
     ·exact .inr (A3 (.inl rfl) hs he)
     ·exact .inr ⟨.inr z.1,z.2⟩
    ·rintro (z|⟨rfl|z,z2⟩);·exact .inl (.inl z)
     ·exact .inl (.inr rfl)
     ·exact .inr ⟨z,z2⟩
   ·rw[Bool.eq_false_iff.mpr fun z=>he (iff.mp z)];exact bU (skip p a m3 (fun z=>he z.2) (fr.trans J u) f2 G r c d S)
  ·rw[decide_eq_false hs];exact bU (skip V f _ (fun z=>hs z.1) fr f1 (Zj _) M I W hA)
theorem yo(o:RowsOK n Ro){i0:Nat}(r:i0<nx)(p:H (0,i0)=some (.list (cu n s)))(l:Fr H nx)(q:∀L b a,(∀k,k∈L↔k<n/\s k=.reached/\∀j,Wl Ro s k j->s j=.ended)->nx<=a->nx<a->Frm H b nx->Fr b a->b (0,nx)=some (dR L)->Q (.tag (0,nx)) ⟨b,a,m⟩):jf.1 [bH n Ro,.tag (0,i0)] [] ⟨H,nx,m⟩ Q:=by
 refine⟨rfl,?_⟩;show az _ _ ⟨H,nx,[(199,bH n Ro),(200,.tag (0,i0))]⟩ _;have u:=o.n;refine aj (aP (bv (ai (eB (l nx (Zj _)) (by decide) ?_))));refine aj (pW (n:=n) (Ro:=Ro) o.n rfl ?_);refine vH (H:=H) (nx:=nx) (s:=s) (i0:=i0) (i1:=nx) o r (Zj _) p (List.range n) [] _ (nx+1) _ (.set (Zj _)) (l.set (Zz _) (Zr _)) (Zz _) (Zr _) rfl rfl rfl setH_at (fun j t=>by simpa using t) (by simp;exact av 0 7 1 900 u rfl) (fun L b a x v f g h d c=>?_) _ fun _=>trivial;refine cK (aa c (q L b a (fun k=>?_) f ?_ g h d))
 ·rw[v,List.mem_range];exact⟨fun z=>z.elim (fun z=>nomatch z) id,.inr⟩
 ·refine Nat.lt_of_le_of_ne f fun e=>?_;have:=h nx (Zd e.symm);replace this:=d.symm.trans this;exact jF this
end
end
section
noncomputable def fU(i:Nat):Nat:=(([0,1,13,2,14,3,4,15,5,6,10,7,11,8,9,12]:List Nat)[i]?).getD 0
theorem z8:∀a b:Fin 16,ltCps (S0 b.val).cps.toList (S0 a.val).cps.toList=decide (fU b.val<fU a.val):=by decide +kernel
theorem wK:∀a b:Fin 16,fU a.val=fU b.val->a=b:=by decide
theorem vw:∀(l:List Nat)(p:Nat),p<16->(∀x∈l,x<16)->risingS (S0 p) (l.map S0)=true->(p::l).Pairwise fun a b=>fU a<=fU b:=by
 intro l;induction l with
 |nil=>exact fun p _ _ _=>List.pairwise_singleton _ _
 |cons x l e=>
  intro p j f h;have g:=f x Ze;have h':(!ltCps (S0 x).cps.toList (S0 p).cps.toList&&risingS (S0 x) (l.map S0))=true:=h;rw[Bool.and_eq_true,z8 ⟨p,j⟩ ⟨x,g⟩] at h';have c:fU p<=fU x:=by
   have:=h'.1;simp at this;exact this
  have e:=e x g (fun y d=>f y (Zc _ d)) h'.2;refine List.pairwise_cons.mpr ⟨fun y d=>?_,e⟩;rcases List.mem_cons.mp d with i|d;·obtain rfl:=i.symm;exact c
  ·exact Zk c ((List.pairwise_cons.mp e).1 y d)
theorem pZ{l:List Nat}(c:∀x∈l,x<16)(h:sortedS (l.map S0)=true):l.Pairwise fun a b=>fU a<=fU b:=by
 induction l with
 |nil=>exact .nil
 |cons x l=>exact vw l x (c x Ze) (fun y d=>c y (Zc _ d)) h
theorem wR{a b:List Nat}(c:∀x∈b,x<16)(h:a.Nodup)(i:b.Nodup)(d:∀x,x∈a↔x∈b)(k:sortedS (a.map S0)=true)(l:sortedS (b.map S0)=true):a=b:=by
 have p:a.Perm b:=List.perm_iff_count.mpr fun x=>by
  rw[h.count,i.count];simp only[d]
 exact p.eq_of_pairwise (le:=fun a b=>fU a<=fU b) (fun x y e j f g=>congrArg Fin.val (wK ⟨x,c x ((d x).mp e)⟩ ⟨y,c y j⟩ (Nat.le_antisymm f g))) (pZ (fun x e=>c x ((d x).mp e)) k) (pZ c l)
theorem qh{l:List Nat}:nK (bY l) (bY l)=some true:=by
 have h:jQ (bY l) (bY l)=some true:=by
  induction l with
  |nil=>rfl
  |cons a l d=>
   show(match fV (.str a) (.str a),jQ (bY l) (bY l) with|some b,some c=>some (b&&c)|_,_=>none)=_;rw[d];show some ((a == a)&&true)=_;simp
 delta nK;rw[if_pos rfl,h]
section
variable {st:St}{H H' H'':aq->Option MObj}{nx nx':Nat}{m:List (Nat×MV)}{i j k n:Nat}{Ro:Nat->Rw}{s s':Nat->LS}{d:Nd}{Q:MV->AS->Prop}{P:aE->AS->Prop}
structure Srt(l l':List Nat):Prop where
 nd:l'.Nodup
 m:∀x,x∈l'↔x∈l
 s:sortedS (l'.map S0)=true
theorem Srt.eq{a b l l':List Nat}(x:Srt a l)(y:Srt b l')(h:∀i,i∈a↔i∈b)(c:∀i∈b,i<16):l=l':=wR (fun i e=>c i ((y.m i).mp e)) x.nd y.nd (fun i=>by rw[x.m,y.m,h]) x.s y.s
theorem ik{v:MV}{l:List Nat}{P:MV->AS->Prop}(c:bc H v=some (bY l))(b:l.Nodup)(a:l.length<60)(h:∀l':List Nat,Srt l l'->P (.lst (bY l')) ⟨H,nx,m⟩):sS [v] ⟨H,nx,m⟩ P:=
 ⟨v,rfl,.inl ⟨l,A3 c (av 1 60 1 64 a rfl) (fun l' p s=>aL (by unfold bY;rw[List.length_map,p.length_eq];exact av 1 60 0 100000 a rfl) (h l' ⟨p.nodup_iff.mpr b,fun x=>p.mem_iff,s⟩))⟩⟩
theorem pV{f:ap}{v:MV}{l:List Nat}{P:MV->AS->Prop}(c:∀A:MV->AS->Prop,A v ⟨H,nx,m⟩->f ⟨H,nx,m⟩ A)(g:bc H v=some (bY l))(a:∀x∈l,x<16)(e:l.length<60)(h:∀l':List Nat,Srt l l'->P (.lst (bY l')) ⟨H,nx,m⟩):rG f ⟨H,nx,m⟩ P:=
 c _ (.inl ⟨l,g,(av 1 60 1 64 e rfl),fun l' p b s=>aL (by
  have:l'.length<=16:=aN p fun x o=>a x ((b x).mp o);delta bY;rw[List.length_map];exact av 0 16 0 100000 this rfl) (h l' ⟨p,b,s⟩)⟩)
theorem j8{x:Nat}{P:MV->AS->Prop}(a:j<7)(b:m.lookup x=some (aw j))(h:P (.str j) ⟨H,nx,m⟩):bG (ax (.lst dE)) (ac x) ⟨H,nx,m⟩ P:=
 ⟨_,b,.str j,lM (n:=7) (f:=.str) a,h⟩
theorem uY{f:ap}{P:MV->AS->Prop}(b:j<7)(a:∀A:MV->AS->Prop,A (.str j) ⟨H,nx,m⟩->f ⟨H,nx,m⟩ A)(h:P (bA j) ⟨H,nx,m⟩):qE jJ (ax (.str 46)) f ⟨H,nx,m⟩ P:=
 a _ (E3 46 j (8+j) (A4 rfl rfl (by unfold jJ;simp;exact av 1 7 1 8 b rfl) h))
theorem im{x:Nat}{f:ap}{l:List Nat}{P:MV->AS->Prop}(e:∀A:MV->AS->Prop,A (bf l) ⟨H,nx,m⟩->f ⟨H,nx,m⟩ A)(p:∀j∈l,j<7)(b:l.length<60)(h:P (bO l) ⟨H,nx,m⟩):eR [] (dH f) (ba x) fN (bG (ax (.lst dE)) (ac x)) ⟨H,nx,m⟩ P:=by
 refine hK (bu (e _ ⟨_,rfl,?_⟩));show eU _ _ _ _ _ _ _ ⟨H,nx,cT [] m⟩ _;refine gM (H:=H) (nx:=nx) (m0:=cT [] m) (g:=fun H=>b6 H (bf l)=some (l.map aw)) aw (fun _=>true) .str rfl l [] _ (fun _ _=>rfl) (fun j o r k2 q=>⟨fun c a=>a,fun _ c a=>j8 (p j o) q a⟩) (by simp;exact av 1 60 0 900 b rfl) ?_;rw[List.nil_append,List.filter_eq_self.mpr fun _ _=>rfl];exact aL (by simp;exact av 1 60 0 100000 b rfl) h
theorem rt{x:Nat}{f:ap}{l:List Nat}{P:MV->AS->Prop}(q:∀A:MV->AS->Prop,A (bf l) ⟨H,nx,m⟩->f ⟨H,nx,m⟩ A)(c:∀j∈l,j<7)(e:l.length<60)(h:P (.lst (l.map bA)) ⟨H,nx,m⟩):eR [] (dH f) (ba x) fN (qE jJ (ax (.str 46)) (bG (ax (.lst dE)) (ac x))) ⟨H,nx,m⟩ P:=by
 refine hK (bu (q _ ⟨_,rfl,?_⟩));show eU _ _ _ _ _ _ _ ⟨H,nx,cT [] m⟩ _;refine gM (H:=H) (nx:=nx) (m0:=cT [] m) (g:=fun H=>b6 H (bf l)=some (l.map aw)) aw (fun _=>true) bA rfl l [] _ (fun _ _=>rfl) (fun j b t k2 r=>⟨fun o a=>a,fun _ o a=>uY (c j b) (fun A p=>j8 (c j b) r p) a⟩) (by simp;exact av 1 60 0 900 e rfl) ?_;rw[List.nil_append,List.filter_eq_self.mpr fun _ _=>rfl];exact aL (by simp;exact av 1 60 0 100000 e rfl) h
theorem rB{g:Nat}{l:List Nat}{v:MV}(r:R n Ro st H nx)(z:bc H v=some (l.map aO))(e:∀j∈l,st.nd j≠none/\j<n)(u:n<=7)(a:l.length<60)(h:∀l':List Nat,Srt l l'->Q (.lst (bY l')) ⟨H,nx,m⟩)(p:b6 H v=some (l.map aO)):kg.1 [v] [] ⟨H,nx,m⟩ Q:=by
 refine⟨rfl,?_⟩;show fj _ ⟨H,nx,[(150,v)]⟩ _;refine cK (pV (l:=l) (v:=.lst (bY l)) (fun A t=>?_) rfl (fun x f=>Zp (e x f).2 (av 0 7 0 16 u rfl)) a h);refine hK (bu (aa rfl ⟨_,p,?_⟩));show eU _ _ _ _ _ _ _ ⟨H,nx,cT [] [(150,v)]⟩ _;refine gM (H:=H) (nx:=nx) (m0:=cT [] [(150,v)]) (g:=fun H=>b6 H v=some (l.map aO)) aO (fun _=>true) .str p l [] _ (fun _ _=>rfl) (fun j o B k2 w=>⟨fun q c=>c,fun _ q c=>?_⟩) (by simp;exact av 1 60 0 900 a rfl) ?_
 ·obtain⟨y,b⟩:=Option.ne_none_iff_exists'.mp (e j o).1;exact iz r b (e j o).2 w c
 ·rw[List.nil_append,List.filter_eq_self.mpr fun _ _=>rfl];exact aL (by simp;exact av 1 60 0 100000 a rfl) t
theorem zL{b:List (ap×ap)}{c:AS}(h:jY b c fun xs a=>∃es t,keysOf? xs=some es/\fJ a.H a.nx t/\Q (.tag t) { a with H:=af a.H t (.dict (es.foldl (fun acc p=>ah acc p.1 p.2) [])),nx:=cf a.nx t }):xT b c Q:=h
theorem vg{k f:ap}{r:List (ap×ap)}{e:AS}{Q:List (MV×MV)->AS->Prop}(h:k e fun x a=>f a fun y b=>jY r b fun g c=>Q ((x,y)::g) c):jY ((k,f)::r) e Q:=h
theorem yD{a:AS}{Q:List (MV×MV)->AS->Prop}(h:Q [] a):jY [] a Q:=h
theorem vr(ok:tH (Ro k))(c:(∀j∈(Ro k).tN,j<7)/\(∀j∈(Ro k).tF,j<7)/\∀j∈(Ro k).tC,j<7)(b:H (17,k)=none)(q:Q (.tag (17,k)) ⟨af H (17,k) (.dict (cS (Ro k))),nx,m⟩):jz.1 [(Ro k).mv] [] ⟨H,nx,m⟩ Q:=by
 have a1:=ok.lN;have f:=ok.lF;have g:=ok.lC;refine⟨rfl,?_⟩;show az _ _ ⟨H,nx,[(197,(Ro k).mv)]⟩ _;refine aj (jP ⟨_,rfl,.tup [bf (Ro k).tN,bf (Ro k).tF,bf (Ro k).tC],rfl,_,A3 rfl rfl ?_⟩);show az _ _ ⟨H,nx,[(197,(Ro k).mv),(233,bf (Ro k).tN),(236,bf (Ro k).tF),(232,bf (Ro k).tC)]⟩ _;refine aj (aP (zL (vg (au (im (l:=(Ro k).tN) (fun A a=>aa rfl a) c.1 (av 0 8 1 60 a1 rfl) (vg (au (rt (l:=(Ro k).tF) (fun A a=>aa rfl a) c.2.1 (av 0 8 1 60 f rfl) (yD (E2 _ (17,k) (A3 rfl ⟨b,.inl (by show(17:Nat)≠0;decide)⟩ ?_)))))))))));have e:cf nx (17,k)=nx:=if_neg (by show(17:Nat)≠0;decide);dsimp only;refine aj (iM (im (l:=(Ro k).tC) (fun A a=>aa rfl a) c.2.2 (av 0 8 1 60 g rfl) (aa bq (au (.inr (E4 (17,k) _ none 52 (A5 rfl rfl setH_at (bX rfl) ?_)))))));dsimp only;rw[fc];exact cK (aa bq q)
end
end
section
section
variable {st:St}{H H' H'':aq->Option MObj}{nx nx':Nat}{m:List (Nat×MV)}{i j k n:Nat}{Ro:Nat->Rw}{s s':Nat->LS}{d:Nd}{Q:MV->AS->Prop}{P:aE->AS->Prop}
structure zr(n:Nat)(Ro:Nat->Rw)(st:St)(s:Nat->LS)(k:Nat)(d:Nd):Prop where
 bad:∀j,j∈d.bad↔Wl Ro s k j/\(Ro j).kd=32
 ign:∀j,j∈d.ign↔Wl Ro s k j/\(Ro j).kd=34
 nd:∀j,Wl Ro s k j->st.nd j≠none
 td:∀j,j∈(st.tk k).td↔Nl Ro (Ed s) k j
 fd:∀j,j∈(st.tk k).fd↔Fl Ro (Ed s) k j
 cd:∀j,j∈(st.tk k).cd↔Cl Ro (Ed s) k j
 n2:(st.tk k).fd.Nodup/\(st.tk k).cd.Nodup
 l:d.bad.length<60/\d.ign.length<60/\(st.tk k).td.length<60
theorem sN{a:Nat}{N C:List Nat}{P:MV->AS->Prop}(u:n<=7)(q:∀j∈N++C,j<n)(b:(N++C).length<=14)(e:m.lookup 199=some (bH n Ro))(c:m.lookup 192=some (bf N))(f:m.lookup 232=some (bf C))(h:P (.lst (bY ((N++C).filter fun j=>(Ro j).kd == a))) ⟨H,nx,m⟩) :
  eR [199] (dH (kJ (ac 192) (ac 232))) (ba 194) (bh gT (bG (bG (ac 199) (ac 194)) (ax (.int 3))) (ax (.str a))) (bG (ax (.lst dE)) (ac 194)) ⟨H,nx,m⟩ P:=by
 refine hK (bu (iX (fun A l=>aa c l) (fun A l=>aa f l) rfl rfl (aL (by rw[List.length_map];exact av 0 14 0 100000 b rfl) ⟨_,rfl,?_⟩)));show eU _ _ _ _ _ _ _ ⟨H,nx,cT [199] m⟩ _;refine gM (H:=H) (nx:=nx) (m0:=cT [199] m) (g:=fun H=>b6 H (MV.lst ((N++C).map aw))=some ((N++C).map aw)) aw (fun j=>(Ro j).kd == a) .str rfl (N++C) [] _ (fun _ _=>rfl) (fun j p v k2 r=>⟨fun t o=>?_,fun _ t o=>j8 (Zp (q j p) u) r o⟩) (by simp only[List.length_nil];exact gq b) ?_;·exact aK (mV (a:=3) ((k2 199 (by decide)).trans (om e)) r (q j p) rfl (au (kY o)))
 ·refine aL (by rw[List.nil_append,List.length_map];exact Zk (List.length_filter_le _ _) (av 0 14 0 100000 b rfl)) ?_;exact h
theorem mD{a:AS}{P:Bool->AS->Prop}(h:P false a):AC eX P false a:=h
theorem lK{a b l:List Nat}{P:Bool->AS->Prop}(e:a=b)(h:P false ⟨H,nx,m⟩):sI (.lst (bY a)) (.lst (bY b)) ⟨H,nx,m⟩ P:=by
 subst e;exact⟨_,E2 _ _ (A4 rfl rfl qh h)⟩
set_option maxHeartbeats 1000000 in
theorem yl(o:RowsOK n Ro){i0:Nat}(v:k<n)(hi:i0<nx)(r:R n Ro st H nx)(hd:st.nd k=some d)(hH:H (0,i0)=some (.list (cu n s)))(t:zr n Ro st s k d)(q:∀I w,nx<=w->Frm H I nx->Fr I w->Q (.bool true) ⟨I,w,m⟩):gW.1 [bH n Ro,.tag (0,i0),aw k,aO k] [] ⟨H,nx,m⟩ Q:=by
 refine⟨rfl,?_⟩;show az _ _ ⟨H,nx,[(199,bH n Ro),(200,.tag (0,i0)),(191,aw k),(154,aO k)]⟩ _;have u:=o.n;refine aj (jP (cD (ao (aa rfl (ao (aa rfl (ao (aa rfl (ai (ai ?_))))))))));refine qY o v hi hH r.tmp fun N F C I w hn2 L f2 ok=>⟨_,A3 rfl rfl ?_⟩
 have q:=q I w hn2 L f2;have U:=r.frame L f2;show az _ _ ⟨I,w,[(199,bH n Ro),(200,.tag (0,i0)),(191,aw k),(154,aO k),(192,bf N),(236,bf F),(232,bf C)]⟩ _;have G:N.Nodup:=ok.N.1.imp fun h=>Zh h;have S:F.Nodup:=ok.F.1.imp fun h=>Zh h;have E:C.Nodup:=ok.C.1.imp fun h=>Zh h;have kN:∀j∈N,j<k:=fun j f=>(((ok.N.2 j).mp f).ok o).1;have M:∀j∈C,j<k:=fun j f=>(((ok.C.2 j).mp f).ok o).1;have T:∀j∈F,j<k:=fun j f=>by refine bz ((ok.F.2 j).mp f) fun c z1 z2 z3=>?_;exact Zs (o.tF c j z3).1 (z1.ok o).1
 have lN:N.length<=k:=aN G kN;have lC:C.length<=k:=aN E M;have lF:F.length<=k:=aN S T;have wl:∀j,j∈N++C↔Wl Ro s k j:=fun j=>by rw[List.mem_append,ok.N.2,ok.C.2];exact Iff.rfl
 have lt:∀j∈N++C,j<n:=fun j f=>(List.mem_append.mp f).elim (fun z=>Zs (kN j z) v) fun z=>Zs (M j z) v;have y:(N++C).Nodup:=List.nodup_append.mpr (A3 G E (fun a Z b hb e=>(((ok.N.2 a).mp Z).ok o).2 (e▸(((ok.C.2 b).mp hb).ok o).2)));have D:(N++C).length<=14:=by rw[List.length_append];omega
 have lf:∀p:Nat->Bool,((N++C).filter p).length<60:=fun p=>ZD (List.length_filter_le _ _) (av 0 14 1 60 D rfl);have mf:∀(l:List Nat)(a:Nat),(∀j,j∈l↔Wl Ro s k j/\(Ro j).kd=a)->∀j,j∈l↔j∈(N++C).filter fun j=>(Ro j).kd == a:=fun l a h j=>by
  rw[h,List.mem_filter,wl,beq_iff_eq]
 have K:∀p:Nat->Bool,∀j∈(N++C).filter p,j<16:=fun p j f=>by have:=lt j (List.mem_filter.mp f).1;exact bR 1 0 0 7 1 16 this u rfl
 refine aj (aP (sN (n:=n) (Ro:=Ro) (N:=N) (C:=C) u lt D rfl rfl rfl ?_));refine aj (aP (sN (n:=n) (Ro:=Ro) (N:=N) (C:=C) u lt D rfl rfl rfl ?_));have x:=U.node k d hd;have hx:∀(l:List Nat)(a:Nat),(∀j,j∈l↔Wl Ro s k j/\(Ro j).kd=a)->∀j∈l,st.nd j≠none/\j<n:=fun l a h j f=>⟨t.nd j ((h j).mp f).1,lt j ((wl j).mpr ((h j).mp f).1)⟩
 have tk:=U.task k v;refine rT tk.obj fun es V e2 e62 W X Y _=>?_;refine bM t.l fun ll1 ll2 ll3=>?_;have J:∀{l:List Nat},(∀j∈l,j<k)->∀j∈l,j<7:=fun h j f=>by have:=h j f;exact bR 2 0 0 7 1 7 (bR 1 0 1 0 2 0 this v rfl) u rfl
 refine aj (aX (gz (aK (cD (ao (aH (t:=(10,k)) rfl x.obj (by decide) rfl rfl (ai (ai ?_))))))));refine rB (g:=15) U (ay x.bad) (hx _ _ t.bad) u ll1 (fun l1 s1=>?_) (ay x.bad);refine cm (ao (aa rfl (ai (ik rfl (y.filter _) (lf _) fun l2 s2=>lK (l:=[]) (s1.eq s2 (mf _ _ t.bad) (K _)) ?_))));refine gz (aK (cD (ao (aH (t:=(10,k)) rfl x.obj (by decide) rfl rfl (ai (ai ?_))))));refine rB (g:=16) U (ay x.ign) (hx _ _ t.ign) u ll2 (fun l3 s3=>?_) (ay x.ign);refine cm (ao (aa rfl (ai (ik rfl (y.filter _) (lf _) fun l4 s4=>lK (l:=[]) (s3.eq s4 (mf _ _ t.ign) (K _)) ?_))));refine mD (bU (aj (aX (aK (pV (l:=(st.tk k).td) (fun A B=>fe x rfl V (by decide) W rfl B) (ay tk.td) (fun j f=>?_) ll3 fun l5 s5=>?_)))));·have:=(((t.td j).mp f).ok o).1;exact bR 2 0 0 7 1 16 (bR 1 0 1 0 2 0 this v rfl) u rfl
 refine cm (ao (im (l:=N) (fun A B=>aa rfl B) (J kN) (bR 1 0 0 7 1 60 (bR 0 0 1 0 1 0 lN v rfl) u rfl) (ai (ik (l:=N) rfl G (bR 1 0 0 7 1 60 (bR 0 0 1 0 1 0 lN v rfl) u rfl) fun l6 s6=>lK (l:=[]) (s5.eq s6 (fun j=>by rw[t.td,ok.N.2]) fun j f=>by have:=J kN j f;exact av 1 7 1 16 this rfl) ?_))));have mk:∀l:List Nat,l.map bA=bY (l.map (8+·)):=fun l=>by unfold bY;rw[List.map_map];rfl
 have O:∀{l:List Nat},l.Nodup->(l.map (8+·)).Nodup:=fun h=>List.pairwise_map.mpr (h.imp fun z e=>z (Nat.add_left_cancel e));have kfd:∀j∈(st.tk k).fd,j<k:=fun j f=>T j ((ok.F.2 j).mpr ((t.fd j).mp f));have lfd:(st.tk k).fd.length<=k:=aN t.n2.1 kfd;have lcd:(st.tk k).cd.length<=k:=aN t.n2.2 fun j f=>M j ((ok.C.2 j).mpr ((t.cd j).mp f));refine bU (aj (aX (aK (cm (ao (fe x rfl V (by decide) X rfl (ai (ik (l:=(st.tk k).fd.map (8+·)) (by rw[<-mk];exact ay tk.fd) (O t.n2.1) (by rw[List.length_map];exact bR 1 0 0 7 1 60 (bR 0 0 1 0 1 0 lfd v rfl) u rfl) fun l7 s7=>?_))))))));refine cm (ao (rt (l:=F) (fun A B=>aa rfl B) (J T) (bR 1 0 0 7 1 60 (bR 0 0 1 0 1 0 lF v rfl) u rfl) (ai (ik (l:=F.map (8+·)) (by rw[<-mk];rfl) (O S) (by rw[List.length_map];exact bR 1 0 0 7 1 60 (bR 0 0 1 0 1 0 lF v rfl) u rfl) fun l8 s8=>lK (l:=[]) (s7.eq s8 (fun j=>?_) fun j f=>?_) ?_))));·simp only[List.mem_map,t.fd,ok.F.2]
 ·refine ar (List.mem_map.mp f) fun a Z zq1=>?_;obtain rfl:=zq1;have:=J T a Z;exact nA this
 refine bU (cK (ms (aK (cm (ao (fe x rfl V (by decide) Y rfl (ai (ik (l:=(st.tk k).cd) (ay tk.cd) t.n2.2 (bR 1 0 0 7 1 60 (bR 0 0 1 0 1 0 lcd v rfl) u rfl) fun l9 s9=>?_))))))));refine cm (ao (im (l:=C) (fun A B=>aa rfl B) (J M) (bR 1 0 0 7 1 60 (bR 0 0 1 0 1 0 lC v rfl) u rfl) (ai (ik (l:=C) rfl E (bR 1 0 0 7 1 60 (bR 0 0 1 0 1 0 lC v rfl) u rfl) fun l0 s0=>?_))));have e0:=s9.eq s0 (fun j=>by rw[t.cd,ok.C.2]) fun j f=>by have:=J M j f;exact av 1 7 1 16 this rfl
 subst e0;exact⟨_,E2 _ _ (A4 rfl rfl qh q)⟩
end
end
section
noncomputable def kindsL:List Nat:=[35,35,31,32,34]
noncomputable def eV(j:Nat):Bool:=j == 2||j == 4
noncomputable def xI(b:Int)(j:Nat):Int:=(b.fdiv (3 ^ j)).fmod 3
noncomputable def kK(b:Int):Nat:=(kindsL[((b.fdiv 59049).fmod 5).toNat]?).getD 35
noncomputable def kr(b:Int)(k:Nat):Bool:=eV k&&(kK b == 35||kK b == 31)
noncomputable def dK(b:Int)(k:Nat) (a:Int)(c:Bool):List Nat:=(List.range k).filter fun j=>xI b j == a&&eV j == c
noncomputable def kt(b:Int)(k:Nat):Rw:=⟨dK b k 1 false,dK b k 1 true,if kr b k then dK (b.fdiv 729) k 1 false else[],if kr b k then dK (b.fdiv 729) k 2 false else[],if kr b k then dK (b.fdiv 729) k 1 true else[],kK b⟩
section
variable {H H':aq->Option MObj}{nx:Nat}{m:List (Nat×MV)}{k j n:Nat}{Ro:Nat->Rw}{Q:MV->AS->Prop}{P:aE->AS->Prop}
theorem kz{f:Int->Int->Option Int}{a b:ap}{c:AS}{Q:MV->AS->Prop}(h:a c (AZ f b Q)):dG f a b c Q:=h
theorem eG{f:Int->Int->Option Int}{a b:ap}{x y r:Int}{P:MV->AS->Prop}(c:∀A:MV->AS->Prop,A (.int x) ⟨H,nx,m⟩->a ⟨H,nx,m⟩ A)(d:∀A:MV->AS->Prop,A (.int y) ⟨H,nx,m⟩->b ⟨H,nx,m⟩ A)(e:f x y=some r)(h:P (.int r) ⟨H,nx,m⟩):dG f a b ⟨H,nx,m⟩ P:=
 kz (c _ (d _ (E3 x y r (A4 rfl rfl e h))))
theorem u8{a:Nat}(b:a<1000)(c:j<=1000):nJ (a:Int) (j:Int)=some ((a:Int) ^ j):=by
 delta nJ;rw[if_pos ⟨(Int.natCast_nonneg _),(pR c),(Int.natCast_nonneg _),(pR b)⟩,Int.toNat_natCast]
theorem ji{x y:Int}(a:0<y)(b:y<1000000000):kL x y=some (x.fdiv y):=if_pos ⟨a,b⟩
theorem jg{x y:Int}(h:y≠0):jx x y=some (x.fmod y):=if_neg h
theorem AN(a:j<8):0<(3:Int) ^ j/\(3:Int) ^ j<1000000000:=by
 have:∀j:Fin 8,0<(3:Int) ^ j.val/\(3:Int) ^ j.val<1000000000:=by decide
 exact this ⟨j,a⟩
theorem kZ{x y:Int}{P:Bool->AS->Prop}(h:P (x == y) ⟨H,nx,m⟩):gT (.int x) (.int y) ⟨H,nx,m⟩ P:=⟨_,rfl,h⟩
theorem zY{x:Nat}{b:Int}{P:MV->AS->Prop}(f:j<8)(d:m.lookup x=some (.int b))(e:m.lookup 194=some (aw j))(h:P (.int (xI b j)) ⟨H,nx,m⟩) :
  dG jx (dG kL (ac x) (dG nJ (ax (.int 3)) (ac 194))) (ax (.int 3)) ⟨H,nx,m⟩ P:=by
 obtain⟨p1,p2⟩:=AN f;refine eG (x:=b.fdiv (3 ^ j)) (y:=3) (fun A c=>?_) (fun A c=>au c) (jg (by decide)) h;refine eG (x:=b) (y:=3 ^ j) (fun A c=>aa d c) (fun A c=>?_) (ji p1 p2) c;exact eG (x:=3) (y:=(j:Int)) (fun A c=>au c) (fun A c=>aa e c) (u8 (a:=3) (by decide) (av 1 8 0 1000 f rfl)) c
theorem qu(q:Q (.bool (eV j)) ⟨H,nx,m⟩):bC.1 [aw j] [] ⟨H,nx,m⟩ Q:=by
 refine⟨rfl,?_⟩;refine cK (ms (aK (aa rfl (ao (au (ao (au (ai ⟨by decide,eV j,?_,q⟩))))))));show some (((2:Int) == (j:Int))||(((4:Int) == (j:Int))||false))=_;delta eV;rw[Bool.or_false]
 congr 1
 have e:∀a:Nat,((a:Int) == (j:Int))=(j == a):=fun a=>by
  by_cases h:j=a;·subst h;simp
  ·rw[beq_eq_false_iff_ne.mpr h,beq_eq_false_iff_ne.mpr];exact fun e=>h (Int.ofNat.inj e).symm
 refine(e 2)▸(e 4)▸?_;rfl
theorem oy{x:Nat}{P:Bool->AS->Prop}(a:m.lookup x=some (aw j))(h:P (eV j) ⟨H,nx,m⟩):c9 (db bC.1 [(ac x)] []) ⟨H,nx,m⟩ P:=
 cw (cD (ao (aa a (ai (ai (qu ⟨_,rfl,h⟩))))))
theorem oi{x:Nat}{b a:Int}{c:Bool}{t:MT}{P:MV->AS->Prop}(p:k<7)(e:m.lookup x=some (.int b))(f:m.lookup 191=some (aw k))(v:x≠194)(u:t=jv (bh gT (dG jx (dG kL (ac x) (dG nJ (ax (.int 3)) (ac 194))) (ax (.int 3))) (ax (.int a))) (jv (if c then c9 (db bC.1 [(ac 194)] []) else kI (c9 (db bC.1 [(ac 194)] []))) fN))(h:P (bf (dK b k a c)) ⟨H,nx,m⟩) :
  eR [x] (jW (cC kT [(ac 191)])) (ba 194) t (ac 194) ⟨H,nx,m⟩ P:=by
 refine hK (ke (cm (ao (aa f (ai ⟨(k:Int),rfl,(k:Int),A4 rfl (Int.natCast_nonneg k) (by omega) ?_⟩)))));show eU _ _ _ _ _ _ _ ⟨H,nx,cT [x] m⟩ _;refine gM (H:=H) (nx:=nx) (m0:=cT [x] m) (g:=fun _=>True) aw (fun j=>xI b j == a&&eV j == c) aw trivial (List.range k) [] _ (fun _ _=>rfl) (fun j s w k2 i=>⟨fun r d=>?_,fun _ r d=>aa i d⟩) (by simp;exact av 1 7 0 900 p rfl) ?_
 ·have o:j<8:=by have:=List.mem_range.mp s;exact bR 1 0 1 7 1 8 this p rfl
  rw[u];refine gr (aK (zY o ((k2 x v).trans (om e)) i (au (kZ ?_))));cases q:(xI b j == a) with
  |false=>rw[q] at d;exact d
  |true=>
   rw[q] at d;refine gr ?_;induction c with
   |true=>
    refine oy i ?_;cases l:eV j<;>(rw[l] at d;exact d)
   |false=>
    refine lH (oy i ?_);cases l:eV j<;>(rw[l] at d;exact d)
 rw[List.nil_append];exact aL (by rw[List.length_map];exact Zk (List.length_filter_le _ _) (by simp;exact av 1 7 0 100000 p rfl)) h
theorem zX{a x y:Nat}{P:Bool->AS->Prop}(h:P ((a == x)||(a == y)) ⟨H,nx,m⟩):ko (.str a) (.tup [.str x,.str y]) ⟨H,nx,m⟩ P:=by
 refine⟨(a == x)||(a == y),?_,h⟩;show some ((x == a)||((y == a)||false))=_;rw[Bool.or_false]
 congr 2
 ·exact Bool.beq_comm
 ·exact Bool.beq_comm
theorem wW{i:Int}(h0:0<=i)(a:i<5):([.str 35,.str 35,.str 31,.str 32,.str 34]:List MV)[i.toNat]?=some (.str ((kindsL[i.toNat]?).getD 35)):=by
 have h:i.toNat<kindsL.length:=by show i.toNat<5;omega
 show(kindsL.map MV.str)[i.toNat]?=_;refine(List.getElem?_map)▸(List.getElem?_eq_getElem h)▸?_;rfl
theorem tX{b:Int}(i:k<7)(q:Q (kt b k).mv ⟨H,nx,m⟩):lV.1 [.int b,aw k] [] ⟨H,nx,m⟩ Q:=by
 refine⟨rfl,?_⟩;refine aj (aP (oi (k:=k) (b:=b) (a:=1) (c:=false) i rfl rfl (by decide) rfl ?_));refine aj (aP (oi (k:=k) (b:=b) (a:=1) (c:=true) i rfl rfl (by decide) rfl ?_));refine aj (aP (ao (bv (ai (aL (by decide) (ao (bv (ai (aL (by decide) (ao (bv (ai (aL (by decide) (ai ⟨by decide,?_⟩))))))))))))));show az _ _ ⟨H,nx,[(190,.int b),(191,aw k),(192,bf (dK b k 1 false)),(232,bf (dK b k 1 true)),(233,.tup [bf [],bf [],bf []])]⟩ _;have h0:0<=(b.fdiv 59049).fmod 5:=Int.fmod_nonneg_of_pos _ (by decide);have v:(b.fdiv 59049).fmod 5<5:=Int.fmod_lt_of_pos _ (by decide);refine aj (aP (lG (cD (ai (ai ⟨rfl,?_⟩)))));refine cK (bv (ao (au (ao (au (ao (au (ao (au (ao (au (ai (aL (bX rfl) ?_)))))))))))));refine eG (x:=b.fdiv 59049) (y:=5) (fun A d=>eG (x:=b) (y:=59049) (fun A d=>aa rfl d) (fun A d=>au d) (ji (by decide) (by decide)) d) (fun A d=>au d) (jg (by decide)) ?_;refine⟨.str (kK b),?_,?_⟩
 ·show(if 0<=(b.fdiv 59049).fmod 5 then _ else none)=_;refine(if_pos h0)▸?_;exact wW h0 v
 show az _ _ ⟨H,nx,[(190,.int b),(191,aw k),(192,bf (dK b k 1 false)),(232,bf (dK b k 1 true)),(233,.tup [bf [],bf [],bf []]),(208,.str (kK b))]⟩ _;have f:∀(g:List (Nat×MV))(A B C:List Nat),g.lookup 192=some (bf (dK b k 1 false))->g.lookup 232=some (bf (dK b k 1 true))->g.lookup 233=some (.tup [bf A,bf B,bf C])->g.lookup 208=some (.str (kK b))->(⟨dK b k 1 false,dK b k 1 true,A,B,C,kK b⟩:Rw)=kt b k->fj (mx [(ac 192),(ac 232),(ac 233),(ac 208)]) ⟨H,nx,g⟩ fun p σ'=>Q (i9 p) ⟨σ'.H,σ'.nx,m⟩:=fun g A B C r s t u e=>by
  replace q:=e▸q;exact cK (ao (aa r (ao (aa s (ao (aa t (ao (aa u (ai ⟨bX rfl,q⟩)))))))))
 have no:kr b k=false->(⟨dK b k 1 false,dK b k 1 true,[],[],[],kK b⟩:Rw)=kt b k:=fun h=>by unfold kt;refine h.symm▸?_;rfl
 refine aj (aX (gr (oy rfl ?_)));cases o:eV k with
 |false=>
  exact f _ [] [] [] rfl rfl rfl rfl (no (by unfold kr;refine o.symm▸?_;rfl))
 |true=>
  refine gr (aK (aa rfl (ao (au (ao (au (ai ⟨by decide,zX ?_⟩)))))));cases l:(kK b == 35||kK b == 31) with
  |false=>
   exact f _ [] [] [] rfl rfl rfl rfl (no (by unfold kr;rw[o,l];rfl))
  |true=>
   have w:kr b k=true:=by unfold kr;rw[o,l];rfl
   refine kG (dF (aj (aP (eG (x:=b) (y:=729) (fun A d=>aa rfl d) (fun A d=>au d) (ji (by decide) (by decide)) ?_))));refine aP (ao (oi (k:=k) (b:=b.fdiv 729) (a:=1) (c:=false) i bq rfl (by decide) rfl (ao (oi (k:=k) (b:=b.fdiv 729) (a:=2) (c:=false) i bq rfl (by decide) rfl (ao (oi (k:=k) (b:=b.fdiv 729) (a:=1) (c:=true) i bq rfl (by decide) rfl (ai ⟨bX rfl,?_⟩)))))));exact f _ _ _ _ rfl rfl rfl rfl (by unfold kt;refine w.symm▸?_;rfl)
theorem qk:eV j=true↔iE j:=by delta eV iE;simp
def kO(a:Nat):Prop:=a=35\/a=31\/a=32\/a=34
theorem wI(b:Int):kO (kt b k).kd:=by
 have:∀x:Nat,kO ((kindsL[x]?).getD 35):=by
  intro x
  match x with
  |0=>exact .inl rfl
  |1=>exact .inl rfl
  |2=>exact .inr (.inl rfl)
  |3=>exact .inr (.inr (.inl rfl))
  |4=>exact .inr (.inr (.inr rfl))
  |x+5=>exact .inl rfl
 exact this _
theorem lot_ok{b a:Int}{c:Bool}:(∀j∈dK b k a c,j<k/\(c=true↔iE j))/\(dK b k a c).Nodup:=by
 refine⟨fun j f=>?_,List.nodup_range.filter _⟩;obtain⟨e,d⟩:=List.mem_filter.mp f;rw[Bool.and_eq_true,beq_iff_eq] at d;refine⟨List.mem_range.mp e,?_⟩;rw[<-qk];have:=eq_of_beq d.2;rw[this]
theorem says_ok{b a:Int}{c x:Bool}:(∀j∈(if x then dK b k a c else[]),j<k/\(c=true↔iE j))/\(if x then dK b k a c else[]).Nodup:=by
 induction x with
 |true=>exact lot_ok
 |false=>exact⟨fun j d=>(nomatch d),.nil⟩
theorem yq{f:Nat->Int}(b:n<=7):RowsOK n fun k=>kt (f k) k:=by
 have t:∀{j},(true=true↔iE j)->iE j:=fun h=>h.mp rfl;have u:∀{j},(false=true↔iE j)->¬ iE j:=fun h z=>nomatch h.mpr z;exact⟨b,fun k j a=>⟨(lot_ok.1 j a).1,u (lot_ok.1 j a).2⟩,fun k j a=>⟨(lot_ok.1 j a).1,t (lot_ok.1 j a).2⟩,fun k j a=>⟨(says_ok.1 j a).1,u (says_ok.1 j a).2⟩,fun k j a=>⟨(says_ok.1 j a).1,u (says_ok.1 j a).2⟩,fun k j a=>⟨(says_ok.1 j a).1,t (says_ok.1 j a).2⟩,fun k=>(A5 lot_ok.2 lot_ok.2 says_ok.2 says_ok.2 says_ok.2)⟩
end
end
section
noncomputable def dm(a:Nat):RS:=if a=35 then .succ else if a=31 then .upd else if a=32 then .fail else .ign
theorem pf{a:Nat}(h:kO a):(dm a).mv=.str a/\dm a≠.none/\(dm a=.fail↔a=32)/\(dm a=.ign↔a=34):=by
 rcases h with rfl|rfl|rfl|rfl<;>exact A4 rfl (by decide) (by decide) (by decide)
def tE(n:Nat)(Ro:Nat->Rw)(e A:Nat->Prop):Prop:=∀k,A k->∀j,Nl Ro e k j\/Cl Ro e k j->A j/\j<n
section
variable {n:Nat}{Ro:Nat->Rw}{S:Sc}{st st' st3:St}{s s' f:Nat->LS}{k i j p:Nat}{d dp:Nd}{sel held l:List Nat}{A m e:Nat->Prop}
theorem J.mono(g:J ⟨n,Ro,A,sel⟩ st)(h:∀k,A k->m k)(c:tE n Ro (En st) m):J ⟨n,Ro,m,sel⟩ st:=
 ⟨g.ord,fun k d hd=>by
  have a:=g.na k d hd;exact⟨a.lt,h k a.al,a.tdW,a.cdW,a.fdW,a.bs,a.prW,a.nd,a.anc,a.cnt⟩,fun k d hd=>by
  have b:=g.nb k d hd;exact⟨b.nd,b.tdL,b.cdL,b.pT,b.pC,b.wrW,b.wcW,b.bdW,b.igW,b.wmW,b.cnt,b.cnh⟩,fun k d hd=>by
  have c:=g.nc k d hd;exact⟨c.ph,c.rs,c.wait,c.rdy,c.plc⟩,g.rdn,g.wtn,g.crx,fun k o=>⟨(g.ttr k o).1,h k (g.ttr k o).2⟩,g.sel,g.told,g.fresh,g.hand,c⟩
theorem J.full(o:RowsOK S.n S.Ro)(v:J S st)(hd:st.nd k=some d)(B:d.td=[])(C:d.cd=[])(w:st.xt=[]/\st.xc=[])(F:st.ll=[]) :(∀j,j∈(st.tk k).td↔Nl S.Ro (En st) k j)/\(∀j,j∈(st.tk k).fd↔Fl S.Ro (En st) k j)/\(∀j,j∈(st.tk k).cd↔Cl S.Ro (En st) k j)/\(∀j∈(st.tk k).td,j∈d.wr\/(En st j/\Knows st d j))/\(∀j∈(st.tk k).cd,j∈d.wc\/(En st j/\Knows st d j)):=by
 have a:=v.na k d hd;have b:=v.nb k d hd;have H:∀j,¬ gU st k d j:=fun j h=>by
  rcases h with h|h;·replace h:=B▸h;cases h
  ·replace h:=w.1▸h;exact nomatch h.2
 have x:∀j,¬ gx st k d j:=fun j h=>by
  rcases h with h|h;·replace h:=C▸h;cases h
  ·rw[w.2] at h;exact nomatch h.2
 have pr:∀c∈(st.tk k).cd,En st c->c∈(st.tk k).pr:=fun c D E=>by
  rcases b.cdL c D with z|z|z;·exact absurd z (x c)
  ·have:=(b.wcW c z).2.2.2 E;have:=this.2;replace this:=F▸this;cases this
  ·exact z.1
 have g:∀j,Cl S.Ro (En st) k j->j∈(st.tk k).cd:=fun j h=>by
  induction h with
  |base h=>exact a.bs.2 _ h
  |step _ y z G=>exact(a.prW _ (pr _ G y)).2.2.2.2 _ z
 refine A5 (fun j=>⟨a.tdW j,fun h=>?_⟩) (fun j=>⟨a.fdW j,fun h=>?_⟩) (fun j=>⟨a.cdW j,g j⟩) (fun j q=>?_) (fun j q=>?_)
 ·rcases h with h|⟨c,r,t,u⟩
  ·exact a.bs.1 j h
  ·refine je (a.prW c (pr c (g c r) t)) fun _ _ I K _=>?_;exact u.elim (I j) fun z=>(K j z).1
 ·refine bz h ?_;intro c r t u;exact((a.prW c (pr c (g c r) t)).2.2.2.1 j u).2
 ·exact(b.tdL j q).resolve_left (H j)
 ·rcases b.cdL j q with z|z|z;·exact absurd z (x j)
  ·exact .inl z
  ·exact .inr ⟨(a.prW j z.1).2.1,z.2⟩
theorem J.few(o:RowsOK S.n S.Ro)(q:J S st)(hd:st.nd k=some d):d.bad.length<60/\d.ign.length<60/\(st.tk k).td.length<60:=by
 have a:=q.na k d hd;have b:=q.nb k d hd;have r:=my a.nd.1 fun c h=>((a.cdW c h).ok o).2;have p2:=my a.nd.2.2 fun c h=>((a.cdW c (a.prW c h).1).ok o).2;have g:=a.cnt;have t:=b.cnt;exact A3 (xM r g t (Nat.mul_le_mul_left 16 p2)) (xM r g t (Nat.mul_le_mul_left 16 p2)) (uV g (Nat.mul_le_mul_left 16 p2))
structure PI(n:Nat)(Ro:Nat->Rw)(sel:List Nat)(st:St)(s:Nat->LS)(held:List Nat):Prop where
 jw:∀m,(∀k,s k≠.no->m k)->tE n Ro (En st) m->J ⟨n,Ro,m,sel⟩ st
 en:∀k,En st k↔s k=.ended
 kd:∀k,En st k->aF st k=dm (Ro k).kd
 gv:∀k,dn st k=1↔s k=.given\/s k=.ended
 hd:held.Nodup/\∀k,k∈held↔s k=.given
 ll:st.ll=[]
 hx:st.xt=[]/\st.xc=[]
 lt:∀k,s k≠.no->k<n
 fr:∀j,s j≠.no->j∈sel\/∃p,s p≠.no/\Wl Ro s p j
structure PM(n:Nat)(Ro:Nat->Rw)(sel:List Nat)(st:St)(s:Nat->LS)(held:List Nat):Prop where
 j:J ⟨n,Ro,fun k=>s k≠.no,sel⟩ st
 en:∀k,En st k↔s k=.ended
 kd:∀k,En st k->aF st k=dm (Ro k).kd
 gv:∀k,dn st k=1↔s k=.given\/s k=.ended
 hd:held.Nodup/\∀k,k∈held↔s k=.given
 hx:st.xt=[]/\st.xc=[]
 lt:∀k,s k≠.no->k<n
 fr:∀j,s j≠.no->j∈sel\/∃p,s p≠.no/\Wl Ro s p j
 cl:∀k,s k≠.no->∀j,Wl Ro s k j->s j≠.no
theorem Wl.mono(h:∀j,Ed s j->Ed s' j)(x:Wl Ro s k j):Wl Ro s' k j:=x.imp (Nl.mono h) (Cl.mono h)
theorem Rch.use(o:RowsOK n Ro)(r:Rch n Ro s f 0)(lt:∀k,s k≠.no->k<n)(fr:∀j,s j≠.no->j∈sel\/∃p,s p≠.no/\Wl Ro s p j) :(∀k,f k≠.no->k<n)/\(∀j,f j≠.no->j∈sel\/∃p,f p≠.no/\Wl Ro f p j)/\(∀k,f k≠.no->∀j,Wl Ro f k j->f j≠.no)/\(∀k,s k≠.no->f k≠.no)/\Ed f=Ed s/\∀k,f k=.given↔s k=.given:=by
 have ed:=r.g.ed;have a:∀k,f k≠.no->k<n:=fun k c=>by
  by_cases z:s k=.no
  ·refine bz (r.fr k z c) fun p t b x=>?_;exact Zs (b.ok o) x
  ·exact lt k z
 refine A6 a (fun j v=>?_) (fun k c=>r.cl k (Nat.zero_le _) (a k c) c) (fun k h=>r.g.no h) ed (fun k=>?_)
 ·by_cases z:s j=.no
  ·refine bz (r.fr j z v) fun p t b _=>?_;exact .inr ⟨p,t,b⟩
  ·rcases fr j z with q|⟨p,w,u⟩
   ·exact .inl q
   ·exact .inr ⟨p,r.g.no w,by unfold Wl at u ⊢;refine ed.symm▸?_;exact u⟩
 ·rcases r.g k with z|⟨t,b⟩
  ·rw[z]
  ·refine t▸b▸?_;decide
theorem PI.mid(o:RowsOK n Ro)(x:PI n Ro sel st s held)(r:Rch n Ro s f 0):PM n Ro sel st f held:=by
 refine dc (r.use o x.lt x.fr) fun g t b u h q=>?_;have e:En st=Ed f:=funext fun k=>propext ((x.en k).trans (by rw[h];exact Iff.rfl));have ed:∀k,f k=.ended↔s k=.ended:=fun k=>by have:=congrFun h k;unfold Ed at this;rw[this]
 exact⟨x.jw _ u fun k c j a=>by rw[e] at a;exact⟨b k c j a,g j (b k c j a)⟩,fun k=>(x.en k).trans (ed k).symm,x.kd,fun k=>by rw[x.gv,q,ed],⟨x.hd.1,fun k=>by rw[x.hd.2,q]⟩,x.hx,g,t,b⟩
noncomputable def fO(st:St)(p:Nat)(dp:Nd)(r:RS):St:={ st.setNd p { dp with rs:=r } with tk:=(if eV p then st.setTk p { st.tk p with told:=true } else st).tk,lp:=p,ll:=dp.wm }
theorem PI.ends(o:RowsOK n Ro)(kd:∀k,kO (Ro k).kd)(x:PI n Ro sel st s held)(W:p∈held)(T:l.Nodup)(V:∀i,i∈l↔i∈held/\i≠p)(r:Rch n Ro (upd s p .ended) f 0)(hd:st.nd p=some dp) :PM n Ro sel (fO st p dp (dm (Ro p).kd)) f l/\tG (fO st p dp (dm (Ro p).kd)) (some p):=by
 have u:s p=.given:=(x.hd.2 p).mp W;have v:∀i,upd s p .ended i=if i=p then .ended else s i:=fun i=>rfl;have M:∀k,upd s p .ended k≠.no->k<n:=fun k a=>by
  rw[v] at a;split at a;·rename_i e;subst e;exact x.lt k (by rw[u];decide)
  ·exact x.lt k a
 have H:∀j,Ed s j->Ed (upd s p .ended) j:=fun j b=>by
  delta Ed at b ⊢;rw[v];split;·rfl
  ·exact b
 have D:∀k,s k≠.no->upd s p .ended k≠.no:=fun k a=>by
  rw[v];split;·decide
  ·exact a
 have J:∀j,upd s p .ended j≠.no->j∈sel\/∃q,upd s p .ended q≠.no/\Wl Ro (upd s p .ended) q j:=fun j b=>by
  have:s j≠.no:=fun z=>by
   rw[v] at b;split at b;·rename_i e;obtain rfl:=e.symm;replace z:=u.symm.trans z;exact LS.noConfusion z
   ·exact b z
  exact(x.fr j this).imp id fun P=>by refine ar P ?_;intro q Y Z;exact⟨q,D q Y,Z.mono H⟩
 refine dc (r.use o M J) fun Q u2 O u4 u5 u6=>?_;have ed:∀k,f k=.ended↔s k=.ended\/k=p:=fun k=>by
  have:=congrFun u5 k;unfold Ed at this;rw[this,v];by_cases e:k=p;·simp[e]
  ·simp[e]
 have B:∀k,f k=.given↔s k=.given/\k≠p:=fun k=>by
  rw[u6,v];by_cases e:k=p;·simp[e]
  ·simp[e]
 have X:dn st p=1:=(x.gv p).mpr (.inl u);have K:dp.ph=1:=(dy hd).symm.trans X;have g:¬ En st p:=fun z=>by rw[(x.en p).mp z] at u;exact LS.noConfusion u
 have L:dp.rs=.none:=Decidable.byContradiction fun z=>g (by unfold En;rw[dg hd];exact z);have N:=pf (kd p);have y:(fun i=>En st i\/i=p)=Ed f:=funext fun i=>propext (by unfold Ed;rw[ed i,x.en i]);have c:tE n Ro (fun i=>En st i\/i=p) fun k=>f k≠.no:=fun k a j b=>by
  replace b:=y▸b;exact⟨O k a j b,Q j (O k a j b)⟩
 have w:tE n Ro (En st) fun k=>f k≠.no:=fun k a j b=>c k a j (b.imp (Nl.mono fun _ z=>.inl z) (Cl.mono fun _ z=>.inl z));have G:=x.jw (fun k=>f k≠.no) (fun k a=>u4 k (D k a)) w;have t:∀i,(fO st p dp (dm (Ro p).kd)).tk i=if eV p=true/\i=p then{ st.tk i with told:=true } else st.tk i:=fun i=>by
  delta fO;dsimp only;cases eV p with
  |false=>show st.tk i=if false=true/\i=p then _ else st.tk i;rw[if_neg fun z=>nomatch z.1]
  |true=>
   show(if i=p then{ st.tk p with told:=true } else st.tk i)=if true=true/\i=p then _ else _;by_cases e:i=p;·obtain rfl:=e.symm;rw[if_pos rfl,if_pos ⟨rfl,rfl⟩]
   ·rw[if_neg e,if_neg fun z=>e z.2]
 have C:(fO st p dp (dm (Ro p).kd)).nd p=some { dp with rs:=dm (Ro p).kd }:=bp;have tp:((fO st p dp (dm (Ro p).kd)).tk p).told=true↔iE p:=by
  rw[t,<-qk];have t0:¬ (st.tk p).told=true:=fun z=>g ((G.told p).mp z).1;cases eV p with
  |false=>rw[if_neg fun z=>nomatch z.1];exact⟨fun z=>absurd z t0,fun z=>nomatch z⟩
  |true=>rw[if_pos ⟨rfl,rfl⟩]
 refine bM (G.ends o hd K L N.2.1 x.hx x.ll (st4:=fO st p dp (dm (Ro p).kd)) (r:=dm (Ro p).kd) rfl rfl (fun i=>by rw[t];split<;>rfl) (fun i U=>by rw[t,if_neg fun z=>U z.2]) tp (fun _ h=>h) c) fun R E F=>?_;have I:∀k,En (fO st p dp (dm (Ro p).kd)) k↔f k=.ended:=fun k=>by
  rw[ed];by_cases e:k=p;·obtain rfl:=e.symm;exact⟨fun _=>.inr rfl,fun _=>by unfold En;rw[F];exact N.2.1⟩
  ·delta En;rw[E k e];refine(show aF st k≠.none↔s k=.ended from x.en k).trans ?_;simp[e]
 refine⟨⟨R,I,fun k a=>?_,fun k=>?_,⟨T,fun k=>by rw[V,x.hd.2,B]⟩,x.hx,Q,u2,O⟩,.inr (E2 p _ (A6 rfl C N.2.1 rfl rfl ?_))⟩
 ·by_cases e:k=p;·obtain rfl:=e.symm;exact F
  ·unfold En at a;rw[E k e] at a ⊢;exact x.kd k a
 ·have:dn (fO st p dp (dm (Ro p).kd)) k=dn st k:=by
   by_cases e:k=p;·obtain rfl:=e.symm;rw[dy C,dy hd]
   ·exact congrArg _ (show(fO st p dp (dm (Ro p).kd)).nd k=st.nd k from cQ e)
  rw[this,x.gv,B,ed];by_cases e:k=p;·obtain rfl:=e.symm;simp[u]
  ·simp[e]
 ·have:=(G.ndl o hd).2.2 g;exact ZD this (by decide)
end
end
section
section
variable {n:Nat}{Ro:Nat->Rw}{S:Sc}{st st' g:St}{s r s2:Nat->LS}{k i j p:Nat}{d dp:Nd}{sel held m:List Nat}{A A' e:Nat->Prop}
theorem PM.ed(x:PM n Ro sel st s held)(rs:∀i,aF g i=aF st i):En g=Ed s:=(En.congr rs).trans (funext fun k=>propext (x.en k))
theorem PM.all(o:RowsOK n Ro)(x:PM n Ro sel st s held)(y:Od ⟨n,Ro,fun k=>s k≠.no,sel⟩ st g):∀f k,n<=k+f->s k≠.no->g.nd k≠none:=by
 intro f;induction f with
 |zero=>intro k q u;exact absurd (x.lt k u) (Nat.not_lt_of_le q)
 |succ f J=>
  intro k q u;rcases x.fr k u with h|⟨p,H,a⟩
  ·rcases y.j.sel k h with z|z;·exact z
   ·replace z:=y.idle.2.2▸z;cases z
  ·have t:=a.ok o;have I:=J p (iG q t) H;obtain⟨d,hd⟩:=Option.ne_none_iff_exists'.mp I;have c:=y.j.nc p d hd;have E:d.td=[]/\d.cd=[]:=by
    rcases c.ph with z|z
    ·rcases c.plc z with w|w|w;·exact⟨(c.wait w).2.1,(c.wait w).2.2.1⟩
     ·replace w:=y.idle.2.1▸w;cases w
     ·rw[y.idle.1] at w;exact aQ w
    ·exact⟨z.2.1,z.2.2.1⟩
   refine je (y.j.full o hd E.1 E.2 y.hx y.ll) fun C _ D F G=>?_;have e:=x.ed y.rs;rw[show En g=Ed s from e] at C D;have b:=y.j.nb p d hd;have no:∀{j},(∃l,g.nd j=some l/\p∈l.wm)->g.nd j≠none:=fun v=>by refine ar v ?_;intro l z _;rw[z];exact Option.some_ne_none _
   have B:∀{j},En g j->g.nd j≠none:=fun h=>by refine ar h.node fun l z _=>?_;rw[z];exact Option.some_ne_none _
   rcases a with a|a;·exact(F k ((C k).mpr a)).elim (fun z=>no (b.wrW k z).2.1) fun z=>B z.1
   ·exact(G k ((D k).mpr a)).elim (fun z=>no (b.wcW k z).2.2.1) fun z=>B z.1
theorem PM.next(x:PM n Ro sel st s held)(f:J ⟨n,Ro,fun k=>s k≠.no,sel⟩ g)(rs:∀i,aF g i=aF st i)(ll:g.ll=[])(q:g.xt=[]/\g.xc=[])(b:∀k,r k≠.no↔s k≠.no)(ed:∀k,r k=.ended↔s k=.ended)(l:∀k,dn g k=1↔r k=.given\/r k=.ended)(hd:m.Nodup/\∀k,k∈m↔r k=.given):PI n Ro sel g r m:=by
 have e:Ed r=Ed s:=funext fun k=>propext (ed k);refine⟨fun A' o c=>f.mono (fun k a=>o k ((b k).mpr a)) c,fun k=>?_,fun k a=>?_,l,hd,ll,q,fun k a=>x.lt k ((b k).mp a),fun j f=>?_⟩;·rw[ed];delta En;rw[rs];exact x.en k
 ·rw[rs];refine x.kd k ?_;unfold En at a ⊢;rw[rs] at a;exact a
 ·refine(x.fr j ((b j).mp f)).imp id fun⟨p,t,h⟩=>⟨p,(b p).mpr t,?_⟩
  delta Wl at h ⊢;refine e▸?_;exact h
theorem PM.idle(o:RowsOK n Ro)(x:PM n Ro sel st s held)(y:Od ⟨n,Ro,fun k=>s k≠.no,sel⟩ st g){L:List Nat}(F:∀k,k∈L↔k<n/\s k=.reached/\∀j,Wl Ro s k j->s j=.ended) :L=[]/\(g.wait≠[]↔∃k,k<n/\s k=.reached)/\PI n Ro sel g s held:=by
 have e:=x.ed y.rs;have wt:∀k,s k=.reached->k∈g.wait:=fun k B=>by
  have:=x.all o y n k (Zo _ _) (by rw[B];decide);obtain⟨d,hd⟩:=Option.ne_none_iff_exists'.mp this;have c:=y.j.nc k d hd;have p1:¬ d.ph=1:=fun z=>by
   have:=(x.gv k).mp (by rw[<-y.ph,dy hd];exact z);replace this:=B▸this;rcases this with z|z<;>cases z
  rcases c.plc (c.ph.resolve_right fun z=>p1 z.1) with w|w|w;·exact w
  ·replace w:=y.idle.2.1▸w;cases w
  ·rw[y.idle.1] at w;exact aQ w
 refine A3 ?_ ⟨fun h=>?_,fun⟨k,E,t⟩ h=>?_⟩ (x.next y.j y.rs y.ll y.hx (fun _=>Iff.rfl) (fun _=>Iff.rfl) (fun k=>by rw[y.ph];exact x.gv k) x.hd)
 ·cases G:L with
  |nil=>rfl
  |cons k l=>
   refine bM ((F k).mp (G▸Ze)) fun E t v=>?_;have w:=wt k t;obtain⟨d,hd⟩:=Option.ne_none_iff_exists'.mp (y.j.wtn.2 k w);have c:=(y.j.nc k d hd).wait w;have a:=y.j.na k d hd;have b:=y.j.nb k d hd;have no:∀{j},(En g j->cP g k j)->¬ En g j:=fun h z=>by have:=(h z).2;replace this:=y.ll▸this;cases this
   exfalso;rcases c.2.2.2.1 with z|z
   ·obtain⟨j,f⟩:=List.exists_mem_of_ne_nil _ z;have q:=a.tdW j (b.wrW j f).1;refine no (b.wrW j f).2.2 ?_;rw[show En g=Ed s from e] at q ⊢;exact v j (.inl q)
   ·obtain⟨j,f⟩:=List.exists_mem_of_ne_nil _ z;have q:=a.cdW j (b.wcW j f).1;refine no (b.wcW j f).2.2.2 ?_;rw[show En g=Ed s from e] at q ⊢;exact v j (.inr q)
 ·obtain⟨w,C⟩:=List.exists_mem_of_ne_nil _ h;obtain⟨d,hd⟩:=Option.ne_none_iff_exists'.mp (y.j.wtn.2 w C);have a:=y.j.na w d hd;have c:=(y.j.nc w d hd).wait C;have D:¬ (s w=.given\/s w=.ended):=fun z=>by
   have:=(x.gv w).mpr z;rw[<-y.ph,dy hd,c.1] at this;exact absurd this (by decide)
  refine⟨w,a.lt,?_⟩;have al:s w≠.no:=a.al;cases u:s w with
  |no=>exact absurd u al
  |reached=>rfl
  |given=>exact absurd (.inl u) D
  |ended=>exact absurd (.inr u) D
 ·have:=wt k t;replace this:=h▸this;cases this
theorem PM.give(o:RowsOK n Ro)(kd:∀k,kO (Ro k).kd)(x:PM n Ro sel st s held)(y:Gd ⟨n,Ro,fun k=>s k≠.no,sel⟩ st g k) :
  k<n/\s k=.reached/\(∀j,Wl Ro s k j->s j=.ended)/\(∃d,g.nd k=some d/\zr n Ro g s k d)/\PI n Ro sel g (upd s k .given) (held++[k]):=by
 have e:=x.ed y.rs;obtain⟨d,hd⟩:=Option.ne_none_iff_exists'.mp y.nd;have a:=y.j.na k d hd;have b:=y.j.nb k d hd;have E:d.ph=1:=(dy hd).symm.trans y.pk.2;have c:=(y.j.nc k d hd).ph.resolve_left (by rw[E];decide);refine je (y.j.full o hd c.2.1 c.2.2.1 y.hx y.ll) fun B I C J K=>?_;rw[show En g=Ed s from e] at B I C J K;have M:∀j∈(g.tk k).td,Ed s j/\Knows g d j:=fun j f=>(J j f).resolve_left fun z=>by rw[c.2.2.2.1] at z;cases z
 have N:∀j∈(g.tk k).cd,Ed s j/\Knows g d j:=fun j f=>(K j f).resolve_left fun z=>by rw[c.2.2.2.2.1] at z;cases z
 have v:∀j,Wl Ro s k j->Ed s j/\Knows g d j:=fun j f=>f.elim (fun z=>M j ((B j).mpr z)) fun z=>N j ((C j).mpr z);have H:¬ (s k=.given\/s k=.ended):=fun z=>by
  have:=(x.gv k).mpr z;rw[y.pk.1] at this;exact absurd this (by decide)
 have al:s k≠.no:=a.al;have F:s k=.reached:=by
  cases G:s k with
  |no=>exact absurd G al
  |reached=>rfl
  |given=>exact absurd (.inl G) H
  |ended=>exact absurd (.inr G) H
 have l:∀j,Ed s j->aF g j=dm (Ro j).kd:=fun j f=>by rw[y.rs];exact x.kd j ((x.en j).mpr f)
 have kk:=fun j=>pf (kd j);have L:∀j,j∈(g.tk k).td\/j∈(g.tk k).cd->Wl Ro s k j:=fun j h=>h.imp (B j).mp (C j).mp;have few:=y.j.few o hd;have D:∀i,upd s k .given i=if i=k then .given else s i:=fun i=>rfl;have O:k∉held:=fun z=>H (.inl ((x.hd.2 k).mp z));refine A5 a.lt F (fun j f=>(v j f).1) ⟨d,hd,⟨fun j=>⟨fun h=>?_,fun h=>?_⟩,fun j=>⟨fun h=>?_,fun h=>?_⟩,fun j f=>?_,B,I,C,⟨a.nd.2.1,a.nd.1⟩,few⟩⟩ (x.next y.j y.rs y.ll y.hx (fun i=>?_) (fun i=>?_) (fun i=>?_) ⟨cV x.hd.1 O,fun i=>?_⟩)
 ·obtain⟨u,t⟩:=b.bdW j h;have w:=L j u;rw[l j (v j w).1] at t;exact⟨w,(kk j).2.2.1.mp t⟩
 ·obtain⟨u,t⟩:=v j h.1;exact t.1 (by rw[l j u];exact(kk j).2.2.1.mpr h.2)
 ·obtain⟨u,t⟩:=b.igW j h;have w:=L j u;rw[l j (v j w).1] at t;exact⟨w,(kk j).2.2.2.mp t⟩
 ·obtain⟨u,t⟩:=v j h.1;exact t.2 (by rw[l j u];exact(kk j).2.2.2.mpr h.2)
 ·have z:En g j:=by rw[show En g=Ed s from e];exact(v j f).1
  refine ar z.node fun P z _=>?_;refine z▸?_;exact Option.some_ne_none _
 ·rw[D];by_cases q:i=k;·obtain rfl:=q.symm;simp[F]
  ·simp[q]
 ·rw[D];by_cases q:i=k;·obtain rfl:=q.symm;simp[F]
  ·simp[q]
 ·rw[D];by_cases q:i=k;·obtain rfl:=q.symm;simp[y.pk.2]
  ·refine(y.ph i q)▸(if_neg q)▸?_;exact x.gv i
 ·rw[D,List.mem_append,x.hd.2,List.mem_singleton];by_cases q:i=k;·obtain rfl:=q.symm;simp
  ·simp[q]
theorem AP(o:RowsOK n Ro)(lt:∀k,s k≠.no->k<n)(f:∀k,s k≠.no->∀j,Wl Ro s k j->s j≠.no)(l:∀k,s k≠.given)(h:∀k,¬ (k<n/\s k=.reached/\∀j,Wl Ro s k j->s j=.ended)):∀k,s k=.no\/s k=.ended:=by
 intro k;induction k using Nat.strongRecOn with
 |ind k q=>
  cases a:s k with
  |no=>exact .inl rfl
  |ended=>exact .inr rfl
  |given=>exact absurd a (l k)
  |reached=>
   have c:s k≠.no:=by rw[a];decide
   refine absurd (A3 (lt k c) a (fun j b=>?_)) (h k);exact(q j (b.ok o)).resolve_left (f k c j b)
noncomputable def wt(s:LS):Nat:=LS.casesOn s 4 4 2 0
noncomputable def gZ(n:Nat)(s:Nat->LS):Nat:=((List.range n).map fun k=>wt (s k)).sum
end
end
section
section
variable {n k:Nat}{s s':Nat->LS}
theorem yh{v:LS}(m:Nat):(∀j,k<m/\j=k->True)->(k<m->gZ m (upd s k v)+wt (s k)=gZ m s+wt v)/\(m<=k->gZ m (upd s k v)=gZ m s):=by
 induction m with
 |zero=>
  intro _;exact⟨fun h=>absurd h (ZA _),fun _=>rfl⟩
 |succ m d=>
  intro _;obtain⟨a,b⟩:=d fun _ _=>trivial;have step:∀f:Nat->LS,gZ (m+1) f=gZ m f+wt (f m):=fun f=>by
   unfold gZ;rw[List.range_succ,List.map_append,List.sum_append];exact rfl
  rw[step,step];constructor
  ·intro h;by_cases e:k=m
   ·subst e;have:=b (Zj _);have c:upd s k v k=v:=if_pos rfl;refine c.symm▸this.symm▸?_;exact Nat.add_right_comm _ _ _
   ·have:=a (Nat.lt_of_le_of_ne (Nat.le_of_lt_succ h) e);have c:upd s k v m=s m:=if_neg (Ne.symm e);refine c.symm▸?_;exact Nat.le_antisymm (gq (Zd this)) (gq (Zd this.symm))
  ·intro h;have:=b (Zv h);have c:upd s k v m=s m:=if_neg (Zh h);refine c.symm▸?_;exact Nat.le_antisymm (gq (Zd this)) (gq (Zd this.symm))
theorem ts{v:LS}(h:k<n):gZ n (upd s k v)+wt (s k)=gZ n s+wt v:=(yh n fun _ _=>trivial).1 h
theorem xm(h:Grew s s'):gZ n s'=gZ n s:=by
 unfold gZ
 congr 1
 refine List.map_congr_left fun i _=>?_;rcases h i with g|g;·rw[g]
 ·rw[g.1,g.2];rfl
theorem zR:gZ n s<=4*n:=by
 unfold gZ;induction n with
 |zero=>exact Nat.zero_le _
 |succ m a=>
  rw[List.range_succ,List.map_append,List.sum_append];have:wt (s m)<=4:=by cases s m<;>decide
  simp;exact iG a this
end
noncomputable def dL(k:Nat):MV:=.tup [aw k,aO k]
structure LL(n:Nat)(Ro:Nat->Rw)(i0 i1:Nat)(mv:List Int) (hands:Int)(m:List (Nat×MV)):Prop where
 l199:m.lookup 199=some (bH n Ro)
 l200:m.lookup 200=some (.tag (0,i0))
 l206:m.lookup 206=some (.tag (20,0))
 l222:m.lookup 222=some (.lst (mv.map .int))
 l223:m.lookup 223=some (.int hands)
 l224:m.lookup 224=some (.tag (0,i1))
theorem LL.cp{n:Nat}{Ro:Nat->Rw}{i0 i1:Nat}{mv:List Int}{a:Int}{m b:List (Nat×MV)}(x:LL n Ro i0 i1 mv a m)(h:∀y,199<=y->y<=224->y≠218->b.lookup y=m.lookup y):LL n Ro i0 i1 mv a b:=
 ⟨(h 199 (by decide) (by decide) (by decide)).trans x.l199,(h 200 (by decide) (by decide) (by decide)).trans x.l200,(h 206 (by decide) (by decide) (by decide)).trans x.l206,(h 222 (by decide) (by decide) (by decide)).trans x.l222,(h 223 (by decide) (by decide) (by decide)).trans x.l223,(h 224 (by decide) (by decide) (by decide)).trans x.l224⟩
theorem LL.put{n:Nat}{Ro:Nat->Rw}{i0 i1:Nat}{mv:List Int}{d:Int}{m:List (Nat×MV)}(x:LL n Ro i0 i1 mv d m)(y:Nat)(v:MV)(h:y<199\/224<y\/y=218):LL n Ro i0 i1 mv d (ah m y v):=
 x.cp fun z a b c=>aJ (h.elim (fun h=>Zn (Zp h a)) fun h=>h.elim (fun h=>Zh (ZD b h)) fun h=>h▸c)
structure LI(n:Nat)(Ro:Nat->Rw)(sel:List Nat)(i0 i1:Nat)(mv:List Int) (hands:Int)(H:aq->Option MObj)(nx:Nat)(m:List (Nat×MV))(st:St)(s:Nat->LS)(held:List Nat)(idle:Bool):Prop where
 ll:LL n Ro i0 i1 mv hands m
 l225:m.lookup 225=some (.bool idle)
 ne:i0≠i1
 lt0:i0<nx
 lt1:i1<nx
 h0:H (0,i0)=some (.list (cu n s))
 h1:H (0,i1)=some (.list (held.map dL))
 r:R n Ro st H nx
 pi:PI n Ro sel st s held
 fr:idle=true->(∀k,¬ (k<n/\s k=.reached/\∀j,Wl Ro s k j->s j=.ended))/\∀k,s k≠.no->∀j,Wl Ro s k j->s j≠.no
section
variable {H H':aq->Option MObj}{nx:Nat}{m:List (Nat×MV)}{k j n:Nat}{Ro:Nat->Rw}{sel held:List Nat}{i0 i1:Nat}{mv:List Int}{c:Int}{st:St}{s:Nat->LS}{idle:Bool}{Q:MV->AS->Prop}{P:aE->AS->Prop}
theorem sO{a:AS}{P:Bool->AS->Prop}(h:P false a):eX a P:=h
theorem w0{P:MV->AS->Prop}(a:k<7)(h:P (aw k) ⟨H,nx,m⟩):rf [.lst dE,.str k] ⟨H,nx,m⟩ P:=by
 refine⟨_,E3 k (List.range 7) k (A5 rfl rfl (List.getElem?_range a) ?_ h)⟩;rw[List.take_range];simp;exact Nat.min_le_left _ _
theorem vC{t:aq}(h:H t=some (.list (cu n s))):∃b:Bool,gy H (.str 21) (.tag t)=some b/\(b=true↔∃k,k<n/\s k=.reached):=by
 refine⟨((List.range n).map fun k=>(s k).num).contains 21,?_,?_⟩
 ·refine(iA h).trans ?_;unfold cu LS.mv;have:((List.range n).map fun k=>MV.str (s k).num)=((List.range n).map fun k=>(s k).num).map .str:=(List.map_map▸rfl)
  refine this.symm▸?_;exact flatIn_str
 ·rw[List.contains_eq_mem,decide_eq_true_eq,List.mem_map];have e:∀x:LS,x.num=21↔x=.reached:=fun x=>by induction x<;>decide
  constructor;·intro d;refine ar d ?_;clear d;intro a g i;exact⟨a,List.mem_range.mp g,(e _).mp i⟩
  ·intro f;refine ar f ?_;clear f;intro a g i;exact⟨a,List.mem_range.mpr g,(e _).mpr i⟩
abbrev pu:MS:=(az (cJ 227 (db jf.1 [(ac 199),(ac 200)] [])) (az (cJ 225 (mB (bh qM (ac 228) (ax (.str 42))))) (az (ca (c9 (ac 225)) (az (ca (fS (bh sI (ac 227) (dJ [])) (fS (bh qM (mB (bh gT (ac 228) (ax (.str 40)))) (mB (bh ko (ax (.str 21)) (ac 200)))) eX)) (fj (ax (.bool false))) bn) jI) bn) (az (cJ 191 (b9 1 rf (ax (.lst dE)) [(aB (aB (ac 26) 42) 62)])) (az (ca (fS (bh lB (ac 191) (ac 227)) (fS (kI (c9 (db gW.1 [(ac 199),(ac 200),(ac 191),(ac 26)] []))) eX)) (fj (ax (.bool false))) bn) (az (hZ (ac 200) (ac 191) (ax (.str 26))) (bK (b9 1 cE (ac 224) [(mx [(ac 191),(ac 26)])]))))))))
def i3:MS:=(az (bK (db kf.1 [(ac 199),(ac 200)] [])) (az (jX [228,26] (db ki.1 [(ac 206),(ac 154)] [])) pu))
set_option maxHeartbeats 1000000 in
theorem xQ(o:RowsOK n Ro)(kd:∀k,kO (Ro k).kd){po:Option Nat}(L:LL n Ro i0 i1 mv c m)(l154:m.lookup 154=some (dX po))(ne:i0≠i1)(I:i0<nx)(lt1:i1<nx)(h0:H (0,i0)=some (.list (cu n s)))(h1:H (0,i1)=some (.list (held.map dL)))(r:R n Ro st H nx)(D:∀p,Rch n Ro s p 0->PM n Ro sel st p held/\tG st po)(q:∀H' nx' m' st' s' S y,nx<=nx'->LI n Ro sel i0 i1 mv c H' nx' m' st' s' S y->gZ n s'+(if y then 0 else 1)<=gZ n s->P .next ⟨H',nx',m'⟩/\P .cont ⟨H',nx',m'⟩) :
  i3 ⟨H,nx,m⟩ P:=by
 unfold i3;have o7:=o.n;refine aj (bj (cD (ao (aa L.l199 (ao (aa L.l200 (ai (ai (wB o I h0 r.tmp fun p H1 nx1 rc n1 G f1=>⟨rfl,?_⟩)))))))));obtain⟨D,sent⟩:=D p rc;have eph:gZ n p=gZ n s:=xm rc.g;rw[<-eph] at q;have a0:H1 (0,i0)=some (.list (cu n p)):=(G _ (.inr I)).trans setH_at;have a1:H1 (0,i1)=some (.list (held.map dL)):=(G _ (.inr lt1)).trans ((ae (dh ne.symm)).trans h1);have r1:=(r.tmpSet (nx':=nx) (i:=i0) (o:=.list (cu n p)) (Zj _) I).frame G f1;clear G f1 rc r h0 h1;have K:=Zp I n1;have M:=Zp lt1 n1;refine aj (jP (cD (ao (aa L.l206 (ao (aa l154 (ai (ai ?_))))))));have cont:∀(l:St)(x:aq->Option MObj)(e:Nat),nx1<=e->R n Ro l x e->Low H1 x nx1->∀(w:Nat)(g:MV),∀P1:aE->AS->Prop,(∀E u f C,nx<=f->LL n Ro i0 i1 mv c C->C.lookup 228=some (.str w)->C.lookup 26=some g->C.lookup 227=some (.tag (0,e))->(∀k,k∈E↔k<n/\p k=.reached/\∀j,Wl Ro p k j->p j=.ended)->u (0,e)=some (dR E)->u (0,i0)=some (.list (cu n p))->u (0,i1)=some (.list (held.map dL))->R n Ro l u f->i0<f->i1<f->P1 .next ⟨u,f,C⟩)->
   cJ 227 (db jf.1 [(ac 199),(ac 200)] []) ⟨x,e,ah (ah m 228 (.str w)) 26 g⟩ P1:=fun l x e U Z l2 w g P1 h=>by
  have L2:=(L.put 228 (.str w) (by decide)).put 26 g (by decide);have b0:x (0,i0)=some (.list (cu n p)):=(l2 i0 K).trans a0;have b1:x (0,i1)=some (.list (held.map dL)):=(l2 i1 M).trans a1;have F:=Zp K U;have X:=Zp M U;refine aP (cD (ao (aa L2.l199 (ao (aa L2.l200 (ai (ai (yo o F b0 Z.tmp fun E u f Y V n3' N f3 hL=>?_))))))));exact h E u f _ (Zk n1 (Zk U V)) (L2.put 227 _ (by decide)) ((aJ (by decide)).trans ((aJ (by decide)).trans bq)) ((aJ (by decide)).trans bq) bq Y hL ((N _ (.inr F)).trans b0) ((N _ (.inr X)).trans b1) (Z.frame N f3) (Zp F V) (Zp X V)
 refine rY o r1 D.j D.hx sent (fun l x e U Z od l2=>?_) fun k l x e U Z gd l2=>?_
 ·have A:∀w:Nat,(w != 42)=true->((w == 40)=true↔l.wait≠[])->pu ⟨x,e,ah (ah m 228 (.str w)) 26 .none⟩ P:=fun w h42 hw=>by
   refine aj (cont l x e U Z l2 w .none _ fun E u f C V L3 t T B Y hL F X r3 d0 d1=>?_);refine bM (D.idle o od Y) fun fr hr W=>?_;obtain rfl:=fr.symm;refine aj (aP (ms (aK (aa t (au (m6 ?_))))));refine h42.symm▸?_;have L4:=L3.put 225 (.bool true) (by decide);refine aj (aX (cw (aa bq ⟨true,rfl,?_⟩)));refine dF (aj (aX (gz (aK (aa ((aJ (by decide)).trans B) (bv (ai (aL (by decide) ⟨[],E2 ([]) true (A4 (ay hL) rfl rfl ?_)⟩))))))));refine ar (vC (n:=n) (s:=p) F) fun b hb1 hb2=>?_;refine gz (aK (ms (aK (aa ((aJ (by decide)).trans t) (au (kY (ms (aK (au (aa L4.l200 ⟨b,hb1,?_⟩))))))))));refine .inr (.inr (E2 _ _ (A3 rfl rfl ?_)));have eb:((w == 40) != b)=false:=by
    have:(w == 40)=b:=by rw[Bool.eq_iff_iff,hw,hr,hb2]
    refine this.symm▸?_;simp
   refine eb.symm▸?_;refine mD (bU ?_);refine(q _ _ _ l p held true V ⟨L4,bq,ne,d0,d1,F,X,r3,W,fun _=>⟨fun k J=>?_,D.cl⟩⟩ (Zj _)).2;have:=(Y k).mpr J;cases this
  exact⟨fun h=>⟨_,A3 rfl rfl (A 41 rfl ⟨(fun z=>nomatch z),fun z=>absurd h z⟩)⟩,fun h=>⟨_,A3 rfl rfl (A 40 rfl ⟨fun _=>h,fun _=>rfl⟩)⟩⟩
 ·refine je (D.give o kd gd) fun J hr hw zq1 W=>?_;obtain⟨d,hd,td⟩:=zq1;refine⟨_,A3 rfl rfl ?_⟩;show pu ⟨x,e,ah (ah m 228 (.str 42)) 26 (aO k)⟩ _;refine aj (cont l x e U Z l2 42 (aO k) _ fun E u f C V L3 t T B Y hL F X r3 d0 d1=>?_);refine aj (aP (ms (aK (aa t (au (m6 ?_))))));show az _ _ ⟨u,f,ah C 225 (.bool false)⟩ _;refine aj (aX (cw (aa bq ⟨false,rfl,bU ?_⟩)));refine aj (aP (bS (au ⟨rfl,ao (iz r3 hd J ((aJ (by decide)).trans T) (ai (w0 (Zk J o7) ?_)))⟩)));show az _ _ ⟨u,f,ah (ah C 225 (.bool false)) 191 (aw k)⟩ _;have L5:=(L3.put 225 (.bool false) (by decide)).put 191 (aw k) (by decide);have k26:(ah (ah C 225 (.bool false)) 191 (aw k)).lookup 26=some (aO k):=(aJ (by decide)).trans ((aJ (by decide)).trans T);have k227:(ah (ah C 225 (.bool false)) 191 (aw k)).lookup 227=some (.tag (0,e)):=(aJ (by decide)).trans ((aJ (by decide)).trans B);refine aj (aX (gz (aK (aa bq (aa k227 ⟨true,?_,?_⟩)))))
  ·show gy u (aw k) (.tag (0,e))=_;refine(lO (show b6 u (.tag (0,e))=some (E.map aw) from ay hL)).symm▸(show dT (aw k) (E.map aw)=some (E.contains k) from pB).symm▸?_;have:=(Y k).mpr (A3 J hr hw);simp[this]
  refine gz (lH (cw (cD (ao (aa L5.l199 (ao (aa L5.l200 (ao (aa bq (ao (aa k26 (ai (ai ?_)))))))))))));refine yl o J d0 r3 hd F td fun H4 nx4 n4 O f4=>⟨true,rfl,?_⟩
  have r4:=r3.frame O f4;have e0:H4 (0,i0)=some (.list (cu n p)):=(O _ (.inr d0)).trans F;have e1:H4 (0,i1)=some (.list (held.map dL)):=(O _ (.inr d1)).trans X;have g0:=Zp d0 n4;have g1:=Zp d1 n4;refine mD (bU (aj (iM (au (aa L5.l200 (aa bq (pa (v:=.given) J e0 ?_)))))));have e1':af H4 (0,i0) (.list (cu n (upd p k .given))) (0,i1)=some (.list (held.map dL)):=(ae (dh ne.symm)).trans e1;have hl:held.length<900:=by
   have:=aN D.hd.1 fun a ha=>D.lt a (by rw[(D.hd.2 a).mp ha];decide);exact bR 0 0 0 7 1 900 this o7 rfl
  refine bj (bS (aa L5.l224 ⟨kl e1',ao (ao (aa bq (ao (aa k26 (ai ⟨bX rfl,ai (ds e1' (by rw[List.length_map];exact av 1 900 1 1000 hl rfl) ⟨rfl,?_⟩)⟩)))))⟩));have eh:held.map dL++[.tup [aw k,aO k]]=(held++[k]).map dL:=by rw[List.map_append];rfl
  refine eh.symm▸?_;refine(q _ _ _ l (upd p k .given) (held++[k]) false (Zk V n4) ⟨L5,(aJ (by decide)).trans bq,ne,g0,g1,(ae (dh ne)).trans setH_at,setH_at,(r4.tmpSet (Zj _) g0).tmpSet (Zj _) g1,W,(fun z=>nomatch z)⟩ ?_).1;have:=ts (s:=p) (k:=k) (v:=.given) J;rw[hr] at this;have w1:wt .reached=4:=rfl;have w2:wt .given=2:=rfl;simp only[Bool.false_eq_true,if_false];exact kQ (Zd this) (Zd w1.symm) (Zd w2)
end
end
section
abbrev v5:MS:=(az (jX [191,154] (b9 1 o6 (ac 224) [(dG jx (dG kL (ac 226) (ax (.int 3))) (cC iI [(ac 224)]))])) (az (hZ (ac 200) (ac 191) (ax (.str 25))) (az (eH (ac 154) 143 (bG (bG (ac 199) (ac 191)) (ax (.int 3)))) (ca (c9 (db bC.1 [(ac 191)] [])) (eH (aB (ac 154) 42) 73 (db jz.1 [(bG (ac 199) (ac 191))] [])) bn))))
def pv:MS:=(az (cJ 226 (dG we (bG (ac 222) (dG jx (ac 218) (cC iI [(ac 222)]))) (ac 218))) (az (cJ 154 (ax .none)) (az (ca (jv (bh sI (ac 224) (dJ [])) (jv (fS (c9 (ac 225)) (fS (bh gT (cC iI [(ac 224)]) (ac 223)) (fS (bh gT (dG jx (ac 226) (ax (.int 3))) (ax (.int 0))) eX))) fN)) v5 (ca (c9 (ac 225)) vZ bn)) i3)))
section
variable {H H':aq->Option MObj}{nx:Nat}{m:List (Nat×MV)}{k j n:Nat}{Ro:Nat->Rw}{sel held:List Nat}{i0 i1:Nat}{mv:List Int}{c:Int}{st:St}{s:Nat->LS}{d:Nd}{idle:Bool}{Q:MV->AS->Prop}{P:aE->AS->Prop}
theorem jr:∀{l:List Nat}{i k:Nat},l.Nodup->l[i]?=some k->(l.eraseIdx i).Nodup/\∀a,a∈l.eraseIdx i↔a∈l/\a≠k
 |[],i,k,_,h=>nomatch h
 |b::l,0,k,hn,h=>by
  obtain⟨g,q⟩:=List.nodup_cons.mp hn;simp at h;subst h;refine⟨q,fun a=>?_⟩;constructor;·intro f;exact⟨Zc _ f,fun e=>g (e▸f)⟩
  ·intro r;obtain⟨f,o⟩:=r;exact(List.mem_cons.mp f).resolve_left o
 |b::l,i+1,k,hn,h=>by
  obtain⟨g,q⟩:=List.nodup_cons.mp hn;have h':l[i]?=some k:=(h)
  obtain⟨a1,t⟩:=jr q h';have v:k∈l:=ZC h';have p:b≠k:=fun e=>g (e▸v);show(b::l.eraseIdx i).Nodup/\∀a,a∈b::l.eraseIdx i↔a∈b::l/\a≠k;refine⟨List.nodup_cons.mpr ⟨fun o=>g ((t b).mp o).1,a1⟩,fun a=>?_⟩;rw[List.mem_cons,List.mem_cons,t];constructor
  ·rintro (h|h);·obtain rfl:=h.symm;exact⟨.inl rfl,p⟩
   ·exact⟨.inr h.1,h.2⟩
  ·rintro ⟨h|h,u⟩;·exact .inl h
   ·exact .inr ⟨h,u⟩
theorem eraseIdx_map{f:Nat->MV}:∀{l:List Nat}{i:Nat},(l.map f).eraseIdx i=(l.eraseIdx i).map f
 |[],i=>List.nil_append _
 |a::l,0=>rfl
 |a::l,i+1=>by
  show f a::(l.map f).eraseIdx i=f a::(l.eraseIdx i).map f;exact congrArg _ eraseIdx_map
theorem mt{x:Nat}{v:MV}{xs:List MV}{P:MV->AS->Prop}(b:m.lookup x=some v)(a:bc H v=some xs)(h:P (.int (xs.length:Int)) ⟨H,nx,m⟩):cC iI [(ac x)] ⟨H,nx,m⟩ P:=
 cm (ao (aa b (ai ⟨_,_,A3 rfl a h⟩)))
theorem xf{es:List (Nat×MV)}{a:Nat}{v w:MV}:ah (ah es a v) a w=ah es a w:=by
 delta ah;by_cases h:es.any (fun p=>p.1 == a)=true
 ·rw[if_pos h];have f:(es.map fun p=>if p.1 == a then(p.1,v) else p).any (fun p=>p.1 == a)=true:=by
   rw[List.any_eq_true] at h ⊢;refine ar h ?_;intro x b e;exact⟨_,List.mem_map_of_mem b,by rw[if_pos e];exact e⟩
  refine(if_pos f)▸(if_pos h)▸List.map_map▸?_;refine List.map_congr_left fun x _=>?_;by_cases e:(x.1 == a)=true;·simp[Function.comp,e]
  ·simp[Function.comp,e]
 ·rw[if_neg h,if_neg h];refine(if_pos (by simp)).trans ?_;refine List.map_append.trans ?_
  congr 1
  ·rw[List.map_congr_left (g:=id)];·simp
   ·intro x b;rw[if_neg];rfl;intro e;exact h (List.any_eq_true.mpr ⟨x,b,e⟩)
  ·simp
theorem xg{es:List (Nat×MV)}{a:Nat}{v:MV}:es.length<=(ah es a v).length:=by
 delta ah;split;·rw[List.length_map];exact Zj _
 ·simp
theorem R.toldV{es:List (Nat×MV)}(r:R n Ro st H nx)(N:k<n)(K:H (1,k)=some (.inst 0 es))(t0:(st.tk k).told=false) :R n Ro (st.setTk k { st.tk k with told:=true }) (af (af H (17,k) (.dict (cS (Ro k)))) (1,k) (.inst 0 (ah es 73 (.tag (17,k))))) nx:=by
 have x:=r.task k N;have F:∀g i,(g,i)≠(17,k)->(g,i)≠(1,k)->af (af H (17,k) (.dict (cS (Ro k)))) (1,k) (.inst 0 (ah es 73 (.tag (17,k)))) (g,i)=H (g,i):=fun g i a b=>(ae b).trans (ae a);refine r.change rfl (fun i a b j=>F i j (aV (Zn (av 20 0 18 0 a rfl))) (aV (Zn (av 20 0 2 0 a rfl)))) (fun i L=>(F 0 i (aV (by decide)) (aV (by decide))).trans (r.tmp i L)) (fun j M=>?_) (fun j G hd=>(r.node j G hd).keep fun g o=>F g j (aV (by unfold nG at o;exact o.elim (fun f=>(Zh (av 0 16 1 17 f.2 rfl))) fun f=>(Zn (av 100 0 18 0 f rfl)))) (aV (by unfold nG at o;exact o.elim (fun f=>(Zn (av 10 0 2 0 f.1 rfl))) fun f=>(Zn (av 100 0 2 0 f rfl))))) fun j hd g o=>(F g j (aV (by unfold nG at o;exact o.elim (fun f=>(Zh (av 0 16 1 17 f.2 rfl))) fun f=>(Zn (av 100 0 18 0 f rfl)))) (aV (by unfold nG at o;exact o.elim (fun f=>(Zn (av 10 0 2 0 f.1 rfl))) fun f=>(Zn (av 100 0 2 0 f rfl))))).trans (r.nonode j hd g o);show TaskAt (Ro j) _ j (if j=k then _ else st.tk j);by_cases q:j=k
 ·obtain rfl:=q.symm;rw[if_pos rfl];refine ff x.obj fun es' p I y t u w z D E=>?_;obtain⟨B,A,C,J⟩:=E;replace p:=K▸p;cases p;have l:∀{a:Nat}{v:Option MV},a≠73->es.lookup a=v->(ah es 73 (.tag (17,k))).lookup a=v:=fun h e=>(aJ h).trans e;refine⟨⟨_,setH_at,fun v=>by rw[xf];exact I v,l (by decide) y,l (by decide) t,l (by decide) u,l (by decide) w,l (by decide) z,l (by decide) D,l (by decide) B,l (by decide) A,l (by decide) C,fun _=>bq⟩,(F 3 k (aV (by decide)) (aV (by decide))).trans x.td,(F 7 k (aV (by decide)) (aV (by decide))).trans x.fd,(F 8 k (aV (by decide)) (aV (by decide))).trans x.cd,?_⟩;refine(if_pos rfl).mpr ?_;exact⟨none,hN setH_at⟩
 ·rw[if_neg q];exact(r.task j M).keep fun g _ _=>F g j (dh q) (dh q)
theorem PI.some(x:PI n Ro sel st s held)(o:RowsOK n Ro):J ⟨n,Ro,fun k=>k<n,sel⟩ st:=
 x.jw _ x.lt fun k b j a=>by
  have:j<n:=Zs (a.elim (fun z=>(z.ok o).1) fun z=>(z.ok o).1) b;exact⟨this,this⟩
set_option maxHeartbeats 1000000 in
theorem zz(o:RowsOK n Ro)(kd:∀k,kO (Ro k).kd){move:Int}(p:LI n Ro sel i0 i1 mv c H nx m st s held idle)(T:held≠[])(G:m.lookup 226=some (.int move))(q:∀(w:aq->Option MObj)(B:List (Nat×MV))(k:Nat)(d:Nd)(u:List Nat),LL n Ro i0 i1 mv c B->B.lookup 154=some (dX (some k))->k∈held->u.Nodup->(∀i,i∈u↔i∈held/\i≠k)->st.nd k=some d->w (0,i0)=some (.list (cu n (upd s k .ended)))->w (0,i1)=some (.list (u.map dL))->R n Ro (fO st k d (dm (Ro k).kd)) w nx->P .next ⟨w,nx,B⟩):v5 ⟨H,nx,m⟩ P:=by
 have x:=p.h1;have O:0<held.length:=List.length_pos_iff.mpr T;have S:((held.map dL).length:Int)=held.length:=by simp
 have j0:0<=(move.fdiv 3).fmod (held.length:Int):=Int.fmod_nonneg_of_pos _ (pR O);have U:(move.fdiv 3).fmod (held.length:Int)<held.length:=Int.fmod_lt_of_pos _ (pR O);generalize C:(move.fdiv 3).fmod (held.length:Int)=idx at j0 U;obtain⟨k,N⟩:∃k,held[idx.toNat]?=some k:=⟨_,List.getElem?_eq_getElem (by omega)⟩
 obtain⟨F,E⟩:=jr p.pi.hd.1 N;have y:k∈held:=ZC N;have J:=(p.pi.hd.2 k).mp y;have e:=p.pi.lt k (by rw[J];decide);have J0:=p.pi.some o;have W:=o.n;have V:¬ En st k:=fun z=>by rw[(p.pi.en k).mp z] at J;exact LS.noConfusion J
 have t0:(st.tk k).told=false:=Bool.eq_false_iff.mpr fun z=>V ((J0.told k).mp z).1;obtain⟨d,hd⟩:∃d,st.nd k=some d:=by
  cases h:st.nd k with
  |some d=>exact⟨d,rfl⟩
  |none=>
   have:=(p.pi.gv k).mpr (.inl J);replace this:=(mz h).symm.trans this;exact absurd this (by decide)
 refine aj (jP (bS (aa p.ll.l224 ⟨kl x,ao (kz (kz (aa G (au (E3 move 3 (move.fdiv 3) (A4 rfl rfl rfl ?_))))))⟩)));refine mt p.ll.l224 (ay x) (E3 (move.fdiv 3) held.length idx (A4 rfl (S▸rfl) (C▸jg (Int.ne_of_gt (Int.ofNat_lt.mpr O))) ?_));refine ai (.inr (E4 (0,i1) _ idx (dL k) (A5 rfl x j0 ((List.getElem?_map)▸N▸rfl) ?_)));refine eraseIdx_map.symm▸?_;refine⟨[aw k,aO k],A3 rfl rfl ?_⟩;show az _ _ ⟨af H (0,i1) (.list ((held.eraseIdx idx.toNat).map dL)),nx,ah (ah m 191 (aw k)) 154 (aO k)⟩ _;have A:=(p.ll.put 191 (aw k) (by decide)).put 154 (aO k) (by decide);have l:(ah (ah m 191 (aw k)) 154 (aO k)).lookup 191=some (aw k):=(aJ (by decide)).trans bq;have f:(ah (ah m 191 (aw k)) 154 (aO k)).lookup 154=some (aO k):=bq;generalize ah (ah m 191 (aw k)) 154 (aO k)=B at A l f ⊢;have r1:=p.r.tmpSet (nx':=nx) (i:=i1) (o:=.list ((held.eraseIdx idx.toNat).map dL)) (Zj _) p.lt1;have a0:af H (0,i1) (.list ((held.eraseIdx idx.toNat).map dL)) (0,i0)=some (.list (cu n s)):=(ae (dh p.ne)).trans p.h0;have a1:af H (0,i1) (.list ((held.eraseIdx idx.toNat).map dL)) (0,i1)=some (.list ((held.eraseIdx idx.toNat).map dL)):=setH_at;generalize af H (0,i1) (.list ((held.eraseIdx idx.toNat).map dL))=H1 at r1 a0 a1 ⊢;refine aj (iM (au (aa A.l200 (aa l (pa (v:=.ended) e a0 ?_)))));have X:=r1.tmpSet (nx':=nx) (i:=i0) (o:=.list (cu n (upd s k .ended))) (Zj _) p.lt0;have b0:af H1 (0,i0) (.list (cu n (upd s k .ended))) (0,i0)=some (.list (cu n (upd s k .ended))):=setH_at;have b1:=(ae (o:=.list (cu n (upd s k .ended))) (dh (a:=0) (b:=0) p.ne.symm)).trans a1;generalize af H1 (0,i0) (.list (cu n (upd s k .ended)))=w at X b0 b1 ⊢;refine aj (aR (mV (a:=3) (v:=.str (Ro k).kd) A.l199 l e rfl (aa f (bT (X.node k d hd).obj (by decide) (bX rfl) ?_))));have I:=X.ndObj hd { d with rs:=dm (Ro k).kd } (es:=ah (gw k d) 143 (.str (Ro k).kd)) (by unfold gw;dsimp only;refine((pf (kd k)).1).symm▸?_;rfl) rfl;have K:af w (10,k) (.inst 2 (ah (gw k d) 143 (.str (Ro k).kd))) (0,i0)=_:=hN b0;have L:af w (10,k) (.inst 2 (ah (gw k d) 143 (.str (Ro k).kd))) (0,i1)=_:=hN b1;generalize af w (10,k) (.inst 2 (ah (gw k d) 143 (.str (Ro k).kd)))=H3 at I K L ⊢;refine aX (oy l ?_);cases hc:eV k with
 |false=>
  refine bU (q H3 B k d _ A f y F E hd K L ?_);have:fO st k d (dm (Ro k).kd)={ st.setNd k { d with rs:=dm (Ro k).kd } with lp:=k,ll:=d.wm }:=by unfold fO;refine hc▸?_;rfl
  refine this▸?_;exact I.hand rfl
 |true=>
  have Y:=o.rw e;have e3:(st.setNd k { d with rs:=dm (Ro k).kd }).nd k=some { d with rs:=dm (Ro k).kd }:=bp;have tk:=I.task k e;refine bz tk.obj fun es e1 e2 _=>?_;have M:H3 (17,k)=none:=by
   have:=tk.vals
   rwa [if_neg (by rw[show((st.setNd k { d with rs:=dm (Ro k).kd }).tk k).told=false from t0];decide)] at this
  refine dF (aR (cD (ao (zx A.l199 l e (ai (ai ?_))))));refine vr Y (A3 (fun j D=>by have:=(o.tN k j D).1;exact bR 2 0 0 7 1 7 (bR 1 0 1 0 2 0 this e rfl) W rfl) (fun j D=>by have:=(o.tF k j D).1;exact bR 2 0 0 7 1 7 (bR 1 0 1 0 2 0 this e rfl) W rfl) (fun j D=>by have:=(o.tC k j D).1;exact bR 2 0 0 7 1 7 (bR 1 0 1 0 2 0 this e rfl) W rfl)) M ?_;have x4:NodeAt (af H3 (17,k) (.dict (cS (Ro k)))) k { d with rs:=dm (Ro k).kd }:=(I.node k _ e3).keep fun g hg=>ae (aV (by unfold nG at hg;exact hg.elim (fun Z=>(Zh (av 0 16 1 17 Z.2 rfl))) fun Z=>(Zn (av 100 0 18 0 Z rfl))));refine aH (t:=(10,k)) f x4.obj (by decide) rfl rfl (bT (hN e1) (by decide) (ZD (Zk xg (Zv (e2 .none))) (by decide)) ?_);refine q _ B k d _ A f y F E hd (hN (hN K)) (hN (hN L)) ?_;have r5:=I.toldV e e1 t0;have:fO st k d (dm (Ro k).kd)={ (st.setNd k { d with rs:=dm (Ro k).kd }).setTk k { (st.setNd k { d with rs:=dm (Ro k).kd }).tk k with told:=true } with lp:=k,ll:=d.wm }:=by unfold fO;rw[hc];rfl
  rw[this];exact r5.hand rfl
theorem wx(o:RowsOK n Ro)(kd:∀k,kO (Ro k).kd){t:Nat}(B:m.lookup 218=some (aw t))(W:mv≠[])(b:LI n Ro sel i0 i1 mv c H nx m st s held idle)(qb:held=[]->idle=true->∀z,LL n Ro i0 i1 mv c z->P .brk ⟨H,nx,z⟩)(q:∀H' nx' z st' I f e,nx<=nx'->LI n Ro sel i0 i1 mv c H' nx' z st' I f e->gZ n I+(if e then 0 else 1)<gZ n s+(if idle then 0 else 1)->P .next ⟨H',nx',z⟩/\P .cont ⟨H',nx',z⟩) :
  pv ⟨H,nx,m⟩ P:=by
 have Z:0<mv.length:=List.length_pos_iff.mpr W;have U:((mv.map MV.int).length:Int)=mv.length:=by simp
 have S:0<=((t:Int)).fmod (mv.length:Int):=Int.fmod_nonneg_of_pos _ (pR Z);have hilt:((t:Int)).fmod (mv.length:Int)<mv.length:=Int.fmod_lt_of_pos _ (pR Z);obtain⟨x,hx⟩:∃x,mv[(((t:Int)).fmod (mv.length:Int)).toNat]?=some x:=⟨_,List.getElem?_eq_getElem (by omega)⟩
 refine aj (aP (kz (lG (aa b.ll.l222 (kz (aa B (mt b.ll.l222 rfl (E3 (t:Int) mv.length _ (A4 rfl (U▸rfl) (jg (Int.ne_of_gt (Int.ofNat_lt.mpr Z))) ?_)))))))));refine⟨.int x,?_,aa B (E3 x t (x+t) (A4 rfl rfl rfl ?_))⟩
 ·show(if 0<=_ then(mv.map MV.int)[_]? else none)=_;refine(if_pos S)▸(List.getElem?_map)▸hx▸?_;rfl
 generalize x+(t:Int)=move;refine aj (aP (au ?_));show az _ _ ⟨H,nx,ah (ah m 226 (.int move)) 154 .none⟩ _;have E:=(b.ll.put 226 (.int move) (by decide)).put 154 .none (by decide);have w:(ah (ah m 226 (.int move)) 154 .none).lookup 226=some (.int move):=(aJ (by decide)).trans bq;have C:(ah (ah m 226 (.int move)) 154 .none).lookup 154=some .none:=bq;have p:(ah (ah m 226 (.int move)) 154 .none).lookup 225=some (.bool idle):=(aJ (by decide)).trans ((aJ (by decide)).trans b.l225);generalize ah (ah m 226 (.int move)) 154 .none=m1 at E w C p;have Y:LI n Ro sel i0 i1 mv c H nx m1 st s held idle:=⟨E,p,b.ne,b.lt0,b.lt1,b.h0,b.h1,b.r,b.pi,b.fr⟩
 have M:idle=false->i3 ⟨H,nx,m1⟩ P:=fun i=>xQ (po:=none) (s:=s) (st:=st) o kd E C b.ne b.lt0 b.lt1 b.h0 b.h1 b.r (fun s2 rc=>⟨b.pi.mid o rc,.inl ⟨rfl,b.pi.ll⟩⟩) fun H' nx' z st' I f e h1 L N=>by
  refine q H' nx' z st' I f e h1 L ?_;refine i.symm▸?_;simp only[Bool.false_eq_true,if_false];exact av 0 0 1 1 N rfl
 have D:(held≠[]->idle=false)->az (ca (c9 (ac 225)) vZ bn) i3 ⟨H,nx,m1⟩ P:=fun hh=>by
  refine aj (aX (cw (aa p ⟨idle,rfl,?_⟩)));cases i:idle with
  |true=>
   refine qb ?_ i m1 E;cases K:held with
   |nil=>rfl
   |cons a l=>have:=hh (by rw[K];simp);replace this:=i.symm.trans this;exact qO this
  |false=>exact bU (M i)
 have g:held≠[]->az v5 i3 ⟨H,nx,m1⟩ P:=fun u=>by
  refine aj (zz o kd Y u w fun H2 m2 k d f L2 G J X V hd b0 b1 r2=>?_);have hs:=(b.pi.hd.2 k).mp J;have T:=b.pi.lt k (by rw[hs];decide);refine xQ (po:=some k) (s:=upd s k .ended) o kd L2 G b.ne b.lt0 b.lt1 b0 b1 r2 (fun s2 rc=>b.pi.ends o kd J X V rc hd) fun H' nx' z st' I F e h1 L N=>?_;refine q H' nx' z st' I F e h1 L ?_;have:=ts (s:=s) (k:=k) (v:=.ended) T;rw[hs] at this;have w1:wt .given=2:=rfl;have w2:wt .ended=0:=rfl;exact xM N (Zd this) (Zd w1.symm) (Zd w2)
 have R:(held.map dL).isEmpty=held.isEmpty:=by induction held<;>rfl
 refine aj (aX (gr (aK (aa E.l224 (bv (ai (aL (by decide) ⟨_,E2 ([]) _ (A4 (ay b.h1) rfl lQ ?_)⟩)))))));refine R▸?_;cases K:held.isEmpty with
 |true=>
  have he:=List.isEmpty_iff.mp K;exact D fun h=>absurd he h
 |false=>
  have u:held≠[]:=fun h=>by rw[h] at K;exact qO K
  refine gr (gz (cw (aa p ⟨idle,rfl,?_⟩)));cases i:idle with
  |true=>exact g u
  |false=>
   refine gz (aK (mt E.l224 (ay b.h1) (aa E.l223 (kZ ?_))));cases h1:(((held.map dL).length:Int) == c) with
   |true=>exact g u
   |false=>
    refine gz (aK (eG (x:=move) (y:=3) (fun A O=>aa w O) (fun A O=>au O) (jg (by decide)) (au (kZ ?_))));cases L:(move.fmod 3 == 0) with
    |true=>exact g u
    |false=>exact sO (D fun _=>i)
end
end
section
section
variable {H H':aq->Option MObj}{nx:Nat}{m b:List (Nat×MV)}{k j n:Nat}{Ro:Nat->Rw}{sel held:List Nat}{i0 i1:Nat}{mv:List Int}{a:Int}{st:St}{s:Nat->LS}{idle:Bool}{Q:MV->AS->Prop}{P:aE->AS->Prop}
theorem wU(o:RowsOK n Ro)(kd:∀k,kO (Ro k).kd)(p:mv≠[])(l:List Nat):∀(H:aq->Option MObj)(nx:Nat)(m:List (Nat×MV))(st:St)(s:Nat->LS)(held:List Nat)(idle:Bool),LI n Ro sel i0 i1 mv a H nx m st s held idle->gZ n s+(if idle then 0 else 1)<l.length->(∀H' nx' b g,b.lookup 200=some (.tag (0,i0))->b.lookup 224=some (.tag (0,i1))->H' (0,i0)=some (.list (cu n g))->H' (0,i1)=some (.list [])->(∀k,k<n->g k=.no\/g k=.ended)->P .next ⟨H',nx',b⟩)->
  dq (fun _=>True) (ba 218) pv (l.map aw) ⟨H,nx,m⟩ P:=by
 induction l with
 |nil=>
  intro H nx m st s held idle c h q;exact absurd h (ZA _)
 |cons t l A=>
  intro H nx m st s held idle c h q;refine⟨trivial,?_⟩;have d:LI n Ro sel i0 i1 mv a H nx (ah m 218 (aw t)) st s held idle:=⟨c.ll.put 218 _ (by decide),(aJ (by decide)).trans c.l225,c.ne,c.lt0,c.lt1,c.h0,c.h1,c.r,c.pi,c.fr⟩
  show pv ⟨H,nx,ah m 218 (aw t)⟩ _;refine wx (t:=t) o kd bq p d (fun h1 y b v=>?_) fun H' nx' b st' g e f B u i=>?_
  ·subst h1;obtain⟨w,x⟩:=d.fr y;exact q H nx b s v.l200 v.l224 d.h0 d.h1 fun k _=>AP o c.pi.lt x (fun k z=>by have:=(c.pi.hd.2 k).mpr z;cases this) w k
  ·have:=A H' nx' b st' g e f u (bR 1 0 1 1 1 0 i h rfl) q;exact⟨this,this⟩
theorem zM{f g:ap}{c:AS}{P:MV->AS->Prop}(h:f c (Ag g P)):tQ f g c P:=h
theorem yA{P:aE->AS->Prop}(c:m.lookup 200=some (.tag (0,i0)))(d:m.lookup 224=some (.tag (0,i1)))(h0:H (0,i0)=some (.list (cu n s)))(p:H (0,i1)=some (.list []))(r:n<=7)(t:∀k,k<n->s k=.no\/s k=.ended)(q:P (.ret (.bool true)) ⟨H,nx,m⟩) :
  fj (tQ (mB (bh pP (ac 224) (dJ []))) (mB (bh pP (eR [] (dH (ac 200)) (ba 214) (bh lB (ac 214) (mx [(ax (.str 20)),(ax (.str 25))])) (ac 214)) (dJ [])))) ⟨H,nx,m⟩ P:=by
 refine cK (zM (ms (aK (aa d (bv (ai (aL (by decide) ⟨[],E2 ([]) true ⟨ay p,rfl,rfl,true,rfl,?_⟩⟩)))))));refine ms (aK (hK (bu (aa c ⟨_,ay h0,?_⟩))));refine gM (H:=H) (nx:=nx) (m0:=cT [] m) (g:=fun H=>b6 H (.tag (0,i0))=some ((List.range n).map fun k=>(s k).mv)) (fun k=>(s k).mv) (fun k=>!((s k).num == 20||(s k).num == 25)) (fun k=>(s k).mv) (ay h0) (List.range n) [] _ (fun _ _=>rfl) (fun k i u k2 l=>⟨fun o f=>?_,fun _ o f=>aa l f⟩) (by simp;exact av 0 7 0 900 r rfl) ?_
 ·refine aK (aa l (ao (au (ao (au (ai ⟨by decide,?_⟩))))));refine⟨(s k).num == 20||(s k).num == 25,?_,f⟩;show some ((20 == (s k).num)||((25 == (s k).num)||false))=_;rw[Bool.or_false]
  congr 2
  ·exact Bool.beq_comm
  ·exact Bool.beq_comm
 ·have e:(List.range n).filter (fun k=>!((s k).num == 20||(s k).num == 25))=[]:=by
   rw[List.filter_eq_nil_iff];intro k i;rcases t k (List.mem_range.mp i) with h|h<;>rw[h]<;>decide
  refine e▸?_;refine aL (Nat.zero_le _) (bv (ai (aL (by decide) ⟨[],E2 ([]) true (A4 rfl rfl rfl q)⟩)))
end
end
section
structure TI(H:aq->Option MObj)(k:Nat)(r:Rw):Prop where
 obj:∃es,H (1,k)=some (.inst 0 es)/\es.length<150/\es.lookup 62=some (.str k)/\es.lookup 50=some (.tag (3,k))/\es.lookup 51=some (.tag (7,k))/\es.lookup 52=some (.tag (8,k))/\es.lookup 70=some (.lst [])/\es.lookup 98=none/\es.lookup 86=none/\es.lookup 85=none/\es.lookup 87=none/\es.lookup 102=none/\es.lookup 64=some (.tag (2,k))/\es.lookup 84=some (.lst [])
 tg:H (2,k)=some (.list [bA k])
 td:H (3,k)=some (aI r.needs)
 fd:H (7,k)=some (.list [])
 cd:H (8,k)=some (aI r.calcs)
 vals:H (17,k)=none
def OptN(H:aq->Option MObj)(k:Nat):Prop:=∃es,H (1,k)=some (.inst 0 es)/\es.length<100/\es.lookup 69=some .none
section
variable {H H':aq->Option MObj}{nx:Nat}{m:List (Nat×MV)}{k j n:Nat}{r:Rw}{Q:MV->AS->Prop}{P:aE->AS->Prop}
theorem TI.keep(x:TI H k r)(h:∀g,1<=g->g<=8\/g=17->H' (g,k)=H (g,k)):TI H' k r:=
 ⟨by rw[h 1 (by decide) (by decide)];exact x.obj,(h 2 (by decide) (by decide)).trans x.tg,(h 3 (by decide) (by decide)).trans x.td,(h 7 (by decide) (by decide)).trans x.fd,(h 8 (by decide) (by decide)).trans x.cd,(h 17 (by decide) (by decide)).trans x.vals⟩
theorem TI.at(x:TI H k r):TaskAt r H k (uQ r):=by
 refine ff x.obj fun es p q d a b c e l o=>?_;obtain⟨g,f,i,_⟩:=o;exact⟨⟨es,p,fun v=>ZD (hU es 73 v) (av 1 150 2 200 q rfl),d,a,b,c,e,l,g,f,i,(fun h=>nomatch h)⟩,x.td,x.fd,x.cd,x.vals⟩
theorem nY(q:Q (.lst []) ⟨H,nx,m⟩):iC.1 [.tag (1,k),.lst []] [] ⟨H,nx,m⟩ Q:=by
 refine⟨rfl,?_⟩;refine aj (aP (bv (ai (aL (by decide) ?_))));refine aj (cA (bu ?_));refine aa rfl ⟨_,rfl,⟨rfl,?_⟩⟩;exact cK (aa rfl q)
theorem oT(a:H (2,k)=none)(q:Q (.tag (2,k)) ⟨af H (2,k) (.list [bA k]),nx,m⟩):iR.1 [.tag (1,k),.lst [bA k]] [] ⟨H,nx,m⟩ Q:=by
 refine⟨rfl,?_⟩;refine aj (aP (bv (ai (d9 a (by decide) (by decide) ?_))));refine aj (cA (bu ?_));refine aa rfl ⟨_,rfl,rfl,?_⟩;refine aX (cw (cm (ao (aa bq (ao (tM (ai ⟨8+k,rfl,true,rfl,?_⟩)))))));refine dF (bj (bS (aa rfl ⟨kl setH_at,ao (aa bq (ai (ds setH_at (by decide) ⟨rfl,?_⟩)))⟩)));rw[fc];exact⟨rfl,cK (aa rfl q)⟩
theorem oH{l:List Nat}:de H (bO l)=some (!l.isEmpty):=by
 induction l<;>rfl
theorem uE{l:List Nat}(h:l.Nodup):aU [] l=l:=by
 have:∀(l acc:List Nat),(acc++l).Nodup->aU acc l=acc++l:=by
  intro l;induction l with
  |nil=>intro acc _;exact(List.append_nil _).symm
  |cons x l b=>
   intro acc h;have a:x∉acc:=fun z=>(List.nodup_append.mp h).2.2 x z x Ze rfl;show aU (if x∈acc then acc else acc++[x]) l=_;rw[if_neg a,b _ (by rw[List.append_assoc];exact h),List.append_assoc];rfl
 exact this l [] h
noncomputable def eQ(k:Nat):List (Nat×MV):=[(62,.str k),(69,.none),(70,.lst []),(63,.lst [])]
noncomputable def n9(k:Nat):List (Nat×MV):=[(62,.str k),(69,.none),(70,.lst []),(63,.lst []),(83,.none),(51,.tag (7,k)),(50,.tag (3,k)),(84,.lst []),(52,.tag (8,k))]
theorem rZ{l c:List Nat}(V:H (1,k)=some (.inst 0 (eQ k)))(W:H (3,k)=none)(X:H (7,k)=none)(Y:H (8,k)=none)(hl:∀j∈l,j<8)(hn:l.length<900)(Z:c.length<900)(J:c.Nodup)(q:∀H',(∀g i,i≠k\/(g≠1/\g≠3/\g≠7/\g≠8)->H' (g,i)=H (g,i))->H' (1,k)=some (.inst 0 (n9 k))->H' (3,k)=some (aI l)->H' (7,k)=some (.list [])->H' (8,k)=some (aI c)->Q .none ⟨H',nx,m⟩) :
  jH.1 [.tag (1,k),.tup [],bO l,bO c] [] ⟨H,nx,m⟩ Q:=by
 refine⟨rfl,?_⟩;show az _ _ ⟨H,nx,[(61,.tag (1,k)),(51,.tup []),(50,bO l),(52,bO c)]⟩ _;have key:∀f:aq->Option MObj,(∀g i,i≠k\/(g≠1/\g≠3/\g≠7/\g≠8)->f (g,i)=H (g,i))->∀{g o},(g=1\/g=3\/g=7\/g=8)->∀d i,i≠k\/(d≠1/\d≠3/\d≠7/\d≠8)->af f (g,k) o (d,i)=H (d,i):=fun f h {g o} hg d i b=>(ae fun e=>by
  cases e;rcases b with b|b;·exact b rfl
  ·exact hg.elim (fun M=>(b.1 M)) fun M=>(M.elim (fun L=>(b.2.1 L)) fun L=>(L.elim (fun K=>(b.2.2.1 K)) fun K=>(b.2.2.2 K)))).trans (h d i b)
 have N:∀g i,i≠k\/(g≠1/\g≠3/\g≠7/\g≠8)->H (g,i)=H (g,i):=fun _ _ _=>rfl;refine aj (aR (au (aa rfl (bT V (by decide) (bX rfl) ?_))));refine aj (aR (bv (ai (d9 (g:=7) (i:=k) (hN X) (by decide) (by decide) (aa rfl (bT (hN setH_at) (by decide) (bX rfl) ?_))))));have a1:af (af (af H (1,k) (.inst 0 (ah (eQ k) 83 .none))) (7,k) (.list [])) (1,k) (.inst 0 (ah (ah (eQ k) 83 .none) 51 (.tag (7,k)))) (1,k)=some (.inst 0 (ah (ah (eQ k) 83 .none) 51 (.tag (7,k)))):=setH_at;have D:af (af (af H (1,k) (.inst 0 (ah (eQ k) 83 .none))) (7,k) (.list [])) (1,k) (.inst 0 (ah (ah (eQ k) 83 .none) 51 (.tag (7,k)))) (7,k)=some (.list []):=hN setH_at;have C:af (af (af H (1,k) (.inst 0 (ah (eQ k) 83 .none))) (7,k) (.list [])) (1,k) (.inst 0 (ah (ah (eQ k) 83 .none) 51 (.tag (7,k)))) (3,k)=none:=hN (hN (hN W));have E:af (af (af H (1,k) (.inst 0 (ah (eQ k) 83 .none))) (7,k) (.list [])) (1,k) (.inst 0 (ah (ah (eQ k) 83 .none) 51 (.tag (7,k)))) (8,k)=none:=hN (hN (hN Y));have z:=key _ (key _ (key H N (g:=1) (o:=.inst 0 (ah (eQ k) 83 .none)) (.inl rfl)) (g:=7) (o:=.list []) (by decide)) (g:=1) (o:=.inst 0 (ah (ah (eQ k) 83 .none) 51 (.tag (7,k)))) (.inl rfl);generalize af (af (af H (1,k) (.inst 0 (ah (eQ k) 83 .none))) (7,k) (.list [])) (1,k) (.inst 0 (ah (ah (eQ k) 83 .none) 51 (.tag (7,k))))=H1 at a1 D C E z ⊢;refine aj (bj (bN (aa rfl (E2 (1,k) _ (A4 rfl a1 rfl (ao (aa rfl (ai (ai ⟨rfl,?_⟩)))))))));refine cA (bu ?_);show ac 51 ⟨H1,nx,[(61,.tag (1,k)),(51,.tup [])]⟩ _;refine aa rfl ⟨_,rfl,⟨rfl,rfl,?_⟩⟩;show az _ _ ⟨H1,nx,[(61,.tag (1,k)),(51,.tup []),(50,bO l),(52,bO c)]⟩ _;refine aj (aR (bv (ai (d9 (g:=3) (i:=k) C (by decide) (by decide) (aa rfl (bT (hN a1) (by decide) (bX rfl) ?_))))));refine aj (aR (bv (ai (aL (by decide) (aa rfl (eL (by decide) (bX rfl) ?_))))));have p:af (af H1 (3,k) (aI [])) (1,k) (.inst 0 (ah (ah (ah (ah (eQ k) 83 .none) 51 (.tag (7,k))) 50 (.tag (3,k))) 84 (.lst []))) (1,k)=some (.inst 0 (ah (ah (ah (ah (eQ k) 83 .none) 51 (.tag (7,k))) 50 (.tag (3,k))) 84 (.lst []))):=setH_at;have v:af (af H1 (3,k) (aI [])) (1,k) (.inst 0 (ah (ah (ah (ah (eQ k) 83 .none) 51 (.tag (7,k))) 50 (.tag (3,k))) 84 (.lst []))) (3,k)=some (aI []):=hN setH_at;have w:af (af H1 (3,k) (aI [])) (1,k) (.inst 0 (ah (ah (ah (ah (eQ k) 83 .none) 51 (.tag (7,k))) 50 (.tag (3,k))) 84 (.lst []))) (7,k)=some (.list []):=hN (hN D);have y:af (af H1 (3,k) (aI [])) (1,k) (.inst 0 (ah (ah (ah (ah (eQ k) 83 .none) 51 (.tag (7,k))) 50 (.tag (3,k))) 84 (.lst []))) (8,k)=none:=hN (hN E);have u:=key _ (key H1 z (g:=3) (o:=aI []) (by decide)) (g:=1) (o:=.inst 0 (ah (ah (ah (ah (eQ k) 83 .none) 51 (.tag (7,k))) 50 (.tag (3,k))) 84 (.lst []))) (.inl rfl);show az _ _ ⟨af (af H1 (3,k) (aI [])) (1,k) (.inst 0 (ah (ah (ah (ah (eQ k) 83 .none) 51 (.tag (7,k))) 50 (.tag (3,k))) 84 (.lst []))),nx,[(61,.tag (1,k)),(51,.tup []),(50,bO l),(52,bO c)]⟩ _;generalize af (af H1 (3,k) (aI [])) (1,k) (.inst 0 (ah (ah (ah (ah (eQ k) 83 .none) 51 (.tag (7,k))) 50 (.tag (3,k))) 84 (.lst [])))=f at p v w y u ⊢;have t:∀B:aE->AS->Prop,(∀a,(∀g i,i≠k\/(g≠1/\g≠3/\g≠7/\g≠8)->a (g,i)=H (g,i))->a (1,k)=some (.inst 0 (ah (ah (ah (ah (eQ k) 83 .none) 51 (.tag (7,k))) 50 (.tag (3,k))) 84 (.lst [])))->a (3,k)=some (aI l)->a (7,k)=some (.list [])->a (8,k)=none->B .next ⟨a,nx,[(61,.tag (1,k)),(51,.tup []),(50,bO l),(52,bO c)]⟩)->ca (c9 (ac 50)) (bK (cr 0 86 dB.1 (ac 61) [(ac 50)] [])) bn ⟨f,nx,[(61,.tag (1,k)),(51,.tup []),(50,bO l),(52,bO c)]⟩ B:=fun B h=>by
  refine aX (cw (aa rfl ⟨_,oH,?_⟩));induction l with
  |nil=>exact bU (h f u p v w y)
  |cons x l=>
   refine dF (bj (bN (aa rfl (E2 (1,k) _ (A4 rfl p rfl (ao (aa rfl (ai (ai ?_)))))))));refine jp (acc:=[]) p rfl v hl (by simpa using hn) ⟨rfl,?_⟩;exact h _ (key f u (g:=3) (by decide)) (hN p) setH_at (hN w) (hN y)
 refine aj (t _ fun a O R S T U=>?_);clear t u p v w y z a1 C D E;refine aj (aR (bv (ai (d9 (g:=8) (i:=k) U (by decide) (by decide) (aa rfl (bT (hN R) (by decide) (bX rfl) ?_))))));have s:af (af a (8,k) (aI [])) (1,k) (.inst 0 (n9 k)) (1,k)=some (.inst 0 (n9 k)):=setH_at;have F:af (af a (8,k) (aI [])) (1,k) (.inst 0 (n9 k)) (3,k)=some (aI l):=hN (hN S);have G:af (af a (8,k) (aI [])) (1,k) (.inst 0 (n9 k)) (7,k)=some (.list []):=hN (hN T);have I:af (af a (8,k) (aI [])) (1,k) (.inst 0 (n9 k)) (8,k)=some (aI []):=hN setH_at;have A:=key _ (key a O (g:=8) (o:=aI []) (by decide)) (g:=1) (o:=.inst 0 (n9 k)) (.inl rfl);show ca _ _ _ ⟨af (af a (8,k) (aI [])) (1,k) (.inst 0 (n9 k)),nx,[(61,.tag (1,k)),(51,.tup []),(50,bO l),(52,bO c)]⟩ _;generalize af (af a (8,k) (aI [])) (1,k) (.inst 0 (n9 k))=H4 at s F G I A ⊢;refine aX (cw (aa rfl ⟨_,oH,?_⟩));induction c with
 |nil=>exact bU (q H4 A s F G I)
 |cons x c=>
  refine dF (bj (bN (aa rfl (E2 (1,k) _ (A4 rfl s rfl (ao (aa rfl (ai (ai ?_)))))))));refine jq (acc:=[]) s rfl I (by simpa using Z) ⟨rfl,?_⟩;rw[uE J];exact q (af H4 (8,k) (aI (x::c))) (key H4 A (g:=8) (by decide)) (hN s) (hN F) (hN G) setH_at
end
end
section
noncomputable def es1(k:Nat):List (Nat×MV):=[(62,.str k),(69,.none),(70,.lst []),(63,.lst []),(83,.none),(51,.tag (7,k)),(50,.tag (3,k)),(84,.lst []),(52,.tag (8,k)),(68,.tag (4,k))]
noncomputable def es2(k:Nat):List (Nat×MV):=[(62,.str k),(69,.none),(70,.lst []),(63,.lst []),(83,.none),(51,.tag (7,k)),(50,.tag (3,k)),(84,.lst []),(52,.tag (8,k)),(68,.tag (4,k)),(71,.lst [])]
noncomputable def pO(k:Nat):List (Nat×MV):=[(62,.str k),(69,.none),(70,.lst []),(63,.lst []),(83,.none),(51,.tag (7,k)),(50,.tag (3,k)),(84,.lst []),(52,.tag (8,k)),(68,.tag (4,k)),(71,.lst []),(53,.lst [])]
noncomputable def sK(k:Nat):List (Nat×MV):=[(62,.str k),(69,.none),(70,.lst []),(63,.lst []),(83,.none),(51,.tag (7,k)),(50,.tag (3,k)),(84,.lst []),(52,.tag (8,k)),(68,.tag (4,k)),(71,.lst []),(53,.lst []),(64,.tag (2,k))]
noncomputable def Br(k:Nat):List (Nat×MV):=[(62,.str k),(69,.none),(70,.lst []),(63,.lst []),(83,.none),(51,.tag (7,k)),(50,.tag (3,k)),(84,.lst []),(52,.tag (8,k)),(68,.tag (4,k)),(71,.lst []),(53,.lst []),(64,.tag (2,k)),(66,.none)]
noncomputable def Bq(k:Nat):List (Nat×MV):=[(62,.str k),(69,.none),(70,.lst []),(63,.lst []),(83,.none),(51,.tag (7,k)),(50,.tag (3,k)),(84,.lst []),(52,.tag (8,k)),(68,.tag (4,k)),(71,.lst []),(53,.lst []),(64,.tag (2,k)),(66,.none),(67,.bool false)]
noncomputable def AF(k:Nat):List (Nat×MV):=[(62,.str k),(69,.none),(70,.lst []),(63,.lst []),(83,.none),(51,.tag (7,k)),(50,.tag (3,k)),(84,.lst []),(52,.tag (8,k)),(68,.tag (4,k)),(71,.lst []),(53,.lst []),(64,.tag (2,k)),(66,.none),(67,.bool false),(72,.none)]
noncomputable def Bp(k:Nat):List (Nat×MV):=[(62,.str k),(69,.none),(70,.lst []),(63,.lst []),(83,.none),(51,.tag (7,k)),(50,.tag (3,k)),(84,.lst []),(52,.tag (8,k)),(68,.tag (4,k)),(71,.lst []),(53,.lst []),(64,.tag (2,k)),(66,.none),(67,.bool false),(72,.none),(73,.tag (5,k))]
noncomputable def Bo(k:Nat):List (Nat×MV):=[(62,.str k),(69,.none),(70,.lst []),(63,.lst []),(83,.none),(51,.tag (7,k)),(50,.tag (3,k)),(84,.lst []),(52,.tag (8,k)),(68,.tag (4,k)),(71,.lst []),(53,.lst []),(64,.tag (2,k)),(66,.none),(67,.bool false),(72,.none),(73,.tag (5,k)),(74,.bool false)]
section
variable {H H':aq->Option MObj}{nx:Nat}{m:List (Nat×MV)}{k j n:Nat}{Ro:Nat->Rw}{r:Rw}{Q:MV->AS->Prop}{P:aE->AS->Prop}
theorem Bj{t:aq}(h:H t=some (.dict [])):de H (.tag t)=some false:=tN h
set_option maxHeartbeats 1000000 in
theorem r8(X:k<8)(U:H (1,k)=some (.inst 0 []))(D:∀g,2<=g->g<=8\/g=17->H (g,k)=none)(Y:∀j∈r.needs,j<8)(Z:r.needs.length<900)(W:r.calcs.length<900)(y:r.calcs.Nodup)(q:∀H',(∀g i,i≠k\/g=0\/8<g\/g=6->H' (g,i)=H (g,i))->TI H' k r->OptN H' k->Q .none ⟨H',nx,m⟩) :
  cq.1 [.tag (1,k),.str k,.lst []] [.lst [bA k],bO r.needs,bO r.calcs] ⟨H,nx,m⟩ Q:=by
 have E:∀g,2<=g->g<=8->H (g,k)=none:=fun g a b=>D g a (.inl b);refine⟨rfl,?_⟩;show az _ _ ⟨H,nx,[(61,.tag (1,k)),(62,.str k),(63,.lst []),(51,.tup []),(64,.lst [bA k]),(50,bO r.needs),(53,.tup []),(52,bO r.calcs),(65,.tup []),(66,.none),(67,.bool false),(68,.none)]⟩ _;refine aj (aP (xZ (aa rfl ⟨false,rfl,iu (g:=4) (i:=k) (E 4 (by decide) (by decide)) (by decide) ?_⟩)));refine aj (aX (qW (.inl rfl) X rfl (bU ?_)));refine aj (aR (aa rfl (aa rfl (bT (C:=0) (es:=[]) (hN U) (by decide) (by decide) ?_))));refine aj (aR (au (aa rfl (eL (C:=0) (es:=[(62,.str k)]) (by decide) (bX rfl) ?_))));refine aj (aR (cm (ao (aa rfl (ai ⟨_,rfl,.inl ⟨_,rfl,aL (by decide) ?_⟩⟩)))));refine aa rfl (eL (C:=0) (es:=[(62,.str k),(69,.none)]) (by decide) (bX rfl) ?_);refine aj (aX (aK (aa rfl (au ⟨false,A3 rfl rfl ?_⟩))));refine qa (aR (cm (ao ?_)));refine nN (v:=.lst []) rfl (by decide) (ai ⟨_,rfl,.inl ⟨_,rfl,aL (by decide) ?_⟩⟩) fun A V=>aa rfl V;refine aa rfl (eL (C:=0) (es:=[(62,.str k),(69,.none),(70,.lst [])]) (by decide) (bX rfl) ?_);have a1:af (af H (4,k) (.dict [])) (1,k) (.inst 0 (eQ k)) (1,k)=some (.inst 0 (eQ k)):=setH_at;have J:af (af H (4,k) (.dict [])) (1,k) (.inst 0 (eQ k)) (4,k)=some (.dict []):=hN setH_at;have x:∀g,2<=g->g<=8->g≠4->af (af H (4,k) (.dict [])) (1,k) (.inst 0 (eQ k)) (g,k)=none:=fun g a b c=>(ae (aV (Zn a))).trans ((ae (aV c)).trans (E g a b));have K:∀g i,i≠k\/(g≠1/\g≠4)->af (af H (4,k) (.dict [])) (1,k) (.inst 0 (eQ k)) (g,i)=H (g,i):=fun g i h=>by
  have ne:∀o,o=1\/o=4->((g,i):Nat×Nat)≠(o,k):=fun o h' e=>by
   cases e;rcases h with h|h;·exact h rfl
   ·exact h'.elim (fun s=>(h.1 s)) fun s=>(h.2 s)
  rw[ae (ne 1 (.inl rfl)),ae (ne 4 (.inr rfl))]
 show az _ _ ⟨af (af H (4,k) (.dict [])) (1,k) (.inst 0 (eQ k)),nx,[(61,.tag (1,k)),(62,.str k),(63,.lst []),(51,.tup []),(64,.lst [bA k]),(50,bO r.needs),(53,.tup []),(52,bO r.calcs),(65,.tup []),(66,.none),(67,.bool false),(68,.tag (4,k))]⟩ _;refine aj (bj (bN (aa rfl (E2 (1,k) _ (A4 rfl a1 rfl (ao (aa rfl (ao (aa rfl (ao (aa rfl (ai (ai ?_)))))))))))));refine rZ (l:=r.needs) (c:=r.calcs) a1 (x 3 (by decide) (by decide) (by decide)) (x 7 (by decide) (by decide) (by decide)) (x 8 (by decide) (by decide) (by decide)) Y Z W y fun p k2 L N S T=>⟨rfl,?_⟩
 have O:p (4,k)=some (.dict []):=(k2 4 k (.inr (by decide))).trans J;have M:p (2,k)=none:=(k2 2 k (.inr (by decide))).trans (x 2 (by decide) (by decide) (by decide));have R:p (5,k)=none:=(k2 5 k (.inr (by decide))).trans (x 5 (by decide) (by decide) (by decide));have kk:∀g i,i≠k\/g=0\/8<g\/g=6->p (g,i)=H (g,i):=fun g i h=>(k2 g i (h.imp id fun h=>h.elim (fun h=>h▸by decide) fun h=>h.elim (fun h=>A4 (Zn (Zs (by decide) h)) (Zn (Zs (by decide) h)) (Zn (Zs (by decide) h)) (Zn h)) fun h=>h▸by decide)).trans (K g i (h.imp id fun h=>⟨(h.elim (fun f=>(Zh (av 0 0 1 1 (Zd f) rfl))) fun f=>(f.elim (fun d=>(Zn (av 9 0 2 0 d rfl))) fun d=>(Zn (av 6 0 2 0 (Zd d.symm) rfl)))),(h.elim (fun f=>(Zh (av 0 0 1 4 (Zd f) rfl))) fun f=>(f.elim (fun d=>(Zn (av 9 0 5 0 d rfl))) fun d=>(Zn (Zv (Zd d.symm)))))⟩));refine aj (aP (jb (cw (aa rfl ⟨false,rfl,bv (ai (aL (by decide) ?_))⟩))));show az _ _ ⟨p,nx,[(61,.tag (1,k)),(62,.str k),(63,.lst []),(51,.tup []),(64,.lst [bA k]),(50,bO r.needs),(53,.lst []),(52,bO r.calcs),(65,.tup []),(66,.none),(67,.bool false),(68,.tag (4,k))]⟩ _;refine aj (aR (aa rfl (aa rfl (bT L (by decide) (bX rfl) ?_))));refine aj (aX (cw (aH (t:=(1,k)) (es:=es1 k) rfl setH_at (by decide) rfl rfl ⟨false,?_,bU ?_⟩)));·exact Bj (H:=af p (1,k) (.inst 0 (es1 k))) (hN O)
 refine aj (aR (bv (ai (aL (by decide) (aa rfl (eL (t:=(1,k)) (es:=es1 k) (by decide) (bX rfl) ?_))))));refine aj (aR (bN (aa rfl (E2 (1,k) (es2 k) (A4 rfl setH_at rfl (ao (aa rfl (ai (ai (nY ?_))))))))));refine aa rfl (eL (t:=(1,k)) (es:=es2 k) (by decide) (bX rfl) ?_);show az _ _ ⟨af p (1,k) (.inst 0 (pO k)),nx,_⟩ _;refine aj (aR (bN (aa rfl (E2 (1,k) (pO k) (A4 rfl setH_at rfl (ao (aa rfl (ai (ai (oT (hN M) ?_))))))))));refine aa rfl (bT (t:=(1,k)) (C:=0) (es:=pO k) (hN setH_at) (by decide) (bX rfl) ?_);have z:af (af (af p (1,k) (.inst 0 (pO k))) (2,k) (.list [bA k])) (1,k) (.inst 0 (sK k)) (1,k)=some (.inst 0 (sK k)):=setH_at;have B:af (af (af p (1,k) (.inst 0 (pO k))) (2,k) (.list [bA k])) (1,k) (.inst 0 (sK k)) (2,k)=some (.list [bA k]):=hN setH_at;have u:∀g i,i≠k\/(g≠1/\g≠2)->af (af (af p (1,k) (.inst 0 (pO k))) (2,k) (.list [bA k])) (1,k) (.inst 0 (sK k)) (g,i)=p (g,i):=fun g i h=>by
  have ne:∀o,o=1\/o=2->((g,i):Nat×Nat)≠(o,k):=fun o h' e=>by
   cases e;rcases h with h|h;·exact h rfl
   ·exact h'.elim (fun s=>(h.1 s)) fun s=>(h.2 s)
  rw[ae (ne 1 (.inl rfl)),ae (ne 2 (.inr rfl)),ae (ne 1 (.inl rfl))]
 show az _ _ ⟨af (af (af p (1,k) (.inst 0 (pO k))) (2,k) (.list [bA k])) (1,k) (.inst 0 (sK k)),nx,[(61,.tag (1,k)),(62,.str k),(63,.lst []),(51,.tup []),(64,.lst [bA k]),(50,bO r.needs),(53,.lst []),(52,bO r.calcs),(65,.tup []),(66,.none),(67,.bool false),(68,.tag (4,k))]⟩ _;generalize af (af (af p (1,k) (.inst 0 (pO k))) (2,k) (.list [bA k])) (1,k) (.inst 0 (sK k))=H3 at z B u ⊢;refine aj (aR (aa rfl (aa rfl (bT (t:=(1,k)) z (by decide) (bX rfl) ?_))));refine aj (aR (aa rfl (aa rfl (eL (t:=(1,k)) (es:=Br k) (by decide) (bX rfl) ?_))));refine aj (aR (au (aa rfl (eL (t:=(1,k)) (es:=Bq k) (by decide) (bX rfl) ?_))));refine aj (aR (iu (g:=5) (i:=k) (hN ((u 5 k (.inr (by decide))).trans R)) (by decide) (aa rfl (bT (t:=(1,k)) (C:=0) (es:=AF k) (hN setH_at) (by decide) (bX rfl) ?_))));refine aR (au (aa rfl (eL (t:=(1,k)) (es:=Bp k) (by decide) (bX rfl) ?_)));show Q .none ⟨af (af (af H3 (1,k) (.inst 0 (AF k))) (5,k) (.dict [])) (1,k) (.inst 0 (Bo k)),nx,m⟩;have w:∀{F G I:MObj}(g i:Nat),i≠k\/(g≠1/\g≠5)->af (af (af H3 (1,k) F) (5,k) G) (1,k) I (g,i)=H3 (g,i):=fun{F G I} g i h=>by
  have ne:∀o,o=1\/o=5->((g,i):Nat×Nat)≠(o,k):=fun o h' e=>by
   cases e;rcases h with h|h;·exact h rfl
   ·exact h'.elim (fun s=>(h.1 s)) fun s=>(h.2 s)
  rw[ae (ne 1 (.inl rfl)),ae (ne 5 (.inr rfl)),ae (ne 1 (.inl rfl))]
 refine q _ (fun g i h=>(w g i (h.imp id fun h=>⟨(h.elim (fun f=>(Zh (av 0 0 1 1 (Zd f) rfl))) fun f=>(f.elim (fun d=>(Zn (av 9 0 2 0 d rfl))) fun d=>(Zn (av 6 0 2 0 (Zd d.symm) rfl)))),(h.elim (fun f=>(Zh (av 0 0 1 5 (Zd f) rfl))) fun f=>(f.elim (fun d=>(Zn (av 9 0 6 0 d rfl))) fun d=>(Zn (Zd d.symm))))⟩)).trans ((u g i (h.imp id fun h=>⟨(h.elim (fun f=>(Zh (av 0 0 1 1 (Zd f) rfl))) fun f=>(f.elim (fun d=>(Zn (av 9 0 2 0 d rfl))) fun d=>(Zn (av 6 0 2 0 (Zd d.symm) rfl)))),(h.elim (fun f=>(Zh (av 0 0 1 2 (Zd f) rfl))) fun f=>(f.elim (fun d=>(Zn (av 9 0 3 0 d rfl))) fun d=>(Zn (av 6 0 3 0 (Zd d.symm) rfl))))⟩)).trans (kk g i h))) ⟨⟨_,setH_at,bX rfl,rfl,rfl,rfl,rfl,rfl,rfl,rfl,rfl,rfl,rfl,rfl,rfl⟩,(w 2 k (.inr (by decide))).trans B,(w 3 k (.inr (by decide))).trans ((u 3 k (.inr (by decide))).trans N),(w 7 k (.inr (by decide))).trans ((u 7 k (.inr (by decide))).trans S),(w 8 k (.inr (by decide))).trans ((u 8 k (.inr (by decide))).trans T),(w 17 k (.inr (by decide))).trans ((u 17 k (.inr (by decide))).trans ((kk 17 k (.inr (by decide))).trans (D 17 (by decide) (.inr rfl))))⟩ ⟨_,A3 setH_at (bX rfl) rfl⟩
end
end
section
noncomputable def cz(k:Nat):MV:=.tag (1,k)
section
variable {H H':aq->Option MObj}{nx:Nat}{m:List (Nat×MV)}{k j n:Nat}{Ro:Nat->Rw}{r:Rw}{Q:MV->AS->Prop}{P:aE->AS->Prop}
theorem OptN.keep(x:OptN H k)(h:H' (1,k)=H (1,k)):OptN H' k:=by
 refine ar x ?_;intro es a b;exact⟨es,h.trans a,b⟩
theorem yv(o:RowsOK n Ro){it:Nat}(hit:it<nx):∀(l acc:List Nat)(w:aq->Option MObj)(c:List (Nat×MV)),c.lookup 199=some (bH n Ro)->c.lookup 105=some (.tag (0,it))->w (0,it)=some (.list (acc.map cz))->(∀j∈l,j<n)->l.Nodup->(∀j∈l,j∉acc)->(∀j∈acc,TI w j (Ro j)/\OptN w j)->(∀j∈l,∀g,1<=g->g<=8\/g=17->w (g,j)=none)->acc.length+l.length<900->(∀H' U,(∀y,y≠191->y≠192->U.lookup y=c.lookup y)->H' (0,it)=some (.list ((acc++l).map cz))->(∀g i,(g=0/\i≠it)\/8<g\/g=6->H' (g,i)=w (g,i))->(∀j∈acc++l,TI H' j (Ro j)/\OptN H' j)->P .next ⟨H',nx,U⟩)->∀(g:(aq->Option MObj)->Prop),(∀H,g H)->
  dq g (ba 191) (az (cJ 192 (eR [] (dH (bG (bG (ac 199) (ac 191)) (ax (.int 0)))) (ba 194) fN (bG (ax (.lst dE)) (ac 194)))) (bK (b9 1 cE (ac 105) [(db (o9 0 cq.1) [(bG (ax (.lst dE)) (ac 191)),(dJ [])] [(dJ [(qE jJ (ax (.str 46)) (bG (ax (.lst dE)) (ac 191)))]),(ac 192),(eR [] (dH (bG (bG (ac 199) (ac 191)) (ax (.int 1)))) (ba 194) fN (bG (ax (.lst dE)) (ac 194)))])]))) (l.map aw) ⟨w,nx,c⟩ P:=by
 intro l;induction l with
 |nil=>
  intro acc w c J I C Y hn hd T W s q g p;refine⟨p _,q w c (fun _ _ _=>rfl) ?_ (fun _ _ _=>rfl) ?_⟩;·rw[List.append_nil];exact C
  ·rw[List.append_nil];exact T
 |cons k l ih=>
  intro acc w c J I C Y hn hd T W s q g p;obtain⟨R,Z⟩:=List.nodup_cons.mp hn;have K:=Y k Ze;have M:=o.n;simp only[List.length_cons] at s;have b:∀j∈(Ro k).needs,j<7:=fun j N=>by have:=(o.needs k j N).1;exact bR 2 0 0 7 1 7 (bR 1 0 1 0 2 0 this K rfl) M rfl
  have f:∀j∈(Ro k).calcs,j<7:=fun j N=>by have:=(o.calcs k j N).1;exact bR 2 0 0 7 1 7 (bR 1 0 1 0 2 0 this K rfl) M rfl
  refine bM (o.nn k) fun u1 u2 _=>?_;have l1:(Ro k).needs.length<=7:=aN u1 b;have l2:(Ro k).calcs.length<=7:=aN u2 f;have fk:=W k Ze;refine⟨p _,?_⟩;have F:(ah c 191 (aw k)).lookup 199=some (bH n Ro):=(aJ (by decide)).trans J;refine aj (aP (im (l:=(Ro k).needs) (fun A C=>mV (a:=0) (v:=bf (Ro k).needs) F bq K rfl C) b (av 0 7 1 60 l1 rfl) ?_));have z:(ah (ah c 191 (aw k)) 192 (bO (Ro k).needs)).lookup 199=some (bH n Ro):=(aJ (by decide)).trans F;have x:(ah (ah c 191 (aw k)) 192 (bO (Ro k).needs)).lookup 105=some (.tag (0,it)):=(aJ (by decide)).trans ((aJ (by decide)).trans I);have d:(ah (ah c 191 (aw k)) 192 (bO (Ro k).needs)).lookup 191=some (aw k):=(aJ (by decide)).trans bq;have G:(ah (ah c 191 (aw k)) 192 (bO (Ro k).needs)).lookup 192=some (bO (Ro k).needs):=bq;have bL:∀y,y≠191->y≠192->(ah (ah c 191 (aw k)) 192 (bO (Ro k).needs)).lookup y=c.lookup y:=fun y u B=>(aJ B).trans (aJ u);show bK _ ⟨w,nx,ah (ah c 191 (aw k)) 192 (bO (Ro k).needs)⟩ _;generalize ah (ah c 191 (aw k)) 192 (bO (Ro k).needs)=m2 at z x d G bL ⊢;refine bj (bS (aa x ⟨kl C,ao (cD ?_)⟩));refine ao (j8 (Zk K M) d (ao (bv (ai (aL (by decide) (ai ?_))))));refine ao (bv (ao (uY (j:=k) (Zk K M) (fun A C=>j8 (Zk K M) d C) (ai (aL (bX rfl) ?_)))));refine ao (aa G (ao (im (l:=(Ro k).calcs) (fun A C=>mV (a:=1) (v:=bf (Ro k).calcs) z d K rfl C) f (av 0 7 1 60 l2 rfl) (ai ?_))));refine⟨(1,k),⟨fk 1 (by decide) (by decide),.inl (by show(1:Nat)≠0;decide)⟩,?_⟩;have en:cf nx (1,k)=nx:=if_neg (by show(1:Nat)≠0;decide);dsimp only;refine r8 (k:=k) (r:=Ro k) (bR 1 0 0 7 1 8 K M rfl) setH_at (fun g u B=>(ae (aV (Zn u))).trans (fk g (Zv u) B)) (fun j N=>by have:=b j N;exact av 1 7 1 8 this rfl) (av 0 7 1 900 l1 rfl) (av 0 7 1 900 l2 rfl) u2 fun H2 k2 t2 o2=>⟨rfl,?_⟩
  have t:∀g i,i≠k\/g=0\/8<g\/g=6->H2 (g,i)=w (g,i):=fun g i p=>(k2 g i p).trans (ae fun e=>by
   cases e;rcases p with p|p;·exact p rfl
   ·exact p.elim (fun L=>(ZA _ (Zd L))) fun L=>(L.elim (fun z3=>(y9 (a:=0) 9 1 z3 rfl)) fun z3=>(y9 (a:=0) 6 1 (Zd z3.symm) rfl)))
  have V:H2 (0,it)=some (.list (acc.map cz)):=(t 0 it (.inr (.inl rfl))).trans C;refine ai (ds V (by simp;exact NB s rfl) ⟨rfl,?_⟩);have et:acc.map cz++[MV.tag (1,k)]=(acc++[k]).map cz:=by rw[List.map_append];rfl
  refine et▸?_;refine ih (acc++[k]) _ _ z x setH_at (fun i D=>Y i (Zc _ D)) Z (fun i D=>?_) (fun i D=>?_) (fun i D g u B=>?_) (by rw[List.length_append];show acc.length+1+_<_;exact NA s) (fun H' U hm O X S=>?_) g p
  ·rw[List.mem_append,List.mem_singleton];rintro (h|h);·exact hd i (Zc _ D) h
   ·obtain rfl:=h.symm;exact R D
  ·rcases List.mem_append.mp D with h|h
   ·have E:i≠k:=fun e=>hd k Ze (e▸h);exact⟨(T i h).1.keep fun g a _=>(ae (aV (Zn a))).trans (t g i (.inl E)),(T i h).2.keep ((ae (aV (by decide))).trans (t 1 i (.inl E)))⟩
   ·rw[List.mem_singleton] at h;obtain rfl:=h.symm;exact⟨t2.keep fun g a _=>ae (aV (Zn a)),o2.keep (ae (aV (by decide)))⟩
  ·have E:i≠k:=fun e=>R (e▸D);exact(ae (aV (Zn u))).trans ((t g i (.inl E)).trans (W i (Zc _ D) g u B))
  ·refine q H' U (fun y u B=>(hm y u B).trans (bL y u B)) ?_ (fun g i p=>?_) ?_;·rw[List.append_assoc] at O;exact O
   ·refine(X g i p)▸?_;rcases p with⟨u,B⟩|h
    ·subst u;exact(ae (dh B)).trans (t 0 i (.inr (.inl rfl)))
    ·exact(ae (aV (h.elim (fun L=>(Zn (av 9 0 1 0 L rfl))) fun L=>(Zn (av 6 0 1 0 (Zd L.symm) rfl))))).trans (t g i (.inr (.inr h)))
   ·rw[List.append_assoc] at S;exact S
end
end
section
structure TCtx(n:Nat)(Ro:Nat->Rw)(od:List Nat)(H:aq->Option MObj):Prop where
 ta:∀j,j<n->TI H j (Ro j)
 lt:∀j∈od,j<n
 all:∀j,j<n->j∈od
 nd:od.Nodup
noncomputable def eg(l:List Nat):List (Nat×MV):=l.map fun j=>(j,cz j)
noncomputable def fq(v:MV):List (Nat×MV):=[(105,.tag (21,1)),(64,.tag (21,2)),(106,.tag (21,3)),(107,v)]
theorem iy{l:List Nat}{k:Nat}:(eg l).lookup k=if k∈l then some (cz k) else none:=by
 delta eg;induction l with
 |nil=>rfl
 |cons a l b=>
  rw[List.map_cons,List.lookup_cons];by_cases h:k=a;·subst h;simp
  ·refine(beq_eq_false_iff_ne.mpr h)▸b▸?_;simp[h]
theorem ye{l:List Nat}{k:Nat}(h:k∉l):ah (eg l) k (cz k)=eg (l++[k]):=by
 delta ah eg;rw[if_neg];·simp
 ·simp only[List.any_map,List.any_eq_true,Function.comp,beq_iff_eq,not_exists,not_and];intro x a e;exact h (e▸a)
noncomputable def jS(l:List Nat):List (Nat×MV):=l.map fun j=>(8+j,.str j)
theorem pX{l:List Nat}{k:Nat}:(jS l).lookup (8+k)=if k∈l then some (.str k) else none:=by
 delta jS;induction l with
 |nil=>rfl
 |cons a l b=>
  rw[List.map_cons,List.lookup_cons];by_cases h:k=a;·subst h;simp
  ·rw[beq_eq_false_iff_ne.mpr (by omega),b];simp[h]
theorem yg{l:List Nat}{k:Nat}(h:k∉l):ah (jS l) (8+k) (.str k)=jS (l++[k]):=by
 delta ah jS;rw[if_neg];·simp
 ·simp only[List.any_map,List.any_eq_true,Function.comp,beq_iff_eq,not_exists,not_and];intro x a e;have:x=k:=Nat.le_antisymm (gq (Zd e)) (gq (Zd e.symm));exact h (this▸a)
section
variable {H H':aq->Option MObj}{nx:Nat}{m:List (Nat×MV)}{k j n:Nat}{Ro:Nat->Rw}{od:List Nat}{Q:MV->AS->Prop}{P:aE->AS->Prop}
theorem TCtx.keep(x:TCtx n Ro od H)(h:∀g i,g≠21->H' (g,i)=H (g,i)):TCtx n Ro od H':=⟨fun j d=>(x.ta j d).keep fun g a b=>h g j (b.elim (fun c=>(Zh (av 0 8 1 21 c rfl))) fun c=>(Zh (av 0 17 1 21 (Zd c) rfl))),x.lt,x.all,x.nd⟩
theorem lP{s:Type}{x:Nat}{f:s->MV}{body:MS}{g:(aq->Option MObj)->Prop}{m0:List (Nat×MV)}(vs:List Nat)(v:x∈vs)(p:g H)(l:List s):∀(c:List (Nat×MV)),(∀y,y∉vs->c.lookup y=m0.lookup y)->(∀a∈l,∀h:List (Nat×MV),(∀y,y∉vs->h.lookup y=m0.lookup y)->h.lookup x=some (f a)->∀P:aE->AS->Prop,(∀b:List (Nat×MV),(∀y,y∉vs->b.lookup y=m0.lookup y)->P .next ⟨H,nx,b⟩)->body ⟨H,nx,h⟩ P)->(∀b:List (Nat×MV),(∀y,y∉vs->b.lookup y=m0.lookup y)->P .next ⟨H,nx,b⟩)->dq g (ba x) body (l.map f) ⟨H,nx,c⟩ P:=by
 induction l with
 |nil=>
  intro c d _ q;exact⟨p,q c d⟩
 |cons a l w=>
  intro c d o q;refine⟨p,?_⟩;refine o a Ze (ah c x (f a)) (fun y r=>?_) (by rw[aG,if_pos rfl]) _ fun b t=>?_;·rw[aG,if_neg fun(e:y=x)=>r (e▸v)];exact d y r
  ·exact w b t (fun i u=>o i (Zc _ u)) q
theorem qf{f:ap}{b:AS}{Q:List MV->((aq->Option MObj)->Prop)->AS->Prop}(h:f b fun v a=>∃t es c,v=.view false t/\a.H t=some (.dict es c)/\∀o,Q (es.map (·.2)) (fun H=>H t=some (.dict es (some o))) { a with H:=af a.H t (.dict es (some o)) }):sR f b Q:=h
theorem w7{C n:Nat}{g:List MV->List MV->ap}{a:ap}{fs:List ap}{d:AS}{P:MV->AS->Prop}(h:a d fun x b=>∃t es,x=.tag t/\b.H t=some (.inst C es)/\es.lookup n=none/\bV fs b fun xs c=>g xs [] c P):sV C n g a fs d P:=h
theorem wu(t:TCtx n Ro od H):∀(l acc:List Nat)(b:aq->Option MObj)(e:List (Nat×MV))(p:Option Obj),e.lookup 61=some (.tag (21,0))->b (21,0)=some (.inst 1 (fq .none))->b (21,1)=some (.dict (eg acc) p)->b (21,3)=some (.list (acc.map .str))->(∀g i,g≠21->b (g,i)=H (g,i))->b (21,2)=some (.dict [])->(∀j∈l,j<n/\j∉acc)->l.Nodup->acc.length+l.length<900->(∀H' z,(∀y,y≠42->z.lookup y=e.lookup y)->H' (21,0)=some (.inst 1 (fq .none))->(∃p,H' (21,1)=some (.dict (eg (acc++l)) p))->H' (21,3)=some (.list ((acc++l).map .str))->(∀g i,g≠21->H' (g,i)=H (g,i))->H' (21,2)=some (.dict [])->P .next ⟨H',nx,z⟩)->∀(g:(aq->Option MObj)->Prop),(∀H,g H)->
  dq g (ba 42) (az (ca (kI (c9 (cC (ve 0) [(ac 42),ie (.ref (iV 0))]))) mW bn) (az (ca (bh ko (aB (ac 42) 62) (aB (ac 61) 105)) mW bn) (az (hZ (aB (ac 61) 105) (aB (ac 42) 62) (ac 42)) (bK (b9 1 cE (aB (ac 61) 106) [(aB (ac 42) 62)]))))) (l.map cz) ⟨b,nx,e⟩ P:=by
 intro l;induction l with
 |nil=>
  intro acc b e p r h0 u v w B x J a q g f;refine⟨f _,q b e (fun _ _=>rfl) h0 ⟨p,?_⟩ ?_ w B⟩;·rw[List.append_nil];exact u
  ·rw[List.append_nil];exact v
 |cons k l U=>
  intro acc b e p r h0 u v w B x J a q g f;obtain⟨E,F⟩:=(List.nodup_cons.mp J)
  obtain⟨D,s⟩:=(x k Ze)
  simp only[List.length_cons] at a;have d:(ah e 42 (cz k)).lookup 61=some (.tag (21,0)):=by rw[aG,if_neg (by decide)];exact r
  have c:(ah e 42 (cz k)).lookup 42=some (.tag (1,k)):=by rw[aG,if_pos rfl];rfl
  refine eW (((t.ta k D).obj)) fun es O V o _=>?_;have A:b (1,k)=some (.inst 0 es):=(w 1 k (by decide)).trans O;refine⟨f _,?_⟩;show az _ _ ⟨b,nx,ah e 42 (cz k)⟩ _;refine aj (aX (lH (cw (cm (ao (aa c (ao ?_)))))));refine tM (ai ?_);refine⟨(1,k),es,rfl,A,true,rfl,bU ?_⟩;refine aj (aX (aK (aH c A (by decide) o rfl (aH d h0 (by decide) rfl rfl ⟨false,?_,bU ?_⟩))));·rw[gG u,iy,if_neg s];rfl
  refine aj (iM (aa c (aH d h0 (by decide) rfl rfl (aH c A (by decide) o rfl (.inr (E4 (21,1) (eg acc) p k (A5 rfl rfl u (by unfold eg;rw[List.length_map];exact(NB a rfl)) ?_)))))));have R:ah (eg acc) k (.tag (1,k))=eg (acc++[k]):=ye s;refine R▸?_;refine bj (bS (aH (t:=(21,0)) d ((ae jd).trans h0) (by decide) rfl rfl ⟨kN ((ae jd).trans v),ao ?_⟩));refine aH c ((ae gd).trans A) (by decide) o rfl (ai (ds ((ae jd).trans v) (by simp;exact(NB a rfl)) ⟨rfl,?_⟩));have S:acc.map MV.str++[MV.str k]=(acc++[k]).map .str:=by rw[List.map_append];rfl
  refine S▸?_;refine U (acc++[k]) _ _ none d ?_ ?_ setH_at (fun g i f=>?_) ?_ (fun i C=>⟨(x i (Zc _ C)).1,?_⟩) F (by simp;exact NA a) (fun H' z T L G I N M=>?_) g f;·exact(ae jd).trans ((ae jd).trans h0)
  ·exact(ae jd).trans setH_at
  ·exact(ae (aV f)).trans ((ae (aV f)).trans (w g i f))
  ·exact(ae jd).trans ((ae jd).trans B)
  ·rw[List.mem_append,List.mem_singleton];rintro (h|h);·exact(x i (Zc _ C)).2 h
   ·obtain rfl:=h.symm;exact E C
  ·rw[List.append_assoc] at G I;exact q H' z (fun y K=>(T y K).trans (by rw[aG,if_neg K])) L G I N M
theorem pI{u:Option Obj}{v:MV}(o:RowsOK n Ro)(t:TCtx n Ro od H)(h0:H (21,0)=some (.inst 1 (fq v)))(w:H (21,1)=some (.dict (eg od) u))(q:∀H',(∀a,a≠(21,1)->H' a=H a)->(∃u,H' (21,1)=some (.dict (eg od) u))->Q .none ⟨H',nx,m⟩):fi.1 [.tag (21,0)] [] ⟨H,nx,m⟩ Q:=by
 refine⟨rfl,?_⟩;refine cA (qf (bS ?_));show aB (ac 61) 105 ⟨H,nx,[(61,.tag (21,0))]⟩ _;refine aH rfl h0 (by decide) rfl rfl ⟨kN w,ai ⟨(21,1),E2 _ _ ⟨rfl,w,(21,1),_,_,rfl,w,fun e=>?_⟩⟩⟩;have M:(eg od).map (·.2)=od.map cz:=by unfold eg;refine List.map_map.symm▸?_;rfl
 refine M▸?_;have k0:∀a,a≠(21,1)->af H (21,1) (.dict (eg od) (some e)) a=H a:=fun a S=>ae S;have a:=t.keep (H':=af H (21,1) (.dict (eg od) (some e))) fun g i N=>k0 _ (aV N);have c:af H (21,1) (.dict (eg od) (some e)) (21,0)=some (.inst 1 (fq v)):=(k0 _ jd).trans h0;have b:af H (21,1) (.dict (eg od) (some e)) (21,1)=some (.dict (eg od) (some e)):=setH_at;have F:=q _ k0 ⟨_,b⟩;revert a c b F;generalize af H (21,1) (.dict (eg od) (some e))=H2;intro a c b F;refine lP (H:=H2) (m0:=[(61,.tag (21,0))]) (f:=cz) (x:=42) [42,97,115] (by decide) b od _ (fun _ _=>rfl) (fun k O T k2 K U R=>?_) fun Y X=>F;have d:=a.lt k O;refine mK ((a.ta k d).obj) fun es G W L r _ _ s _=>?_;have I:=(a.ta k d).td;have B:∀j,j<n->gy H2 (.str j) (.tag (21,1))=some true:=fun j z=>by rw[gG b,iy,if_pos (a.all j z)];rfl
 refine aj (cA (bu (aH K G (by decide) r rfl ⟨_,ay I,?_⟩)));refine lP (H:=H2) (m0:=T) (f:=MV.str) (x:=97) [97] (by decide) (ay I) (Ro k).needs _ (fun _ _=>rfl) (fun j z p l E V A=>?_) fun p l=>?_
 ·have D:p.lookup 61=some (.tag (21,0)):=(l 61 (by decide)).trans (k2 61 (by decide));refine aX (aK (aa E (aH D c (by decide) rfl rfl ⟨true,B j (Zs (o.needs k j z).1 d),bU (A p l)⟩)))
 have C:p.lookup 42=some (.tag (1,k)):=(l 42 (by decide)).trans K;refine cA (bu (aH C G (by decide) s rfl ⟨_,rfl,?_⟩));exact⟨rfl,R p fun y J=>(l y fun h=>J (by rw[List.mem_singleton] at h;rw[h];decide)).trans (k2 y J)⟩
theorem yf(t:TCtx n Ro od H):∀(l acc:List Nat)(b:aq->Option MObj)(d:List (Nat×MV)),d.lookup 64=some (.tag (21,2))->b (21,2)=some (.dict (jS acc))->(∀c,c≠(21,2)->b c=H c)->(∀j∈l,j<n/\j∉acc)->l.Nodup->acc.length+l.length<900->(∀H' x,(∀y,y≠42->y≠89->x.lookup y=d.lookup y)->H' (21,2)=some (.dict (jS (acc++l)))->(∀c,c≠(21,2)->H' c=H c)->P .next ⟨H',nx,x⟩)->∀(g:(aq->Option MObj)->Prop),(∀H,g H)->
  dq g (ba 42) (js (dH (aB (ac 42) 64)) (ba 89) (az (ca (bh ko (ac 89) (ac 64)) mW bn) (hZ (ac 64) (ac 89) (aB (ac 42) 62)))) (l.map cz) ⟨b,nx,d⟩ P:=by
 intro l;induction l with
 |nil=>
  intro acc b d r f s w K a q g v;exact⟨v _,q b d (fun _ _ _=>rfl) (by rw[List.append_nil];exact f) s⟩
 |cons k l T=>
  intro acc b d r f s w K a q g v;obtain⟨D,E⟩:=List.nodup_cons.mp K;obtain⟨C,u⟩:=w k Ze;simp only[List.length_cons] at a;have N:=t.ta k C;refine ff N.obj fun es R U z _ _ _ _ _ G=>?_;obtain⟨_,_,_,_,A,_⟩:=G;have M:b (1,k)=some (.inst 0 es):=(s _ gd).trans R;have F:b (2,k)=some (.list [bA k]):=(s _ gd).trans N.tg;have e:(ah d 42 (cz k)).lookup 64=some (.tag (21,2)):=(aJ (by decide)).trans r;have p:(ah d 42 (cz k)).lookup 42=some (.tag (1,k)):=bq;refine⟨v _,cA (bu (aH p M (by decide) A rfl ⟨_,ay F,?_⟩))⟩;refine⟨ay F,?_⟩;refine aj (aX (aK (aa bq (aa ((aJ (by decide)).trans e) ⟨false,?_,bU ?_⟩))))
  ·show gy b (.str (8+k)) (.tag (21,2))=_;rw[gG f,pX,if_neg u];rfl
  refine iM (aH ((aJ (by decide)).trans p) M (by decide) z rfl (aa ((aJ (by decide)).trans e) (aa bq (.inr (E4 (21,2) (jS acc) none (8+k) (A5 rfl rfl f (by unfold jS;rw[List.length_map];exact NB a rfl) ?_))))));rw[yg u];refine⟨ay ((ae (o:=.dict (jS (acc++[k]))) (gd:((2,k):Nat×Nat)≠(21,2))).trans F),?_⟩;refine T (acc++[k]) _ _ ((aJ (by decide)).trans e) setH_at (fun c L=>(ae L).trans (s c L)) (fun i B=>⟨(w i (Zc _ B)).1,?_⟩) E (by rw[List.length_append];show acc.length+1+_<_;exact NA a) (fun H' x S I O=>?_) g v
  ·rw[List.mem_append,List.mem_singleton];rintro (h|h);·exact(w i (Zc _ B)).2 h
   ·obtain rfl:=h.symm;exact D B
  ·rw[List.append_assoc] at I;exact q H' x (fun y J f=>(S y J f).trans ((aJ f).trans (aJ J))) I O
theorem sh(o:RowsOK n Ro)(t:TCtx n Ro od H)(D:H (21,2)=some (.dict []))(q:∀H',H' (21,2)=some (.dict (jS od))->(∀r,r≠(21,2)->H' r=H r)->Q .none ⟨H',nx,m⟩):eI.1 [.tag (21,2),.lst (od.map cz)] [] ⟨H,nx,m⟩ Q:=by
 have K:od.length<=n:=aN t.nd t.lt;have J:=o.n;refine⟨rfl,?_⟩;refine aj (cA (bu ?_));show ac 104 ⟨H,nx,[(64,.tag (21,2)),(104,.lst (od.map cz))]⟩ _;refine aa rfl ⟨_,rfl,?_⟩;refine yf t od [] H _ rfl D (fun _ _=>rfl) (fun j E=>⟨t.lt j E,(fun h=>nomatch h)⟩) t.nd (by simp;exact bR 0 0 0 7 1 900 K J rfl) (fun c l u z d=>?_) _ fun _=>rfl;have p:l.lookup 64=some (.tag (21,2)):=(u 64 (by decide) (by decide)).trans rfl;have a:l.lookup 104=some (.lst (od.map cz)):=(u 104 (by decide) (by decide)).trans rfl;refine cA (bu (aa a ⟨_,rfl,?_⟩));refine lP (H:=c) (m0:=l) (f:=cz) (x:=42) (g:=fun H=>b6 H (MV.lst (od.map cz))=some (od.map cz)) [42] (by decide) rfl od _ (fun _ _=>rfl) (fun k F w k2 v L G=>?_) fun N _=>q c z d;have y:=t.ta k (t.lt k F);refine rg y.obj fun es A M C B s=>?_;obtain⟨e,_⟩:=s;have I:c (1,k)=some (.inst 0 es):=(d _ gd).trans A;have b:c (7,k)=some (.list []):=(d _ gd).trans y.fd;have i:w.lookup 64=some (.tag (21,2)):=(k2 64 (by decide)).trans p;refine bj (cD (ao (aa i (ao (aa v (ao (aH v I (by decide) e rfl (ai (ai ⟨rfl,?_⟩)))))))));refine cA (bu ?_);exact aa rfl ⟨_,ay b,ay b,rfl,G w k2⟩
end
end
section
section
variable {H H':aq->Option MObj}{nx:Nat}{m:List (Nat×MV)}{k j n:Nat}{Ro:Nat->Rw}{r:Rw}{od:List Nat}{Q:MV->AS->Prop}{P:aE->AS->Prop}
theorem oX(o:RowsOK n Ro)(t:TCtx n Ro od H)(h0:H (21,0)=some (.inst 1 []))(h1:H (21,1)=none)(h2:H (21,2)=none)(h3:H (21,3)=none)(q:∀H',(∀g i,g≠21->H' (g,i)=H (g,i))->H' (21,0)=some (.inst 1 (fq .none))->(∃S,H' (21,1)=some (.dict (eg od) S))->H' (21,2)=some (.dict (jS od))->H' (21,3)=some (.list (od.map .str))->Q .none ⟨H',nx,m⟩) :
  cU.1 [.tag (21,0),.lst (od.map cz)] [] ⟨H,nx,m⟩ Q:=by
 refine⟨rfl,?_⟩;show az _ _ ⟨H,nx,[(61,.tag (21,0)),(104,.lst (od.map cz))]⟩ _;refine aj (aR (iu (g:=21) (i:=1) h1 (by decide) (aa rfl (bT (t:=(21,0)) (C:=1) (es:=[]) ((ae jd).trans h0) (by decide) (by decide) ?_))));refine aj (aR (iu (g:=21) (i:=2) ((ae jd).trans ((ae jd).trans h2)) (by decide) (aa rfl (bT (t:=(21,0)) (C:=1) (es:=[(105,.tag (21,1))]) ((ae jd).trans setH_at) (by decide) (bX rfl) ?_))));refine aj (aR (bv (ai (d9 (g:=21) (i:=3) ((ae jd).trans ((ae jd).trans ((ae jd).trans ((ae jd).trans h3)))) (by decide) (by decide) (aa rfl (bT (t:=(21,0)) (C:=1) (es:=[(105,.tag (21,1)),(64,.tag (21,2))]) ((ae jd).trans setH_at) (by decide) (bX rfl) ?_))))));refine aj (aR (au (aa rfl (eL (t:=(21,0)) (C:=1) (es:=[(105,.tag (21,1)),(64,.tag (21,2)),(106,.tag (21,3))]) (by decide) (bX rfl) ?_))));have ex:∃b:aq->Option MObj,(∀g i,g≠21->b (g,i)=H (g,i))/\b (21,0)=some (.inst 1 (fq .none))/\b (21,1)=some (.dict (eg []))/\b (21,2)=some (.dict [])/\b (21,3)=some (.list (([]:List Nat).map .str))/\
   af (af (af (af (af (af H (21,1) (.dict [])) (21,0) (.inst 1 [(105,.tag (21,1))])) (21,2) (.dict [])) (21,0) (.inst 1 [(105,.tag (21,1)),(64,.tag (21,2))])) (21,3) (.list [])) (21,0) (.inst 1 (fq .none))=b:=by
  refine⟨_,A6 ?_ ?_ ?_ ?_ ?_ rfl⟩
  ·intro g i a;rw[ae (aV a),ae (aV a),ae (aV a),ae (aV a),ae (aV a),ae (aV a)]
  ·exact setH_at
  ·rw[ae jd,ae jd,ae jd,ae jd,ae jd];exact setH_at
  ·rw[ae jd,ae jd,ae jd];exact setH_at
  ·exact(ae jd).trans (setH_at)
 refine rg ex ?_;intro b k2 Y a1 Z e;obtain⟨a3,e2⟩:=e;show az _ _ ⟨af (af (af (af (af (af H (21,1) (.dict [])) (21,0) (.inst 1 [(105,.tag (21,1))])) (21,2) (.dict [])) (21,0) (.inst 1 [(105,.tag (21,1)),(64,.tag (21,2))])) (21,3) (.list [])) (21,0) (.inst 1 (fq .none)),nx,[(61,.tag (21,0)),(104,.lst (od.map cz))]⟩ _;refine e2▸?_;have W:=t.keep (H':=b) fun g i a=>k2 g i a;have on:=o.n;have ol:od.length<=n:=aN t.nd t.lt;refine aj (cA (bu (aa rfl ⟨_,rfl,?_⟩)));refine wu W od [] b _ none rfl Y a1 a3 (fun _ _ _=>rfl) Z (fun j hj=>⟨t.lt j hj,(fun h=>nomatch h)⟩) t.nd (by simp;exact(bR 0 0 0 7 1 900 ol on rfl)) (fun w A U M l N O b2=>?_) _ fun _=>rfl;rw[List.nil_append] at l N;obtain⟨S,l⟩:=l;have t3:=W.keep (H':=w) fun g i a=>O g i a;have u:A.lookup 61=some (.tag (21,0)):=(U 61 (by decide)).trans rfl;have s:A.lookup 104=some (.lst (od.map cz)):=(U 104 (by decide)).trans rfl;refine aj (cA (qf (bS (aH u M (by decide) rfl rfl ⟨kN l,ai ⟨(21,1),E2 _ _ ⟨rfl,l,(21,1),_,_,rfl,l,fun L=>?_⟩⟩⟩))));have ev:(eg od).map (·.2)=od.map cz:=by unfold eg;rw[List.map_map];rfl
 refine ev▸?_;have K:∃c:aq->Option MObj,(∀B,B≠(21,1)->c B=w B)/\c (21,1)=some (.dict (eg od) (some L))/\af w (21,1) (.dict (eg od) (some L))=c:=⟨_,A3 (fun B ht=>ae ht) setH_at rfl⟩
 refine bz K ?_;intro c p R e4;show dq _ _ _ _ ⟨af w (21,1) (.dict (eg od) (some L)),nx,A⟩ _;refine e4▸?_;have D:=t3.keep (H':=c) fun g i a=>p (g,i) (aV a);have F:c (21,0)=some (.inst 1 (fq .none)):=(p _ jd).trans M;have d2:c (21,2)=some (.dict []):=(p _ jd).trans b2;have d3:c (21,3)=some (.list (od.map .str)):=(p _ jd).trans N;refine lP (H:=c) (m0:=A) (f:=cz) (x:=42) [42,108] (by decide) R od _ (fun _ _=>rfl) (fun k hk m2 k2 kx P1 hp=>?_) fun V T=>?_
 ·refine ff ((D.ta k (D.lt k hk)).obj) fun es e1 _ _ _ _ _ _ _ e=>?_;obtain⟨_,_,_,_,_,I⟩:=e;exact cA (bu (aH kx e1 (by decide) I rfl ⟨_,rfl,rfl,hp m2 k2⟩))
 have d:V.lookup 61=some (.tag (21,0)):=(T 61 (by decide)).trans u;have v:V.lookup 104=some (.lst (od.map cz)):=(T 104 (by decide)).trans s;refine aj (bj (bN (aa d (E2 (21,0) _ (A4 rfl F rfl (ai (ai (pI o D F R fun y k5 G=>⟨rfl,?_⟩))))))));have E:y (21,0)=some (.inst 1 (fq .none)):=(k5 _ jd).trans F;have c2:y (21,2)=some (.dict []):=(k5 _ jd).trans d2;have c3:y (21,3)=some (.list (od.map .str)):=(k5 _ jd).trans d3;have t5:=D.keep (H':=y) fun g i a=>k5 (g,i) (aV a);refine bj (w7 (aa d (E2 (21,0) _ (A4 rfl E rfl ?_))));refine ao (aH d E (by decide) rfl rfl (ao (aa v (ai (sh o t5 c2 fun X g2 z=>⟨rfl,?_⟩)))));obtain⟨J,G⟩:=G;refine q X (fun g i a=>?_) ((z _ jd).trans E) ⟨J,(z _ jd).trans G⟩ g2 ((z _ jd).trans c3);exact(z (g,i) (aV a)).trans ((k5 (g,i) (aV a)).trans ((p (g,i) (aV a)).trans ((O g i a).trans (k2 g i a))))
theorem uD{a:Nat}{v w:MV}:∀{es:List (Nat×MV)},es.lookup a=some v->(ah es a w).length=es.length:=fun{es} h=>by
 have:es.any (fun p=>p.1 == a)=true:=by
  induction es with
  |nil=>exact aQ h
  |cons p es b=>
   rw[List.any_cons];rw[List.lookup_cons] at h;by_cases e:a=p.1;·subst e;simp
   ·rw[beq_eq_false_iff_ne.mpr e] at h;rw[b h,Bool.or_true]
 delta ah;rw[if_pos this,List.length_map]
theorem oU{v:MV}(x:TI H k r)(M:OptN H k)(L:H (6,k)=none)(q:∀H',(∀d,d≠(1,k)->d≠(6,k)->H' d=H d)->TI H' k r->Q v ⟨H',nx,m⟩):gn.1 [.tag (1,k),v] [] ⟨H,nx,m⟩ Q:=by
 refine⟨rfl,?_⟩;show ca _ _ _ ⟨H,nx,[(61,.tag (1,k)),(103,v)]⟩ _;refine ff x.obj fun es f I s l o p z F G=>?_;obtain⟨D,C,E,b,u,B⟩:=G;refine bz M ?_;intro es' a _ c;replace a:=f▸a;cases a;refine aX (aK (aH rfl f (by decide) c rfl (au ⟨true,A3 rfl rfl ?_⟩)));refine aj (aR (iu (g:=6) (i:=k) L (by decide) (aa rfl (bT (t:=(1,k)) ((ae gd).trans f) (by decide) (av 1 150 1 1000 I rfl) ?_))));refine cK (aa rfl ?_);show Q v ⟨af (af H (6,k) (.dict [])) (1,k) (.inst 0 (ah es 69 (.tag (6,k)))),nx,m⟩;have A:∀{y:Nat}{w:Option MV},y≠69->es.lookup y=w->(ah es 69 (.tag (6,k))).lookup y=w:=fun h e=>(aJ h).trans e;refine q _ (fun d J K=>(ae J).trans (ae K)) ⟨⟨_,setH_at,by rw[uD c];exact I,A (by decide) s,A (by decide) l,A (by decide) o,A (by decide) p,A (by decide) z,A (by decide) F,A (by decide) D,A (by decide) C,A (by decide) E,A (by decide) b,A (by decide) u,A (by decide) B⟩,(ae gd).trans ((ae gd).trans x.tg),(ae gd).trans ((ae gd).trans x.td),(ae gd).trans ((ae gd).trans x.fd),(ae gd).trans ((ae gd).trans x.cd),(ae gd).trans ((ae gd).trans x.vals)⟩
end
end
section
structure CB(n:Nat)(Ro:Nat->Rw)(od:List Nat)(H:aq->Option MObj):Prop where
 tb:∀j,j<n->TI H j (Ro j)
 ctl:∃v,H (21,0)=some (.inst 1 (fq v))
 dic:∃eo,H (21,1)=some (.dict (eg od) eo)
 tg:∃eo,H (21,2)=some (.dict (jS od) eo)
 df:H (21,3)=some (.list (od.map .str))
 all:∀j,j<n->j∈od
def qF(H:aq->Option MObj):Prop:=∃a,H (9,0)=some (.obj (tabObj a) 339)/\TriplesOk a.toList/\codeAmong ⟨259,8,264,22⟩ a.toList=none
section
variable {H H':aq->Option MObj}{nx:Nat}{m:List (Nat×MV)}{k j n:Nat}{Ro:Nat->Rw}{od:List Nat}{Q:MV->AS->Prop}{P:aE->AS->Prop}
theorem CB.keep(x:CB n Ro od H)(h:∀g i,(1<=g/\g<=8)\/g=17\/g=21->H' (g,i)=H (g,i)):CB n Ro od H':=by
 refine⟨fun j d=>(x.tb j d).keep fun g a b=>h g j (b.elim (fun c=>(.inl ⟨(Zk (Zo _ _) a),(Zk c (bX rfl))⟩)) fun c=>(.inr (.inl (Nat.le_antisymm (gq (Zd c)) (gq (Zd c.symm)))))),?_,?_,?_,(h 21 3 (by decide)).trans x.df,x.all⟩;·obtain⟨v,e⟩:=x.ctl;exact⟨v,(h 21 0 (by decide)).trans e⟩
 ·obtain⟨v,e⟩:=x.dic;exact⟨v,(h 21 1 (by decide)).trans e⟩
 ·obtain⟨v,e⟩:=x.tg;exact⟨v,(h 21 2 (by decide)).trans e⟩
theorem Aj{t0:aq}{x:Nat}{A:Addr}{pos:Pos}{a:Addr->MS}{b:AS}{P:aE->AS->Prop}(h:∃c,b.H t0=some (.obj (tabObj c) A)/\TriplesOk c.toList/\codeAmong pos c.toList=none/\∀f d,a f ⟨af b.H t0 (.obj (tabObj (c++#[rawInt pos.line,rawInt pos.col,.ref d])) A),b.nx,ah b.m x (.raw (.ref f))⟩ P):zk t0 x A pos a b P:=h
theorem vF{y:Nat}{f:Addr}{g:List MV->ap}{fs:List ap}{a:AS}{P:MV->AS->Prop}(h:a.m.lookup y=some (.raw (.ref f))/\bV fs a fun xs b=>g xs b P):nR y f g fs a P:=h
theorem yr{fa:Addr}{iq:Nat}{iF:Nat}(E:iq≠iF):∀(l acc:List Nat)(N:Nat)(c:aq->Option MObj)(p:List (Nat×MV)),l.length<N->p.lookup 61=some (.tag (21,0))->p.lookup 122=some (.raw (.ref fa))->p.lookup 124=some (.tag (0,iF))->p.lookup 125=some (.tag (0,iq))->
  c (0,iq)=some (.list (l.map .str))->c (0,iF)=some (.list (acc.map .str))->CB n Ro od c->n<=8->(∀j∈l,j<n/\OptN c j/\c (6,j)=none)->l.Nodup->acc.length+l.length<900->
  (∀H' K,K.lookup 124=some (.tag (0,iF))->H' (0,iF)=some (.list ((acc++l).map .str))->(∀g i,(g=0/\i≠iq/\i≠iF)\/(6<g)->H' (g,i)=c (g,i))->CB n Ro od H'->P .next ⟨H',nx,K⟩)->
  g7 (c9 (ac 125)) (az (cJ 126 (b9 1 o6 (ac 125) [(ax (.int 0))])) (az (ca (bh (oA iJ) (ax (.str 45)) (ac 126)) mW (az (cJ 125 (nR 122 fa (v9 2 [125,126] [124,61] (az (bK (b9 1 cE (ac 124) [(ac 126)])) (az (ca (bh ko (ac 126) (aB (ac 61) 105)) (az (cJ 127 (bG (aB (ac 61) 105) (ac 126))) (cJ 125 (cr 0 102 gn.1 (ac 127) [(ac 125)] []))) bn) (fj (ac 125))))) [(ac 125),(ac 126)])) bn)) bn)) N ⟨c,nx,p⟩ P:=by
 intro l;induction l with
 |nil=>
  intro acc N c p hN s o d a G Z w hn hl hd f q;induction N with
  |zero=>exact absurd hN (ZA _)
  |succ N=>
   refine cw (aa a ⟨false,tN G,?_⟩);refine q c p d ?_ (fun _ _ _=>rfl) w;rw[List.append_nil];exact Z
 |cons k l ih=>
  intro acc N c p hN s o d a G Z w hn hl hd f q;obtain⟨hd1,hd2⟩:=(List.nodup_cons.mp hd)
  refine bM ((hl k Ze)) fun D F h6=>?_;simp only[List.length_cons] at f hN;cases N with
  |zero=>exact absurd hN (ZA _)
  |succ N=>
   have L:∀(y:Nat)(v:MV),y≠126->(ah p 126 v).lookup y=p.lookup y:=fun y v h=>by rw[aG,if_neg h]
   refine cw (aa a ⟨true,tN G,?_⟩);refine aj (aP (bS (aa a ⟨kN G,ao (au (ai (.inr (E4 (0,iq) _ 0 (.str k) (A5 rfl G (by decide) rfl ?_)))))⟩)));have er:((k::l).map MV.str).eraseIdx (0:Int).toNat=l.map .str:=rfl;dsimp only;refine aj (aX (qW (k:=k) (.inr rfl) (Zk D hn) (by rw[aG,if_pos rfl]) ?_));refine aj (aP (vF ⟨(L _ _ (by decide)).trans o,?_⟩));refine ao (aa ((L _ _ (by decide)).trans a) (ao (aa (by rw[aG,if_pos rfl]) (ai ⟨rfl,?_⟩))));have pk:cT [124,61] (ah p 126 (.str k))=[(124,.tag (0,iF)),(61,.tag (21,0))]:=by
    delta cT;rw[List.filterMap_cons,(L 124 (.str k) (by decide)).trans d,Option.map_some];dsimp only;rw[List.filterMap_cons,(L 61 (.str k) (by decide)).trans s,Option.map_some];rfl
   dsimp only;refine pk▸?_;show az _ _ ⟨af c (0,iq) (.list (l.map .str)),nx,[(125,.tag (0,iq)),(126,.str k),(124,.tag (0,iF)),(61,.tag (21,0))]⟩ _;have B:af c (0,iq) (.list (l.map .str)) (0,iF)=some (.list (acc.map .str)):=(ae (dh E.symm)).trans Z;refine aj (bj (bS (aa rfl ⟨kN B,ao (aa rfl (ai (ds B (by simp;exact NB f rfl) ⟨rfl,?_⟩)))⟩)));have el:acc.map MV.str++[MV.str k]=(acc++[k]).map .str:=by rw[List.map_append];rfl
   rw[el];have ex:∃r:aq->Option MObj,(∀g i,(g=0/\i≠iq/\i≠iF)\/g≠0->r (g,i)=c (g,i))/\r (0,iq)=some (.list (l.map .str))/\r (0,iF)=some (.list ((acc++[k]).map .str))/\
     af (af c (0,iq) (.list (l.map .str))) (0,iF) (.list ((acc++[k]).map .str))=r:=by
    refine⟨_,A4 (fun g i x=>?_) ?_ setH_at rfl⟩
    ·rcases x with⟨h1,X,Y⟩|h;·rw[ae (dh Y),ae (dh X)]
     ·rw[ae (aV h),ae (aV h)]
    ·exact(ae (dh E)).trans (setH_at)
   refine eW ex ?_;clear ex;intro r k2 b1 b2 V;refine V▸?_;clear V;have b:=w.keep (H':=r) fun g i x=>k2 g i (.inr (by rcases x with h|h|h<;>omega));obtain⟨v,M⟩:=b.ctl;obtain⟨eo,O⟩:=b.dic;refine aj (aX (aK (aa rfl (aH (t:=(21,0)) rfl M (by decide) rfl rfl ⟨true,by rw[gG O,iy,if_pos (w.all k D)];rfl,?_⟩))));refine aj (aP (lG (aH (t:=(21,0)) rfl M (by decide) rfl rfl (aa rfl ⟨cz k,by show jO k (r (21,1))=_;rw[O];dsimp only[jO];rw[iy,if_pos (w.all k D)],?_⟩))));refine ff ((b.tb k D).obj) fun es e1 V e62 e50 e51 e52 e70 e98 u=>?_;obtain⟨e86,e85,e87,z,_⟩:=u;refine aP (bN (aa rfl (E2 (1,k) es (A4 rfl e1 z ?_))));refine ao (aa rfl (ai (ai ?_)));refine bz F ?_;clear F;intro W o1 o0 o2;refine oU (b.tb k D) ⟨W,A3 ((k2 1 k (.inr (by decide))).trans o1) o0 o2⟩ ((k2 6 k (.inr (by decide))).trans h6) fun H3 k3 tb3=>?_;refine cK (aa rfl ?_);refine vf ?_;have U:CB n Ro od H3:=by
    refine⟨fun i J=>?_,⟨v,(k3 _ gd gd).trans M⟩,⟨eo,(k3 _ gd gd).trans O⟩,by obtain⟨v,e⟩:=b.tg;exact⟨v,(k3 _ gd gd).trans e⟩,(k3 _ gd gd).trans b.df,w.all⟩;by_cases e:i=k;·obtain rfl:=e.symm;exact tb3
    ·exact(b.tb i J).keep fun g _ _=>k3 _ (dh e) (dh e)
   refine ih (acc++[k]) N H3 _ (av 2 1 1 0 hN rfl) ?_ ?_ ?_ ?_ ((k3 _ gd gd).trans b1) ((k3 _ gd gd).trans b2) U hn (fun i J=>?_) hd2 (by simp;exact NA f) fun H' K I A kk T=>q H' K I ?_ (fun g i x=>?_) T;·rw[aG,if_neg (by decide)];exact(L _ _ (by decide)).trans s
   ·rw[aG,if_neg (by decide)];exact(L _ _ (by decide)).trans o
   ·rw[aG,if_neg (by decide)];exact(L _ _ (by decide)).trans d
   ·rw[aG,if_pos rfl];rfl
   ·refine bM ((hl i (Zc _ J))) fun R u S=>?_;refine bz u ?_;intro es' o1' o0' o2';have C:i≠k:=fun e=>hd1 (e▸J);exact A3 R ⟨es',A3 ((k3 _ (dh C) gd).trans ((k2 1 i (.inr (by decide))).trans o1')) o0' o2'⟩ ((k3 _ gd (dh C)).trans ((k2 6 i (.inr (by decide))).trans S))
   ·rw[List.append_assoc] at A;exact A
   ·refine(kk g i x)▸?_;rcases x with⟨h1,X,Y⟩|h
    ·subst h1;exact(k3 _ gd gd).trans (k2 0 i (.inl (A3 rfl X Y)))
    ·exact(k3 _ (aV (Zn (av 7 0 2 0 h rfl))) (aV (Zn h))).trans (k2 g i (.inr (Zn (av 7 0 1 0 h rfl))))
theorem nu{ch:List Nat}(A:CB n Ro od H)(s:n<=8)(t:qF H)(x:∀i,nx<=i->H (0,i)=none)(y:∀j∈ch,j<n/\OptN H j/\H (6,j)=none)(hd:ch.Nodup)(q:∀H',H' (0,nx)=some (.list (ch.map .str))->(∀g i,(g=0/\i≠nx/\i≠nx+1)\/(9<g)->H' (g,i)=H (g,i))->CB n Ro od H'->Q (.tag (0,nx)) ⟨H',nx+2,m⟩) :
  fA.1 [.tag (21,0),bO ch] [] ⟨H,nx,m⟩ Q:=by
 refine⟨rfl,?_⟩;show az _ _ ⟨H,nx,[(61,.tag (21,0)),(123,bO ch)]⟩ _;have w:ch.length<=n:=aN hd fun a F=>(y a F).1;refine aj (aP (bv (ai ?_)));refine eB (x nx (Zj _)) (by decide) ?_;refine bz t ?_;intro o p1 p2 I;refine Aj ⟨o,A4 (show af H (0,nx) (.list []) (9,0)=some (.obj (tabObj o) 339) from(ae gd).trans p1) p2 I (fun C v=>?_)⟩;show az _ _ ⟨af (af H (0,nx) (.list [])) (9,0) (.obj (tabObj (o++#[rawInt 259,rawInt 8,.ref v])) 339),nx+1,[(61,.tag (21,0)),(123,bO ch),(124,.tag (0,nx)),(122,.raw (.ref C))]⟩ _;have ex:∃e:aq->Option MObj,(∀g i,(g=0/\i≠nx)\/(g≠0/\g≠9)->e (g,i)=H (g,i))/\e (0,nx)=some (.list [])/\af (af H (0,nx) (.list [])) (9,0) (.obj (tabObj (o++#[rawInt 259,rawInt 8,.ref v])) 339)=e:=by
  refine⟨_,A3 (fun g i d=>?_) ?_ rfl⟩
  ·rcases d with⟨b,c⟩|⟨b,c⟩
   ·subst b;rw[ae gd,ae (dh c)]
   ·rw[ae (aV c),ae (aV b)]
  ·exact setH_at
 refine bz ex ?_;intro e k2 z B;refine B▸?_;have r:=A.keep (H':=e) fun g i d=>k2 g i (.inr (by rcases d with h|h|h<;>omega));refine aj (aP ?_);refine aa rfl ⟨_,_,A3 rfl rfl ?_⟩;refine eB (nx:=nx+1) ((k2 0 (nx+1) (.inl ⟨rfl,(Zn (Zj _))⟩)).trans (x _ (Zz _))) (by rw[List.length_map];exact bR 0 0 0 8 0 100000 w s rfl) ?_;refine aj (lm (ch.length+1) ?_);refine yr (n:=n) (Ro:=Ro) (od:=od) (iq:=nx+1) (iF:=nx) (Zn (Zj _)) ch [] _ _ _ (Zr _) rfl rfl rfl rfl setH_at ((ae (dh (Zh (Zj _)))).trans z) (r.keep fun g i d=>ae (aV (by rcases d with h|h|h<;>omega))) s (fun j G=>?_) hd (by simp;exact bR 0 0 0 8 1 900 w s rfl) fun H' J l E kk p=>?_
 ·refine bM ((y j G)) fun b u D=>?_;refine bz u ?_;intro es c h0 f;have kk:∀g i,g≠0->af e (0,nx+1) (.list (ch.map .str)) (g,i)=e (g,i):=fun g i h=>ae (aV h);exact A3 b ⟨es,A3 ((kk 1 j (by decide)).trans ((k2 1 j (.inr ⟨by decide,by decide⟩)).trans c)) h0 f⟩ ((kk 6 j (by decide)).trans ((k2 6 j (.inr ⟨by decide,by decide⟩)).trans D))
 refine aj (cK (aa l ?_));refine q H' E (fun g i d=>?_) p;refine(kk g i (by rcases d with⟨b,c,f⟩|h;exact .inl (A3 b f c);exact .inr (av 10 0 7 0 h rfl)))▸?_;rcases d with⟨b,c,f⟩|h
 ·subst b;exact(ae (dh f)).trans (k2 0 i (.inl ⟨rfl,c⟩))
 ·exact(ae (aV (Zn (av 10 0 1 0 h rfl)))).trans (k2 g i (.inr ⟨(Zn (av 10 0 1 0 h rfl)),(Zn h)⟩))
end
end
section
section
variable {H H':aq->Option MObj}{nx:Nat}{m:List (Nat×MV)}{k j n:Nat}{Ro:Nat->Rw}{r:Rw}{od:List Nat}{Q:MV->AS->Prop}{P:aE->AS->Prop}
theorem yE{i1 i2:Nat}(y:i1≠i2){ch:List Nat}:∀(l acc:List Nat)(d:aq->Option MObj)(c:List (Nat×MV)),c.lookup 61=some (.tag (21,0))->c.lookup 131=some (.tag (0,i1))->d (0,i1)=some (.list (acc.map .str))->d (0,i2)=some (.list (ch.map .str))->CB n Ro od d->(∀j∈l,j<n)->acc.length+l.length<900->(∀H' w,w.lookup 131=some (.tag (0,i1))->H' (0,i1)=some (.list ((acc++l).map .str))->(∀t,t≠(0,i1)->H' t=d t)->P .next ⟨H',nx,w⟩)->
  dq (fun H=>b6 H (.tag (0,i2))=some (ch.map MV.str)) (ba 132) (az (ca (bh ko (ac 132) (aB (ac 61) 105)) (az (bK (b9 1 cE (ac 131) [(ac 132)])) jI) bn) (az (ca (bh ko (ac 132) (aB (ac 61) 64)) (az (bK (b9 1 cE (ac 131) [(bG (aB (ac 61) 64) (ac 132))])) jI) bn) mW)) (l.map .str) ⟨d,nx,c⟩ P:=by
 intro l;induction l with
 |nil=>
  intro acc d c p a s u o x b q;refine⟨ay u,q d c a ?_ fun _ _=>rfl⟩;rw[List.append_nil];exact s
 |cons k l L=>
  intro acc d c p a s u o x b q;refine⟨ay u,?_⟩;have h:(ah c 132 (.str k)).lookup 61=some (.tag (21,0)):=by rw[aG,if_neg (by decide)];exact p
  have e:(ah c 132 (.str k)).lookup 131=some (.tag (0,i1)):=by rw[aG,if_neg (by decide)];exact a
  have f:(ah c 132 (.str k)).lookup 132=some (.str k):=by rw[aG,if_pos rfl]
  obtain⟨v,D⟩:=o.ctl;obtain⟨M,E⟩:=o.dic;show az _ _ ⟨d,nx,ah c 132 (.str k)⟩ _;refine aj (aX (aK (aa f (aH (t:=(21,0)) h D (by decide) rfl rfl ⟨true,by rw[gG E,iy,if_pos (o.all k (x k Ze))];rfl,?_⟩))));refine aj (bj (bS (aa e ⟨kN s,ao (aa f (ai (ds s (by simp;exact NB b rfl) ⟨rfl,?_⟩)))⟩)));have F:acc.map MV.str++[MV.str k]=(acc++[k]).map .str:=by rw[List.map_append];rfl
  rw[F];refine L (acc++[k]) _ _ h e setH_at ((ae (dh y.symm)).trans u) (o.keep fun g i J=>ae (aV (J.elim (fun A=>(Zn A.1)) fun A=>(A.elim (fun z=>(Zn (av 17 0 1 0 (Zd z.symm) rfl))) fun z=>(Zn (av 21 0 1 0 (Zd z.symm) rfl)))))) (fun i K=>x i (Zc _ K)) (by simp;exact NA b) fun H' w G B I=>q H' w G ?_ fun t C=>(I t C).trans (ae C);rw[List.append_assoc] at B;exact B
theorem oW{ch:List Nat}(J:CB n Ro od H)(D:n<=8)(x:qF H)(B:∀i,nx<=i->H (0,i)=none)(w:∀j∈ch,j<n/\OptN H j/\H (6,j)=none)(hd:ch.Nodup)(q:∀H',H' (0,nx)=some (.list (ch.map .str))->(∀g i,(g=0/\(i<nx\/nx+3<=i))\/(9<g)->H' (g,i)=H (g,i))->CB n Ro od H'->Q (.tag (0,nx)) ⟨H',nx+3,m⟩) :
  fM.1 [.tag (21,0),bO ch] [] ⟨H,nx,m⟩ Q:=by
 refine⟨rfl,?_⟩;have K:ch.length<=n:=aN hd fun a N=>(w a N).1;show az _ _ ⟨H,nx,[(61,.tag (21,0)),(123,bO ch)]⟩ _;refine aj (aP (bv (ai ?_)));refine eB (B nx (Zj _)) (by decide) ?_;have k1:∀g i,g≠0\/i≠nx->af H (0,nx) (.list []) (g,i)=H (g,i):=fun g i c=>ae fun e=>by
  obtain⟨f,y⟩:=(Prod.mk.inj e);obtain rfl:=f;obtain rfl:=y;rcases c with h|h<;>exact h rfl
 have o:=J.keep (H':=af H (0,nx) (.list [])) fun g i c=>k1 g i (.inl (c.elim (fun b=>(Zn b.1)) fun b=>(b.elim (fun d=>(Zn (av 17 0 1 0 (Zd d.symm) rfl))) fun d=>(Zn (av 21 0 1 0 (Zd d.symm) rfl)))));obtain⟨v,I⟩:=o.ctl;refine aj (aP (bN (aa rfl (E2 (21,0) _ (A4 rfl I rfl (ao (aa rfl (ai (ai ?_)))))))));refine nu (n:=n) (Ro:=Ro) (od:=od) (nx:=nx+1) (ch:=ch) o D ?_ (fun i C=>(k1 0 i (.inr (Zn C))).trans (B i (Zv C))) (fun j u=>?_) hd fun z A k2 p=>?_
 ·refine bz x ?_;intro R p1 p2 O;exact⟨R,A3 ((k1 9 0 (.inl (by decide))).trans p1) p2 O⟩
 ·refine bM ((w j u)) fun t f M=>?_;refine bz f ?_;intro es l h0 L;exact A3 t ⟨es,A3 ((k1 1 j (.inl (by decide))).trans l) h0 L⟩ ((k1 6 j (.inl (by decide))).trans M)
 have F:z (0,nx)=some (.list (([]:List Nat).map .str)):=(k2 0 nx (.inl (A3 rfl (Zh (Zj _)) (Zh (Zz _))))).trans setH_at;refine aj (cA (bu (aa rfl ⟨_,ay A,?_⟩)));refine yE (n:=n) (Ro:=Ro) (od:=od) (i1:=nx) (i2:=nx+1) (Zh (Zj _)) ch [] z _ rfl rfl F A p (fun j u=>(w j u).1) (by simp;exact bR 0 0 0 8 1 900 K D rfl) fun E S s G k3=>?_;refine cK (aa s ?_);refine q E G (fun g i c=>?_) (p.keep fun g i c=>k3 _ (aV (c.elim (fun b=>(Zn b.1)) fun b=>(b.elim (fun d=>(Zn (av 17 0 1 0 (Zd d.symm) rfl))) fun d=>(Zn (av 21 0 1 0 (Zd d.symm) rfl))))));rcases c with⟨t,l⟩|h
 ·subst t;exact(k3 _ (dh (l.elim (fun b=>(Zh b)) fun b=>(Zn (av 3 0 1 0 b rfl))))).trans ((k2 0 i (.inl (A3 rfl (l.elim (fun b=>(Zh (av 1 0 1 1 b rfl))) fun b=>(Zn (Zv b))) (l.elim (fun b=>(Zh (av 1 0 1 2 b rfl))) fun b=>(Zn b))))).trans (k1 0 i (.inr (l.elim (fun b=>(Zh b)) fun b=>(Zn (av 3 0 1 0 b rfl))))))
 ·exact(k3 _ (aV (Zn (av 10 0 1 0 h rfl)))).trans ((k2 g i (.inr h)).trans (k1 g i (.inl (Zn (av 10 0 1 0 h rfl)))))
noncomputable def vY(ch:Option (List Nat)):MV:=match ch with
 |some l=>bO l
 |none=>.none
noncomputable def lA(od:List Nat)(ch:Option (List Nat)):List Nat:=match ch with
 |some l=>l
 |none=>od
theorem sk{ch:Option (List Nat)}(d:CB n Ro od H)(E:n<=8)(x:qF H)(B:∀i,nx<=i->H (0,i)=none)(D:∀l,ch=some l->(∀j∈l,j<n/\OptN H j/\H (6,j)=none)/\l.Nodup)(q:∀H' nx' t,nx<=nx'->H' (21,0)=some (.inst 1 (fq (.tag t)))->H' t=some (.list ((lA od ch).map .str))->t.1≠20->(∀g i,(g=0/\(i<nx\/nx'<=i))\/(9<g/\g≠21)->H' (g,i)=H (g,i))->CB n Ro od H'->Q .none ⟨H',nx',m⟩) :
  fK.1 [.tag (21,0),vY ch] [] ⟨H,nx,m⟩ Q:=by
 refine⟨rfl,?_⟩;show ca _ _ _ ⟨H,nx,[(61,.tag (21,0)),(123,vY ch)]⟩ _;have f:∀(b:aq->Option MObj)(v:MV)(t:aq),b (21,0)=some (.inst 1 (fq v))->CB n Ro od b->t≠(21,0)->CB n Ro od (af b (21,0) (.inst 1 (fq (.tag t)))):=fun b v t h0 a G=>
  ⟨fun j C=>(a.tb j C).keep fun g _ _=>ae (aV (by omega)),⟨_,setH_at⟩,by obtain⟨o,e⟩:=a.dic;exact⟨o,(ae jd).trans e⟩,by obtain⟨o,e⟩:=a.tg;exact⟨o,(ae jd).trans e⟩,(ae jd).trans a.df,a.all⟩
 induction ch with
 |none=>
  obtain⟨v,c⟩:=d.ctl;refine aX (aK (aa rfl (au ⟨true,A3 rfl rfl ?_⟩)));refine aR (aH (t:=(21,0)) rfl c (by decide) rfl rfl (aa rfl (bT (t:=(21,0)) c (by decide) (bX rfl) ?_)));show Q .none ⟨af H (21,0) (.inst 1 (fq (.tag (21,3)))),nx,m⟩;refine q _ nx (21,3) (Zj _) setH_at ((ae jd).trans d.df) (by decide) (fun g i s=>ae (aV (s.elim (fun y=>(Zh (av 0 0 1 21 (Zd y.1) rfl))) fun y=>y.2))) (f H v (21,3) c d (by decide))
 |some l=>
  obtain⟨u,w⟩:=(D l rfl)
  obtain⟨v,c⟩:=d.ctl;refine aX (aK (aa rfl (au ⟨false,A3 rfl rfl ?_⟩)));refine aR (bN (aa rfl (E2 (21,0) _ (A4 rfl c rfl (ao (aa rfl (ai (ai ?_))))))));refine oW d E x B u w fun b A k2 a=>?_;obtain⟨F,z⟩:=a.ctl;refine aa rfl (bT (t:=(21,0)) z (by decide) (bX rfl) ?_);show Q .none ⟨af b (21,0) (.inst 1 (fq (.tag (0,nx)))),nx+3,m⟩;refine q _ (nx+3) (0,nx) (ZB _ _) setH_at ((ae gd).trans A) (by show(0:Nat)≠20;decide) (fun g i s=>?_) (f b F (0,nx) z a gd);rcases s with⟨h,p⟩|⟨h,p⟩
  ·exact(ae (aV (Zh (av 0 0 1 21 (Zd h) rfl)))).trans (k2 g i (.inl ⟨h,p⟩))
  ·exact(ae (aV p)).trans (k2 g i (.inr h))
end
end
section
section
variable {H H':aq->Option MObj}{nx:Nat}{m:List (Nat×MV)}{k j n:Nat}{Ro:Nat->Rw}{r:Rw}{od:List Nat}{Q:MV->AS->Prop}{P:aE->AS->Prop}
noncomputable def uR(Ro:Nat->Rw)(sel:List Nat):St:=⟨fun _=>none,fun k=>uQ (Ro k),[],[],[],sel.reverse,none,[],[],0,[]⟩
theorem r9{sel:List Nat}{t:aq}(h0:H (20,0)=some (.inst 3 []))(p:∀i,1<=i->i<=4->H (20,i)=none)(A:H t=some (.list (sel.map .str)))(l:t.1≠20)(z:sel.length<900)(q:∀H',(∀g i,g≠20->H' (g,i)=H (g,i))->(∃v,H' (20,0)=some (.inst 3 [(105,.tag (21,1)),(64,.tag (21,2)),(107,v),(150,.tag (20,1)),(151,.tag (20,2)),(152,.tag (20,3)),(153,.tag (20,4)),(154,.none)]))->H' (20,1)=some (.dict [])->H' (20,2)=some (.dict [])->H' (20,3)=some (.list [])->H' (20,4)=some (.list (sel.reverse.map .str))->Q .none ⟨H',nx,m⟩) :
  gt.1 [.tag (20,0),.tag (21,1),.tag (21,2),.tag t] [] ⟨H,nx,m⟩ Q:=by
 refine⟨rfl,?_⟩;refine aj (aR (aa rfl (aa rfl (bT (t:=(20,0)) h0 (by decide) (by decide) ?_))));refine aj (aR (aa rfl (aa rfl (eL (t:=(20,0)) (by decide) (bX rfl) ?_))));refine aj (aR (aa rfl (aa rfl (eL (t:=(20,0)) (by decide) (bX rfl) ?_))));show az _ _ ⟨af H (20,0) (.inst 3 [(105,.tag (21,1)),(64,.tag (21,2)),(107,.tag t)]),nx,[(61,.tag (20,0)),(105,.tag (21,1)),(64,.tag (21,2)),(107,.tag t)]⟩ _;have u:=p 1 (by decide) (by decide);have w:=p 2 (by decide) (by decide);have y:=p 3 (by decide) (by decide);have d4:=p 4 (by decide) (by decide);have a:∀{g i b:Nat}{o:MObj}{H:aq->Option MObj}{x:Option MObj},H (g,i)=x->i≠b->af H (g,b) o (g,i)=x:=fun h s=>(ae (dh s)).trans h;refine aj (aR (iu (g:=20) (i:=1) (a u (by decide)) (by decide) (aa rfl (bT (t:=(20,0)) (C:=3) (es:=[(105,.tag (21,1)),(64,.tag (21,2)),(107,.tag t)]) (a setH_at (by decide)) (by decide) (bX rfl) ?_))));refine aj (aR (iu (g:=20) (i:=2) (a (a (a w (by decide)) (by decide)) (by decide)) (by decide) (aa rfl (bT (t:=(20,0)) (C:=3) (es:=[(105,.tag (21,1)),(64,.tag (21,2)),(107,.tag t),(150,.tag (20,1))]) (a setH_at (by decide)) (by decide) (bX rfl) ?_))));refine aj (aR (bv (ai (d9 (g:=20) (i:=3) (a (a (a (a (a y (by decide)) (by decide)) (by decide)) (by decide)) (by decide)) (by decide) (by decide) (aa rfl (bT (t:=(20,0)) (C:=3) (es:=[(105,.tag (21,1)),(64,.tag (21,2)),(107,.tag t),(150,.tag (20,1)),(151,.tag (20,2))]) (a setH_at (by decide)) (by decide) (bX rfl) ?_))))));refine aj (aR ?_);obtain⟨e,f⟩:=t;have d:∀{b:Nat}{o:MObj}{H:aq->Option MObj}{x:Option MObj},H (e,f)=x->af H (20,b) o (e,f)=x:=fun h=>(ae (aV l)).trans h;refine aa rfl ⟨_,ay (d (d (d (d (d (d (d A))))))),?_⟩;refine d9 (g:=20) (i:=4) (a (a (a (a (a (a (a d4 (by decide)) (by decide)) (by decide)) (by decide)) (by decide)) (by decide)) (by decide)) (by decide) (by simp;exact av 1 900 0 100000 z rfl) (aa rfl (bT (t:=(20,0)) (C:=3) (es:=[(105,.tag (21,1)),(64,.tag (21,2)),(107,.tag (e,f)),(150,.tag (20,1)),(151,.tag (20,2)),(152,.tag (20,3))]) (a setH_at (by decide)) (by decide) (bX rfl) ?_));refine aR (au (aa rfl (bT (t:=(20,0)) (C:=3) (es:=[(105,.tag (21,1)),(64,.tag (21,2)),(107,.tag (e,f)),(150,.tag (20,1)),(151,.tag (20,2)),(152,.tag (20,3)),(153,.tag (20,4))]) setH_at (by decide) (bX rfl) ?_)));show Q .none ⟨af _ (20,0) (.inst 3 [(105,.tag (21,1)),(64,.tag (21,2)),(107,.tag (e,f)),(150,.tag (20,1)),(151,.tag (20,2)),(152,.tag (20,3)),(153,.tag (20,4)),(154,.none)]),nx,m⟩;refine q _ (fun g i c=>?_) ⟨.tag (e,f),setH_at⟩ ?_ ?_ ?_ ?_;·rw[ae (aV c),ae (aV c),ae (aV c),ae (aV c),ae (aV c),ae (aV c),ae (aV c),ae (aV c),ae (aV c),ae (aV c)]
 ·exact a (a (a (a (a (a (a (a setH_at (by decide)) (by decide)) (by decide)) (by decide)) (by decide)) (by decide)) (by decide)) (by decide)
 ·exact a (a (a (a (a (a setH_at (by decide)) (by decide)) (by decide)) (by decide)) (by decide)) (by decide)
 ·exact a (a (a (a setH_at (by decide)) (by decide)) (by decide)) (by decide)
 ·rw[List.map_reverse];exact a (a setH_at (by decide)) (by decide)
theorem mT{sel:List Nat}{t:aq}(f:CB n Ro od H)(u:H (21,0)=some (.inst 1 (fq (.tag t))))(z:∀i,H (20,i)=none)(p:∀g i,nG g->H (g,i)=none)(s:∀i,nx<=i->H (0,i)=none)(I:H t=some (.list (sel.map .str)))(c:t.1≠20)(G:sel.length<900)(q:∀H',R n Ro (uR Ro sel) H' nx->(∀g i,g≠20->H' (g,i)=H (g,i))->Q (.tag (20,0)) ⟨H',nx,m⟩):dz.1 [.tag (21,0)] [] ⟨H,nx,m⟩ Q:=by
 refine⟨rfl,?_⟩;refine aj (nT (aK (aH rfl u (by decide) rfl rfl (au ⟨false,A4 rfl rfl rfl ?_⟩))));refine cK (cD (ao (aH rfl u (by decide) rfl rfl (ao (aH rfl u (by decide) rfl rfl (ao (aH rfl u (by decide) rfl rfl (ai (ai ?_)))))))));refine⟨(20,0),⟨z 0,.inl (by show(20:Nat)≠0;decide)⟩,?_⟩;have J:cf nx (20,0)=nx:=if_neg (by show(20:Nat)≠0;decide);dsimp only;have w:af H (20,0) (.inst 3 []) t=some (.list (sel.map .str)):=(ae fun e=>c (congrArg _ e)).trans I;refine r9 (sel:=sel) (t:=t) setH_at (fun i E K=>(ae (dh (Zn E))).trans (z i)) w c G fun y k2 A B C D d4=>⟨rfl,?_⟩
 have kk:∀g i,g≠20->y (g,i)=H (g,i):=fun g i l=>(k2 g i l).trans (ae (aV l));refine q y ⟨fun k o=>(f.tb k o).at.keep fun g a b=>kk g k (b.elim (fun x=>(Zh (av 0 8 1 20 x rfl))) fun x=>(Zh (av 0 17 1 20 (Zd x) rfl))),fun k d h=>(nomatch h),fun k _ g l=>(kk g k (ja l).1).trans (p g k l),A,B,C,D,d4,?_,?_,fun i F=>(kk 0 i (by decide)).trans (s i F)⟩ kk
 ·obtain⟨v,e⟩:=f.dic;refine E2 _ v ⟨(kk 21 1 (by decide)).trans e,fun k o=>?_⟩;rw[iy,if_pos (f.all k o)];rfl
 ·obtain⟨v,e⟩:=f.tg;refine E2 _ v ⟨(kk 21 2 (by decide)).trans e,fun k o=>?_⟩;rw[pX,if_pos (f.all k o)]
end
end
section
section
variable {H H':aq->Option MObj}{nx:Nat}{m:List (Nat×MV)}{k j n:Nat}{Ro:Nat->Rw}{r:Rw}{od:List Nat}{Q:MV->AS->Prop}{P:aE->AS->Prop}
noncomputable def dQ(n:Nat) (b:Int):List Nat:=
 let l:=(List.range n).drop ((b.fdiv 2).fmod n).toNat++(List.range n).take ((b.fdiv 2).fmod n).toNat
 if b.fmod 2=1 then l.reverse else l
theorem mA{b:Int}:(dQ n b).Perm (List.range n):=by
 delta dQ;have h:((List.range n).drop ((b.fdiv 2).fmod n).toNat++(List.range n).take ((b.fdiv 2).fmod n).toNat).Perm (List.range n):=by
  have:=List.perm_append_comm (l₁:=(List.range n).drop ((b.fdiv 2).fmod n).toNat) (l₂:=(List.range n).take ((b.fdiv 2).fmod n).toNat);rw[List.take_append_drop] at this;exact this
 dsimp only;split;·exact(List.reverse_perm _).trans h
 ·exact h
theorem Ak{a b:ap}{e:AS}{Q:MV->AS->Prop}(h:a e fun x d=>b d fun y c=>∃xs ys,bc c.H x=some xs/\bc c.H y=some ys/\newL (xs++ys) c Q):kJ a b e Q:=h
theorem wF{xs:List MV}{a:Int}(h:0<=a):g8 xs none (some a) none=some (xs.take a.toNat):=if_pos h
structure qG(H:aq->Option MObj)(nx:Nat):Prop where
 none:∀g i,1<=g->g≠9->H (g,i)=.none
 tab:qF H
 tmp:∀i,nx<=i->H (0,i)=.none
noncomputable def uU(ch:Option (List Nat)):MV:=match ch with
 |some l=>.lst (l.map aw)
 |none=>.none
theorem nv(o:RowsOK n Ro)(hn0:0<n){b:Int}{ch:Option (List Nat)}(f:qG H nx)(Z:∀l,ch=some l->(∀j∈l,j<n)/\l.Nodup)(q:∀H' nx',nx<=nx'->R n Ro (uR Ro (lA (dQ n b) ch)) H' nx'->Low H H' nx->Q (.tag (20,0)) ⟨H',nx',m⟩):jG.1 [bH n Ro,.int b,uU ch] [] ⟨H,nx,m⟩ Q:=by
 refine⟨rfl,?_⟩;have K:n<=8:=Zk o.n (by decide);show az _ _ ⟨H,nx,[(199,bH n Ro),(216,.int b),(217,uU ch)]⟩ _;refine aj (aP (bv (ai ?_)));refine eB (f.tmp nx (Zj _)) (by decide) ?_;refine aj (pW (n:=n) (Ro:=Ro) o.n rfl ?_);refine yv o (it:=nx) (nx:=nx+1) (Zr _) (List.range n) [] _ _ rfl rfl setH_at (fun j C=>by simpa using C) List.nodup_range (fun j _=>fun h=>nomatch h) (fun j C=>nomatch C) (fun j C g B E=>(ae (aV (Zn B))).trans (f.none g j B (E.elim (fun s=>(Zh (av 0 8 1 9 s rfl))) fun s=>(Zn (av 17 0 10 0 (Zd s.symm) rfl))))) (by simp;exact av 0 8 1 900 K rfl) (fun Y p M hA k1 ta=>?_) _ fun _=>trivial;have k1':∀g i,(g=0/\i≠nx)\/8<g\/g=6->Y (g,i)=H (g,i):=fun g i c=>(k1 g i c).trans (ae fun e=>by
  obtain⟨zq1,zq2⟩:=(Prod.mk.inj e);obtain rfl:=zq1;obtain rfl:=zq2;rcases c with c|c;·exact c.2 rfl
  ·exact c.elim (fun s=>(ZA _ s)) fun s=>(ZA _ (Zd s.symm)))
 have c199:p.lookup 199=some (bH n Ro):=(M 199 (by decide) (by decide)).trans rfl;have N:p.lookup 216=some (.int b):=(M 216 (by decide) (by decide)).trans rfl;have c217:p.lookup 217=some (uU ch):=(M 217 (by decide) (by decide)).trans rfl;have c105:p.lookup 105=some (.tag (0,nx)):=(M 105 (by decide) (by decide)).trans rfl;refine aj (aP (kz (kz ?_)));refine aa N (au (E3 b 2 (b.fdiv 2) (A4 rfl rfl rfl ?_)));refine mt c199 rC ?_;have hnn:(((List.range n).map fun k=>(Ro k).mv).length:Int)=n:=by simp
 refine hnn▸?_;have hmod:jx (b.fdiv 2) (n:Int)=some ((b.fdiv 2).fmod n):=by unfold jx;exact(if_neg (by omega))
 refine E3 (b.fdiv 2) n _ (A4 rfl rfl hmod ?_);have h0:0<=(b.fdiv 2).fmod (n:Int):=Int.fmod_nonneg_of_pos _ (pR hn0);have hlt:(b.fdiv 2).fmod (n:Int)<n:=Int.fmod_lt_of_pos _ (pR hn0);generalize htn:(b.fdiv 2).fmod (n:Int)=tn at h0 hlt;have L2:∀(y:Nat)(v:MV),y≠218->(ah p 218 v).lookup y=p.lookup y:=fun y v h=>by rw[aG,if_neg h]
 have U:(ah p 218 (.int tn)).lookup 105=some (.tag (0,nx)):=(L2 _ _ (by decide)).trans c105;have V:(ah p 218 (.int tn)).lookup 218=some (.int tn):=by rw[aG,if_pos rfl]
 refine aj (aP (Ak (iW (aa U (jh (aa V ⟨tn,rfl,?_⟩))))));refine ec (ec (E2 _ (((List.range n).map cz).drop tn.toNat) (A3 (ay hA) (nP h0) (aL (by simp;exact Zk K (Zk (by decide) (ZB _ _))) ?_))));refine iW (aa U (ec (jh (aa V ⟨tn,rfl,?_⟩))));refine ec (E2 _ (((List.range n).map cz).take tn.toNat) (A3 (ay hA) (wF h0) (aL (by simp;exact Zk (Nat.min_le_right _ _) (av 0 8 0 100000 K rfl)) ?_)));refine E2 _ _ (A3 rfl rfl (aL (by simp;exact Zk (Nat.add_le_add (Zk (Nat.sub_le _ _) K) (Zk (Nat.min_le_right _ _) K)) (by decide)) ?_));generalize T:(List.range n).drop tn.toNat++(List.range n).take tn.toNat=rot;have er:((List.range n).map cz).drop tn.toNat++((List.range n).map cz).take tn.toNat=rot.map cz:=(T▸List.map_append▸List.map_drop▸List.map_take▸rfl)
 refine er▸?_;have F:dQ n b=if b.fmod 2=1 then rot.reverse else rot:=by unfold dQ;rw[htn,T]
 have hrl:rot.length=n:=by
  have:=(mA (n:=n) (b:=b)).length_eq;rw[F] at this;split at this;·simpa using this
  ·simpa using this
 refine aj (aP (cD (ao (jb (aK (kz ?_))))));have L3:∀(y:Nat)(v w:MV),y≠105->y≠218->(ah (ah p 218 v) 105 w).lookup y=p.lookup y:=fun y v w B E=>by rw[aG,if_neg B,aG,if_neg E]
 refine aa ((L3 _ _ _ (by decide) (by decide)).trans N) (au (E3 b 2 (b.fmod 2) (A4 rfl rfl rfl ?_)));refine au ⟨b.fmod 2 == 1,rfl,?_⟩;have perm:=mA (n:=n) (b:=b);have t1:TCtx n Ro (dQ n b) Y:=⟨fun j C=>(ta j (by simpa using C)).1,fun j C=>by simpa using perm.mem_iff.mp C,fun j C=>perm.mem_iff.mpr (by simpa using C),(perm.nodup_iff).mpr List.nodup_range⟩
 have X:∀z:MV->AS->Prop,(∀x,(∀g i,g≠21->x (g,i)=Y (g,i))->x (21,0)=some (.inst 1 (fq .none))->(∃eo,x (21,1)=some (.dict (eg (dQ n b)) eo))->x (21,2)=some (.dict (jS (dQ n b)))->x (21,3)=some (.list ((dQ n b).map .str))->z (.tag (21,0)) ⟨x,nx+1,ah (ah p 218 (.int tn)) 105 (.lst (rot.map cz))⟩)->
   o9 1 cU.1 [.lst ((dQ n b).map cz)] [] ⟨Y,nx+1,ah (ah p 218 (.int tn)) 105 (.lst (rot.map cz))⟩ z:=fun z h=>by
  have d:=fun i=>(k1' 21 i (.inr (.inl (by decide)))).trans (f.none 21 i (by decide) (by decide));refine⟨(21,0),⟨d 0,.inl (by show(21:Nat)≠0;decide)⟩,?_⟩;have en:cf (nx+1) (21,0)=nx+1:=if_neg (by show(21:Nat)≠0;decide);refine oX o (t1.keep fun g i c=>ae (aV c)) setH_at ((ae jd).trans (d 1)) ((ae jd).trans (d 2)) ((ae jd).trans (d 3)) fun x k2 a0 a1 a2 a3=>⟨rfl,h x (fun g i c=>(k2 g i c).trans (ae (aV c))) a0 a1 a2 a3⟩
 have G:(ah (ah p 218 (.int tn)) 105 (.lst (rot.map cz))).lookup 105=some (.lst (rot.map cz)):=by rw[aG,if_pos rfl]
 have cont:∀z:MV->AS->Prop,(∀x,(∀g i,g≠21->x (g,i)=Y (g,i))->x (21,0)=some (.inst 1 (fq .none))->(∃eo,x (21,1)=some (.dict (eg (dQ n b)) eo))->x (21,2)=some (.dict (jS (dQ n b)))->x (21,3)=some (.list ((dQ n b).map .str))->z (.tag (21,0)) ⟨x,nx+1,ah (ah p 218 (.int tn)) 105 (.lst (rot.map cz))⟩)->
   match (b.fmod 2 == 1) with
   |true=>fH (ac 105) none none (some (v8 (ax (.int 1)))) ⟨Y,nx+1,ah (ah p 218 (.int tn)) 105 (.lst (rot.map cz))⟩ fun v σ1=>bV [] σ1 fun vs σ2=>bV [] σ2 fun ys σ3=>o9 1 cU.1 (v::vs) ys σ3 z
   |false=>ac 105 ⟨Y,nx+1,ah (ah p 218 (.int tn)) 105 (.lst (rot.map cz))⟩ fun v σ1=>bV [] σ1 fun vs σ2=>bV [] σ2 fun ys σ3=>o9 1 cU.1 (v::vs) ys σ3 z:=fun z h=>by
  by_cases e:b.fmod 2=1
  ·rw[if_pos e] at F;have:(b.fmod 2 == 1)=true:=by rw[e];rfl
   rw[this];refine iW (aa G (ec (ec (jh ⟨1,rfl,-1,rfl,E2 _ ((rot.map cz).reverse) (A3 rfl rfl (aL (by simp;exact bR 0 0 0 8 0 100000 (Zd hrl) K rfl) (ai (ai ?_))))⟩))));refine List.map_reverse▸F▸?_;exact X z h
  ·rw[if_neg e] at F;have:(b.fmod 2 == 1)=false:=beq_eq_false_iff_ne.mpr e;rw[this];refine aa G (ai (ai ?_));refine F▸?_;exact F▸X z h
 refine cont _ fun x k2 a0 a1 a2 a3=>?_;have L4:∀(y:Nat)(u v w:MV),y≠219->y≠105->y≠218->(ah (ah (ah p 218 v) 105 w) 219 u).lookup y=p.lookup y:=fun y u v w h0 B E=>by rw[aG,if_neg h0,L3 y v w B E]
 have cb:CB n Ro (dQ n b) x:=⟨fun j C=>(t1.ta j C).keep fun g _ _=>k2 g j (by omega),⟨_,a0⟩,a1,⟨_,a2⟩,a3,t1.all⟩
 have kk:∀g i,(g=0/\i≠nx)\/((8<g\/g=6)/\g≠21)->x (g,i)=H (g,i):=fun g i c=>(k2 g i (c.elim (fun s=>(Zh (av 0 0 1 21 (Zd s.1) rfl))) fun s=>s.2)).trans (k1' g i (c.elim (fun s=>(.inl s)) fun s=>(.inr s.1)));have O:(ah (ah (ah p 218 (.int tn)) 105 (.lst (rot.map cz))) 219 (.tag (21,0))).lookup 219=some (.tag (21,0)):=by rw[aG,if_pos rfl]
 have I:(ah (ah (ah p 218 (.int tn)) 105 (.lst (rot.map cz))) 219 (.tag (21,0))).lookup 217=some (uU ch):=(L4 _ _ _ _ (by decide) (by decide) (by decide)).trans c217;refine aj (bj (bN (aa O (E2 (21,0) _ (A4 rfl a0 rfl (ao (jb (aK (aa I (au ?_))))))))));have W:∀z:MV->AS->Prop,(∀D a t,nx+1<=a->D (21,0)=some (.inst 1 (fq (.tag t)))->D t=some (.list ((lA (dQ n b) ch).map .str))->t.1≠20->(∀g i,(g=0/\(i<nx+1\/a<=i))\/(9<g/\g≠21)->D (g,i)=x (g,i))->CB n Ro (dQ n b) D->z .none ⟨D,a,ah (ah (ah p 218 (.int tn)) 105 (.lst (rot.map cz))) 219 (.tag (21,0))⟩)->
   fK.1 [.tag (21,0),vY ch] [] ⟨x,nx+1,ah (ah (ah p 218 (.int tn)) 105 (.lst (rot.map cz))) 219 (.tag (21,0))⟩ z:=fun z h=>by
  refine sk cb K ?_ (fun i L=>(kk 0 i (.inl ⟨rfl,(Zn L)⟩)).trans (f.tmp i (Zv L))) (fun l hl=>?_) h
  ·refine bz f.tab fun ps p1 p2 p3=>?_;exact⟨ps,A3 ((kk 9 0 (.inr ⟨.inl (by decide),by decide⟩)).trans p1) p2 p3⟩
  ·obtain⟨B,E⟩:=(Z l hl)
   refine⟨fun j C=>(A3 (B j C) ?_ ((kk 6 j (.inr ⟨.inr rfl,by decide⟩)).trans (f.none 6 j (by decide) (by decide)))),E⟩;exact(ta j (by simpa using B j C)).2.keep (k2 1 j (by decide))
 have fin:∀(D:aq->Option MObj)(a:Nat)(t:aq),nx+1<=a->D (21,0)=some (.inst 1 (fq (.tag t)))->D t=some (.list ((lA (dQ n b) ch).map .str))->t.1≠20->(∀g i,(g=0/\(i<nx+1\/a<=i))\/(9<g/\g≠21)->D (g,i)=x (g,i))->CB n Ro (dQ n b) D->
   ∀z:aE->AS->Prop,(∀v,z (.ret v)=fun σ=>Q v ⟨σ.H,σ.nx,m⟩)->fj (cr 1 135 dz.1 (ac 219) [] []) ⟨D,a,ah (ah (ah p 218 (.int tn)) 105 (.lst (rot.map cz))) 219 (.tag (21,0))⟩ z:=fun D a t B E h3 h4 S h6 z hP=>by
  refine cK (bN (aa O (E2 (21,0) _ (A4 rfl E rfl (ai (ai ?_))))));have sl:(lA (dQ n b) ch).length<900:=by
   induction ch with
   |none=>
    show(dQ n b).length<900;refine perm.length_eq▸List.length_range▸?_;exact av 0 8 1 900 K rfl
   |some l=>
    obtain⟨g1,g2⟩:=(Z l rfl)
    have:=aN g2 g1;exact bR 0 0 0 8 1 900 this K rfl
  refine mT (sel:=lA (dQ n b) ch) (t:=t) h6 E (fun i=>(S 20 i (.inr ⟨by decide,by decide⟩)).trans ((kk 20 i (.inr ⟨.inl (by decide),by decide⟩)).trans (f.none 20 i (by decide) (by decide)))) (fun g i c=>(S g i (.inr (by unfold nG at c;exact⟨(c.elim (fun J=>J.1) fun J=>(av 100 0 10 0 J rfl)),(c.elim (fun J=>(Zh (av 0 16 1 21 J.2 rfl))) fun J=>(Zn (av 100 0 22 0 J rfl)))⟩))).trans ((kk g i (.inr (by unfold nG at c;exact⟨(.inl (c.elim (fun z2=>(Zv z2.1)) fun z2=>(av 100 0 9 0 z2 rfl))),(c.elim (fun J=>(Zh (av 0 16 1 21 J.2 rfl))) fun J=>(Zn (av 100 0 22 0 J rfl)))⟩))).trans (f.none g i (c.elim (fun s=>(av 10 0 1 0 s.1 rfl)) fun s=>(av 100 0 1 0 s rfl)) (c.elim (fun s=>(Zn s.1)) fun s=>(Zn (av 100 0 10 0 s rfl)))))) (fun i L=>(S 0 i (.inl ⟨rfl,.inr L⟩)).trans ((kk 0 i (.inl ⟨rfl,(Zn (Zk B L))⟩)).trans (f.tmp i (Zv (Zp B L))))) h3 h4 sl fun H4 r4 k4=>?_;try dsimp only[zn]
  rw[hP];refine q H4 a (Zv B) r4 fun i L=>?_;exact(k4 0 i (by decide)).trans ((S 0 i (.inl ⟨rfl,.inl (av 1 0 1 1 L rfl)⟩)).trans (kk 0 i (.inl ⟨rfl,(Zh L)⟩)))
 cases ch with
 |none=>
  refine⟨true,A3 rfl rfl (au (ai (ai ?_)))⟩;exact W _ fun D a t B E h3 h4 S h6=>⟨rfl,fin D a t B E h3 h4 S h6 _ fun v=>rfl⟩
 |some l=>
  obtain⟨g1,g2⟩:=(Z l rfl)
  have ll:=aN g2 g1;refine⟨false,A3 rfl rfl ?_⟩;refine im (l:=l) (fun A hA=>aa I hA) (fun j C=>by have:=g1 j C;have:=o.n;exact Zk (by assumption) this) (bR 0 0 0 8 1 60 ll K rfl) (ai (ai ?_));exact W _ fun D a t B E h3 h4 S h6=>⟨rfl,fin D a t B E h3 h4 S h6 _ fun v=>rfl⟩
end
end
section
section
variable {H H':aq->Option MObj}{nx:Nat}{m m':List (Nat×MV)}{k j n:Nat}{Ro:Nat->Rw}{ns:List Int}{Q:MV->AS->Prop}{P:aE->AS->Prop}
theorem yd{x y:Nat}{t:MT}{c:ap}{u:List (Nat×MV)}{g:(aq->Option MObj)->Prop}{R:MV->AS->Prop}(h o e:Nat->MV)(p:g H)(l:List Nat):∀(acc:List MV)(f:List (Nat×MV)),(∀a∈l,∀b:List (Nat×MV),b.lookup x=some (h a)->b.lookup y=some (o a)->(∀P,P true ⟨H,nx,b⟩->t ⟨H,nx,b⟩ P)/\(∀P,P (e a) ⟨H,nx,b⟩->c ⟨H,nx,b⟩ P))->x≠y->
  acc.length+l.length<=900->newL (acc++l.map e) ⟨H,nx,u⟩ R->eU g (iK x y) t c u (l.map fun a=>.tup [h a,o a]) acc ⟨H,nx,f⟩ R:=by
 induction l with
 |nil=>
  intro acc f _ _ _ q;rw[List.map_nil,List.append_nil] at q;exact⟨p,q⟩
 |cons a l A=>
  intro acc f r d s q;refine⟨p,?_⟩;obtain⟨z,v⟩:=(r a Ze (ah (ah f x (h a)) y (o a)) (by rw[aG,if_neg d,aG,if_pos rfl]) (by rw[aG,if_pos rfl]))
  refine z _ (v _ (A3 rfl (NB s rfl) ?_));refine A (acc++[e a]) _ (fun i w=>r i (Zc _ w)) d (by simp;exact za s) ?_;rw[List.append_assoc];exact q
noncomputable def bl(ns:List Int):List Int:=if 2<ns.length then(ns.drop 1).take 7 else[0,0,2916,10,6588,90]
noncomputable def be(ns:List Int):Int:=(ns[0]?).getD 0
noncomputable def eM(ns:List Int):List Int:=if 8<ns.length then ns.drop 8 else[be ns,(be ns).fdiv 3+1]
noncomputable def fD(ns:List Int)(k:Nat):Rw:=kt (((bl ns)[k]?).getD 0) k
theorem uf(ns:List Int):0<(bl ns).length/\(bl ns).length<=7:=by
 delta bl;split;·simp;omega
 ·exact by decide
theorem vK{l:List Int}:kA (l.map MV.int)=(List.range l.length).map fun k=>.tup [aw k,.int ((l[k]?).getD 0)]:=by
 delta kA;apply List.ext_getElem?;intro i;simp only[List.getElem?_map,List.getElem?_zipIdx];by_cases h:i<l.length
 ·rw[List.getElem?_range h,List.getElem?_eq_getElem h];simp[aw];rw[List.getElem?_eq_getElem h];rfl
 ·rw[List.getElem?_eq_none (Zm h),List.getElem?_eq_none (by simp;exact Zm h)];rfl
noncomputable def cL(ns:List Int):List Nat:=(List.range (bl ns).length).filter fun k=>(((be ns).fdiv 32).fdiv (2 ^ k)).fmod 2 == 1
noncomputable def cI(ns:List Int):List Nat:=if ((be ns).fdiv 4096).fmod 2=1 then(cL ns).reverse else cL ns
noncomputable def dC(ns:List Int)(k:Nat):LS:=if k<(bl ns).length/\(cL ns=[]\/k∈cL ns) then .reached else .no
noncomputable def iv(ns:List Int):Int:=1+((be ns).fdiv 8).fmod 4
theorem AO(a:j<8):0<(2:Int) ^ j/\(2:Int) ^ j<1000000000:=by
 have:∀j:Fin 8,0<(2:Int) ^ j.val/\(2:Int) ^ j.val<1000000000:=by decide
 exact this ⟨j,a⟩
noncomputable def pQ(ns:List Int):Option (List Nat):=if cI ns=[] then none else some (cI ns)
theorem uw{ns:List Int}:(∀j∈cI ns,j∈cL ns)/\(∀j∈cL ns,j∈cI ns)/\(cI ns).Nodup/\(cI ns=[]↔cL ns=[]):=by
 have h0:(cL ns).Nodup:=List.nodup_range.filter _;delta cI;split;·exact A4 (fun j a=>List.mem_reverse.mp a) (fun j a=>List.mem_reverse.mpr a) ((List.reverse_perm _).nodup_iff.mpr h0) (by simp)
 ·exact A4 (fun _ h=>h) (fun _ h=>h) h0 Iff.rfl
theorem qj{ns:List Int}:∀j∈cL ns,j<(bl ns).length:=fun j a=>List.mem_range.mp (List.mem_filter.mp a).1
theorem wv{sel:List Nat}(e:∀j,dC ns j=.reached↔j∈sel)(f:∀j∈sel,j<(bl ns).length):PI (bl ns).length (fD ns) sel (uR (fD ns) sel) (dC ns) []:=by
 have a:∀j,dC ns j=.no\/dC ns j=.reached:=fun j=>by unfold dC;split<;>simp
 have ne:∀j,dC ns j≠.no->dC ns j=.reached:=fun j h=>(a j).resolve_left h;have no:∀k,¬ En (uR (fD ns) sel) k:=fun k h=>h rfl;refine⟨fun l g c=>⟨⟨fun k=>?_,.nil⟩,fun k d h=>(nomatch h),fun k d h=>(nomatch h),fun k d h=>(nomatch h),⟨.nil,fun k b=>(nomatch b)⟩,⟨.nil,fun k b=>(nomatch b)⟩,fun k b=>(nomatch b),fun k b=>?_,fun k b=>.inr (List.mem_reverse.mpr b),fun j=>⟨(fun h=>nomatch h),fun h=>absurd h.1 (no j)⟩,fun k _=>rfl,fun _=>⟨rfl,rfl⟩,c⟩,fun k=>⟨fun h=>absurd h (no k),fun h=>?_⟩,fun k h=>absurd h (no k),fun k=>⟨(fun h=>nomatch h),fun h=>?_⟩,⟨.nil,fun k=>⟨(fun h=>nomatch h),fun h=>?_⟩⟩,rfl,⟨rfl,rfl⟩,fun k b=>f k ((e k).mp (ne k b)),fun j i=>.inl ((e j).mp (ne j i))⟩
 ·show k∈[]↔none≠none;simp
 ·have:=List.mem_reverse.mp b;exact⟨f k this,g k (by rw[(e k).mpr this];decide)⟩
 ·rcases a k with z|z<;>rw[z] at h<;>cases h
 ·rcases a k with z|z<;>rw[z] at h<;>rcases h with h|h<;>cases h
 ·rcases a k with z|z<;>rw[z] at h<;>cases h
end
end
section
section
variable {H H':aq->Option MObj}{nx:Nat}{m m':List (Nat×MV)}{k j n:Nat}{Ro:Nat->Rw}{ns:List Int}{Q:MV->AS->Prop}{P:aE->AS->Prop}
theorem vE{f:ap}{b:AS}{Q:List MV->((aq->Option MObj)->Prop)->AS->Prop}(h:f b fun v a=>∃xs,bc a.H v=some xs/\Q (kA xs) (fun H=>bc H v=some xs) a):pe f b Q:=h
theorem vh{x:Nat}{b:Int}{P:Bool->AS->Prop}(a:m.lookup x=some (.lst (ns.map .int)))(h:P (decide (b<(ns.length:Int))) ⟨H,nx,m⟩):bh uT (cC iI [(ac x)]) (ax (.int b)) ⟨H,nx,m⟩ P:=by
 refine aK (mt a rfl (au ⟨_,b,A3 rfl rfl ?_⟩));rw[List.length_map];exact h
theorem ua{xs:List MV}{a b:Int}(c:0<=a)(d:a<=b):g8 xs (some a) (some b) none=some ((xs.drop a.toNat).take (b.toNat - a.toNat)):=if_pos ⟨c,d⟩
theorem sZ{l:List Nat}{P:Bool->AS->Prop}(h:P l.isEmpty ⟨H,nx,m⟩):pP (.lst (l.map aw)) (.lst []) ⟨H,nx,m⟩ P:=by
 refine⟨_,E2 ([]) _ (A4 rfl rfl lQ ?_)⟩;have:(l.map aw).isEmpty=l.isEmpty:=by induction l<;>rfl
 refine this▸?_;exact h
theorem sB(d:m.lookup 216=some (.int (be ns)))(c:m.lookup 199=some (bH n (fD ns)))(i:n<=7){P:MV->AS->Prop}(h:P (.lst (((List.range n).filter fun k=>(((be ns).fdiv 32).fdiv (2 ^ k)).fmod 2 == 1).map aw)) ⟨H,nx,m⟩) :
  eR [216] (jW (cC kT [(cC iI [(ac 199)])])) (ba 191) (bh gT (dG jx (dG kL (dG kL (ac 216) (ax (.int 32))) (dG nJ (ax (.int 2)) (ac 191))) (ax (.int 2))) (ax (.int 1))) (ac 191) ⟨H,nx,m⟩ P:=by
 refine hK (ke (kD c ⟨n,A4 rfl (Int.natCast_nonneg n) (NJ i rfl) ?_⟩));show eU _ _ _ _ _ _ _ ⟨H,nx,cT [216] m⟩ _;refine gM (H:=H) (nx:=nx) (m0:=cT [216] m) (g:=fun _=>True) aw (fun k=>(((be ns).fdiv 32).fdiv (2 ^ k)).fmod 2 == 1) aw trivial (List.range n) [] _ (fun _ _=>rfl) (fun k q r k2 o=>⟨fun p l=>?_,fun _ p l=>aa o l⟩) (by simp;exact av 0 7 0 900 i rfl) ?_
 ·have e:k<8:=by have:=List.mem_range.mp q;exact Zp this (Zk i (by decide))
  have f:=(k2 216 (by decide)).trans (om d);obtain⟨p1,p2⟩:=(AO e)
  refine aK ?_;refine eG (x:=((be ns).fdiv 32).fdiv (2 ^ k)) (y:=2) (fun A b=>?_) (fun A b=>au b) (jg (by decide)) (au (kZ l));refine eG (x:=(be ns).fdiv 32) (y:=2 ^ k) (fun A b=>eG (x:=be ns) (y:=32) (fun A b=>aa f b) (fun A b=>au b) (ji (by decide) (by decide)) b) (fun A b=>?_) (ji p1 p2) b;exact eG (x:=2) (y:=(k:Int)) (fun A b=>au b) (fun A b=>aa o b) (u8 (a:=2) (by decide) (av 1 8 0 1000 e rfl)) b
 ·rw[List.nil_append];exact aL (by rw[List.length_map];exact Zk (List.length_filter_le _ _) (by simp;exact av 0 7 0 100000 i rfl)) h
theorem sy{l:List Nat}(d:m.lookup 217=some (.lst (l.map aw)))(c:m.lookup 199=some (bH n (fD ns)))(i:n<=7)(u:l.length<=100)(r:H (0,nx)=none){P:MV->AS->Prop}(h:P (.tag (0,nx)) ⟨af H (0,nx) (.list (cu n fun k=>if l=[]\/k∈l then .reached else .no)),nx+1,m⟩) :
  eR [217] (jW (cC kT [(cC iI [(ac 199)])])) (ba 191) fN (pN (fS (bh pP (ac 217) (dJ [])) (fS (bh ko (ac 191) (ac 217)) eX)) (ax (.str 21)) (ax (.str 20))) ⟨H,nx,m⟩ P:=by
 refine hK (ke (kD c ⟨n,A4 rfl (Int.natCast_nonneg n) (NJ i rfl) ?_⟩));show eU _ _ _ _ _ _ _ ⟨H,nx,cT [217] m⟩ _;refine gM (H:=H) (nx:=nx) (m0:=cT [217] m) (g:=fun _=>True) aw (fun _=>true) (fun k=>(if l=[]\/k∈l then LS.reached else .no).mv) trivial (List.range n) [] _ (fun _ _=>rfl) (fun k t v k2 s=>⟨fun q a=>a,fun _ q a=>?_⟩) (by simp;exact av 0 7 0 900 i rfl) ?_
 ·have b:=(k2 217 (by decide)).trans (om d);refine jb (gz (aK (aa b (bv (ai (aL (by decide) (sZ ?_)))))));cases p:l.isEmpty with
  |true=>
   have:=List.isEmpty_iff.mp p;rw[if_pos (.inl this)] at a;exact au a
  |false=>
   have o:l≠[]:=fun e=>by rw[e] at p;exact qO p
   refine gz (aK (aa s (aa b ⟨l.contains k,?_,?_⟩)))
   ·show dT (aw k) (l.map aw)=_;exact pB
   cases f:l.contains k with
   |true=>
    rw[List.contains_eq_mem,decide_eq_true_eq] at f;rw[if_pos (.inr f)] at a;exact au a
   |false=>
    rw[List.contains_eq_mem,decide_eq_false_iff_not] at f;rw[if_neg (by rintro (h|h);exact o h;exact f h)] at a;exact sO (au a)
 ·rw[List.nil_append,List.filter_eq_self.mpr fun _ _=>rfl];exact eB r (by simp;exact av 0 7 0 100000 i rfl) h
theorem vp{f g:Nat->LS}(h:∀k,k<n->f k=g k):cu n f=cu n g:=List.map_congr_left fun k a=>by rw[h k (List.mem_range.mp a)]
theorem zA(f:qG H nx)(hns:ns.length<=63)(q:∀H' nx',Q (.bool true) ⟨H',nx',m⟩):xP.1 [.lst (ns.map .int)] [] ⟨H,nx,m⟩ Q:=by
 refine⟨rfl,?_⟩;show az _ _ ⟨H,nx,[(221,.lst (ns.map .int))]⟩ _;obtain⟨n1,u⟩:=(uf ns)
 have w:∀d:MV->AS->Prop,d (.int (be ns)) ⟨H,nx,[(221,.lst (ns.map .int))]⟩->pN (c9 (ac 221)) (bG (ac 221) (ax (.int 0))) (ax (.int 0)) ⟨H,nx,[(221,.lst (ns.map .int))]⟩ d:=fun d h=>by
  refine jb (cw (aa rfl ⟨!ns.isEmpty,by show some (!(ns.map MV.int).isEmpty)=_;induction ns<;>rfl,?_⟩));cases I:ns with
  |nil=>
   rw[I] at h;exact au h
  |cons a l=>
   rw[I] at h;exact⟨_,rfl,.int a,rfl,h⟩
 refine aj (aP (w _ ?_));have F:∀d:MV->AS->Prop,d (bH (bl ns).length (fD ns)) ⟨H,nx,[(221,.lst (ns.map .int)),(216,.int (be ns))]⟩->
   eR [] (pe (pN (bh uT (cC iI [(ac 221)]) (ax (.int 2))) (fH (ac 221) (some (ax (.int 1))) (some (ax (.int 8))) none) (dJ [(ax (.int 0)),(ax (.int 0)),(ax (.int 2916)),(ax (.int 10)),(ax (.int 6588)),(ax (.int 90))]))) (iK 191 190) fN (db lV.1 [(ac 190),(ac 191)] []) ⟨H,nx,[(221,.lst (ns.map .int)),(216,.int (be ns))]⟩ d:=fun d h=>by
  have src:∀U:MV->AS->Prop,U (.lst ((bl ns).map .int)) ⟨H,nx,[(221,.lst (ns.map .int)),(216,.int (be ns))]⟩->pN (bh uT (cC iI [(ac 221)]) (ax (.int 2))) (fH (ac 221) (some (ax (.int 1))) (some (ax (.int 8))) none) (dJ [(ax (.int 0)),(ax (.int 0)),(ax (.int 2916)),(ax (.int 10)),(ax (.int 6588)),(ax (.int 90))]) ⟨H,nx,[(221,.lst (ns.map .int)),(216,.int (be ns))]⟩ U:=fun U h=>by
   refine jb (vh (ns:=ns) rfl ?_);delta bl at h;by_cases D:2<ns.length
   ·rw[if_pos D] at h;rw[decide_eq_true (show(2:Int)<(ns.length:Int) by omega)];refine iW (aa rfl (jh (au ⟨1,rfl,jh (au ⟨8,rfl,ec (E2 _ _ (A3 rfl (ua (by decide) (by decide)) (aL (by simp;omega) ?_)))⟩)⟩)));have:(((ns.map MV.int).drop (1:Int).toNat).take ((8:Int).toNat - (1:Int).toNat))=((ns.drop 1).take 7).map .int:=by rw[List.map_take,List.map_drop];rfl
    rw[this];exact h
   ·rw[if_neg D] at h;rw[decide_eq_false (show¬ (2:Int)<(ns.length:Int) by omega)];exact bv (ao (au (ao (au (ao (au (ao (au (ao (au (ao (au (ai (aL (bX rfl) h))))))))))))))
  refine hK (vE (src _ ⟨_,rfl,?_⟩));rw[vK];refine yd (H:=H) (nx:=nx) (x:=191) (y:=190) (t:=fN) (g:=fun H=>bc H (MV.lst ((bl ns).map .int))=some ((bl ns).map .int)) aw (fun k=>.int (((bl ns)[k]?).getD 0)) (fun k=>(fD ns k).mv) rfl (List.range (bl ns).length) [] _ (fun k Z m2 kx ky=>⟨fun d hp=>hp,fun d hp=>?_⟩) (by decide) (by simp;exact av 0 7 0 900 u rfl) ?_;·refine cD (ao (aa ky (ao (aa kx (ai (ai (tX (by have:=List.mem_range.mp Z;exact Zk this u) hp)))))))
  ·rw[List.nil_append];exact aL (by simp;exact av 0 7 0 100000 u rfl) h
 refine aj (aP (F _ ?_));have z:∀d:MV->AS->Prop,d (.lst ((eM ns).map .int)) ⟨H,nx,[(221,.lst (ns.map .int)),(216,.int (be ns)),(199,bH (bl ns).length (fD ns))]⟩->
   pN (bh uT (cC iI [(ac 221)]) (ax (.int 8))) (fH (ac 221) (some (ax (.int 8))) none none) (dJ [(ac 216),(dG we (dG kL (ac 216) (ax (.int 3))) (ax (.int 1)))]) ⟨H,nx,[(221,.lst (ns.map .int)),(216,.int (be ns)),(199,bH (bl ns).length (fD ns))]⟩ d:=fun d h=>by
  refine jb (vh (ns:=ns) rfl ?_);delta eM at h;by_cases D:8<ns.length
  ·rw[if_pos D] at h;rw[decide_eq_true (show(8:Int)<(ns.length:Int) by omega)];refine iW (aa rfl (jh (au ⟨8,rfl,ec (ec (E2 _ _ (A3 rfl (nP (by decide)) (aL (by simp;exact av 0 63 0 100008 hns rfl) ?_))))⟩)));have:(ns.map MV.int).drop (8:Int).toNat=(ns.drop 8).map .int:=by rw[List.map_drop];rfl
   exact this▸h
  ·rw[if_neg D] at h;rw[decide_eq_false (show¬ (8:Int)<(ns.length:Int) by omega)];refine bv (ao (aa rfl (ao ?_)));refine eG (x:=(be ns).fdiv 3) (y:=1) (fun A c=>eG (x:=be ns) (y:=3) (fun A c=>aa rfl c) (fun A c=>au c) (ji (by decide) (by decide)) c) (fun A c=>au c) rfl ?_;exact ai (aL (bX rfl) h)
 refine aj (aP (z _ ?_));have hmv:eM ns≠[]:=by
  delta eM;split
  ·intro e;have:=congrArg List.length e;simp at this;omega
  ·exact List.cons_ne_nil _ _
 refine aj (aP ?_);refine eG (x:=1) (y:=((be ns).fdiv 8).fmod 4) (fun A c=>au c) (fun A c=>eG (x:=(be ns).fdiv 8) (y:=4) (fun A c=>eG (x:=be ns) (y:=8) (fun A c=>aa rfl c) (fun A c=>au c) (ji (by decide) (by decide)) c) (fun A c=>au c) (jg (by decide)) c) rfl ?_;refine aj (aP (sB (ns:=ns) rfl rfl u ?_));show az _ _ ⟨H,nx,[(221,.lst (ns.map .int)),(216,.int (be ns)),(199,bH (bl ns).length (fD ns)),(222,.lst ((eM ns).map .int)),(223,.int (iv ns)),(217,.lst ((cL ns).map aw))]⟩ _;have J:(cL ns).length<=7:=Zk (List.length_filter_le _ _) (by simp;omega);refine aj (aP (sy (l:=cL ns) rfl rfl u (av 0 7 0 100 J rfl) (f.tmp nx (Zj _)) ?_));have es:cu (bl ns).length (fun k=>if cL ns=[]\/k∈cL ns then LS.reached else .no)=cu (bl ns).length (dC ns):=vp fun k Z=>by
  delta dC;by_cases h:cL ns=[]\/k∈cL ns;·rw[if_pos h,if_pos ⟨Z,h⟩]
  ·rw[if_neg h,if_neg fun q=>h q.2]
 refine es▸?_;have f1:qG (af H (0,nx) (.list (cu (bl ns).length (dC ns)))) (nx+1):=
  ⟨fun g i S D=>(ae (aV (Zn S))).trans (f.none g i S D),by refine bz f.tab fun ps p1 p2 p3=>?_;exact⟨ps,A3 ((ae gd).trans p1) p2 p3⟩,fun i hi=>(ae (dh (Zn hi))).trans (f.tmp i (Zv hi))⟩
 have L:af H (0,nx) (.list (cu (bl ns).length (dC ns))) (0,nx)=some (.list (cu (bl ns).length (dC ns))):=setH_at;generalize af H (0,nx) (.list (cu (bl ns).length (dC ns)))=H1 at f1 L;have G:∀d:aE->AS->Prop,d .next ⟨H1,nx+1,[(221,.lst (ns.map .int)),(216,.int (be ns)),(199,bH (bl ns).length (fD ns)),(222,.lst ((eM ns).map .int)),(223,.int (iv ns)),(217,.lst ((cI ns).map aw)),(200,.tag (0,nx))]⟩->
   ca (bh gT (dG jx (dG kL (ac 216) (ax (.int 4096))) (ax (.int 2))) (ax (.int 1))) (cJ 217 (fH (ac 217) none none (some (v8 (ax (.int 1)))))) bn ⟨H1,nx+1,[(221,.lst (ns.map .int)),(216,.int (be ns)),(199,bH (bl ns).length (fD ns)),(222,.lst ((eM ns).map .int)),(223,.int (iv ns)),(217,.lst ((cL ns).map aw)),(200,.tag (0,nx))]⟩ d:=fun d h=>by
  refine aX (aK (eG (x:=(be ns).fdiv 4096) (y:=2) (fun A c=>eG (x:=be ns) (y:=4096) (fun A c=>aa rfl c) (fun A c=>au c) (ji (by decide) (by decide)) c) (fun A c=>au c) (jg (by decide)) (au (kZ ?_))));delta cI at h;by_cases e:((be ns).fdiv 4096).fmod 2=1
  ·rw[if_pos e] at h;have:(((be ns).fdiv 4096).fmod 2 == 1)=true:=by rw[e];rfl
   rw[this];refine aP (iW (aa rfl (ec (ec (jh ⟨1,rfl,-1,rfl,E2 _ (((cL ns).map aw).reverse) (A3 rfl rfl (aL (by simp;exact av 0 7 0 100000 J rfl) ?_))⟩)))));refine List.map_reverse▸?_;exact h
  ·rw[if_neg e] at h;have:(((be ns).fdiv 4096).fmod 2 == 1)=false:=beq_eq_false_iff_ne.mpr e;rw[this];exact bU h
 refine aj (G _ ?_);refine gm ((uw (ns:=ns))) fun C V W K=>?_;have o:RowsOK (bl ns).length (fD ns):=yq u;have kd:∀k,kO (fD ns k).kd:=fun k=>wI _;have Y:∀l,pQ ns=some l->(∀j∈l,j<(bl ns).length)/\l.Nodup:=fun l T=>by
  delta pQ at T;split at T;·exact aQ T
  ·obtain rfl:=Zb T;exact⟨fun j r=>qj j (C j r),W⟩
 have E:∀d:MV->AS->Prop,(d (uU (pQ ns)) ⟨H1,nx+1,[(221,.lst (ns.map .int)),(216,.int (be ns)),(199,bH (bl ns).length (fD ns)),(222,.lst ((eM ns).map .int)),(223,.int (iv ns)),(217,.lst ((cI ns).map aw)),(200,.tag (0,nx))]⟩)->
   pN (bh pP (ac 217) (dJ [])) (ax .none) (ac 217) ⟨H1,nx+1,[(221,.lst (ns.map .int)),(216,.int (be ns)),(199,bH (bl ns).length (fD ns)),(222,.lst ((eM ns).map .int)),(223,.int (iv ns)),(217,.lst ((cI ns).map aw)),(200,.tag (0,nx))]⟩ d:=fun d h=>by
  refine jb (aK (aa rfl (bv (ai (aL (by decide) (sZ ?_))))));delta pQ at h;cases I:(cI ns).isEmpty with
  |true=>rw[if_pos (List.isEmpty_iff.mp I)] at h;exact au h
  |false=>rw[if_neg fun e=>by rw[e] at I;exact qO I] at h;exact aa rfl h
 refine aj (aP (cD (ao (aa rfl (ao (aa rfl (ao (E _ (ai (ai ?_))))))))));refine nv o n1 f1 Y fun H2 p n2 r2 l2=>?_;have v:∀j,dC ns j=.reached↔j∈lA (dQ (bl ns).length (be ns)) (pQ ns):=fun j=>by
  have perm:=mA (n:=(bl ns).length) (b:=be ns);delta dC pQ;by_cases e:cI ns=[]
  ·rw[if_pos e];have X:=K.mp e;show _↔j∈dQ _ _;rw[perm.mem_iff,List.mem_range];by_cases r:j<(bl ns).length;·rw[if_pos ⟨r,.inl X⟩];simp[r]
   ·rw[if_neg fun q=>r q.1];simp[r]
  ·rw[if_neg e];have X:cL ns≠[]:=fun h=>e (K.mpr h);show _↔j∈cI ns;by_cases r:j∈cI ns;·rw[if_pos ⟨qj j (C j r),.inr (C j r)⟩];simp[r]
   ·rw[if_neg (by rintro ⟨_,q|q⟩;exact X q;exact r (V j q))];simp[r]
 have B:∀j∈lA (dQ (bl ns).length (be ns)) (pQ ns),j<(bl ns).length:=fun j r=>by
  have:=(v j).mpr r;unfold dC at this;split at this;·rename_i h;exact h.1
  ·exact LS.noConfusion this
 have pi:=wv v B;generalize lA (dQ (bl ns).length (be ns)) (pQ ns)=sel at r2 v B pi;refine aj (aP (bv (ai ?_)));refine eB (r2.tmp p (Zj _)) (by decide) ?_;refine aj (aP (au ?_));show az _ _ ⟨af H2 (0,p) (.list []),p+1,[(221,.lst (ns.map .int)),(216,.int (be ns)),(199,bH (bl ns).length (fD ns)),(222,.lst ((eM ns).map .int)),(223,.int (iv ns)),(217,.lst ((cI ns).map aw)),(200,.tag (0,nx)),(206,.tag (20,0)),(224,.tag (0,p)),(225,.bool false)]⟩ _;have li:LI (bl ns).length (fD ns) sel nx p (eM ns) (iv ns) (af H2 (0,p) (.list [])) (p+1) [(221,.lst (ns.map .int)),(216,.int (be ns)),(199,bH (bl ns).length (fD ns)),(222,.lst ((eM ns).map .int)),(223,.int (iv ns)),(217,.lst ((cI ns).map aw)),(200,.tag (0,nx)),(206,.tag (20,0)),(224,.tag (0,p)),(225,.bool false)] (uR (fD ns) sel) (dC ns) [] false:=
  ⟨⟨rfl,rfl,rfl,rfl,rfl,rfl⟩,rfl,(Zh n2),(av 1 0 1 1 n2 rfl),(Zj _),(ae (dh (Zh n2))).trans ((l2 nx (Zr _)).trans L),setH_at,r2.tmpSet (Zz _) (Zr _),pi,(fun h=>nomatch h)⟩
 refine aj (cA (ke (cm (ao (au (ai ⟨60,rfl,60,A4 rfl (by decide) (by decide) ?_⟩))))));have e60:iT 60=(List.range 60).map aw:=lJ 60;have N:=zR (n:=(bl ns).length) (s:=dC ns);refine wU o kd hmv (List.range 60) _ _ _ _ _ _ _ li (by simp;exact AK u u u u N) fun H3 nx3 m3 s3 O R h0 S M=>?_;exact yA O R h0 S u M (q H3 nx3)
end
end
section
noncomputable def AD(K:Frag)(p:Nat×Option Value):Bool:=(nm p.1).all fun s=>nsIn K mainGlobals s == some p.2
noncomputable def tB(K:Frag)(a:Addr):Option FuncData:=match (K.lookup a).map fun o:Obj=>o.data with
 |some (.func fd)=>some fd
 |_=>none
noncomputable def tz(K:Frag)(e:Nat×Nat×Nat×String×Value×Nat):Option FuncData:=qJ (ku e.2.1 e.2.2.1) (fun name a body sc=>(tB K e.1).map fun fd=>fnX name (Str.ofString e.2.2.2.1) a body sc [] e.2.2.2.2.1 .none fd.doc fd.pyModule fd.annotations (.ref e.2.2.2.2.2) fd.closureTuple) none
noncomputable def AE(K:Frag)(e:Nat×Nat×Nat×String×Value×Nat):Bool:=(tz K e).isSome&&codeIn K (.ref e.2.2.2.2.2) (Str.ofString e.2.2.2.1)
structure KOK(K:Frag):Prop where
 nt:noTabs K=true
 hd:codeHdIn K 343 339=true
 cl:(List.range 4).all (fun C=>pD K (iV C)&&keepIn K (.ref (iV C)))=true
 att:(List.range 4).all (fun C=>(dO C).all fun n=>findIn K (.ref (iV C)) (S0 n) == some none)=true
 met:(List.range 4).all (fun C=>(gN C).all fun n=>j9 K (iV C) (d6 ((C+1)*1000+n)) (S0 n))=true
 gl:glL.all (AD K)=true
 kp:kpL.all (fun f=>keepIn K (.ref f))=true
 ho:nsIn K mainGlobals (Str.ofString "HoldOn")=some (some (.ref 65))
 ex:excIn K 65 [.type "Exception",.type "BaseException",.type "object"] "Exception.__new__"=true
 fb:fnL.all (AE K)=true
 fns:fnL.map (fun e=>tB K e.1)=fnL.map (tz K)
 tp:tpL.map (fun p=>K.lookup p.1)=tpL.map fun p=>some (fG p.2 0)
 ln:∃a vs k,nsIn K mainGlobals (Str.ofString "_law_names")=some (some (.ref a))/\K.lookup a=some (bg vs k)/\∀W,VRs S0 W vs dE
 st:specialIn K (.ref 368) "__getattribute__"=some (some (.builtin "type.__getattribute__"))
 st2:∃mc p rest,readsIn K 368 mc=true/\findCls K (.ref 368) mc (Str.ofString "add_implicit_task_dep")=some (.get (.builtin "staticmethod.__get__") (.ref p) .none (.ref 368))/\recIn K p "staticmethod"=some (.ref 327::rest)
 st3:keepIn K (.ref 327)=true
 sti:∃cd p rest,clsIn K 368=some cd/\cd.hasDict=true/\(copiedNames.contains (Str.ofString "set_implicit_deps")&&(cd.mro.isEmpty||cd.mro.contains (.type "staticmethod")||cd.mro.contains (.type "classmethod")))=false/\findIn K (.ref 368) (Str.ofString "set_implicit_deps")=some (some (.ref p))/\specialIn K (.ref p) "__get__"=some (some (.builtin "staticmethod.__get__"))/\takesIn K (.ref p)=some false/\
  (typeIn K (.ref p)).any (fun t=>t != .type "function"&&t != .type "method_descriptor"&&t != .type "wrapper_descriptor")=true/\recIn K p "staticmethod"=some (.ref 317::rest)
 sti3:keepIn K (.ref 317)=true
theorem yF{K:Frag}{a:Addr}{fd:FuncData}(e:tB K a=some fd):∃c od b,K.lookup a=some ⟨c,od,.func fd,b⟩:=by
 delta tB at e;cases h:K.lookup a with
 |none=>rw[h] at e;exact aQ e
 |some o=>
  rw[h] at e;induction o with
  |mk c od d b=>
   induction d<;>cases e;exact E3 c od b rfl
theorem sr{c:Type}(l:List c):∀(i:Nat),qL l i=l[i]?:=by
 induction l with
 |nil=>intro i;rfl
 |cons a l b=>
  intro i;cases i with
  |zero=>rfl
  |succ i=>exact b i
theorem vq(s:Option Stmt):(∃n p b sc,∀{a:Type}(k:Str->Arguments->List Stmt->Scope->a)(d:a),qJ s k d=k n p b sc)\/∀{a:Type}(k:Str->Arguments->List Stmt->Scope->a)(d:a),qJ s k d=d:=by
 induction s with
 |none=>exact .inr fun _ _=>rfl
 |some s=>cases s<;>first|exact .inr fun _ _=>rfl|exact .inl (E4 _ _ _ _ (fun _ _=>rfl))
theorem KOK.fn{K:Frag}(k:KOK K)(i:Nat)(e:Nat×Nat×Nat×String×Value×Nat)(h:qL fnL i=some e):wb K e:=by
 rw[sr] at h;have a:=congrArg (fun l=>l[i]?) k.fns;simp only[List.getElem?_map,h,Option.map_some,Option.some.injEq] at a;have d:=List.all_eq_true.mp k.fb e (ZC h);unfold AE at d;rw[Bool.and_eq_true] at d;refine Za d fun d m=>?_;rw[<-a] at d;refine Zx (Option.isSome_iff_exists.mp d) fun fd c=>?_;replace a:=c▸a;delta wb;rcases vq (ku e.2.1 e.2.2.1) with⟨n,p,b,sc,h⟩|h
 ·rw[h];rw[tz,h,c] at a;refine jE (yF c) fun o od g=>?_;refine Zx g fun f j=>?_;rw[Zb a] at j;exact E7 o od f _ _ _ _ ⟨j,m⟩
 ·rw[tz,h] at a;exact jF a
theorem re{a:Type}:∀{l:List (Nat×a)}{i:Nat}{v:a},l.lookup i=some v->(i,v)∈l
 |(j,u)::l,i,v,e=>by
  rw[List.lookup_cons] at e;split at e
  ·rename_i h;obtain rfl:=Zb e;cases beq_iff_eq.mp h;exact .head _
  ·exact .tail _ (re e)
theorem KOK.tup{K:Frag}(k:KOK K)(a:Addr)(l:List Value)(h:tpL.lookup a=some l):K.lookup a=some (fG l 0):=by
 refine Zx (List.getElem?_of_mem (re h)) fun i c=>?_;have b:=congrArg (fun l=>l[i]?) k.tp;simp only[List.getElem?_map,c,Option.map_some,Option.some.injEq] at b;exact b
theorem oz{C:Nat}(h:C<4){f:Nat->Bool}(a:(List.range 4).all f=true):f C=true:=List.all_eq_true.mp a C (List.mem_range.mpr h)
theorem uh{b:Type}{l:List (Nat×b)}{f:Nat×b->Bool}(a:l.all f=true){i:Nat}{v:b}(e:l.lookup i=some v):f (i,v)=true:=List.all_eq_true.mp a _ (re e)
theorem yG{C n:Nat}(h:n∈dO C):C<4:=by
 match C,h with
 |0,_=>decide
 |1,_=>decide
 |2,_=>decide
 |3,_=>decide
theorem yw{C n:Nat}(h:n∈gN C):C<4:=by
 match C,h with
 |0,_=>decide
 |1,_=>decide
 |2,_=>decide
 |3,_=>decide
noncomputable abbrev dr:List (Addr×Addr):=[(343,339)]
theorem yi:([44,45].all fun m=>(List.range 8).all fun n=>(Builtin.Str.occurrences (S0 n) (S0 m) 0 (S0 n).length 1).isEmpty)=true:=by decide +kernel
theorem yy:((List.range 8).all fun n=>(S0 46++S0 n == S0 (8+n))&&!((S0 n).length == 0)&&decide ((S0 (8+n)).length<=1000))=true:=by decide +kernel
theorem zF:((S0 46).length == 0)=false:=by decide +kernel
noncomputable def tD{prog:Program}{a:List Str}{d:ExcName->Option Value}{mg mb:Str->Option Value}(p:Program)(w:World)(K:Frag)(s:Shared)(k:KOK K)(X:K.In s.heap)(c:TabsAt dr s.heap)(T:Top prog a d mg mb s.heap)(N:s.heap.NoSeer):Cx where
 prog:=p
 w:=w
 K:=K
 B:=ghostOf s.heap dr
 mg:=mg
 mb:=mb
 os:=s.os
 X:=ghost_K c X k.nt
 G:=ghost_ns c T.g
 Bn:=ghost_ns c T.b
 lim:=(ghost_top c T).nolimit
 bi:=T.builtins
 sm:=by refine ar N.mods fun _ x _=>?_;refine dM (ghost_ns c x) fun o _ _ e _=>?_;exact⟨o,e⟩
 hcls:=fun C h=>(Bool.and_eq_true_iff.mp (oz h k.cl)).1
 hattr:=fun C n h=>beq_iff_eq.mp (List.all_eq_true.mp (oz (yG h) k.att) n h)
 hmeth:=fun C n h=>List.all_eq_true.mp (oz (yw h) k.met) n h
section
variable {prog:Program}{c:List Str}{d:ExcName->Option Value}{mg mb:Str->Option Value}{p:Program}{w:World}{K:Frag}{s:Shared}{k:KOK K}{X:K.In s.heap}{a:TabsAt dr s.heap}{T:Top prog c d mg mb s.heap}{N:s.heap.NoSeer}
theorem Al:HC (tD p w K s k X a T N) where
 own:=own_of_in (ghost_K a X k.nt) (topRead_of (ghost_top a T)) k.ho k.ex
 codeHd:=codeHd_of_K (ghost_K a X k.nt) k.hd
 bm:=fun h A=>by
  refine ip ((ghost_top a T).bmain) fun bm D a1 u j t y l=>?_;refine⟨bm,D,A8 a1 u (fun e=>?_) (fun e=>?_) (A _ _ j) t y l⟩
  ·refine eY ((ghost_top a T).g) fun o es ep q r _=>?_;rw[e,q] at j;obtain rfl:=Zb j;replace l:=r▸l;cases l
  ·have:=of_hideAll _ j;replace this:=((a _ (.head _)).2)▸e▸this;obtain rfl:=Zb this;cases t
 star:=fun m n b e=>by
  delta iJ at e;split at e
  ·rename_i h;obtain rfl:=Zb e;simp only[Bool.and_eq_true,Bool.or_eq_true,beq_iff_eq,decide_eq_true_eq] at h;have B:m∈[44,45]:=by rcases h.1 with rfl|rfl<;>decide
   have:=List.all_eq_true.mp (List.all_eq_true.mp yi m B) n (List.mem_range.mpr h.2);refine this▸?_;rfl
  ·exact aQ e
 made:=fun m n k e=>by
  delta jJ at e;split at e
  ·rename_i h;obtain rfl:=Zb e;simp only[Bool.and_eq_true,beq_iff_eq,decide_eq_true_eq] at h;have:=List.all_eq_true.mp yy n (List.mem_range.mpr h.2);simp only[Bool.and_eq_true,beq_iff_eq,decide_eq_true_eq,Bool.not_eq_true'] at this;obtain⟨z,_⟩:=h;obtain rfl:=z.symm;exact A4 this.1.1 zF this.1.2 this.2
  ·exact aQ e
 gl:=fun i x v q r=>by
  have:=uh k.gl r;rw[AD,q] at this;exact beq_iff_eq.mp this
 kp:=fun f h=>List.all_eq_true.mp k.kp f (List.contains_iff_mem.mp h)
 kc:=fun C h=>(Bool.and_eq_true_iff.mp (oz h k.cl)).2
 tp:=k.tup
 fns:=k.fn
 ln:=k.ln
 st_add_implicit_task_dep:=⟨k.st,k.st2,rfl,k.st3⟩
 sti_set_implicit_deps:=⟨k.sti,rfl,k.sti3⟩
end
end
section
theorem pS{P:Params}{h:Heap}:∀{vs:List Value}{ns:List Int},WellAll P h vs (ofPys (ns.map .int))->IntsAre vs ns
 |_,[],x=>by
  cases x;exact .nil
 |_,n::ns,x=>by
  cases x with
  |cons a b=>
   cases a;exact .cons _ _ (pS b)
theorem well_script{P:Params}{h:Heap}{a:Addr}{ns:List Int}(x:Well P h (.ref a) (ofPy (.list (ns.map .int)))):∃vs,h.get? a=some (bg vs 0)/\IntsAre vs ns:=by
 cases x with
 |list g y=>exact⟨_,g,pS y⟩
theorem wY{S:Nat->Str}{W:Wd}{vs:List Value}{ns:List Int}(x:IntsAre vs ns):VRs S W vs (ns.map .int):=by
 induction x with
 |nil=>exact .nil
 |cons n t _ a=>exact .cons (.int n t) a
noncomputable def W0(B:Heap):Wd where
 ρ:=fun t=>if t=(9,0) then some 339 else none
 own:=fun b=>if b=339 then some (9,0) else none
 F:=fun b=>(B.get? b).filter tS
noncomputable def ze(B:Heap):aA:=fun b=>(B.get? b).map (·,false)
noncomputable def H0:aq->Option MObj:=fun t=>if t=(9,0) then some (.obj (tabObj #[]) 339) else none
section
variable {prog:Program}{c:List Str}{d:ExcName->Option Value}{mg mb:Str->Option Value}{p:Program}{w:World}{K:Frag}{s:Shared}{k:KOK K}{X:K.In s.heap}{f:TabsAt dr s.heap}{T:Top prog c d mg mb s.heap}{N:s.heap.NoSeer}
theorem xa{h:Heap}:(ghostOf h dr).get? 339=none:=hideAll_none _ (.head _)
theorem Bb(l:s.gens=#[]):Inv (tD p w K s k X f T N) (W0 (ghostOf s.heap dr)) (ze (ghostOf s.heap dr)) H0 0 s:=by
 have i:∀(a:Addr)(o:Obj),(ghostOf s.heap dr).get? a=some o->(W0 (ghostOf s.heap dr)).own a=none:=fun a o e=>if_neg fun q=>by rw[q,xa] at e;exact aQ e
 have j:∀(a:Addr)(o:Obj),(W0 (ghostOf s.heap dr)).F a=some o->(ghostOf s.heap dr).get? a=some o:=fun a o e=>(Option.filter_eq_some_iff.mp e).1;have kp:∀(a:Addr)(o:Obj×Bool),ze (ghostOf s.heap dr) a=some o->∃g,(ghostOf s.heap dr).get? a=some g/\o=(g,false):=fun a o e=>by
  refine ar (Option.map_eq_some_iff.mp e) fun g h q=>?_;exact⟨g,h,q.symm⟩
 refine⟨fun a o e=>?_,fun a o e=>?_,fun a o e=>of_hideAll _ (j a o e),fun a o e h=>?_,fun t o e=>?_,fun t a e=>?_,fun a t e=>?_,fun a o e=>?_,fun a o e=>i a o (j a o e),rfl,l,fun a o e q=>Option.filter_eq_some_iff.mpr ⟨e,q⟩,fun a o e=>of_hideAll _ e,(E2 (#[]) 339 rfl)⟩
 ·show((ghostOf s.heap dr).get? a).map (·,false)=_;refine(show(ghostOf s.heap dr).get? a=some o from e)▸?_;rfl
 ·refine ar (kp a o e) fun g h b=>?_;obtain rfl:=b;exact⟨g,of_hideAll _ h,.refl _ _⟩
 ·refine ar (kp a o e) fun g h' b=>?_;obtain rfl:=b;rw[show(ghostOf s.heap dr).get? a=none from h] at h';exact aQ h'
 ·unfold H0 at e;split at e
  ·rename_i q;subst q;obtain rfl:=Zb e;exact⟨rfl,rfl,(f _ (.head _)).2⟩
  ·exact aQ e
 ·left;have:(if t=(9,0) then some 339 else none:Option Addr)=some a:=e;delta H0;split at this;·rename_i q;refine(if_pos q)▸?_;rfl
  ·exact aQ this
 ·have:(if a=339 then some (9,0) else none:Option aq)=some t:=e;split at this;·rename_i q;subst q;exact⟨_,(f _ (.head _)).2⟩
  ·exact aQ this
 ·refine ar (kp a o e) fun g h b=>?_;obtain rfl:=b;exact i a g h
theorem law_top(k:KOK K)(X:K.In s.heap)(f:TabsAt dr s.heap)(T:Top prog c d mg mb s.heap)(N:s.heap.NoSeer){a:Addr}{vs:List Value}{ns:List Int}(C:s.heap.get? a=some (bg vs 0))(B:IntsAre vs ns)(m:ns.length<=63)(E:s.gens=#[]) :
  codeAny (model p w) callerA (.call (.ref 549) ⟨[.ref a],[]⟩) (fun r l=>r=.ok (.ret (.bool true))/\(∀b o,(ghostOf s.heap dr).get? b=some o->l.heap.get? b=some o)/\l.os=s.os/\l.gens=#[]/\GrownAll dr l.heap) s:=by
 have D:HC (tD p w K s k X f T N):=Al;have I:Inv (tD p w K s k X f T N) _ _ H0 0 s:=Bb E;have x:(ghostOf s.heap dr).get? a=some (bg vs 0):=ghost_get f C (fun q=>by cases q);have G:VR S0 (W0 (ghostOf s.heap dr)) (.ref a) (.lst (ns.map .int)):=.lst (n:=0) (Option.filter_eq_some_iff.mpr ⟨x,rfl⟩) (wY B) (by rw[List.length_map];exact av 0 63 0 100000 m rfl);have u:qG H0 0:=⟨fun g i _ h=>if_neg fun q=>h (Prod.mk.inj q).1,⟨#[],A3 rfl trivial rfl⟩,fun i _=>if_neg fun q=>absurd ((Prod.mk.inj q).1) (by decide)⟩
 refine codeAny_mono (xP.2 _ D (W0 (ghostOf s.heap dr)) (ze (ghostOf s.heap dr)) H0 0 s (fun v _=>v=.bool true) [.ref a] [] [.lst (ns.map .int)] [] I (.cons G .nil) .nil rfl (zA u m fun _ _=>rfl)) fun r l z=>?_;induction r with
 |error e=>exact z.elim
 |ok t=>
  induction t<;>first|exact z.elim|skip
  refine bW z fun M y σ' le j H F=>?_;subst F;refine A5 ?_ j.keepB j.os j.gens ⟨?_,trivial⟩;·cases H;rfl
  ·refine jE j.tab fun J A e=>?_;refine bM (j.objs _ _ e) fun L _ g=>?_;have:=le.ρ (9,0) 339 rfl;rw[L] at this;obtain rfl:=Zb this;exact⟨J,g⟩
end
end

end Mini.Tactic
set_option Elab.async true
namespace Mini.top
def tw10030611219325073988:=Nat
def tw10033536026345188860:=Nat
def tw10041163175624958667:=Nat
def tw10045210895570588262:=Nat
def tw10055578722966601152:=Nat
def tw10131580449796261170:=Nat
def tw10132861328316516174:=Nat
def tw10134272919310741943:=Nat
def tw10175242441890719883:=Nat
def tw10177940830831677898:=Nat
def tw10213372273099732066:=Nat
def tw10227646773709998348:=Nat
def tw10235176901200666164:=Nat
def tw1029281049273509802:=Nat
def tw10302143790525671004:=Nat
def tw10337650002877873321:=Nat
def tw10341762858607529360:=Nat
def tw1034744964726551333:=Nat
def tw10366136424367805710:=Nat
def tw10373135641018096464:=Nat
def tw10469584458663019689:=Nat
def tw10470269314750183911:=Nat
def tw10474064110713696149:=Nat
def tw10487806940768295475:=Nat
def tw10508680664769539755:=Nat
def tw10555428427303434125:=Nat
def tw10563639084756861582:=Nat
def tw1057321215665283333:=Nat
def tw1061973442707781449:=Nat
def tw1062282999518169517:=Nat
def tw10642778436307902672:=Nat
def tw10700376102720358375:=Nat
def tw10794016430508262184:=Nat
def tw1079501026906894387:=Nat
def tw10796592215914233307:=Nat
def tw10810339341305758849:=Nat
def tw10824741917442056622:=Nat
def tw1083585603374121114:=Nat
def tw10899622649262186954:=Nat
def tw10903053807589307699:=Nat
def tw10960241484082406691:=Nat
def tw10989904293697023835:=Nat
def tw10991474635773320541:=Nat
def tw11003465189226884838:=Nat
def tw1102473732630186234:=Nat
def tw11056426820812135488:=Nat
def tw11109158746680321607:=Nat
def tw11176616701454607880:=Nat
def tw11197168912426867960:=Nat
def tw11244369661463588144:=Nat
def tw11251911098164353255:=Nat
def tw11253338634165872156:=Nat
def tw11258364294465564683:=Nat
def tw11258962665197406641:=Nat
def tw11274965695406179496:=Nat
def tw1128776371245124249:=Nat
def tw11300068374394407835:=Nat
def tw1130190677680504965:=Nat
def tw11326567057315278218:=Nat
def tw11346673945102630191:=Nat
def tw11356549567536383171:=Nat
def tw1136935755700918482:=Nat
def tw1137942550213338584:=Nat
def tw11418387129359693599:=Nat
def tw11434267521351887446:=Nat
def tw11530330400169930184:=Nat
def tw11631895948725642096:=Nat
def tw11643878733372212413:=Nat
def tw1164857293526648657:=Nat
def tw1165116265036349277:=Nat
def tw11703377337516269989:=Nat
def tw11771615603679499430:=Nat
def tw11858305762398347304:=Nat
def tw11883808117406810140:=Nat
def tw11904003165679256522:=Nat
def tw11935267161451236066:=Nat
def tw11959960250488797805:=Nat
def tw11967109671177795980:=Nat
def tw11981087231611132652:=Nat
def tw11988243496555678421:=Nat
def tw12017968850721072753:=Nat
def tw12018002121641180959:=Nat
def tw1207299852265998633:=Nat
def tw12122131006450905193:=Nat
def tw12123174920995355295:=Nat
def tw1218808795003211598:=Nat
def tw12212183893657600767:=Nat
def tw12247568310743939343:=Nat
def tw1233617622584134788:=Nat
def tw12346325015342239068:=Nat
def tw12364975639682725612:=Nat
def tw1236897501853114568:=Nat
def tw12369565111030573493:=Nat
def tw12423635890131294191:=Nat
def tw12447343066000719177:=Nat
def tw12457444141691181417:=Nat
def tw1250134209431431856:=Nat
def tw12508873030257311944:=Nat
def tw12517896296354376772:=Nat
def tw12547629122953267339:=Nat
def tw12605415412347096636:=Nat
def tw12613885233643319457:=Nat
def tw12621397621761737810:=Nat
def tw12670300070409048238:=Nat
def tw12701451418089816786:=Nat
def tw12703493891837568251:=Nat
def tw12711938916226601795:=Nat
def tw12765418924629358092:=Nat
def tw12779324841448611522:=Nat
def tw12834946381666591534:=Nat
def tw12838786862714359652:=Nat
def tw12840165288922638145:=Nat
def tw1286001957114858494:=Nat
def tw12862510541869930715:=Nat
def tw12916364996194728260:=Nat
def tw12924350578192346302:=Nat
def tw12929583527895387686:=Nat
def tw12967541458095280052:=Nat
def tw13083763539036266152:=Nat
def tw13130743548847497648:=Nat
def tw13140012004441856766:=Nat
def tw13259162796299423042:=Nat
def tw13294012031036233580:=Nat
def tw13324016476331450431:=Nat
def tw13348458153030294739:=Nat
def tw13372375381563701704:=Nat
def tw13376460435787766199:=Nat
def tw13389897465527670877:=Nat
def tw13392031122750458711:=Nat
def tw13448108052230701699:=Nat
def tw13452936208943810925:=Nat
def tw13493769820106141170:=Nat
def tw13520447568165589947:=Nat
def tw13551229166888857842:=Nat
def tw13572105148982676706:=Nat
def tw13586443269123533020:=Nat
def tw13603689417689204585:=Nat
def tw13615170491230785193:=Nat
def tw13615530305611887331:=Nat
def tw13628604477078549543:=Nat
def tw13647991531119702077:=Nat
def tw13716445996777602524:=Nat
def tw13763972812364536875:=Nat
def tw13783732926025509660:=Nat
def tw13825734524520365002:=Nat
def tw13848580947304859661:=Nat
def tw13850376021487359709:=Nat
def tw13941306969430548886:=Nat
def tw13942743567829496983:=Nat
def tw14129713353467329519:=Nat
def tw14133849573891184569:=Nat
def tw14144173113726199501:=Nat
def tw14178460546592607634:=Nat
def tw1421926318498630880:=Nat
def tw14263190005049424675:=Nat
def tw14269508357656033188:=Nat
def tw14274559064941802086:=Nat
def tw14287922341609293385:=Nat
def tw14313031669400191709:=Nat
def tw14358790333735797996:=Nat
def tw14372966867471669119:=Nat
def tw14402713505624559417:=Nat
def tw14449722933771581363:=Nat
def tw14480780602814460190:=Nat
def tw14515780280075738841:=Nat
def tw14516134164899256229:=Nat
def tw14530852552999039946:=Nat
def tw1455985319702681245:=Nat
def tw14577784950210678040:=Nat
def tw14614480591744738556:=Nat
def tw14617037575760850904:=Nat
def tw1462564884731973184:=Nat
def tw14641594960037661250:=Nat
def tw1465476751658803183:=Nat
def tw14657312731522891395:=Nat
def tw14716735865614715652:=Nat
def tw14768614019283233523:=Nat
def tw14813911890007231999:=Nat
def tw14819739423070462348:=Nat
def tw14820333353219723797:=Nat
def tw14865057614210432496:=Nat
def tw14881551484861929140:=Nat
def tw14889264007703951491:=Nat
def tw14898505507542776012:=Nat
def tw14907877494926828018:=Nat
def tw14989026455548488527:=Nat
def tw15007431387744898424:=Nat
def tw15041733313751752424:=Nat
def tw1504662429841838917:=Nat
def tw15048901039372854897:=Nat
def tw15179341035305163276:=Nat
def tw15188049959699645290:=Nat
def tw15190575412683335568:=Nat
def tw15209888012963697573:=Nat
def tw15229548851769273276:=Nat
def tw15242999218932966301:=Nat
def tw1526133738946216833:=Nat
def tw15333654682937456514:=Nat
def tw15340046716110535568:=Nat
def tw15376264664594074621:=Nat
def tw15376442108465244259:=Nat
def tw15387702872960219178:=Nat
def tw15487726917906378338:=Nat
def tw15488317758545364828:=Nat
def tw15545388266475605251:=Nat
def tw15550978064953602531:=Nat
def tw15579236984321706044:=Nat
def tw15605566144826708759:=Nat
def tw15634661190766322875:=Nat
def tw1570789081517352881:=Nat
def tw15752640592740926099:=Nat
def tw15781430985438645652:=Nat
def tw15833877568153862377:=Nat
def tw15862978023757202889:=Nat
def tw15865751571782478814:=Nat
def tw15869452599485471355:=Nat
def tw15922834906207526892:=Nat
def tw15972443477640325604:=Nat
def tw15984974993670859575:=Nat
def tw16022134150630172149:=Nat
def tw16050032606353208761:=Nat
def tw16064955073569761259:=Nat
def tw16099115426534171052:=Nat
def tw16162776652168994687:=Nat
def tw16164484856155989233:=Nat
def tw16168671564942945584:=Nat
def tw16188399193415006268:=Nat
def tw16280084686874661118:=Nat
def tw16382899736966128570:=Nat
def tw16402583881567893977:=Nat
def tw16416226191918757241:=Nat
def tw16449527089555582345:=Nat
def tw16486560022982045224:=Nat
def tw16538253394422376953:=Nat
def tw16545012291366532872:=Nat
def tw16629578134908514305:=Nat
def tw16686142167460685016:=Nat
def tw16785456175802909277:=Nat
def tw16796762238510466178:=Nat
def tw16822137756852684831:=Nat
def tw16834879737363798866:=Nat
def tw16839260610808943600:=Nat
def tw16859697710761744982:=Nat
def tw16899066644875442506:=Nat
def tw16909688360088607335:=Nat
def tw16917405361183300980:=Nat
def tw16971846150561589340:=Nat
def tw17011328519928949915:=Nat
def tw17048284490179170042:=Nat
def tw17082721863299413333:=Nat
def tw17120843425924964276:=Nat
def tw17134263979930113712:=Nat
def tw17152399521519761441:=Nat
def tw17204529880953147454:=Nat
def tw1731140727062598162:=Nat
def tw17326889031390390060:=Nat
def tw17330078192272610438:=Nat
def tw17332126486657847407:=Nat
def tw17352202096231118663:=Nat
def tw17410704864755698932:=Nat
def tw17429191354487503636:=Nat
def tw17451543919167801553:=Nat
def tw17479444204253155987:=Nat
def tw17556567495387310710:=Nat
def tw17574761853001660318:=Nat
def tw17603012592829644121:=Nat
def tw17632239991751992968:=Nat
def tw17646724557848361201:=Nat
def tw17673207021260220475:=Nat
def tw17674032096026054369:=Nat
def tw17697461078841646499:=Nat
def tw17718594347796910458:=Nat
def tw17743698518361877670:=Nat
def tw17748321098471274250:=Nat
def tw17828313551975425857:=Nat
def tw17872328514243560303:=Nat
def tw17888828199844440818:=Nat
def tw1788886741118875441:=Nat
def tw17893395888322932475:=Nat
def tw1789934568892787511:=Nat
def tw17911323132225540583:=Nat
def tw17948290965263650113:=Nat
def tw17973003491034309706:=Nat
def tw18011019835502930565:=Nat
def tw18046065864563905099:=Nat
def tw18074450192542385495:=Nat
def tw18111744841640130226:=Nat
def tw18113388217366093808:=Nat
def tw18159546981531953355:=Nat
def tw181776810828418147:=Nat
def tw18262258654111655666:=Nat
def tw18262591978504740766:=Nat
def tw18274282685808186833:=Nat
def tw18282673470328849091:=Nat
def tw1841854243458702305:=Nat
def tw18421227686495871268:=Nat
def tw1860596665754266270:=Nat
def tw1861860028404437428:=Nat
def tw1866838980352488488:=Nat
def tw1876239816936698753:=Nat
def tw1886398446463742304:=Nat
def tw1908761688352093158:=Nat
def tw1923150853682243993:=Nat
def tw1978929041439921063:=Nat
def tw2054454200364069341:=Nat
def tw2073938530815481519:=Nat
def tw213462043850652777:=Nat
def tw2197729401606726417:=Nat
def tw2238782683335886734:=Nat
def tw2239885007113896697:=Nat
def tw224204926776625336:=Nat
def tw2298145580743239113:=Nat
def tw2302419555775221913:=Nat
def tw2365746622928917067:=Nat
def tw2374195702006827610:=Nat
def tw2377706390925377949:=Nat
def tw2390926812673375485:=Nat
def tw2425868027236883866:=Nat
def tw2473311988804801749:=Nat
def tw2482797551591913548:=Nat
def tw2496036332627260574:=Nat
def tw2507260181768499370:=Nat
def tw2516897572192050124:=Nat
def tw2587029442779699313:=Nat
def tw2677134913682545493:=Nat
def tw2683464032896462929:=Nat
def tw2692198365347597289:=Nat
def tw2704747091091648786:=Nat
def tw2756937001254904763:=Nat
def tw2797025248710265064:=Nat
def tw2867135661416155:=Nat
def tw2883855339460116648:=Nat
def tw2922547017083472863:=Nat
def tw3028301647130998986:=Nat
def tw3050391257887353981:=Nat
def tw3064420998597060613:=Nat
def tw3084721507632437652:=Nat
def tw3096635719284613417:=Nat
def tw3181952606137000709:=Nat
def tw320890125477021182:=Nat
def tw322235517565412026:=Nat
def tw3252323806634406125:=Nat
def tw3328052560593392653:=Nat
def tw3342478624727602776:=Nat
def tw3366402701003242848:=Nat
def tw3370911994636699590:=Nat
def tw3373047921098651739:=Nat
def tw3398724101287620516:=Nat
def tw3407543389040215601:=Nat
def tw3421104580636985364:=Nat
def tw342660745070521678:=Nat
def tw3495171003907978421:=Nat
def tw3529810061711472621:=Nat
def tw3575677140367720649:=Nat
def tw3576789722351024790:=Nat
def tw358548925716160293:=Nat
def tw3595642085886755040:=Nat
def tw3645695670110947549:=Nat
def tw3651733081712946721:=Nat
def tw3661761925491766090:=Nat
def tw3662516431796152289:=Nat
def tw3672695405724354069:=Nat
def tw3734911796780945577:=Nat
def tw3756763032816731652:=Nat
def tw3766337265968398734:=Nat
def tw3829993455800898235:=Nat
def tw3866887144874002941:=Nat
def tw3898087508079992346:=Nat
def tw3908313204187787909:=Nat
def tw3921897663521490750:=Nat
def tw3930307853513995561:=Nat
def tw394339847135789667:=Nat
def tw3991034876623110466:=Nat
def tw3994426093679255019:=Nat
def tw4020483404810370924:=Nat
def tw4028251898942833171:=Nat
def tw4038123420701331352:=Nat
def tw4061052383048607421:=Nat
def tw4063865036801140786:=Nat
def tw4092474181672137696:=Nat
def tw4095693592175001542:=Nat
def tw414997472674306835:=Nat
def tw4189225468815686837:=Nat
def tw419976044712301451:=Nat
def tw421045923611798344:=Nat
def tw4232316312470177053:=Nat
def tw4248686076644577718:=Nat
def tw4316679163960492333:=Nat
def tw4342791334446294139:=Nat
def tw4365703555944782123:=Nat
def tw4370463165496149541:=Nat
def tw4373384943614942585:=Nat
def tw438161855161755179:=Nat
def tw4384918733329120858:=Nat
def tw4468620953022583076:=Nat
def tw4472053185267963098:=Nat
def tw4488150440691801189:=Nat
def tw4542729104286082085:=Nat
def tw454361213248809141:=Nat
def tw4616437779937370959:=Nat
def tw4640070221075466364:=Nat
def tw4641416829835876114:=Nat
def tw4668933516597289932:=Nat
def tw4676973402882359672:=Nat
def tw4745450010387559102:=Nat
def tw4777810143846616915:=Nat
def tw4785130544975140966:=Nat
def tw4821239074375493257:=Nat
def tw4860401747670489028:=Nat
def tw4890809552144892801:=Nat
def tw4946747240166271324:=Nat
def tw494738098024268067:=Nat
def tw4947894108071001251:=Nat
def tw4971825551177822625:=Nat
def tw4974493208338291767:=Nat
def tw5014829254336748887:=Nat
def tw5041269333711398292:=Nat
def tw5049473519146575030:=Nat
def tw5083588022624928916:=Nat
def tw5149100955461618813:=Nat
def tw5149801859129946939:=Nat
def tw5154005562702902053:=Nat
def tw5154179054495254304:=Nat
def tw5232639815289379228:=Nat
def tw5247852850781205773:=Nat
def tw53608951878924872:=Nat
def tw5403654715863968634:=Nat
def tw5428382557859535604:=Nat
def tw5490035106836073874:=Nat
def tw5538622919266234474:=Nat
def tw5540546509885911817:=Nat
def tw555011945957502945:=Nat
def tw5578386883407407572:=Nat
def tw558074482554142589:=Nat
def tw5609496429779539200:=Nat
def tw5620406018568466793:=Nat
def tw5646657972122576874:=Nat
def tw5675734041406595533:=Nat
def tw5693689090206474997:=Nat
def tw5702657710071620299:=Nat
def tw5717942549044783651:=Nat
def tw5754794645455904859:=Nat
def tw5769562309693018302:=Nat
def tw5869040181633299801:=Nat
def tw5894722581912082404:=Nat
def tw5896915187775831802:=Nat
def tw5957722721839618315:=Nat
def tw5986694081520673751:=Nat
def tw6054152185306677893:=Nat
def tw6065080778222972080:=Nat
def tw6076231628946709815:=Nat
def tw6111245055584753707:=Nat
def tw6139984657584796568:=Nat
def tw6159483084730087750:=Nat
def tw6159724471891805498:=Nat
def tw6181830560333715567:=Nat
def tw6192837962577601936:=Nat
def tw6194458814560389510:=Nat
def tw6195610991531222138:=Nat
def tw6234735390323806186:=Nat
def tw6295824239842931993:=Nat
def tw6304058896362240792:=Nat
def tw6304201050447158754:=Nat
def tw6319760132538091551:=Nat
def tw6351079363040490637:=Nat
def tw6357203126210739625:=Nat
def tw6440973069526732265:=Nat
def tw6458107983647829580:=Nat
def tw6532835038559785480:=Nat
def tw6631705418265302355:=Nat
def tw6662290471233119495:=Nat
def tw6672393614181460263:=Nat
def tw6686325157277076831:=Nat
def tw6688212176152352592:=Nat
def tw6690819222784774634:=Nat
def tw6714085109013441433:=Nat
def tw6724499969494926307:=Nat
def tw6729432316390395230:=Nat
def tw6739972198288575665:=Nat
def tw6748534981426057211:=Nat
def tw6770150415021806920:=Nat
def tw6786813046149763122:=Nat
def tw6826544517374939467:=Nat
def tw6843725770879341736:=Nat
def tw6854372017174073039:=Nat
def tw6860483747519296342:=Nat
def tw6871690069609640626:=Nat
def tw6910044298006242532:=Nat
def tw6967151594825757898:=Nat
def tw6989079981917994053:=Nat
def tw701149930278688402:=Nat
def tw7012538687255810793:=Nat
def tw7052714511544527827:=Nat
def tw7144600516987436249:=Nat
def tw7150335960167152642:=Nat
def tw716084640139182284:=Nat
def tw7174310608119684626:=Nat
def tw7195393572841506173:=Nat
def tw7198048856269154268:=Nat
def tw7243487167208634790:=Nat
def tw7255062313864796567:=Nat
def tw7261254576845702206:=Nat
def tw7281286454873065762:=Nat
def tw7315997357812600468:=Nat
def tw7333582950319197920:=Nat
def tw7361135401662723691:=Nat
def tw7402483392186807600:=Nat
def tw7436346966414740607:=Nat
def tw7455783341551525537:=Nat
def tw7489450072994651232:=Nat
def tw7530011194995884497:=Nat
def tw75306745461761791:=Nat
def tw7562963495123615796:=Nat
def tw7596562428510121044:=Nat
def tw7683162008161400319:=Nat
def tw770300847024012490:=Nat
def tw7705184831710746938:=Nat
def tw7715943886814668467:=Nat
def tw7720427329483405662:=Nat
def tw7725488196067583267:=Nat
def tw7730108296870671954:=Nat
def tw7857674871456137147:=Nat
def tw7863660341489523574:=Nat
def tw7893073932413599718:=Nat
def tw7963523116026840720:=Nat
def tw8005706085479318479:=Nat
def tw8009140343660615819:=Nat
def tw8013217135911827451:=Nat
def tw8037176222885649646:=Nat
def tw8043248260851679277:=Nat
def tw8084171885363074434:=Nat
def tw809266467949911625:=Nat
def tw811009970461789577:=Nat
def tw8129773324686771130:=Nat
def tw8214749916176284286:=Nat
def tw8271073025658888711:=Nat
def tw8272795957959093985:=Nat
def tw8277014071926562660:=Nat
def tw8278855577696863969:=Nat
def tw8289839027531720830:=Nat
def tw8307821407535768430:=Nat
def tw8316560997062233126:=Nat
def tw8355830027041109640:=Nat
def tw8396582650825572278:=Nat
def tw8399574197442649995:=Nat
def tw8454387214947979643:=Nat
def tw8464250483384893163:=Nat
def tw8476444996073958270:=Nat
def tw8478694255876244578:=Nat
def tw8483405951522379043:=Nat
def tw8549037848382480781:=Nat
def tw8597774777808797014:=Nat
def tw8689157014459441800:=Nat
def tw8691664152744344044:=Nat
def tw8699984993206416133:=Nat
def tw8712745540895725324:=Nat
def tw8784518664681834204:=Nat
def tw878673064884621115:=Nat
def tw8841750568162022726:=Nat
def tw8861923404500253875:=Nat
def tw8872524115289076242:=Nat
def tw8910583587698890605:=Nat
def tw8934827275910283439:=Nat
def tw9000263262297463556:=Nat
def tw9004459280833898051:=Nat
def tw9011132954879712077:=Nat
def tw9013958910411295564:=Nat
def tw9043061199034093144:=Nat
def tw9048292882208256978:=Nat
def tw9063396557074112761:=Nat
def tw9079477584254651620:=Nat
def tw9090812661135278551:=Nat
def tw9128287194837000973:=Nat
def tw9168647505013982431:=Nat
def tw9171224875923569311:=Nat
def tw9173954066933346562:=Nat
def tw9202598249695263578:=Nat
def tw92094413304477642:=Nat
def tw9219484972863519589:=Nat
def tw923605248020798505:=Nat
def tw9259112204214092556:=Nat
def tw9276058836135122167:=Nat
def tw9300275676424670069:=Nat
def tw930888557904688120:=Nat
def tw9324189104563723411:=Nat
def tw9325597324523593267:=Nat
def tw9345172420260184339:=Nat
def tw9353593412911743578:=Nat
def tw937576126153677952:=Nat
def tw9411122149950819702:=Nat
def tw94475177300310767:=Nat
def tw9481670834641457303:=Nat
def tw948924325906233698:=Nat
def tw9511884925922318954:=Nat
def tw9551038288486280097:=Nat
def tw9554085531461802803:=Nat
def tw9587664469433850642:=Nat
def tw9587772621707425311:=Nat
def tw9689587821340869285:=Nat
def tw9696822789998882821:=Nat
def tw9728439460089201282:=Nat
def tw9733846028995730296:=Nat
def tw9782435699054010944:=Nat
def tw9793334145885932550:=Nat
def tw9802895333784812710:=Nat
def tw9859368538902791138:=Nat
def tw9875367105618253367:=Nat
def tw9876722410744689762:=Nat
def tw9915072361970796988:=Nat
def tw4052456754491805217:=Nat
def tw10645110234237765129:=Nat
end Mini.top
set_option maxHeartbeats 8000000 in
theorem Mini.top : PySem.Challenge.rw_ac0010_02.Holds := by
  w_on
  o_law
  k_head
  (case hw => w_witness2)
  have kok : ∀ P, Mini.Tactic.KOK (Mini.top.heap_1_39 P) := fun P => {
    nt := by kernel_rfl
    hd := by kernel_rfl
    cl := by kernel_rfl
    att := by kernel_rfl
    met := by kernel_rfl
    gl := by kernel_rfl
    kp := by kernel_rfl
    ho := by kernel_rfl
    ex := by kernel_rfl
    fb := by kernel_rfl
    fns := by kernel_rfl
    tp := by kernel_rfl
    ln := ⟨_, _, _, rfl, rfl, fun W => .cons (.str 0 _) (.cons (.str 1 _) (.cons (.str 2 _) (.cons (.str 3 _) (.cons (.str 4 _) (.cons (.str 5 _) (.cons (.str 6 _) .nil))))))⟩
    st := by kernel_rfl
    st2 := by
      refine ⟨.type "type", ?_, ?_, ?_, ?_, ?_⟩
      rotate_left 2
      · rfl
      · rfl
      · rfl
    st3 := by kernel_rfl
    sti := ⟨_, _, _, rfl, rfl, rfl, rfl, rfl, rfl, rfl, rfl⟩
    sti3 := by kernel_rfl }
  k_fill
  intro w s₀ s₁ mg mb G Y fa o pm cd doc dV kV ho hd hcd hD hmg hg args vals as hpre hlay hrd hwl hlo
  have KX := km_in_of Y
  km_tabs Y
  refine Ground.open G ?_
  intro T B D TE TW
  try (refine guard_noD D (by decide +kernel) ?_; clear D)
  km_lay T hmg ho hd cd
  wrow_args hpre hlay hrd hwl hlo
  all_goals (first | refine callC_kw (enter_call ?_) | refine enter_call ?_; w_top on)
  rename_i w1 r0 hI hr hc hd'
  obtain ⟨vs', g', hI'⟩ := Mini.Tactic.well_script w1
  have hfa : fa = 549 := by
    have e : mg (Str.ofString "law") = some (.ref 549) := mg_of KX T.g (by kernel_rfl)
    rw [show mg (Str.ofString "law") = some (.ref fa) from hmg] at e
    cases e; rfl
  subst hfa
  refine kn_post hT9 (fun _ _ => rfl) (codeAny_mono (Mini.Tactic.law_top (p := Challenge.rw_ac0010_02.row.prog) (kok _) KX hT9 T (T.seer (by decide +kernel)) g' hI' (by omega) hg) fun r s' z => ?_)
  obtain ⟨rfl, z1, z2, z3, z4⟩ := z
  refine ⟨⟨.inl ⟨_, .bool true, _, rfl, fun _ => rfl, .bool true, ?_, fun h => ⟨List.nodup_nil, fun _ h => nomatch h⟩⟩, z1, z2, z3⟩, z4⟩
  wrow_post

theorem PySem.Challenge.cw_ac0010_02_holds : PySem.Challenge.rw_ac0010_02.Holds :=
  Mini.top
