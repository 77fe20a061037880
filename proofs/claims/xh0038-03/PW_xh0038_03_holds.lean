import PyProof.Rows.All
import Open.Line
import KE.KLam
import KE.KEqDict
import KE.KSortKey
import Wide.All
import Lean
import PySem.Challenge.RW_xh0038_03
set_option Elab.async false
set_option linter.all false
set_option maxRecDepth 100000
set_option backward.match.sparseCases false
set_option tactic.hygienic false
set_option genSizeOfSpec false
set_option genInjectivity false
open PySem PySem.W PyProof.Rows PySem.SeqAt
namespace Mine
open PySem.Challenge
theorem x1 {A:Sort u}{P:A->Prop}{X:Prop}(h:∃a,P a)(k:∀a,P a->X):X:=h.elim k
theorem x2 {A:Sort u}{B:Sort v}{P:A->B->Prop}{X:Prop}(h:∃a b,P a b)(k:∀a b,P a b->X):X:=h.elim fun a h=>x1 h (k a)
theorem x3 {A:Sort u}{B:Sort v}{C:Sort w}{P:A->B->C->Prop}{X:Prop}(h:∃a b c,P a b c)(k:∀a b c,P a b c->X):X:=h.elim fun a h=>x2 h (k a)
theorem x4 {A:Sort u}{B:Sort v}{C:Sort w}{D:Sort x}{P:A->B->C->D->Prop}{X:Prop}(h:∃a b c d,P a b c d)(k:∀a b c d,P a b c d->X):X:=h.elim fun a h=>x3 h (k a)
theorem x5 {A:Sort u}{B:Sort v}{C:Sort w}{D:Sort x}{E:Sort y}{P:A->B->C->D->E->Prop}{X:Prop}(h:∃a b c d e,P a b c d e)(k:∀a b c d e,P a b c d e->X):X:=h.elim fun a h=>x4 h (k a)
theorem e1 {A:Sort u}{P:A->Prop}(a:A)(h:P a):∃a,P a:=⟨a,h⟩
theorem e2 {A:Sort u}{B:Sort v}{P:A->B->Prop}(a:A)(b:B)(h:P a b):∃a b,P a b:=⟨a,b,h⟩
theorem e3 {A:Sort u}{B:Sort v}{C:Sort w}{P:A->B->C->Prop}(a:A)(b:B)(c:C)(h:P a b c):∃a b c,P a b c:=⟨a,b,c,h⟩
theorem e4 {A:Sort u}{B:Sort v}{C:Sort w}{D:Sort x}{P:A->B->C->D->Prop}(a:A)(b:B)(c:C)(d:D)(h:P a b c d):∃a b c d,P a b c d:=⟨a,b,c,d,h⟩
theorem e5 {A:Sort u}{B:Sort v}{C:Sort w}{D:Sort x}{E:Sort y}{P:A->B->C->D->E->Prop}(a:A)(b:B)(c:C)(d:D)(e:E)(h:P a b c d e):∃a b c d e,P a b c d e:=⟨a,b,c,d,e,h⟩
theorem n2 {A B X:Prop}(h:A∧B)(k:A->B->X):X:=k h.1 h.2
theorem n3 {A B C X:Prop}(h:A∧B∧C)(k:A->B->C->X):X:=k h.1 h.2.1 h.2.2
theorem n4 {A B C D X:Prop}(h:A∧B∧C∧D)(k:A->B->C->D->X):X:=k h.1 h.2.1 h.2.2.1 h.2.2.2
theorem n5 {A B C D E X:Prop}(h:A∧B∧C∧D∧E)(k:A->B->C->D->E->X):X:=k h.1 h.2.1 h.2.2.1 h.2.2.2.1 h.2.2.2.2
theorem n6 {A B C D E F X:Prop}(h:A∧B∧C∧D∧E∧F)(k:A->B->C->D->E->F->X):X:=k h.1 h.2.1 h.2.2.1 h.2.2.2.1 h.2.2.2.2.1 h.2.2.2.2.2
theorem n7 {A B C D E F G X:Prop}(h:A∧B∧C∧D∧E∧F∧G)(k:A->B->C->D->E->F->G->X):X:=k h.1 h.2.1 h.2.2.1 h.2.2.2.1 h.2.2.2.2.1 h.2.2.2.2.2.1 h.2.2.2.2.2.2
theorem n8 {A B C D E F G H X:Prop}(h:A∧B∧C∧D∧E∧F∧G∧H)(k:A->B->C->D->E->F->G->H->X):X:=k h.1 h.2.1 h.2.2.1 h.2.2.2.1 h.2.2.2.2.1 h.2.2.2.2.2.1 h.2.2.2.2.2.2.1 h.2.2.2.2.2.2.2
theorem y12 {A:Sort u}{P0 P1:A->Prop}{X:Prop}(h:∃a,P0 a∧P1 a)(k:∀a,P0 a->P1 a->X):X:=x1 h fun a h=>n2 h (k a)
theorem w12 {A:Sort u}{P0 P1:A->Prop}(a:A)(h0:P0 a)(h1:P1 a):∃a,P0 a∧P1 a:=⟨a,h0,h1⟩
theorem y13 {A:Sort u}{P0 P1 P2:A->Prop}{X:Prop}(h:∃a,P0 a∧P1 a∧P2 a)(k:∀a,P0 a->P1 a->P2 a->X):X:=x1 h fun a h=>n3 h (k a)
theorem w13 {A:Sort u}{P0 P1 P2:A->Prop}(a:A)(h0:P0 a)(h1:P1 a)(h2:P2 a):∃a,P0 a∧P1 a∧P2 a:=⟨a,h0,h1,h2⟩
theorem y14 {A:Sort u}{P0 P1 P2 P3:A->Prop}{X:Prop}(h:∃a,P0 a∧P1 a∧P2 a∧P3 a)(k:∀a,P0 a->P1 a->P2 a->P3 a->X):X:=x1 h fun a h=>n4 h (k a)
theorem w14 {A:Sort u}{P0 P1 P2 P3:A->Prop}(a:A)(h0:P0 a)(h1:P1 a)(h2:P2 a)(h3:P3 a):∃a,P0 a∧P1 a∧P2 a∧P3 a:=⟨a,h0,h1,h2,h3⟩
theorem y15 {A:Sort u}{P0 P1 P2 P3 P4:A->Prop}{X:Prop}(h:∃a,P0 a∧P1 a∧P2 a∧P3 a∧P4 a)(k:∀a,P0 a->P1 a->P2 a->P3 a->P4 a->X):X:=x1 h fun a h=>n5 h (k a)
theorem w15 {A:Sort u}{P0 P1 P2 P3 P4:A->Prop}(a:A)(h0:P0 a)(h1:P1 a)(h2:P2 a)(h3:P3 a)(h4:P4 a):∃a,P0 a∧P1 a∧P2 a∧P3 a∧P4 a:=⟨a,h0,h1,h2,h3,h4⟩
theorem y16 {A:Sort u}{P0 P1 P2 P3 P4 P5:A->Prop}{X:Prop}(h:∃a,P0 a∧P1 a∧P2 a∧P3 a∧P4 a∧P5 a)(k:∀a,P0 a->P1 a->P2 a->P3 a->P4 a->P5 a->X):X:=x1 h fun a h=>n6 h (k a)
theorem y17 {A:Sort u}{P0 P1 P2 P3 P4 P5 P6:A->Prop}{X:Prop}(h:∃a,P0 a∧P1 a∧P2 a∧P3 a∧P4 a∧P5 a∧P6 a)(k:∀a,P0 a->P1 a->P2 a->P3 a->P4 a->P5 a->P6 a->X):X:=x1 h fun a h=>n7 h (k a)
theorem y22 {A:Sort u}{B:Sort v}{P0 P1:A->B->Prop}{X:Prop}(h:∃a b,P0 a b∧P1 a b)(k:∀a b,P0 a b->P1 a b->X):X:=x2 h fun a b h=>n2 h (k a b)
theorem w22 {A:Sort u}{B:Sort v}{P0 P1:A->B->Prop}(a:A)(b:B)(h0:P0 a b)(h1:P1 a b):∃a b,P0 a b∧P1 a b:=⟨a,b,h0,h1⟩
theorem y23 {A:Sort u}{B:Sort v}{P0 P1 P2:A->B->Prop}{X:Prop}(h:∃a b,P0 a b∧P1 a b∧P2 a b)(k:∀a b,P0 a b->P1 a b->P2 a b->X):X:=x2 h fun a b h=>n3 h (k a b)
theorem w23 {A:Sort u}{B:Sort v}{P0 P1 P2:A->B->Prop}(a:A)(b:B)(h0:P0 a b)(h1:P1 a b)(h2:P2 a b):∃a b,P0 a b∧P1 a b∧P2 a b:=⟨a,b,h0,h1,h2⟩
theorem y24 {A:Sort u}{B:Sort v}{P0 P1 P2 P3:A->B->Prop}{X:Prop}(h:∃a b,P0 a b∧P1 a b∧P2 a b∧P3 a b)(k:∀a b,P0 a b->P1 a b->P2 a b->P3 a b->X):X:=x2 h fun a b h=>n4 h (k a b)
theorem w24 {A:Sort u}{B:Sort v}{P0 P1 P2 P3:A->B->Prop}(a:A)(b:B)(h0:P0 a b)(h1:P1 a b)(h2:P2 a b)(h3:P3 a b):∃a b,P0 a b∧P1 a b∧P2 a b∧P3 a b:=⟨a,b,h0,h1,h2,h3⟩
theorem y25 {A:Sort u}{B:Sort v}{P0 P1 P2 P3 P4:A->B->Prop}{X:Prop}(h:∃a b,P0 a b∧P1 a b∧P2 a b∧P3 a b∧P4 a b)(k:∀a b,P0 a b->P1 a b->P2 a b->P3 a b->P4 a b->X):X:=x2 h fun a b h=>n5 h (k a b)
theorem w25 {A:Sort u}{B:Sort v}{P0 P1 P2 P3 P4:A->B->Prop}(a:A)(b:B)(h0:P0 a b)(h1:P1 a b)(h2:P2 a b)(h3:P3 a b)(h4:P4 a b):∃a b,P0 a b∧P1 a b∧P2 a b∧P3 a b∧P4 a b:=⟨a,b,h0,h1,h2,h3,h4⟩
theorem y26 {A:Sort u}{B:Sort v}{P0 P1 P2 P3 P4 P5:A->B->Prop}{X:Prop}(h:∃a b,P0 a b∧P1 a b∧P2 a b∧P3 a b∧P4 a b∧P5 a b)(k:∀a b,P0 a b->P1 a b->P2 a b->P3 a b->P4 a b->P5 a b->X):X:=x2 h fun a b h=>n6 h (k a b)
theorem w26 {A:Sort u}{B:Sort v}{P0 P1 P2 P3 P4 P5:A->B->Prop}(a:A)(b:B)(h0:P0 a b)(h1:P1 a b)(h2:P2 a b)(h3:P3 a b)(h4:P4 a b)(h5:P5 a b):∃a b,P0 a b∧P1 a b∧P2 a b∧P3 a b∧P4 a b∧P5 a b:=⟨a,b,h0,h1,h2,h3,h4,h5⟩
theorem y27 {A:Sort u}{B:Sort v}{P0 P1 P2 P3 P4 P5 P6:A->B->Prop}{X:Prop}(h:∃a b,P0 a b∧P1 a b∧P2 a b∧P3 a b∧P4 a b∧P5 a b∧P6 a b)(k:∀a b,P0 a b->P1 a b->P2 a b->P3 a b->P4 a b->P5 a b->P6 a b->X):X:=x2 h fun a b h=>n7 h (k a b)
theorem w27 {A:Sort u}{B:Sort v}{P0 P1 P2 P3 P4 P5 P6:A->B->Prop}(a:A)(b:B)(h0:P0 a b)(h1:P1 a b)(h2:P2 a b)(h3:P3 a b)(h4:P4 a b)(h5:P5 a b)(h6:P6 a b):∃a b,P0 a b∧P1 a b∧P2 a b∧P3 a b∧P4 a b∧P5 a b∧P6 a b:=⟨a,b,h0,h1,h2,h3,h4,h5,h6⟩
theorem y32 {A:Sort u}{B:Sort v}{C:Sort w}{P0 P1:A->B->C->Prop}{X:Prop}(h:∃a b c,P0 a b c∧P1 a b c)(k:∀a b c,P0 a b c->P1 a b c->X):X:=x3 h fun a b c h=>n2 h (k a b c)
theorem w32 {A:Sort u}{B:Sort v}{C:Sort w}{P0 P1:A->B->C->Prop}(a:A)(b:B)(c:C)(h0:P0 a b c)(h1:P1 a b c):∃a b c,P0 a b c∧P1 a b c:=⟨a,b,c,h0,h1⟩
theorem y33 {A:Sort u}{B:Sort v}{C:Sort w}{P0 P1 P2:A->B->C->Prop}{X:Prop}(h:∃a b c,P0 a b c∧P1 a b c∧P2 a b c)(k:∀a b c,P0 a b c->P1 a b c->P2 a b c->X):X:=x3 h fun a b c h=>n3 h (k a b c)
theorem w33 {A:Sort u}{B:Sort v}{C:Sort w}{P0 P1 P2:A->B->C->Prop}(a:A)(b:B)(c:C)(h0:P0 a b c)(h1:P1 a b c)(h2:P2 a b c):∃a b c,P0 a b c∧P1 a b c∧P2 a b c:=⟨a,b,c,h0,h1,h2⟩
theorem y34 {A:Sort u}{B:Sort v}{C:Sort w}{P0 P1 P2 P3:A->B->C->Prop}{X:Prop}(h:∃a b c,P0 a b c∧P1 a b c∧P2 a b c∧P3 a b c)(k:∀a b c,P0 a b c->P1 a b c->P2 a b c->P3 a b c->X):X:=x3 h fun a b c h=>n4 h (k a b c)
theorem w34 {A:Sort u}{B:Sort v}{C:Sort w}{P0 P1 P2 P3:A->B->C->Prop}(a:A)(b:B)(c:C)(h0:P0 a b c)(h1:P1 a b c)(h2:P2 a b c)(h3:P3 a b c):∃a b c,P0 a b c∧P1 a b c∧P2 a b c∧P3 a b c:=⟨a,b,c,h0,h1,h2,h3⟩
theorem y36 {A:Sort u}{B:Sort v}{C:Sort w}{P0 P1 P2 P3 P4 P5:A->B->C->Prop}{X:Prop}(h:∃a b c,P0 a b c∧P1 a b c∧P2 a b c∧P3 a b c∧P4 a b c∧P5 a b c)(k:∀a b c,P0 a b c->P1 a b c->P2 a b c->P3 a b c->P4 a b c->P5 a b c->X):X:=x3 h fun a b c h=>n6 h (k a b c)
theorem w36 {A:Sort u}{B:Sort v}{C:Sort w}{P0 P1 P2 P3 P4 P5:A->B->C->Prop}(a:A)(b:B)(c:C)(h0:P0 a b c)(h1:P1 a b c)(h2:P2 a b c)(h3:P3 a b c)(h4:P4 a b c)(h5:P5 a b c):∃a b c,P0 a b c∧P1 a b c∧P2 a b c∧P3 a b c∧P4 a b c∧P5 a b c:=⟨a,b,c,h0,h1,h2,h3,h4,h5⟩
theorem y42 {A:Sort u}{B:Sort v}{C:Sort w}{D:Sort x}{P0 P1:A->B->C->D->Prop}{X:Prop}(h:∃a b c d,P0 a b c d∧P1 a b c d)(k:∀a b c d,P0 a b c d->P1 a b c d->X):X:=x4 h fun a b c d h=>n2 h (k a b c d)
theorem w42 {A:Sort u}{B:Sort v}{C:Sort w}{D:Sort x}{P0 P1:A->B->C->D->Prop}(a:A)(b:B)(c:C)(d:D)(h0:P0 a b c d)(h1:P1 a b c d):∃a b c d,P0 a b c d∧P1 a b c d:=⟨a,b,c,d,h0,h1⟩
theorem y43 {A:Sort u}{B:Sort v}{C:Sort w}{D:Sort x}{P0 P1 P2:A->B->C->D->Prop}{X:Prop}(h:∃a b c d,P0 a b c d∧P1 a b c d∧P2 a b c d)(k:∀a b c d,P0 a b c d->P1 a b c d->P2 a b c d->X):X:=x4 h fun a b c d h=>n3 h (k a b c d)
theorem y44 {A:Sort u}{B:Sort v}{C:Sort w}{D:Sort x}{P0 P1 P2 P3:A->B->C->D->Prop}{X:Prop}(h:∃a b c d,P0 a b c d∧P1 a b c d∧P2 a b c d∧P3 a b c d)(k:∀a b c d,P0 a b c d->P1 a b c d->P2 a b c d->P3 a b c d->X):X:=x4 h fun a b c d h=>n4 h (k a b c d)
theorem w44 {A:Sort u}{B:Sort v}{C:Sort w}{D:Sort x}{P0 P1 P2 P3:A->B->C->D->Prop}(a:A)(b:B)(c:C)(d:D)(h0:P0 a b c d)(h1:P1 a b c d)(h2:P2 a b c d)(h3:P3 a b c d):∃a b c d,P0 a b c d∧P1 a b c d∧P2 a b c d∧P3 a b c d:=⟨a,b,c,d,h0,h1,h2,h3⟩
theorem y45 {A:Sort u}{B:Sort v}{C:Sort w}{D:Sort x}{P0 P1 P2 P3 P4:A->B->C->D->Prop}{X:Prop}(h:∃a b c d,P0 a b c d∧P1 a b c d∧P2 a b c d∧P3 a b c d∧P4 a b c d)(k:∀a b c d,P0 a b c d->P1 a b c d->P2 a b c d->P3 a b c d->P4 a b c d->X):X:=x4 h fun a b c d h=>n5 h (k a b c d)
theorem w45 {A:Sort u}{B:Sort v}{C:Sort w}{D:Sort x}{P0 P1 P2 P3 P4:A->B->C->D->Prop}(a:A)(b:B)(c:C)(d:D)(h0:P0 a b c d)(h1:P1 a b c d)(h2:P2 a b c d)(h3:P3 a b c d)(h4:P4 a b c d):∃a b c d,P0 a b c d∧P1 a b c d∧P2 a b c d∧P3 a b c d∧P4 a b c d:=⟨a,b,c,d,h0,h1,h2,h3,h4⟩
theorem y52 {A:Sort u}{B:Sort v}{C:Sort w}{D:Sort x}{E:Sort y}{P0 P1:A->B->C->D->E->Prop}{X:Prop}(h:∃a b c d e,P0 a b c d e∧P1 a b c d e)(k:∀a b c d e,P0 a b c d e->P1 a b c d e->X):X:=x5 h fun a b c d e h=>n2 h (k a b c d e)
@[elab_as_elim] theorem rwR {α:Sort u}{a b:α}{p:α->Prop}(h:a=b)(x:p b):p a:=h▸x
@[elab_as_elim] theorem rwL {α:Sort u}{a b:α}{p:α->Prop}(h:b=a)(x:p b):p a:=h▸x
theorem nn {α:Type u}{a:α}{G:Prop}(h:none=some a):G:=absurd h.symm (Option.some_ne_none a)
theorem sn {α:Type u}{a:α}{G:Prop}(h:some a=none):G:=absurd h (Option.some_ne_none a)
theorem ft {G:Prop}(h:false=true):G:=absurd h Bool.false_ne_true
theorem tf {G:Prop}(h:true=false):G:=absurd h.symm Bool.false_ne_true
theorem prE {α:Type u}{β:Type v}{a c:α}{b d:β}{G:Prop}(h:some (a,b)=some (c,d))(k:c=a->d=b->G):G:=k (congrArg Prod.fst (Option.some.inj h)).symm (congrArg Prod.snd (Option.some.inj h)).symm
theorem si {α:Type u}{a b:α}(h:some a=some b):b=a:=(Option.some.inj h).symm
theorem itE {c:Prop}[Decidable c]{α:Sort u}{a b v:α}{G:Prop}(h:ite c a b=v)(k:c->a=v->G)(l:¬c->b=v->G):G:=if z:c then k z ((if_pos z).symm.trans h) else l z ((if_neg z).symm.trans h)
noncomputable def oe1 {α:Type u}{β:Type v}(x:Option α)(n:β)(f:α->β):β:=match x with
|some a=>f a
|none=>n
noncomputable def oe2 {α:Type u}{γ:Type w}{β:Type v}(x:Option (α×γ))(n:β)(f:α->γ->β):β:=match x with
|some (a,b)=>f a b
|none=>n
theorem oA1 {α:Type u}{β:Type v}{a:α}{n:β}{f:α->β}:oe1 (some a) n f=f a:=rfl
theorem oB1 {α:Type u}{β:Type v}{n:β}{f:α->β}:oe1 none n f=n:=rfl
theorem oA2 {α:Type u}{γ:Type w}{β:Type v}{a:α}{b:γ}{n:β}{f:α->γ->β}:oe2 (some (a,b)) n f=f a b:=rfl
theorem oB2 {α:Type u}{γ:Type w}{β:Type v}{n:β}{f:α->γ->β}:oe2 none n f=n:=rfl
theorem oE1 {α:Type u}{β:Type v}{x:Option α}{a:α}{n:β}{f:α->β}(h:x=some a):oe1 x n f=f a:=h▸rfl
theorem oE2 {α:Type u}{γ:Type w}{β:Type v}{x:Option (α×γ)}{a:α}{b:γ}{n:β}{f:α->γ->β}(h:x=some (a,b)):oe2 x n f=f a b:=h▸rfl
theorem oS1 {α:Type u}{β:Type v}{x:Option α}{n:β}{f:α->β}{c:β}{G:Prop}(h:oe1 x n f=c)(k:∀a,x=some a->f a=c->G)(l:x=none->n=c->G):G:=Option.rec (motive:=fun x=>oe1 x n f=c->(∀a,x=some a->f a=c->G)->(x=none->n=c->G)->G) (fun h _ l=>l rfl h) (fun a h k _=>k a rfl h) x h k l
theorem oC1 {α:Type u}{β:Type v}{x:Option α}{f:α->Option β}{c:β}{G:Prop}(h:oe1 x none f=some c)(k:∀a,x=some a->f a=some c->G):G:=oS1 h k fun _ h=>nn h
theorem oS2 {α:Type u}{γ:Type w}{β:Type v}{x:Option (α×γ)}{n:β}{f:α->γ->β}{c:β}{G:Prop}(h:oe2 x n f=c)(k:∀a b,x=some (a,b)->f a b=c->G)(l:x=none->n=c->G):G:=Option.rec (motive:=fun x=>oe2 x n f=c->(∀a b,x=some (a,b)->f a b=c->G)->(x=none->n=c->G)->G) (fun h _ l=>l rfl h) (fun a h k _=>k a.1 a.2 rfl h) x h k l
theorem oC2 {α:Type u}{γ:Type w}{β:Type v}{x:Option (α×γ)}{f:α->γ->Option β}{c:β}{G:Prop}(h:oe2 x none f=some c)(k:∀a b,x=some (a,b)->f a b=some c->G):G:=oS2 h k fun _ h=>nn h
@[elab_as_elim] theorem k3 {P:Nat->Prop}{k:Nat}(h:k<3)(a:P 0)(b:P 1)(c:P 2):P k:=match k,h with|0,_=>a|1,_=>b|2,_=>c
@[elab_as_elim] theorem k4 {P:Nat->Prop}{k:Nat}(h:k<4)(a:P 0)(b:P 1)(c:P 2)(d:P 3):P k:=match k,h with|0,_=>a|1,_=>b|2,_=>c|3,_=>d
@[elab_as_elim] theorem k5 {P:Nat->Prop}{k:Nat}(h:k<5)(a:P 0)(b:P 1)(c:P 2)(d:P 3)(e:P 4):P k:=match k,h with|0,_=>a|1,_=>b|2,_=>c|3,_=>d|4,_=>e
theorem sa {α:Type u}{a:α}{l r:List α}:a∈l++a::r:=List.mem_append_right _ (.head _)
theorem sb:¬false=true:=Bool.false_ne_true
theorem sc {α:Type u}[BEq α][ReflBEq α]{a:α}:(a==a)=true:=beq_self_eq_true a
theorem sd {α:Type u}{a:α}{l r:List α}:(l++a::r)[l.length]?=some a:=by simp
theorem se {α:Type u}{β:Type v}{f:α->β}{a:α}{l r:List α}:(List.map f (l++a::r))[l.length]?=some (f a):=by rw [List.getElem?_map,sd];rfl
theorem sf {α:Type u}{l:List α}:(l++[])[l.length]?=none:=by simp
theorem sg {α:Type u}{β:Type v}{f:α->β}{l:List α}:(List.map f (l++[]))[l.length]?=none:=by rw [List.getElem?_map,sf];rfl
theorem sh {α:Type u}{l r:List α}:List.take l.length (l++r)=l:=by simp
theorem sj {α:Type u}{a:α}{i:Decidable (a=a)}:decide (a=a)=true:=decide_eq_true rfl
theorem sk {α:Type u}[BEq α][ReflBEq α]{a:α}:some (a==a)=some true:=congrArg some sc
theorem aR0 {k:Int}{n:Nat}(h:k.natAbs<n):-(n:Int)<k∧k<n:=⟨Int.neg_lt_of_neg_lt (Int.lt_of_le_of_lt Int.le_natAbs (Int.ofNat_lt.mpr (Int.natAbs_neg k▸h))),Int.lt_of_le_of_lt Int.le_natAbs (Int.ofNat_lt.mpr h)⟩
theorem aR1 {k:Int}(h:k.natAbs<2^63):-2^63<k∧k<2^63:=aR0 h
theorem aR2 {k:Int}(h:k.natAbs<2^61):-2^61<k∧k<2^61:=aR0 h
theorem aN1 {q m i j:Nat}(h:i<j)(k:j<m):q+m-1-j<q+m-1-i:=Nat.sub_lt_sub_left (Nat.lt_of_lt_of_le (Nat.lt_of_lt_of_le h (Nat.le_sub_one_of_lt k)) (Nat.sub_le_sub_right (Nat.le_add_left ..) 1)) h
theorem aN2 {q m i:Nat}(h:q≤i)(k:i<m):q+m-1-i<m:=Nat.sub_lt_left_of_lt_add (Nat.le_trans (Nat.le_sub_one_of_lt k) (Nat.sub_le_sub_right (Nat.le_add_left ..) 1)) (Nat.lt_of_lt_of_le (Nat.sub_one_lt_of_lt (Nat.lt_of_lt_of_le k (Nat.le_add_left ..))) (Nat.add_le_add_right h m))
theorem aN3 {q m j:Nat}(h:j<m):q≤q+m-1-j:=Nat.le_sub_of_add_le (Nat.le_trans (Nat.add_le_add_left (Nat.le_sub_one_of_lt h) q) (Nat.le_of_eq (Nat.add_sub_assoc (Nat.lt_of_le_of_lt (Nat.zero_le _) h) q).symm))
theorem aM0 {l d:Nat}:(l+(l+d))/2=l+d/2:=by rw [←Nat.add_assoc,←Nat.two_mul,Nat.mul_add_div (by decide)]
theorem aM1 {l r:Nat}(h:l<r):(l+r)/2<r:=by
 obtain ⟨d,rfl⟩:=Nat.exists_eq_add_of_le (Nat.le_of_lt h)
 rw [aM0]
 exact Nat.add_lt_add_left (Nat.div_lt_self (Nat.pos_of_lt_add_right h) (by decide)) l
theorem aM2 {l r:Nat}(h:l≤r):l≤(l+r)/2:=by
 obtain ⟨d,rfl⟩:=Nat.exists_eq_add_of_le h
 rw [aM0]
 exact Nat.le_add_right ..
theorem aM3 {l r:Nat}(h:l≤r):(l+r)/2-l=(r-l)/2:=by
 obtain ⟨d,rfl⟩:=Nat.exists_eq_add_of_le h
 rw [aM0,Nat.add_sub_cancel_left,Nat.add_sub_cancel_left]
theorem aM4 {l r:Nat}(h:l≤r):r-((l+r)/2+1)=(r-l)-((r-l)/2+1):=by
 obtain ⟨d,rfl⟩:=Nat.exists_eq_add_of_le h
 rw [aM0,Nat.add_assoc,Nat.add_sub_add_left,Nat.add_sub_cancel_left]
theorem aMa {l r d:Nat}(h:l<r)(k:r-l≤d+1):(l+r)/2-l≤d:=by
 rw [aM3 (Nat.le_of_lt h)]
 exact Nat.le_of_lt_succ (Nat.lt_of_lt_of_le (Nat.div_lt_self (Nat.sub_pos_of_lt h) (by decide)) k)
theorem aMb {l r d:Nat}(h:l<r)(k:r-l≤d+1):r-((l+r)/2+1)≤d:=by
 rw [aM4 (Nat.le_of_lt h),Nat.sub_add_eq]
 exact Nat.sub_le_of_le_add (Nat.le_trans (Nat.sub_le ..) k)
theorem aMc {l r d:Nat}(h:l<r)(k:r-l<2*d):(l+r)/2-l<d:=by
 rw [aM3 (Nat.le_of_lt h)]
 exact Nat.div_lt_of_lt_mul k
theorem aMe {d q:Nat}(h:d<2*(q+1)):d-(q+1)≤q:=by omega
theorem aMd {l r d:Nat}(h:l<r)(k:r-l<2*d):r-((l+r)/2+1)<d:=by
 rw [aM4 (Nat.le_of_lt h)]
 exact Nat.lt_of_le_of_lt (aMe (Nat.lt_mul_div_succ _ (Nat.le_succ 1))) (Nat.div_lt_of_lt_mul k)
theorem aK1 {n i k:Nat}(h:n-i=k+1):i<n:=Nat.lt_of_sub_pos (h▸Nat.succ_pos k)
theorem aK2 {n i k:Nat}(h:n-i=k+1):n-(i+1)=k:=congrArg Nat.pred h
theorem aRm {a n k c t:Nat}(h:a+c*(n+1)≤t)(z:k≤c):a+k+c*n≤t:=Nat.le_trans (by rw [Nat.add_assoc,Nat.mul_succ,Nat.add_comm (c*n)];exact Nat.add_le_add_left (Nat.add_le_add_right z _) a) h
theorem aC8 {a c k m:Nat}(h:a+k<c)(z:m≤k):a+m<c:=Nat.lt_of_le_of_lt (Nat.add_le_add_left z a) h
theorem qv {a b:Int}(h:¬a<b)(k:¬b<a):a=b:=Int.le_antisymm (Int.not_lt.mp k) (Int.not_lt.mp h)
theorem qy {a b c:Int}(h:¬b<a)(k:b≤c):a≤c:=Int.le_trans (Int.not_lt.mp h) k
theorem qz {a b c:Int}(h:¬c<b)(k:a≤b):a≤c:=Int.le_trans k (Int.not_lt.mp h)
theorem qx {a b c:Int}(h:a<b)(k:b≤c):a≤c:=Int.le_of_lt (Int.lt_of_lt_of_le h k)
theorem qw {a b c:Int}(h:a≤b)(k:b<c):a≤c:=Int.le_of_lt (Int.lt_of_le_of_lt h k)
theorem qu {a b:Int}(h:a<b):¬b<a:=Int.not_lt.mpr (Int.le_of_lt h)
theorem qf {a b:Nat}(h:a<b):a-1<b:=Nat.lt_of_le_of_lt (Nat.sub_le ..) h
theorem qn {a b:Nat}(h:a≤b)(k:¬a=b):a<b:=Nat.lt_of_le_of_ne h k
theorem qo {i j:Nat}(h:i<j)(k:i≥j-1):i=j-1:=Nat.le_antisymm (Nat.le_sub_one_of_lt h) k
theorem qp {j m:Nat}(k:j≥m)(h:j<m+1):j=m:=Nat.le_antisymm (Nat.le_of_lt_succ h) k
theorem qq {a b c:Nat}(h:b=c)(k:a<c):a<b:=h▸k
theorem qr {a b c:Nat}(h:b=c)(k:a<b):a<c:=h▸k
theorem qs {a b c:Nat}(h:b=c)(k:a≤c):a≤b:=h▸k
theorem qt {a b c:Nat}(h:b=c)(k:a≤b):a≤c:=h▸k
set_option compiler.extract_closed false
abbrev mN:=Lean.Syntax
def mS(a s:List mN)(w:String):List mN:=
 let l:=w.toList
 let r:=String.ofList (l.drop 2)
 let n:=(l.getD 1 '0').toNat-48
 match w.front.toNat with
 |39=>.atom .none r::s
 |35=>a.getD n .missing::s
 |38=>.ident .none default r.toName []::s
 |90=>.ident .none default (Lean.addMacroScope `M r.toName 1) []::s
 |c=>.node .none ([`null,.str .anonymous r,.str `Lean.Parser.Term r].getD (123-c) (.str `Lean.Parser.Tactic r)) (s.take n).reverse.toArray::s.drop n
def mX(t p:String):String:=match p.splitOn "~" with
|[a,b]=>t.replace a b
|_=>t
def mB(t:String)(a:List mN):mN:=(((("%t~'0try '0clear #0 {1 (2clear %s (2tacticTry_^%x~#0 {1 y2app (2exact^%g~%s z2group^%s~{1 %i^%p~%i '0) (3paren^%i~(1tacticSeq1Indented (1tacticSeq^%h~'0? '0_ y2syntheticHole^%c~'0clear #0 {1 (2clear^%a~%l '0by '0assumption (1assumption {1 (1tacticSeq1Indented (1tacticSeq y2byTactic %r^%l~'0( &0? z1hygieneInfo y2hygienicLParen^%r~'0) y3paren^%o~'0( &0config '0:= '0{ {0 {0 y1structInstFields {0 y1optEllipsis {0 '0} y6structInst '0) (5valConfigItem (1configItem {1 (1optConfig".splitOn "^").foldl mX t).splitOn " ").foldl (mS a) []).headD .missing
def mL(l:List mN):mN:=.node .none `null l.toArray
def mG(l:List mN):mN:=mB "'0first #0 (2first" [mL (l.map fun x=>mB "'0| #0 %g" [x])]
def mF(t:String)(a:List mN):mN:=mG ((t.splitOn "|").map (mB · a))
def mK(l:List mN):mN:=.node .none `null (Lean.mkSepArray l.toArray (.atom .none ","))
def mI(p:mN):Bool:=p[0].getNumArgs==1&&p[0][0].isOfKind `Lean.Parser.Tactic.rcasesPat.one&&p[0][0][0].getId !=`rfl
def mV(p:mN):Bool:=p[0][0].isOfKind `Lean.Parser.Tactic.rcasesPat.ignore||p[0][0].isOfKind `Lean.Parser.Tactic.rcasesPat.clear
def mD(s:String)(k n:Nat):String:=s++toString k++bif n==0 then "" else toString n
def mY(p:mN):mN:=bif mI p then mB "'0intro #0 {1 (2intro" [p[0][0][0]] else bif mV p then mB "'0intro Z0z {1 (2intro" [] else mB "'0( '0intro Z0r {1 (2intro '0; '0obtain #0 {1 {0 '0:= Z0r {1 {2 (4obtain {3 %p" [p]
def mJ(t p:mN):mN:=mB "#0 '0<;> #1 (3tactic_<;>_" [t,mY p]
def mT(m:Nat)(l:List mN)(s:String)(f:mN->mN):List mN:=l.take m++[bif l.length==m+1 then l.getD m .missing else mB s [mK ((l.drop m).map f)]]
def mW(f:String)(m:Nat)(e:mN)(ps:List mN):mN:=(mT m ps "'0⟨ #0 '0⟩ (3rcasesPat.tuple {1 (1rcasesPatMed" fun p=>mB "#0 {0 (2rcasesPatLo" [p]).foldl mJ (mB "'0( '0refine #0 %l #1 '0: {0 '0) y5typeAscription %h {2 y2app (2refine '0; '0try '0clear #1 {1 (2clear %s (2tacticTry_ {3 %p" [mB ("&0Mine."++f) [],e])
def mO(p e:mN):mN:=
 let l:=bif p[0].getNumArgs==1 then p[0][0][1].getSepArgs.toList.map (·[0]) else []
 let n:=l.length
 let k:=[7,6,5,4,3,2,1].filter (·<n)
 mG (((k.filter (·+1<n)).map fun k=>mW (mD "y" k (n-k)) (n-1) e l)++(k.map fun k=>mW (mD "x" k 0) k e l)++(k.map fun k=>mW (mD "n" (k+1) 0) k e l)++[mB "'0obtain #0 {1 '0: '0_ y1hole {2 '0:= #1 {1 {2 (4obtain" [p,e]])
def mR(e x:mN):mN:=mB "'0( %t '0; #1 {3 %p" [e,mY (mB "#0 {1 (1rcasesPatMed" [x])]
def mC(p e:mN):mN:=bif p[0].getNumArgs==3 then mG [mB "'0( '0refine &0Or.elim %l #0 '0: {0 '0) y5typeAscription %h %h {3 y2app (2refine '0; '0rotate_left {0 (2rotateLeft '0; #2 '0; '0rotate_right {0 (2rotateRight '0; #1 {9 %p" [e,mR e p[0][0],mR e p[0][2]],mB "'0obtain #0 {1 '0: '0_ y1hole {2 '0:= #1 {1 {2 (4obtain" [p,e]] else mO p e
def mH(s:mN)(f:String)(l:List mN):mN:=s.setArg 1 (mB "#0 #1 y2app" [mB ("&0Mine."++f) [],mL l])
def mE(s:mN):mN:=
 let x:=s[1][1].getSepArgs.toList
 let n:=x.length
 let k:=[5,4,3,2,1].filter (·<n)
 mG (((k.filter (·+1<n)).map fun k=>mH s (mD "w" k (n-k)) x)++(k.map fun k=>mH s (mD "e" k 0) (mT k x "'0⟨ #0 '0⟩ y3anonymousCtor" id))++[s.setArg 1 (mB "%l #0 %r" [s[1]])])
def mA(r:mN):mN:=mF "'0with_reducible '0refine #0 #1 %h {2 y2app (2refine %s (2withReducible|'0with_reducible '0refine #0 %l #1 '0.. y1ellipsis {1 y2app %r %h {2 y2app (2refine %s (2withReducible|'0rewrite {0 (1optConfig '0[ #2 {1 '0] (3rwRuleSeq {0 (4rewriteSeq" [mB (bif r[0].getNumArgs==0 then "&0Mine.rwR" else "&0Mine.rwL") [],r[1],r]
def mM(s:mN)(b:List Bool)(r:Unit->mN):Lean.MacroM mN:=bif b.all id then pure (r ()) else Lean.Macro.throwUnsupported
def mZ(s:mN):Bool:=s.getNumArgs==0
def mQ(l:List mN):mN:=mG (("1Nat.le_of_lt 2Nat.lt_of_lt_of_le 2Nat.lt_of_le_of_lt 2Nat.le_trans 2Nat.lt_trans 1Mine.qf 1Nat.sub_one_lt_of_lt 1Nat.lt_succ_of_le 1Nat.le_of_lt_succ 1Nat.le_of_not_lt 1Nat.lt_of_not_le 2Mine.qn 2Mine.qo 2Mine.qp 2Mine.qq 2Mine.qr 2Mine.qs 2Mine.qt 1Int.not_lt.mp 1Int.le_of_lt 2Int.lt_trans 2Int.lt_of_lt_of_le 2Int.lt_of_le_of_lt 2Int.le_trans 2Mine.qx 2Mine.qw 2Mine.qv 2Mine.qy 2Mine.qz 1Mine.qu 1Int.not_lt.mpr".splitOn " ").map (fun n=>mB "'0with_reducible '0exact #0 #1 y2app (2exact %s (2withReducible" [mB ("&"++n) [],mL (List.replicate (n.front.toNat-48) (mB "%a" []))])++l)
local macro_rules (kind:=Lean.Parser.Tactic.obtain)|s=>mM s [!mZ s[1],mZ s[2],s[3][1].getNumArgs==1] fun _=>mO s[1][0] s[3][1][0]
local macro_rules (kind:=Lean.Parser.Tactic.rcases)|s=>mM s [s[1].getNumArgs==1,s[2].getNumArgs==2,mZ s[1][0][0]] fun _=>mC s[2][1][0] s[1][0][1]
local macro_rules (kind:=Lean.Parser.Tactic.cases)|s=>mM s [s[1].getNumArgs==1,mZ s[1][0][0],s[1][0][1].isIdent,mZ s[2],mZ s[3]] fun _=>mF "'0exact &0Mine.nn %x|'0exact &0Mine.sn %x|'0exact &0Mine.ft %x|'0exact &0Mine.tf %x|'0( '0have {0 y1letConfig Z0q y1letId {0 {0 '0:= &0Mine.si #0 {1 y2app y5letIdDecl y1letDecl (3tacticHave__ '0; %c '0; '0subst Z0q {1 (2subst {5 %p|'0( '0refine &0Mine.prE #0 %h {2 y2app (2refine '0; %c '0; '0intro Z0q Z0r {2 (2intro '0; '0subst Z0q {1 (2subst '0; '0subst Z0r {1 (2subst {9 %p|'0cases {0 %l #0 %r (2elimTarget {1 {0 {0 (4cases" [s[1][0][1]]
local macro_rules (kind:=Lean.Parser.Tactic.exact)|s=>mM s [s[1].isOfKind `Lean.Parser.Term.anonymousCtor] fun _=>mE s
local macro_rules (kind:=Lean.Parser.Tactic.refine)|s=>mM s [s[1].isOfKind `Lean.Parser.Term.anonymousCtor] fun _=>mE s
local macro_rules (kind:=Lean.Parser.Tactic.omega)|s=>mM s [mZ s[1][0]] fun _=>mF "'0lia {0 (1optConfig (2lia|'0omega %o (2omega" []
local macro_rules (kind:=Lean.Parser.Tactic.lia)|s=>mM s [mZ s[1][0]] fun _=>mQ [s.setArg 1 (mB "%o" [])]
local macro_rules (kind:=Lean.Parser.Tactic.tacticBv_omega)|s=>mM s [] fun _=>mQ [mB "'0omega %o (2omega" []]
local macro_rules (kind:=Lean.Parser.Tactic.grind)|s=>mM s [mZ s[1][0],mZ s[2],mZ s[3],mZ s[4]] fun _=>mQ [s.setArg 1 (mB "%o" [])]
local macro_rules (kind:=Lean.Parser.Tactic.acRfl)|s=>mM s [] fun _=>mF "'0exact &0Nat.lt_of_lt_of_le %a %a {2 y2app (2exact|'0exact &0Nat.lt_of_le_of_lt %a %a {2 y2app (2exact|'0exact &0Nat.le_trans %a %a {2 y2app (2exact" []
local macro_rules (kind:=Lean.Parser.Tactic.split)|s=>mM s [mZ s[1],s[2][0][1][0].getNumArgs==1,s[2][0][1][0][0].isIdent] fun _=>mF "'0( '0refine &0Mine.itE #0 %h %h {3 y2app (2refine '0<;> %c (3tactic_<;>_ '0<;> '0intro Z0q #0 {2 (2intro (3tactic_<;>_ {1 %p|'0( '0refine &0Mine.oS2 #0 %h %h {3 y2app (2refine '0<;> %c (3tactic_<;>_ '0; '0rotate_left {0 (2rotateLeft '0; '0( '0intro Z0q #0 {2 (2intro '0; '0try '0subst Z0q {1 (2subst %s (2tacticTry_ {3 %p '0; '0rotate_right {0 (2rotateRight '0; '0( '0intro Z0q Z0r Z0t #0 {4 (2intro '0; '0try '0subst Z0t {1 (2subst %s (2tacticTry_ {3 %p {9 %p|'0( '0refine &0Mine.oS1 #0 %h %h {3 y2app (2refine '0<;> %c (3tactic_<;>_ '0; '0rotate_left {0 (2rotateLeft '0; '0( '0intro Z0q #0 {2 (2intro '0; '0try '0subst Z0q {1 (2subst %s (2tacticTry_ {3 %p '0; '0rotate_right {0 (2rotateRight '0; '0( '0intro Z0q Z0r #0 {3 (2intro '0; '0try '0subst Z0r {1 (2subst %s (2tacticTry_ {3 %p {9 %p|'0split {0 '0at %l #0 %r {1 (1locationHyp (2location {1 (3split" [s[2][0][1][0][0]]
local macro_rules (kind:=Lean.Parser.Tactic.rintro)|s=>mM s [mZ s[2],s[1].getArgs.all (·.isOfKind `Lean.Parser.Tactic.rintroPat.one)] fun _=>s[1].getArgs.foldl (fun t p=>mJ t (mB "#0 {1 (1rcasesPatMed" [p[0]])) (mB "'0skip (1skip" [])
local macro_rules (kind:=Lean.Parser.Tactic.rwSeq)|s=>mM s [mZ s[1][0],mZ s[3]] fun _=>s[2][1].getSepArgs.foldr (fun r t=>mB "'0( #0 '0; #1 {3 %p" [mA r,t]) (mB "'0with_reducible #0 %s (2withReducible" [mF "'0rfl (1tacticRfl|'0exact &0Mine.oA1 (2exact|'0exact &0Mine.oA2 (2exact|'0skip (1skip" []])
local macro_rules (kind:=Lean.Parser.Tactic.dsimp)|s=>mM s [mZ s[1][0],mZ s[2],!mZ s[3],mZ s[4]] fun _=>(s.setArg 1 (mB "%o" [])).setArg 4 (mB "'0[ {0 {0 &0Mine.oA1 (3simpLemma '0, {0 {0 &0Mine.oB1 (3simpLemma '0, {0 {0 &0Mine.oA2 (3simpLemma '0, {0 {0 &0Mine.oB2 (3simpLemma {7 '0] {3" [])
local macro_rules (kind:=Lean.Parser.Tactic.show)|s=>mM s [] fun _=>mF "'0refine %l '0? '0_ y2syntheticHole '0: #0 {1 '0) y5typeAscription (2refine|'0change #0 {0 (3change" [s[1]]
local macro_rules (kind:=Lean.Parser.Tactic.simp)|s=>mM s [mZ s[1][0],mZ s[2],mZ s[3],mZ s[4],mZ s[5]] fun _=>mG (("a b c d e f g h j k l m".splitOn " ").map (fun n=>mB "'0exact #0 (2exact" [mB ("&0Mine.s"++n) []])++[mB "'0exact &0Nat.le_of_ble_eq_true &0rfl {1 y2app (2exact" [],s.setArg 1 (mB "%o" [])])
local macro_rules (kind:=Lean.Parser.Tactic.tacticRfl')|s=>mM s [] fun _=>mB "'0decide '0+ &0kernel (2posConfigItem (1configItem {1 (1optConfig (2decide" []
local macro_rules (kind:=Lean.Parser.Command.declaration)|s=>mM s [s[1].isOfKind `Lean.Parser.Command.definition||s[1].isOfKind `Lean.Parser.Command.abbrev,mZ s[0][4]] fun _=>s.setArg 0 (s[0].setArg 4 (mL [.node .none `Lean.Parser.Command.noncomputable #[.atom .none "noncomputable"]]))
def Aa:=@wpAny_bind
def Ag:=@wpAny_pure
def wk:=@List.mem_cons
def wl:=@List.mem_singleton
def wm:=@Bool.and_eq_true
def wn:=@List.length_map
def wp:=@Nat.le_trans
def wq:=@List.mem_range
def wu:=@Nat.le_refl
def wv:=@List.getElem?_eq_some_iff
def ww:=@Heap.get?_push_of_some
def wx:=@Option.some.inj
def wz:=@Nat.zero_le
def x6:=@List.getElem?_map
def x7:=@List.getElem?_eq_getElem
def x8:=@List.map_cons
def x9:=@List.length_cons
def xb:=@List.length_append
def xc:=@Heap.get?_push_size
def xd:=@Nat.lt_of_lt_of_le
def xe:=@Nat.lt_of_le_of_lt
def xg:=@Nat.ble_eq_true_of_le
def xh:=@Bool.and_eq_true_iff
def xi:=@Nat.succ.inj
def xj:=@List.append_assoc
def xk:=@List.mem_append
def xl:=@Heap.lt_size
def xm:=@Nat.le_of_ble_eq_true
def xo:=@List.all_eq_true
def xp:=@List.mem_append_left
def xq:=@Array.length_toList
def xr:=@List.mem_map
def xt:=@List.mem_of_getElem?
def xw:=@Int.not_lt
def xx:=@List.append_nil
def xy:=@Array.getElem?_toList
def xz:=@Nat.not_lt
def y6:=@List.lookup_cons
def y7:=@List.not_mem_nil
def y8:=@Nat.le_of_lt_succ
def y9:=@Nat.le_add_right
def ya:=@Nat.ne_of_lt
def yb:=@Nat.lt_trans
def yc:=@List.map_append
def yd:=@List.mem_append_right
def ye:=@Nat.lt_or_ge
def yf:=@List.pairwise_cons
def yg:=@Int.ofNat_lt
def yh:=@Nat.le_succ
def yi:=@List.cons_append
def yj:=@List.getElem?_of_mem
def yk:=@Heap.get?_update_other
def yl:=@List.map_nil
def ym:=@Nat.le_antisymm
def yn:=@Nat.le_of_lt
def yo:=@List.length_take
def yp:=@Int.le_of_lt
def yq:=@List.nodup_cons
def yr:=@Nat.le_of_eq
def yt:=@List.exists_cons_of_length_eq_add_one
def yu:=@List.getElem?_append_left
def yv:=@List.nil_append
def yw:=@Nat.sub_le
def yx:=@List.length_range
def yy:=@Nat.lt_irrefl
def yz:=@Nat.min_le_left
def z4:=@Int.le_trans
def z5:=@Nat.lt_succ_self
def z6:=@List.map_map
def z7:=@Nat.succ_le_succ
def z8:=@List.foldl_append
def z9:=@Int.le_refl
def zd:=@List.nodup_append
def zf:=@Nat.le_of_not_lt
def zg:=@Option.isNone_iff_eq_none
def zh:=@Bool.not_eq_true'
def zi:=@Nat.lt_succ_of_lt
def zj:=@Nat.lt_of_not_le
def zk:=@List.foldl_cons
def zl:=@List.getElem?_take_of_lt
def zm:=@Heap.size_push
def zn:=@List.mem_of_mem_take
def zo:=@List.take_append_drop
def zp:=@Int.toNat_natCast
def zq:=@Int.fmod_eq_emod_of_nonneg
def zr:=@Nat.add_le_add
def zs:=@List.mem_filter
def zt:=@Int.natCast_nonneg
def zu:=@List.contains_iff_mem
def zv:=@List.getElem?_append_right
def zw:=@Heap.get?_update_self
def zx:=@Heap.SameBut.update
def zy:=@Nat.mul_le_mul_left
def zz:=@Int.fdiv_eq_ediv_of_nonneg
def Aaa:=@Array.getElem?_eq_getElem
def Aab:=@List.zip_cons_cons
def Aac:=@List.drop_eq_getElem_cons
def Aad:=@List.getD_eq_getElem?_getD
def Aae:=@Bool.false_eq_true
def Aaf:=@List.ne_of_not_mem_cons
def Aag:=@List.map_congr_left
def Aah:=@Nat.le_sub_one_of_lt
def Aai:=@List.mem_filterMap
def Aaj:=@List.pairwise_iff_getElem
def Aak:=@List.eq_nil_of_length_eq_zero
def Aal:=@Classical.byContradiction
def Aam:=@List.not_mem_of_not_mem_cons
open PySem renaming Value→OY,Shared→OZ,Addr→O5,Expr→O6,Str→O7,Around→O8,Heap→O9,Comprehension→PA,NameKind→PB,Stmt→PC,wpAny→PD
open PySem.Str renaming ofString→PE
open _root_.List renaming range→PF
inductive V where
 |none
 |bool (b:Bool)
 |int (i:Int) (sm:Bool)
 |str (s:O7)
 |tup (l:List V)
 |lst (l:List V)
 |dct (l:List (Int×V))
 |dcs (l:List (O7×V))
 |set (l:List Int)
 |ref (i:Nat)
 |fn (a:O5)
 |bi (id:String)
 |ty (n:String)
 |clo (args:Arguments) (body:O6) (scope:Scope) (cells:List (O7×Nat))
 |inst (x:V)
 |opq
 deriving Inhabited
inductive Cv where
 |fr (m:List (O7×V))
 |cell (v:Option V)
 |lst (l:List V)
 |dct (l:List (Int×V))
 |tab (q:O7)
 deriving Inhabited
abbrev Aj:=List Cv
structure Cx where
 prog:Program
 w:World
 h0:O9
 os:OsState
 cls:O5
 tabs:List O5
 off:List O5:=[]
abbrev Cx.md (C:Cx):Model:=model C.prog C.w
def yI (vs:Array OY) (n:Nat):Obj:={ cls:=.type "tuple",data:=.seq vs n }
def iP (vs:Array OY) (n:Nat):Obj:={ cls:=.type "list",data:=.seq vs n }
def Tr (v:Option OY):Obj:={ cls:=.type "cell",data:=.cell v }
def Jz (ps:Array OY):Obj:={ cls:=.none,data:=.fields ps }
def Cd (Y:List O5) (cells:List (O7×Nat)) (cs:List (O7×O5)):Prop:=
 ∀x,match cells.lookup x with
  |some i=>∃a,Y[i]?=some a∧cs.lookup x=some a
  |Option.none=>cs.lookup x=Option.none
structure la (off Y:List O5)(h:O9)(args:Arguments)(body:O6)(scope:Scope)(cells:List (O7×Nat))(a:O5):Prop where
 nr:a∉Y∧a∉off
 ob:∃fd,h.get? a=some { cls:=.type "function",data:=.func fd }∧fd.params=args∧fd.body = .expr body∧fd.scope=scope∧fd.globals=mainGlobals ∧
  fd.builtins=builtinsNs∧fd.defaults = .none∧fd.kwdefaults = .none∧Cd Y cells fd.closure ∧
  ∃c o vs t,fd.code = .ref c∧(c∉Y∧c∉off)∧h.get? c=some o∧o.data = .fields vs∧vs[1]?=some (.str fd.qualname t)
def jP (e:Int×OY):Int:=match e.2 with|.int k _=>k|_=>0
structure Gg (p:Program)(w:World)(o:Obj)(l:List Int):Prop where
 ex:o.ExactSet
 dat:∃es ep t,o.data = .set es ep t∧(∀e∈es.toList,∃k u,e=((intKind p w).hash k,.int k u))∧(es.toList.map jP).Perm l∧es.size<scanBound∧t.fits es.size=true ∧
  t.place.toList.Pairwise (· < ·)∧(t.led=true∨w.params.followText "set-order" = true)
 srt:l.Pairwise (· < ·)
def lQ (val:OY):O7->Option OY:=fun y=>if y=("comp_select_list":O7) then some val else none
def xE (d:O5) (od:Obj) (val:OY):Prop:=∀h:O9,h.get? d=some od->h.Ns1 d (lQ val)
mutual
noncomputable def Bz (C:Cx) (Y:List O5) (h:O9):V->OY->Prop
 |.none,v=>v = .none
 |.bool b,v=>v = .bool b
 |.int i sm,v=>(∃t,v = .int i t)∧(sm=true->i.natAbs<2 ^ 63)
 |.str s,v=>∃t,v = .str s t
 |.tup l,v=>∃a vs n,v = .ref a∧(a∉Y∧a∉C.off)∧h.get? a=some (yI vs n)∧Bv C Y h l vs.toList
 |.lst l,v=>∃a vs n,v = .ref a∧(a∉Y∧a∉C.off)∧h.get? a=some (iP vs n)∧Bv C Y h l vs.toList
 |.dct l,v=>∃a AE,v = .ref a∧(a∉Y∧a∉C.off)∧a≠sysModules∧h.DictOf (intKind C.prog C.w) a AE∧Eh C Y h l AE
 |.dcs l,v=>∃a AE,v = .ref a∧(a∉Y∧a∉C.off)∧a≠sysModules∧h.DictOf (strKind C.prog C.w) a AE∧Sx C Y h l AE
 |.set l,v=>∃a o,v = .ref a∧(a∉Y∧a∉C.off)∧h.get? a=some o∧Gg C.prog C.w o l
 |.ref i,v=>∃a,v = .ref a∧Y[i]?=some a
 |.fn a,v=>v = .ref a∧a<C.h0.objs.size
 |.bi id,v=>v = .builtin id
 |.ty n,v=>v = .type n
 |.opq,_=>True
 |.clo args body scope cells,v=>∃a,v = .ref a∧la C.off Y h args body scope cells a
 |.inst x,v=>∃a d o od val,v = .ref a∧(a∉Y∧a∉C.off)∧(d∉Y∧d∉C.off)∧h.get? a=some o∧h.get? d=some od∧(o.cls = .ref C.cls∧(∀c,o.data≠.cls c)∧o.dict=some d∧d≠a)∧xE d od val∧Bz C Y h x val
noncomputable def Bv (C:Cx) (Y:List O5) (h:O9):List V->List OY->Prop
 |[],vs=>vs=[]
 |x::r,vs=>∃v BB,vs=v::BB∧Bz C Y h x v∧Bv C Y h r BB
noncomputable def Eh (C:Cx) (Y:List O5) (h:O9):List (Int×V)->List (Int×OY)->Prop
 |[],AE=>AE=[]
 |(k,x)::r,AE=>∃v BL,AE=(k,v)::BL∧Bz C Y h x v∧Eh C Y h r BL
noncomputable def Sx (C:Cx) (Y:List O5) (h:O9):List (O7×V)->List (O7×OY)->Prop
 |[],AE=>AE=[]
 |(k,x)::r,AE=>∃v BL,AE=(k,v)::BL∧Bz C Y h x v∧Sx C Y h r BL
end
structure Mv (Y Bx:List O5)(h h':O9):Prop where
 ext:∃t,Bx=Y++t
 fresh:∀a∈Bx,a∈Y∨h.get? a=none
 keep:∀b o,b∉Y->h.get? b=some o->h'.get? b=some o
namespace Mv
variable {Y Bx fP:List O5}{h h' D1:O9}
theorem refl:Mv Y Y h h:=⟨⟨[],(xx _).symm⟩,fun Z m=>.inl m,fun Z Z Z e=>e⟩
theorem off (x:Mv Y Bx h h'){b:O5}{o:Obj}(hb:b∉Y)(e:h.get? b=some o):b∉Bx:=fun m=>
 (x.fresh b m).elim hb fun l=>by rw[e] at l;cases l
theorem trans (x:Mv Y Bx h h')(y:Mv Bx fP h' D1):Mv Y fP h D1 where
 ext:=(by obtain ⟨t,e⟩:=x.ext;exact (by obtain ⟨u,e'⟩:=y.ext;exact ⟨t++u,by rw[e',e,xj]⟩))
 fresh:=fun a m=>(y.fresh a m).elim (x.fresh a) fun l=>by
  by_cases q:a∈Y
  ·exact .inl q
  ·right
   cases hh:h.get? a with
   |none=>rfl
   |some o=>rw[x.keep a o q hh] at l;cases l
 keep:=fun b o hb e=>y.keep b o (x.off hb e) (x.keep b o hb e)
theorem get (x:Mv Y Bx h h'){i:Nat}{a:O5}(e:Y[i]?=some a):Bx[i]?=some a:=by
 obtain ⟨t,rfl⟩:=x.ext;rw[yu (wv.mp e).1];exact e
end Mv
structure Kp (off AC Y Bx:List O5)(h h':O9):Prop where
 at':∀a o,(a∉Y∧a∉off)->h.get? a=some o->(a∉Bx∧a∉AC)∧h'.get? a=some o
 get:∀(i:Nat) (a:O5),Y[i]?=some a->Bx[i]?=some a
theorem Kp.a {off AC Y Bx:List O5}{h h':O9}(x:Kp off AC Y Bx h h'){a:O5}{o:Obj}(n:a∉Y∧a∉off)(e:h.get? a=some o):a∉Bx∧a∉AC:=(x.at' a o n e).1
theorem Kp.b {off AC Y Bx:List O5}{h h':O9}(x:Kp off AC Y Bx h h'){a:O5}{o:Obj}(n:a∉Y∧a∉off)(e:h.get? a=some o):h'.get? a=some o:=(x.at' a o n e).2
theorem Mv.kp {Y Bx off:List O5}{h h':O9}(x:Mv Y Bx h h'):Kp off off Y Bx h h':=⟨fun Z Z n e=>⟨⟨x.off n.1 e,n.2⟩,x.keep _ _ n.1 e⟩,fun Z Z e=>x.get e⟩
theorem Cd.gen {Y Bx off AC:List O5}{h h':O9}(x:Kp off AC Y Bx h h') {cells cs}(r:Cd Y cells cs):Cd Bx cells cs:=fun n=>by
 have:=r n;split at this
 ·exact (by obtain ⟨a,e,f⟩:=this;exact ⟨a,x.get _ _ e,f⟩)
 ·exact this
theorem Cd.mv {Y Bx:List O5}{h h':O9}(x:Mv Y Bx h h') {cells cs}(r:Cd Y cells cs):Cd Bx cells cs:=r.gen (x.kp (off:=[]))
abbrev Cx.wo (C:Cx) (off:List O5):Cx:={ C with off:=off }
theorem Bz.gen {C:Cx}{AC Y Bx:List O5}{h h':O9}(x:Kp C.off AC Y Bx h h'){u:V}{v:OY}(r:Bz C Y h u v):Bz (C.wo AC) Bx h' u v:=by
 refine V.rec (motive_1:=fun u=>∀v,Bz C Y h u v->Bz (C.wo AC) Bx h' u v) (motive_2:=fun l=>∀vs,Bv C Y h l vs->Bv (C.wo AC) Bx h' l vs) (motive_3:=fun l=>∀vs,Eh C Y h l vs->Eh (C.wo AC) Bx h' l vs)
  (motive_4:=fun l=>∀vs,Sx C Y h l vs->Sx (C.wo AC) Bx h' l vs) (motive_5:=fun p=>∀v,Bz C Y h p.2 v->Bz (C.wo AC) Bx h' p.2 v) (motive_6:=fun p=>∀v,Bz C Y h p.2 v->Bz (C.wo AC) Bx h' p.2 v)
  (fun Z r=>r) (fun Z Z r=>r) (fun Z Z Z r=>r) (fun Z Z r=>r) ?_ ?_ ?_ ?_ ?_ ?_ (fun Z Z r=>r) (fun Z Z r=>r) (fun Z Z r=>r) ?_ ?_ (fun Z r=>r) (fun Z r=>r) ?_ (fun Z r=>r) ?_ (fun Z r=>r) ?_ (fun Z Z ih=>ih) (fun Z Z ih=>ih) u v r
 ·intro l ih v r;obtain ⟨a,vs,n,e,o,g,l⟩:=r;exact ⟨a,vs,n,e,x.a o g,x.b o g,ih _ l⟩
 ·intro l ih v r;obtain ⟨a,vs,n,e,o,g,l⟩:=r;exact ⟨a,vs,n,e,x.a o g,x.b o g,ih _ l⟩
 ·intro l ih v r;obtain ⟨a,AE,e,o,ns,⟨ob,es,ep,g,r⟩,l⟩:=r;exact ⟨a,AE,e,x.a o g,ns,⟨ob,es,ep,x.b o g,r⟩,ih _ l⟩
 ·intro l ih v r;obtain ⟨a,AE,e,o,ns,⟨ob,es,ep,g,r⟩,l⟩:=r;exact ⟨a,AE,e,x.a o g,ns,⟨ob,es,ep,x.b o g,r⟩,ih _ l⟩
 ·intro l v r;obtain ⟨a,ob,e,o,g,r⟩:=r;exact ⟨a,ob,e,x.a o g,x.b o g,r⟩
 ·intro i v r;obtain ⟨a,e,f⟩:=r;exact ⟨a,e,x.get _ _ f⟩
 ·intro args body scope cells v r;obtain ⟨a,e,⟨o,fd,g,r1,r2,r3,r4,r5,r6,r7,r8,c,oc,vs,t,q1,q2,q3,q4⟩⟩:=r;exact ⟨a,e,⟨x.a o g,fd,x.b o g,r1,r2,r3,r4,r5,r6,r7,r8.gen x,c,oc,vs,t,q1,x.a q2 q3,x.b q2 q3,q4⟩⟩
 ·intro y ih v r;obtain ⟨a,d,ob,od,val,e,o,o',g,g',q,i,r⟩:=r;exact ⟨a,d,ob,od,val,e,x.a o g,x.a o' g',x.b o g,x.b o' g',q,i,ih _ r⟩
 ·intro y l DY DZ v r;obtain ⟨v,BB,e,r,l⟩:=r;exact ⟨v,BB,e,DY _ r,DZ _ l⟩
 ·intro y l DY DZ v r;obtain ⟨v,BB,e,r,l⟩:=r;exact ⟨v,BB,e,DY _ r,DZ _ l⟩
 ·intro y l DY DZ v r;obtain ⟨v,BB,e,r,l⟩:=r;exact ⟨v,BB,e,DY _ r,DZ _ l⟩
theorem Bv.gen {C:Cx}{AC Y Bx:List O5}{h h':O9}(x:Kp C.off AC Y Bx h h'){l:List V}:∀{vs:List OY},Bv C Y h l vs->Bv (C.wo AC) Bx h' l vs:=by
 induction l with
 |nil=>exact fun r=>r
 |cons y l ih=>
  intro _ r;obtain ⟨v,BB,e,r,l⟩:=r;exact ⟨v,BB,e,r.gen x,ih l⟩
theorem Eh.gen {C:Cx}{AC Y Bx:List O5}{h h':O9}(x:Kp C.off AC Y Bx h h'){l:List (Int×V)}:∀{es:List (Int×OY)},Eh C Y h l es->Eh (C.wo AC) Bx h' l es:=by
 induction l with
 |nil=>exact fun r=>r
 |cons y l ih=>
  intro _ r;obtain ⟨v,BB,e,r,l⟩:=r;exact ⟨v,BB,e,r.gen x,ih l⟩
theorem Bz.mv {C:Cx}{Y Bx:List O5}{h h':O9}(x:Mv Y Bx h h'){u:V}{v:OY}(r:Bz C Y h u v):Bz C Bx h' u v:=r.gen x.kp
theorem Bv.mv {C:Cx}{Y Bx:List O5}{h h':O9}(x:Mv Y Bx h h'){u:List V}{v:List OY}(r:Bv C Y h u v):Bv C Bx h' u v:=r.gen x.kp
theorem Eh.mv {C:Cx}{Y Bx:List O5}{h h':O9}(x:Mv Y Bx h h'){u:List (Int×V)}{v:List (Int×OY)}(r:Eh C Y h u v):Eh C Bx h' u v:=r.gen x.kp
def Lu (C:Cx) (Y:List O5) (h:O9):Option V->Option OY->Prop
 |some u,some v=>Bz C Y h u v
 |none,none=>True
 |_,_=>False
theorem Lu.gen {C:Cx}{AC Y Bx:List O5}{h h':O9}(x:Kp C.off AC Y Bx h h'){u:Option V}{v:Option OY}(r:Lu C Y h u v):Lu (C.wo AC) Bx h' u v:=by
 cases u with
 |none=>cases v with
  |none=>trivial
  |some=>exact r.elim
 |some u=>cases v with
  |none=>exact r.elim
  |some=>exact Bz.gen x r
theorem Lu.mv {C:Cx}{Y Bx:List O5}{h h':O9}(x:Mv Y Bx h h'){u:Option V}{v:Option OY}(r:Lu C Y h u v):Lu C Bx h' u v:=r.gen x.kp
def th (C:Cx) (Y:List O5) (h:O9) (m:List (O7×V)) (f:O7->Option OY):Prop:=∀x,Lu C Y h (m.lookup x) (f x)
def Gy (C:Cx) (Y:List O5) (h:O9) (a:O5):Cv->Prop
 |.fr m=>∃f,h.Ns a f∧th C Y h m f
 |.cell u=>∃v,h.get? a=some (Tr v)∧Lu C Y h u v
 |.lst l=>∃vs n,h.get? a=some (iP vs n)∧Bv C Y h l vs.toList
 |.dct l=>a≠sysModules∧∃AE,h.DictOf (intKind C.prog C.w) a AE∧Eh C Y h l AE
 |.tab q=>∃ps,h.get? a=some (Jz ps)∧TriplesOk ps.toList∧∀pos cv,codeAmong pos ps.toList=some cv->∃c o vs t,cv = .ref c∧(c∉Y∧c∉C.off)∧h.get? c=some o∧o.data = .fields vs∧vs[1]?=some (.str q t)
theorem Gy.gen {C:Cx}{AC Y Bx:List O5}{h h':O9}(x:Kp C.off AC Y Bx h h'){a:O5}(e:h'.get? a=h.get? a){o:Cv}(r:Gy C Y h a o):Gy (C.wo AC) Bx h' a o:=by
 induction o using Cv.casesOn with
 |fr m=>obtain ⟨f,⟨o,es,ep,g,r⟩,k⟩:=r;exact ⟨f,⟨o,es,ep,e.trans g,r⟩,fun y=>(k y).gen x⟩
 |cell u=>obtain ⟨v,g,r⟩:=r;exact ⟨v,e.trans g,r.gen x⟩
 |lst l=>obtain ⟨vs,n,g,r⟩:=r;exact ⟨vs,n,e.trans g,r.gen x⟩
 |dct l=>obtain ⟨ns,AE,⟨ob,es,ep,g,q⟩,r⟩:=r;exact ⟨ns,AE,⟨ob,es,ep,e.trans g,q⟩,r.gen x⟩
 |tab q=>
  obtain ⟨ps,g,r,k⟩:=r;refine ⟨ps,e.trans g,r,fun pos cv z=>?_⟩;obtain ⟨c,o,vs,t,q1,q2,q3,q4⟩:=k pos cv z;exact ⟨c,o,vs,t,q1,x.a q2 q3,x.b q2 q3,q4⟩
theorem Gy.mv {C:Cx}{Y Bx:List O5}{h h':O9}(x:Mv Y Bx h h'){a:O5}(e:h'.get? a=h.get? a){o:Cv}(r:Gy C Y h a o):Gy C Bx h' a o:=r.gen x.kp e
structure Bh (C:Cx)(Y:List O5)(J:Aj)(s:OZ):Prop where
 len:Y.length=J.length
 nd:Y.Nodup
 base:∀b o,b∉Y->C.h0.get? b=some o->s.heap.get? b=some o
 fns:∀a∈Y,C.h0.get? a=none∨a∈C.tabs
 objs:∀(i:Nat) a o,Y[i]?=some a->J[i]?=some o->Gy C Y s.heap a o
 os:s.os=C.os
 gens:AllBare s.gens
 big:∃o,C.h0.get? sysModules=some o
 offs:∀a∈C.off,a∉Y∧C.h0.get? a=none∧∃o,s.heap.get? a=some o
 tb:∃t,Y=C.tabs++t
theorem Bh.tok {C:Cx} {Y J s}(I:Bh C Y J s)(t:Nat):Bh C Y J { s with toks:=t }:=⟨I.len,I.nd,I.base,I.fns,I.objs,I.os,I.gens,I.big,I.offs,I.tb⟩
structure Ck (C:Cx)(Y:List O5)(s:OZ)(Bx:List O5)(Av:Aj)(s':OZ):Prop where
 inv:Bh C Bx Av s'
 mv:Mv Y Bx s.heap s'.heap
theorem Ck.refl {C:Cx} {Y J s}(I:Bh C Y J s):Ck C Y s Y J s:=⟨I,.refl⟩
theorem Ck.tok {C:Cx} {Y J s}(I:Bh C Y J s)(t:Nat):Ck C Y s Y J { s with toks:=t }:=⟨I.tok t,.refl⟩
theorem Ck.trans {C:Cx} {Y s Bx Av s' fP vw DQ}(x:Ck C Y s Bx Av s')(y:Ck C Bx s' fP vw DQ):Ck C Y s fP vw DQ:=⟨y.inv,x.mv.trans y.mv⟩
theorem fE {C:Cx}{Y:List O5}{h:O9}{a:O5}{o:Cv}(x:Gy C Y h a o):∃ob,h.get? a=some ob:=by
 cases o with
 |fr m=>obtain ⟨f,⟨o,es,ep,g,_⟩,_⟩:=x;exact ⟨_,g⟩
 |cell u=>obtain ⟨v,g,_⟩:=x;exact ⟨_,g⟩
 |lst l=>obtain ⟨vs,n,g,_⟩:=x;exact ⟨_,g⟩
 |dct l=>obtain ⟨_,AE,⟨ob,es,ep,g,_⟩,_⟩:=x;exact ⟨_,g⟩
 |tab _=>obtain ⟨ps,g,_⟩:=x;exact ⟨_,g⟩
theorem Bh.at {C:Cx} {Y J s}(I:Bh C Y J s){a:O5}(m:a∈Y):∃o,s.heap.get? a=some o:=by
 obtain ⟨i,hi,rfl⟩:=List.getElem_of_mem m;exact fE (I.objs i _ (J[i]'(I.len ▸ hi)) (x7 hi) (x7 _))
theorem Co (h:O9):h.get? h.objs.size=none:=by
 cases e:h.get? h.objs.size with
 |none=>rfl
 |some o=>exact absurd (xl e) (yy _)
theorem Bh.lt {C:Cx} {Y J s}(I:Bh C Y J s){a:O5}(m:a∈Y):a<s.heap.objs.size:=(by obtain ⟨_,e⟩:=I.at m;exact xl e)
theorem Bh.free {C:Cx} {Y J s}(I:Bh C Y J s){a:O5}(e:s.heap.get? a=none):(a∉Y∧a∉C.off)∧C.h0.get? a=none∧a≠sysModules:=by
 have h1:a∉Y:=fun m=>by obtain ⟨o,h⟩:=I.at m;rw[h] at e;cases e
 have h2:C.h0.get? a=none:=by
  cases q:C.h0.get? a with
  |none=>rfl
  |some o=>rw[I.base a o h1 q] at e;cases e
 refine ⟨⟨h1,fun m=>?_⟩,h2,fun q=>?_⟩
 ·obtain ⟨_,_,o,h⟩:=I.offs a m;rw[h] at e;cases e
 ·obtain ⟨o,h⟩:=I.big;rw[← q,h2] at h;cases h
theorem Bh.new_off {C:Cx} {Y J s}(I:Bh C Y J s):s.heap.objs.size∉Y∧s.heap.objs.size∉C.off:=(I.free (Co _)).1
theorem Bh.ext {C:Cx} {Y J s}(I:Bh C Y J s){h':O9}(k:∀b o,s.heap.get? b=some o->h'.get? b=some o)(tk:Nat):Ck C Y s Y J { s with heap:=h',toks:=tk } where
 inv:=⟨I.len,I.nd,fun b o hb e=>k b o (I.base b o hb e),I.fns,
  fun i a ob e1 e2=>let ⟨o,h⟩:=I.at (xt e1)
   (I.objs i a ob e1 e2).mv ⟨⟨[],(xx _).symm⟩,fun Z m=>.inl m,fun b o Z e=>k b o e⟩ ((k a o h).trans h.symm),I.os,I.gens,I.big,
    fun a m=>let ⟨x,y,o,z⟩:=I.offs a m;⟨x,y,o,k a o z⟩,I.tb⟩
 mv:=⟨⟨[],(xx _).symm⟩,fun Z m=>.inl m,fun b o Z e=>k b o e⟩
theorem Bh.frozen {C:Cx} {Y J s}(I:Bh C Y J s)(o:Obj):Ck C Y s Y J { s with heap:=s.heap.push o }:=
 I.ext (fun b o' e=>ww _ e) s.toks
theorem Bh.alloc {C:Cx} {Y J s}(I:Bh C Y J s){a:O5}{h':O9}{tk:Nat}{ao:Cv}(k:∀b o,s.heap.get? b=some o->h'.get? b=some o)(ha:s.heap.get? a=none)
 (h:Mv Y (Y++[a]) s.heap h'->a≠sysModules->Gy C (Y++[a]) h' a ao):Ck C Y s (Y++[a]) (J++[ao]) { s with heap:=h',toks:=tk }:=by
 have M:Mv Y (Y++[a]) s.heap h':=⟨⟨_,rfl⟩,fun b m=>(xk.mp m).imp id fun q=>by rw[wl.mp q];exact ha,fun b o Z e=>k b o e⟩;obtain ⟨⟨f1,f2⟩,f3,f4⟩:=I.free ha;refine ⟨⟨by simp[I.len],zd.mpr ⟨I.nd,by simp,fun b m c m' q=>f1 (wl.mp m' ▸ q ▸ m)⟩,
  fun b o' hb e=>k b o' (I.base b o' (fun m=>hb (xp _ m)) e),fun b m=>?_,fun i b ob e1 e2=>?_,I.os,I.gens,I.big,
   fun b m=>let ⟨x,y,o,z⟩:=I.offs b m;⟨fun q=>(xk.mp q).elim x fun q=>f2 (wl.mp q ▸ m),y,o,k b o z⟩,(by obtain ⟨t,e⟩:=I.tb;exact ⟨t++[a],by rw[e,xj]⟩)⟩,M⟩
 ·rcases xk.mp m with m|m
  ·exact I.fns b m
  ·exact .inl (wl.mp m ▸ f3)
 ·rcases ye i Y.length with hi|hi
  ·have e1:=(yu hi) ▸ e1;rw[yu (I.len ▸ hi)] at e2;obtain ⟨o,hh⟩:=I.at (xt e1);exact (I.objs i b ob e1 e2).mv M ((k b o hh).trans hh.symm)
  ·have AT:i=Y.length:=by
    have:=(wv.mp e1).1;simp at this;lia
   subst AT;rw[zv (wu _),Nat.sub_self] at e1;rw[I.len,zv (wu _),Nat.sub_self] at e2;cases e1;cases e2;exact h M f4
theorem Bh.update {C:Cx} {Y J s}(I:Bh C Y J s){i:Nat}{a:O5}{h':O9}{ao:Cv}(e:Y[i]?=some a)(hs:∀b o,b≠a->s.heap.get? b=some o->h'.get? b=some o)
 (h:Mv Y Y s.heap h'->Gy C Y h' a ao):Ck C Y s Y (J.set i ao) { s with heap:=h' }:=by
 have am:=xt e;have M:Mv Y Y s.heap h':=⟨⟨[],(xx _).symm⟩,fun Z m=>.inl m,fun b o hb e'=>hs b o (fun q=>hb (q ▸ am)) e'⟩;refine ⟨⟨by simp[I.len],I.nd,fun b o hb e'=>hs b o (fun q=>hb (q ▸ am)) (I.base b o hb e'),I.fns,fun j b ob e1 e2=>?_,I.os,I.gens,I.big,
  fun b m=>let ⟨x,y,o,z⟩:=I.offs b m;⟨x,y,o,hs b o (fun q=>x (q ▸ am)) z⟩,I.tb⟩,M⟩
 by_cases q:j=i
 ·subst q;rw[List.getElem?_set_self (by rw[← I.len];exact (wv.mp e).1)] at e2;cases e2;cases e.symm.trans e1;exact h M
 ·rw[List.getElem?_set_ne (Ne.symm q)] at e2;have hb:b≠a:=fun x=>by
   subst x;exact q ((List.getElem?_inj (wv.mp e1).1 I.nd).mp (e1.trans e.symm))
  obtain ⟨o,hh⟩:=I.at (xt e1);exact (I.objs j b ob e1 e2).mv M ((hs b o hb hh).trans hh.symm)
theorem Bh.junk {C:Cx} {Y J s}(I:Bh C Y J s){AC:List O5}{h':O9}{tk:Nat}(k:∀b o,b∉C.off->s.heap.get? b=some o->h'.get? b=some o)
 (hk:∀a∈AC,a∈C.off∨s.heap.get? a=none) (ho:∀a∈AC,∃o,h'.get? a=some o):Bh (C.wo AC) Y J { s with heap:=h',toks:=tk } where
 len:=I.len
 nd:=I.nd
 base:=fun b o hb e=>k b o (fun m=>by rw[(I.offs b m).2.1] at e;cases e) (I.base b o hb e)
 fns:=I.fns
 objs:=fun i a o e1 e2=>by
  have am:=xt e1;have an:a∉C.off:=fun m=>(I.offs a m).1 am;obtain ⟨ob,EE⟩:=I.at am;exact (I.objs i a o e1 e2).gen ⟨fun b o n e=>⟨⟨n.1,fun m=>(hk b m).elim n.2 fun q=>by rw[e] at q;cases q⟩,k b o n.2 e⟩,fun Z Z e=>e⟩ ((k a ob an EE).trans EE.symm)
 os:=I.os
 gens:=I.gens
 big:=I.big
 offs:=fun a m=>by
  rcases hk a m with q|q
  ·exact ⟨(I.offs a q).1,(I.offs a q).2.1,ho a m⟩
  ·exact ⟨(I.free q).1.1,(I.free q).2.1,ho a m⟩
 tb:=I.tb
theorem Kp.junk {off AC Y:List O5}{h h':O9}(k:∀b o,b∉off->h.get? b=some o->h'.get? b=some o)(hk:∀a∈AC,a∈off∨h.get? a=none):Kp off AC Y Y h h':=
 ⟨fun b o n e=>⟨⟨n.1,fun m=>(hk b m).elim n.2 fun q=>by rw[e] at q;cases q⟩,k b o n.2 e⟩,fun Z Z e=>e⟩
abbrev Du (xs:Array Nat):Prop:=xs.toList.Pairwise (· < ·)
theorem Kw {l:List Nat}(h:l.Pairwise (· < ·)){i j:Nat}{a b:Nat}(AO:i<j)(ha:l[i]?=some a)(hb:l[j]?=some b):a<b:=by
 obtain ⟨h1,rfl⟩:=wv.mp ha;obtain ⟨h2,rfl⟩:=wv.mp hb;exact Aaj.mp h i j h1 h2 AO
theorem uU (xs:Array Nat)(j:Nat)(hr:Du xs):∀(BR lo hi:Nat),hi-lo≤BR->lo≤hi->hi≤xs.size->(∀i a,i<lo->xs.toList[i]?=some a->a<j)->(∀i a,hi≤i->xs.toList[i]?=some a->j≤a) ->
 SetTable.below.go xs j BR lo hi≤xs.size∧(∀i a,i<SetTable.below.go xs j BR lo hi->xs.toList[i]?=some a->a<j)∧(∀i a,SetTable.below.go xs j BR lo hi≤i->xs.toList[i]?=some a->j≤a):=by
 intro X
 induction X with
 |zero=>
  intro lo hi hf h1 h2 h3 h4;have:lo=hi:=ym h1 (Nat.le_of_sub_eq_zero (Nat.le_zero.mp hf));subst this;exact ⟨h2,h3,h4⟩
 |succ BR ih=>
  intro lo hi hf h1 h2 h3 h4;unfold SetTable.below.go;split
  ·rename_i AZ;have FJ:(lo+hi) / 2<hi:=aM1 AZ;have D0:lo≤(lo+hi) / 2:=aM2 h1;have JA:(lo+hi) / 2<xs.size:=by ac_rfl
   have hg:xs.toList[(lo+hi) / 2]?=some (xs.getD ((lo+hi) / 2) j):=by
    simp[Array.getD,JA]
   by_cases hc:xs.getD ((lo+hi) / 2) j<j
   ·rw[if_pos hc];refine ih _ _ (aMb AZ hf) (by assumption) h2 (fun i a AT e=>?_) h4;rcases ye i ((lo+hi) / 2) with q|q
    ·exact yb (Kw hr q e hg) hc
    ·have:i=(lo+hi) / 2:=ym (y8 AT) q;subst this;rw[hg] at e;cases e;exact hc
   ·rw[if_neg hc];refine ih _ _ (aMa AZ hf) D0 (wp (yn FJ) h2) h3 fun i a AT e=>?_;rcases Nat.eq_or_lt_of_le AT with q|q
    ·subst q;rw[hg] at e;cases e;exact zf hc
    ·exact wp (zf hc) (yn (Kw hr q hg e))
  ·have:lo=hi:=by lia
   subst this;exact ⟨h2,h3,h4⟩
theorem Pz {xs:Array Nat}(hr:Du xs)(j:Nat):SetTable.below xs j≤xs.size∧(∀i a,i<SetTable.below xs j->xs.toList[i]?=some a->a<j)∧(∀i a,SetTable.below xs j≤i->xs.toList[i]?=some a->j≤a):=
 uU xs j hr xs.size 0 xs.size (by lia) (wz _) (wu _) (fun i a h=>absurd h (Nat.not_lt_zero _)) (fun i a h e=>by
  have:=(wv.mp e).1;simp at this;lia)
theorem pL {xs:Array Nat}(hr:Du xs){j:Nat}(h:j∈xs.toList):xs[SetTable.below xs j]?=some j:=by
 obtain ⟨m,hm⟩:=yj h;obtain ⟨h1,h2,h3⟩:=Pz hr j;have:SetTable.below xs j=m:=by
  rcases Nat.lt_trichotomy (SetTable.below xs j) m with q|q|q
  ·have AZ:SetTable.below xs j<xs.toList.length:=yb q (wv.mp hm).1;have a:=h3 _ _ (wu _) (x7 AZ);have b:=Kw hr q (x7 AZ) hm
   lia
  ·exact q
  ·have:=h2 _ _ q hm
   lia
 rw[this,← xy];exact hm
theorem Sv {α:Type}(xs:Array α){p:Nat}(hp:p≤xs.size)(x:α):(SetTable.insertAt xs p x).toList=xs.toList.take p++x::xs.toList.drop p:=by
 unfold SetTable.insertAt;simp[Array.toList_extract];exact List.take_of_length_le (by simp)
theorem Xg {xs:Array Nat}(hr:Du xs){j:Nat}(hn:j∉xs.toList):Du (SetTable.insertAt xs (SetTable.below xs j) j):=by
 obtain ⟨h1,h2,h3⟩:=Pz hr j;unfold Du;rw[Sv xs h1];have hl:∀a∈xs.toList.take (SetTable.below xs j),a<j:=fun a m=>by
  obtain ⟨i,hi⟩:=yj m;have AZ:=(wv.mp hi).1;rw[yo] at AZ;rw[zl (xd AZ (yz ..))] at hi;exact h2 i a (xd AZ (yz ..)) hi
 have hg:∀a∈xs.toList.drop (SetTable.below xs j),j<a:=fun a m=>by
  obtain ⟨i,hi⟩:=yj m;have hi:=List.getElem?_drop ▸ hi;have:=h3 _ a (y9 _ _) hi;have:a≠j:=fun q=>hn (by rw[← q];exact xt hi)
  lia
 refine List.pairwise_append.mpr ⟨hr.sublist (List.take_sublist ..),yf.mpr ⟨hg,hr.sublist (List.drop_sublist ..)⟩,fun a ma b mb=>?_⟩;rcases wk.mp mb with q|q
 ·rw[q];exact hl a ma
 ·exact yb (hl a ma) (hg b q)
theorem Xv {t:SetTable}(hr:Du t.place){j:Nat}(h:∀i,t.slot j≠.live i):j∉t.place.toList:=fun m=>by
 have:=pL hr m;refine h (SetTable.below t.place j) ?_;unfold SetTable.slot;simp[this]
theorem jB {t:SetTable}{f:Nat->Int}{h:Int}:∀(BR:Nat)(p:SetTable.Probe)(j:Nat)(d:Option Nat),(∀x,p.dummy=some x->∀i,t.slot x≠.live i)->SetTable.probe.go t f h BR p=some (.empty j d) ->
 (∀i,t.slot j≠.live i)∧∀x,d=some x->∀i,t.slot x≠.live i:=by
 intro X
 induction X with
 |zero=>
  intro p j d hp e;unfold SetTable.probe.go at e;cases e
 |succ BR ih=>
  intro p j d hp e;unfold SetTable.probe.go at e;have OA:∀p:SetTable.Probe,(t.advance p).dummy=p.dummy:=fun p=>by
   unfold SetTable.advance;split<;>rfl
  split at e
  ·rename_i hs;cases e;exact ⟨fun i q=>(by rw[hs] at q;cases q),hp⟩
  ·rename_i hs;refine ih _ j d (fun x hx i q=>?_) e;rw[OA] at hx;cases hx;rw[hs] at q;cases q
  ·split at e
   ·cases e
   ·exact ih _ j d (fun x hx=>hp x (by rw[OA] at hx;exact hx)) e
set_option tactic.hygienic true in
theorem Xn {t:SetTable}(hr:Du t.place){h:Int}{slot:Nat}{b:Bool}(e:t.freeSlot h=some (slot,b)):slot∉t.place.toList:=by
 unfold SetTable.freeSlot at e;split at e
 ·rename_i j dummy hp;cases e;obtain ⟨h1,h2⟩:=jB _ _ _ _ (fun x hx=>by unfold SetTable.probeStart at hx;cases hx) hp;cases dummy with
  |none=>exact Xv hr h1
  |some d=>exact Xv hr (h2 d rfl)
 ·cases e
theorem Id (n:Nat):Du (Array.range n):=by
 unfold Du;rw[Array.toList_range];exact List.pairwise_lt_range
theorem Ro {t:SetTable}(hr:Du t.place)(n:Nat):Du (t.orStandIn n).place∧(t.orStandIn n).led=t.led:=by
 unfold SetTable.orStandIn;split
 ·exact ⟨hr,rfl⟩
 ·exact ⟨Id _,rfl⟩
set_option tactic.hygienic true in
theorem Xl {t:SetTable}(hr:Du t.place)(es:Array (Int×OY))(h:Int)(x:OY):Du (layNew t es h x).2.1.place∧(layNew t es h x).2.1.led=t.led:=by
 unfold layNew;split
 ·rename_i slot b e;have:=Xg hr (Xn hr e);exact Ro (t:=(t.put slot).1) this _
 ·exact ⟨Id _,rfl⟩
theorem cS {HP GE HX:Nat}{led plain:Bool}{hs:Array Int}{t:SetTable}{o:Array Nat}(e:SetTable.laid HP GE HX led plain hs=some (t,o)):Du t.place∧t.led=led:=by
 unfold SetTable.laid at e;simp only[Option.bind_eq_bind,Option.bind_eq_some_iff] at e;obtain ⟨owner,_,e⟩:=e;cases e;refine ⟨?_,rfl⟩;unfold Du;simp only[List.pairwise_map];refine List.Pairwise.filterMap _ (fun a a' AZ b hb b' CJ=>?_) (List.pairwise_lt_range (n:=HP+1));obtain ⟨k,_,rfl⟩:=Option.map_eq_some_iff.mp hb;obtain ⟨k',_,rfl⟩:=Option.map_eq_some_iff.mp CJ;exact AZ
set_option tactic.hygienic true in
theorem Sy {t:SetTable}(es:Array (Int×OY))(DV:Nat):Du (relayAll t es DV).2.1.place∧(relayAll t es DV).2.1.led=t.led:=by
 unfold relayAll;split
 ·rename_i t' NW e;unfold SetTable.relaid at e;have:=cS e;dsimp only;split
  ·exact this
  ·exact ⟨Id _,rfl⟩
 ·exact ⟨Id _,rfl⟩
structure As where
 scope:Scope
 f:Nat
 cells:List (O7×Nat)
 tab:Option (Nat×O7):=none
 muts:List O7:=[]
inductive Fl where
 |next|brk|cont
 |ret (v:V)
 deriving Inhabited
theorem sl {v:V}:Fl.ret v≠.next:=fun h=>by cases h
theorem sm:Fl.brk≠.next:=fun h=>by cases h
structure Ek where
 args:Arguments
 body:List PC
 scope:Scope
 opt:Bool
 tab:Option (Nat×O7)
 muts:List O7
structure Gl where
 G:O7->Option V
 cmp:O5
 cls:O5
 D:O5->Option Ek
 nt:Nat
mutual
noncomputable def Ar (lo:Nat):V->Bool
 |.ref i=>Nat.blt i lo
 |.tup l|.lst l=>Di lo l
 |.dct l=>Fe lo l
 |.dcs l=>Bg lo l
 |.clo _ _ _ cells=>cells.all fun c=>Nat.blt c.2 lo
 |.inst x=>Ar lo x
 |_=>true
noncomputable def Di (lo:Nat):List V->Bool
 |[]=>true
 |x::r=>Ar lo x&&Di lo r
noncomputable def Fe (lo:Nat):List (Int×V)->Bool
 |[]=>true
 |(_,x)::r=>Ar lo x&&Fe lo r
noncomputable def Bg (lo:Nat):List (O7×V)->Bool
 |[]=>true
 |(_,x)::r=>Ar lo x&&Bg lo r
end
def Ep (i:Int):Bool:=Nat.blt i.natAbs (2 ^ 63)
def Bi (i:Int):V:=.int i (Ep i)
def Cg (lo:Nat):Cv->Bool
 |.fr m=>Bg lo m
 |.cell (some v)=>Ar lo v
 |.cell none=>true
 |.lst l=>Di lo l
 |.dct l=>Fe lo l
 |.tab _=>true
def Ci (lo:Nat):Aj->Bool
 |[]=>true
 |o::r=>Cg lo o&&Ci lo r
def cut (J:Aj) (n:Nat):Option Aj:=if Ci n (J.take n) then some (J.take n) else none
def put {α:Type} (m:List (O7×α)) (x:O7) (v:α):List (O7×α):=match m with
 |[]=>[(x,v)]
 |(y,u)::r=>if x==y then (y,v)::r else (y,u)::put r x v
def As.kind (e:As) (x:O7):Option PB:=e.scope.names.lookup x
def obFr:Cv->Option (List (O7×V))
 |.fr m=>some m
 |_=>none
def uk:Cv->Option (Option V)
 |.cell c=>some c
 |_=>none
def obLs:Cv->Option (List V)
 |.lst l=>some l
 |_=>none
def vd:Cv->Option O7
 |.tab q=>some q
 |_=>none
def u7:Cv->Option (List (Int×V))
 |.dct l=>some l
 |_=>none
def qM (J:Aj) (i:Nat):Option (List (O7×V)):=oe1 J[i]? none obFr
def Ux (J:Aj) (i:Nat):Option (Option V):=oe1 J[i]? none uk
def wU (J:Aj) (i:Nat):Option (List V):=oe1 J[i]? none obLs
def ql (J:Aj) (i:Nat):Option (List (Int×V)):=oe1 J[i]? none u7
theorem Zm {J:Aj}{i:Nat}{m:List (O7×V)}(h:qM J i=some m):J[i]?=some (.fr m):=oC1 h fun o ho h=>by
 induction o using Cv.casesOn with
 |fr=>exact ho.trans (congrArg (fun m=>some (Cv.fr m)) (wx h))
 |_=>exact nn h
theorem tU {J:Aj}{i:Nat}{m:Option V}(h:Ux J i=some m):J[i]?=some (.cell m):=oC1 h fun o ho h=>by
 induction o using Cv.casesOn with
 |cell=>exact ho.trans (congrArg (fun m=>some (Cv.cell m)) (wx h))
 |_=>exact nn h
theorem Qv {J:Aj}{i:Nat}{m:List V}(h:wU J i=some m):J[i]?=some (.lst m):=oC1 h fun o ho h=>by
 induction o using Cv.casesOn with
 |lst=>exact ho.trans (congrArg (fun m=>some (Cv.lst m)) (wx h))
 |_=>exact nn h
theorem dz {J:Aj}{i:Nat}{m:List (Int×V)}(h:ql J i=some m):J[i]?=some (.dct m):=oC1 h fun o ho h=>by
 induction o using Cv.casesOn with
 |dct=>exact ho.trans (congrArg (fun m=>some (Cv.dct m)) (wx h))
 |_=>exact nn h
def tabAt (J:Aj) (i:Nat):Option O7:=oe1 J[i]? none vd
theorem zA {J:Aj}{i:Nat}{m:O7}(h:tabAt J i=some m):J[i]?=some (.tab m):=oC1 h fun o ho h=>by
 induction o using Cv.casesOn with
 |tab=>exact ho.trans (congrArg (fun m=>some (Cv.tab m)) (wx h))
 |_=>exact nn h
theorem Zv {J:Aj}{i:Nat}{m:List (O7×V)}(h:J[i]?=some (.fr m)):qM J i=some m:=by unfold qM;rw[h];rfl
theorem Vb {J:Aj}{i:Nat}{m:Option V}(h:J[i]?=some (.cell m)):Ux J i=some m:=by unfold Ux;rw[h];rfl
theorem Lp {J:Aj}{i:Nat}{m:List V}(h:J[i]?=some (.lst m)):wU J i=some m:=by unfold wU;rw[h];rfl
def Pt {β:Type} (v:V) (n:β) (f:Int->Bool->β):β:=match v with
 |.int i p=>f i p
 |_=>n
theorem Ps {β:Type}{v:V}{f:Int->Bool->Option β}{c:β}{G:Prop}(h:Pt v none f=some c)(k:∀i p,v = .int i p->f i p=some c->G):G:=by
 induction v using V.casesOn with
 |int i p=>exact k i p rfl h
 |_=>exact nn h
def Ec {α β:Type} (f:α->Option β):List α->Option (List β)
 |[]=>some []
 |x::r=>oe1 (f x) none fun y=>oe1 (Ec f r) none fun ys=>some (y::ys)
theorem jX {α β:Type}{f:α->Option β}{x:α}{r:List α}:Ec f (x::r)=oe1 (f x) none fun y=>oe1 (Ec f r) none fun ys=>some (y::ys):=rfl
theorem Ei {α β:Type}{f:α->Option β}{x:α}{l:List α}{r:List β}{G:Prop}(h:Ec f (x::l)=some r)(k:∀y ys,f x=some y->Ec f l=some ys->r=y::ys->G):G:=
 oC1 (jX.symm.trans h) fun y h1 h=>oC1 h fun ys h2 h=>k y ys h1 h2 (wx h).symm
theorem Fa {α β:Type}{f:α->Option β}{x:α}{l:List α}{y:β}{ys:List β}(h1:f x=some y)(h2:Ec f l=some ys):Ec f (x::l)=some (y::ys):=jX.trans ((oE1 h1).trans (oE1 h2))
def p0 (v:V):Option Int:=Pt v none fun i Z=>some i
def ow (v:V):Option O7:=match v with
 |.str s=>some s
 |_=>none
def iO (v:V):Option (List V):=match v with
 |.tup l=>some l
 |_=>none
def lj (v:V):Option (List (O7×V)):=match v with
 |.dcs l=>some l
 |_=>none
def rY (v:V):Option Bool:=match v with
 |.bool b=>some b
 |_=>none
def Sp (v:V):Option Unit:=match v with
 |.none=>some ()
 |_=>none
theorem Uz {v:V}{b:Bool}(h:rY v=some b):v = .bool b:=by
 induction v using V.casesOn with
 |bool x=>exact congrArg V.bool (wx h)
 |_=>exact nn h
theorem Wv {v:V}{u:Unit}(h:Sp v=some u):v = .none:=by
 induction v using V.casesOn with
 |none=>rfl
 |_=>exact nn h
theorem lV {v:V}{i:Int}{G:Prop}(h:p0 v=some i)(k:∀p,v = .int i p->G):G:=Ps h fun i' p hv h=>k p (hv.trans (congrArg (fun x=>V.int x p) (wx h)))
theorem aO {v:V}{l:O7}(h:ow v=some l):v = .str l:=by
 induction v using V.casesOn with
 |str s=>exact congrArg V.str (wx h)
 |_=>exact nn h
theorem Qi {v:V}{l:List V}(h:iO v=some l):v = .tup l:=by
 induction v using V.casesOn with
 |tup s=>exact congrArg V.tup (wx h)
 |_=>exact nn h
theorem lT {v:V}{l:List (O7×V)}(h:lj v=some l):v = .dcs l:=by
 induction v using V.casesOn with
 |dcs s=>exact congrArg V.dcs (wx h)
 |_=>exact nn h
abbrev Fk (l:List V):Option (List Int):=Ec p0 l
abbrev nB (l:List V):Option (List O7):=Ec ow l
def Ss (g:Gl) (e:As) (x:O7) (J:Aj) (k:Option PB):Option V:=match k with
 |some k=>match k with
  |.local=>oe1 (qM J e.f) none fun m=>m.lookup x
  |.cell|.free=>oe1 (e.cells.lookup x) none fun i=>oe1 (Ux J i) none fun c=>c
  |.globalImplicit=>g.G x
  |.globalExplicit=>none
 |none=>none
def Dc (g:Gl) (e:As) (x:O7) (J:Aj):Option V:=Ss g e x J (e.kind x)
def Zp (e:As) (x:O7) (v:V) (J:Aj) (k:Option PB):Option Aj:=match k with
 |some k=>match k with
  |.local=>oe1 (qM J e.f) none fun m=>some (J.set e.f (.fr (put m x v)))
  |.cell=>oe1 (e.cells.lookup x) none fun i=>oe1 (Ux J i) none fun Z=>some (J.set i (.cell (some v)))
  |_=>none
 |none=>none
def Dj (e:As) (x:O7) (v:V) (J:Aj):Option Aj:=Zp e x v J (e.kind x)
def Bu (J:Aj):V->Option (List V)
 |.lst l=>some l
 |.ref i=>wU J i
 |_=>none
def Kt (J:Aj):V->Option (List (Int×V))
 |.dct l=>some l
 |.ref i=>ql J i
 |_=>none
def Ff (f:V->V->Option Bool):List V->List V->Option Bool
 |[],[]=>some true
 |x::r,y::q=>oe1 (f x y) none fun a=>
   oe1 (Ff f r q) none fun b=>
    some (a&&b)
 |_,_=>some false
def Eu {κ:Type} [DecidableEq κ] (k:κ):List (κ×V)->Option V
 |[]=>none
 |(k',x)::r=>if k'=k then some x else Eu k r
def Ml (f:V->V->Option Bool) (l:List (Int×V)):List (Int×V)->Option Bool
 |[]=>some true
 |(k,x)::r=>oe1 (Eu k l) (some false) fun y=>
    oe1 (f x y) none fun a=>
     oe1 (Ml f l r) none fun b=>
      some (a&&b)
def eqR (f:V->V->Option Bool) (J:Aj) (a b:V):Option Bool:=oe1 (Bu J a) (oe1 (Kt J a) none fun x=>oe1 (Kt J b) none fun y=>if x.length==y.length then Ml f y x else some false)
 fun x=>oe1 (Bu J b) none fun y=>if x.length==y.length then Ff f x y else some false
def eq1 (f:V->V->Option Bool) (J:Aj) (a b:V):Option Bool:=match a with
 |.none=>oe1 (Sp b) none fun Z=>some true
 |.bool x=>oe1 (rY b) none fun y=>some (x==y)
 |.int x _=>Pt b none fun y Z=>some (x==y)
 |.str x=>oe1 (ow b) none fun y=>some (x==y)
 |.tup x=>oe1 (iO b) none (Ff f x)
 |a=>eqR f J a b
def Rc (J:Aj):Nat->V->V->Option Bool
 |0,_,_=>none
 |n+1,a,b=>eq1 (Rc J n) J a b
def wj:List V->List V->Option Bool
 |_,[]=>some false
 |[],_::_=>some true
 |x::r,y::q=>Pt x none fun a Z=>Pt y none fun b Z=>if a==b then wj r q else some (decide (a<b))
def Mf (a b:V):Option Bool:=match a with
 |.int x _=>Pt b none fun y Z=>some (decide (x<y))
 |.tup x=>oe1 (iO b) none (wj x)
 |_=>none
def u4 (k:Int) (l:List V):Option Bool:=oe1 (Fk l) none fun q=>some (q.any (· == k))
def wE (a b:V):Option Bool:=match a with
 |.bool a=>oe1 (rY b) none fun b=>some (a==b)
 |.none=>oe1 (Sp b) none fun Z=>some true
 |.int ..=>oe1 (Sp b) none fun Z=>some false
 |.clo ..=>oe1 (Sp b) none fun Z=>some false
 |.fn _=>oe1 (Sp b) none fun Z=>some false
 |_=>none
def inI (J:Aj) (k:Int) (c:V):Option Bool:=oe1 (Kt J c) (oe1 (Bu J c) (oe1 (iO c) none (u4 k)) (u4 k)) fun l=>some (Eu k l).isSome
def inV (J:Aj) (x c:V):Option Bool:=match x with
 |.str k=>oe1 (lj c) none fun l=>some (Eu k l).isSome
 |.int k _=>inI J k c
 |_=>none
def Dx (J:Aj) (op:CmpOp) (a b:V):Option Bool:=match op with
 |.Eq=>Rc J 8 a b
 |.NotEq=>(Rc J 8 a b).map (!·)
 |.Lt=>Mf a b
 |.Gt=>Pt a none fun x Z=>Pt b none fun y Z=>some (decide (x>y))
 |.GtE=>Pt a none fun x Z=>Pt b none fun y Z=>some (decide (x≥y))
 |.Is=>wE a b
 |.IsNot=>(wE a b).map (!·)
 |.In=>inV J a b
 |.NotIn=>(inV J a b).map (!·)
 |.LtE=>none
def tG (J:Aj) (v:V):Option Bool:=oe1 (Bu J v) none fun l=>if Nat.ble l.length 1000000 then some (!l.isEmpty) else none
def On (J:Aj) (v:V):Option Bool:=match v with
 |.none=>some false
 |.bool b=>some b
 |.int i _=>some (i != 0)
 |v=>tG J v
def v3 (op:Operator) (a:Int) (p:Bool) (b:Int) (q:Bool):Option V:=match op with
 |.Add=>some (.int (a+b) false)
 |.Sub=>some (.int (a-b) false)
 |.Mult=>if q||p||Ep b||Ep a then some (.int (a*b) false) else none
 |.FloorDiv=>if b==0 then none else if q||Ep b then some (.int (a.fdiv b) (p&&decide (0≤b))) else none
 |.Mod=>if b==0 then none else some (.int (a.fmod b) q)
 |.Pow=>if p&&decide (0≤b)&&decide (b≤1000) then some (.int (a ^ b.toNat) false) else none
 |.RShift=>if decide (0≤b)&&decide (b≤1000) then some (.int (a.fdiv (2 ^ b.toNat)) p) else none
 |.BitAnd=>some (.int (Builtin.bitAnd a b) false)
 |_=>none
def q9 (J:Aj) (op:Operator) (a b:V):Option (V×Aj):=match op with
 |.Add=>oe1 (Bu J a) none fun x=>oe1 (Bu J b) none fun y=>if Nat.ble (x.length+y.length) 1000000 then some (.lst (x++y),J) else none
 |_=>none
def Nz (J:Aj) (op:Operator) (a b:V):Option (V×Aj):=match a with
 |.int i p=>match b with
  |.int j q=>oe1 (v3 op i p j q) none fun v=>some (v,J)
  |_=>none
 |a=>q9 J op a b
def wi:UnaryOp->V->Option V
 |.USub,.int a p=>some (.int (-a) p)
 |_,_=>none
def fy (n:Nat) (i:Int):Option Nat:=if Ep i then seqIndex? i n else none
def Pi {α:Type} (l:List α) (lo hi:Option Int):List α:=(l.drop (lo.elim 0 (clipAt l.length))).take (hi.elim l.length (clipAt l.length)-lo.elim 0 (clipAt l.length))
def uO (v:V):Option (Option Int):=match v with
 |.none=>some none
 |.int i _=>some (some i)
 |_=>none
def oH (l:List V) (k:Int):Option V:=oe1 (fy l.length k) none fun j=>l[j]?
def yA (J:Aj) (o:V) (k:Int):Option V:=oe1 (Kt J o) (oe1 (Bu J o) none fun l=>oH l k) (Eu k)
def uf (J:Aj) (o:V) (k:Int):Option V:=match o with
 |.tup l=>oH l k
 |.str s=>oe1 (fy s.length k) none fun j=>oe1 (s.cps[j]?) none fun c=>some (.str ⟨#[c]⟩)
 |o=>yA J o k
def Eb (J:Aj) (o i:V):Option V:=match i with
 |.str k=>oe1 (lj o) none (Eu k)
 |.int k _=>uf J o k
 |_=>none
def Ur (J:Aj) (o a b:V):Option V:=oe1 (uO a) none fun x=>
 oe1 (uO b) none fun y=>
  oe1 (Bu J o) none fun l=>
   if Nat.ble l.length 1000000 then some (.lst (Pi l x y)) else none
def Js {κ:Type} [DecidableEq κ] (k:κ) (v:V):List (κ×V)->List (κ×V)
 |[]=>[(k,v)]
 |(k',x)::r=>if k'=k then (k',v)::r else (k',x)::Js k v r
def Ga (o i v:V) (J:Aj):Option Aj:=match o with
 |.ref j=>oe1 J[j]? none fun ob=>match ob with
  |.lst l=>Pt i none fun k Z=>if decide (0≤k)&&Ep k&&Nat.blt k.toNat l.length then some (J.set j (.lst (l.set k.toNat v))) else none
  |.dct l=>Pt i none fun k Z=>if Nat.ble l.length 1000000 then some (J.set j (.dct (Js k v l))) else none
  |_=>none
 |_=>none
inductive Gh where
 |seq (v:V)
 |rng (lo:Int) (n:Nat)
 |enum (v:V)
 |zip (a b:V)
 |items (l:List (Int×V))
 |vals (l:List (Int×V))
 deriving Inhabited
def Da (J:Aj):Gh->Nat->Option (Option V)
 |.seq v,k=>match v with
  |.tup l=>some l[k]?
  |.str s=>some (s.cps[k]?.map fun c=>.str ⟨#[c]⟩)
  |.dct l=>some (l[k]?.map fun p=>.int p.1 false)
  |v=>oe1 (Bu J v) none fun l=>
    some l[k]?
 |.rng lo n,k=>some (if Nat.blt k n then some (Bi (lo+k)) else none)
 |.enum v,k=>oe1 (Bu J v) none fun l=>
  some (l[k]?.map fun x=>.tup [Bi k,x])
 |.zip a b,k=>oe1 (Bu J a) none fun l=>
  oe1 (Bu J b) none fun q=>
   some (oe1 (l[k]?) none fun x=>oe1 (q[k]?) none fun y=>some (.tup [x,y]))
 |.items l,k=>some (l[k]?.map fun p=>.tup [.int p.1 false,p.2])
 |.vals l,k=>some (l[k]?.map (·.2))
def dy (J:Aj) (v:V):Nat:=match Bu J v with
 |some l=>l.length
 |none=>0
def Me (J:Aj):Gh->Nat
 |.seq v=>match v with
  |.tup l=>l.length
  |.str s=>s.length
  |.dct l=>l.length
  |v=>dy J v
 |.rng _ n=>n
 |.enum v=>dy J v
 |.zip a _=>dy J a
 |.items l|.vals l=>l.length
def Vd:O6->Bool
 |.Tuple ..=>true
 |_=>false
def Fg:Gh->Bool
 |.items _=>false
 |_=>true
def okTgt:Gh->O6->Bool
 |.enum _,t|.zip ..,t|.items _,t=>Vd t
 |_,_=>true
def Ju:Int->List Int->Int
 |a,[]=>a
 |a,x::r=>Ju (a+x) r
def Kx:Int->List Int->Int
 |a,[]=>a
 |a,x::r=>Kx (if x>a then x else a) r
def Se:Int->List Int->Int
 |a,[]=>a
 |a,x::r=>Se (if x<a then x else a) r
def eN:V->List V->Option V
 |b,[]=>some b
 |b,x::r=>oe1 (Mf x b) none fun c=>
  eN (if c then x else b) r
def Ch (i:Int):List Int->List Int
 |[]=>[i]
 |j::r=>if j<i then j::Ch i r else if i<j then i::j::r else j::r
def g7 (J:Aj) (v:V):Option Nat:=oe1 (Kt J v) (oe1 (Bu J v) none fun l=>some l.length) fun l=>some l.length
def jd (J:Aj) (v:V):Option Nat:=match v with
 |.tup l=>some l.length
 |.str s=>some s.length
 |v=>g7 J v
def ss (J:Aj) (v:V):Option V:=oe1 (jd J v) none fun k=>if Nat.ble k 1000000 then some (.int k true) else none
def uy (J:Aj) (v:V):Option V:=oe1 (Bu J v) none fun l=>oe1 (Fk l) none fun q=>some (.int (Ju 0 q) false)
def tm (J:Aj) (v:V):Option V:=oe1 (Bu J v) none fun l=>oe1 (Fk l) none fun q=>match q with
 |x::r=>some (.int (Kx x r) false)
 |[]=>none
def q7 (J:Aj) (v:V):Option V:=oe1 (Bu J v) none fun l=>match l with
 |x::r=>oe1 (Fk (x::r)) (eN x r) fun q=>match q with
  |y::t=>some (.int (Se y t) false)
  |[]=>none
 |[]=>none
def uw (v:V):Option V:=match v with
 |.str s=>match s.cps.toList with
  |c::r=>match r with
   |[]=>some (.int (Int.ofNat c) false)
   |_::_=>none
  |[]=>none
 |_=>none
def ia (a b:V):Option V:=Pt a none fun x Z=>Pt b none fun y Z=>some (.int (if y<x then y else x) false)
def iy (a:V):Option V:=match a with
 |.tup _=>some (.bool true)
 |.int ..=>some (.bool false)
 |_=>none
def ja (a b:V):Option V:=match b with
 |.ty n=>if n=="tuple" then iy a else none
 |_=>none
def rF (J:Aj) (id:String) (v:V):Option V:=
 if id=="len" then ss J v else if id=="sum" then uy J v else if id=="max" then tm J v else if id=="min" then q7 J v else if id=="ord" then uw v else none
def jw (id:String) (a b:V):Option V:=if id=="min" then ia a b else if id=="isinstance" then ja a b else none
def uD (J:Aj) (id:String) (args:List V):Option V:=match args with
 |[v]=>rF J id v
 |[a,b]=>jw id a b
 |_=>none
def wa (n:String) (v:V) (J:Aj):Option (V×Aj):=
 if n=="int" then match v with
  |.bool b=>some (.int (if b then 1 else 0) true,J)
  |_=>none
 else if n=="tuple" then oe1 (Bu J v) none fun l=>
  if Nat.ble l.length 1000000 then some (.tup l,J) else none
 else if n=="list" then oe1 (Bu J v) none fun l=>
  if Nat.ble l.length 1000000 then some (.ref J.length,J++[.lst l]) else none
 else if n=="set" then oe1 (Bu J v) none fun l=>
  if Nat.ble l.length 1000 then oe1 (Fk l) none fun q=>
   some (.set (q.foldl (fun s i=>Ch i s) []),J)
  else none
 else none
def cX {α β:Type} (l:List α) (f:α->Option β):Option β:=match l with
 |x::r=>match r with
  |[]=>f x
  |_::_=>none
 |[]=>none
theorem Nk {α β:Type}{l:List α}{f:α->Option β}{c:β}{G:Prop}(h:cX l f=some c)(k:∀x,l=[x]->f x=some c->G):G:=by
 cases l with
 |nil=>exact nn h
 |cons x r=>cases r with
  |nil=>exact k x rfl h
  |cons=>exact nn h
def tyV (n:String) (args:List V) (J:Aj):Option (V×Aj):=cX args fun v=>wa n v J
def Hu (n:Nat) (x:Int):Nat:=if x<0 then (x+n).toNat else min x.toNat n
def wL (n:O7):Option String:=if n==("insert":O7) then some "list.insert" else if n==("pop":O7) then some "list.pop" else if n==("index":O7) then some "list.index" else none
def je (J:Aj) (o:V) (n:O7):Option String:=oe1 (Bu J o) (oe1 (Kt J o) none fun Z=>if n==("get":O7) then some "dict.get" else none) fun Z=>wL n
def Uc (J:Aj) (o:V) (n:O7):Option String:=match o with
 |.str _=>if n==("join":O7) then some "str.join" else none
 |o=>je J o n
def Va (J:Aj):V->Option (Nat×List V)
 |.ref j=>oe1 (wU J j) none fun l=>if Nat.ble l.length 1000000 then some (j,l) else none
 |_=>none
def vm (J:Aj) (o a:V):Option (V×Aj):=oe2 (Va J o) none fun j l=>Pt a none fun i Z=>oe1 (fy l.length i) none fun p=>oe1 l[p]? none fun v=>some (v,J.set j (.lst (l.eraseIdx p)))
def sU (J:Aj) (o a:V):Option (V×Aj):=oe1 (Bu J o) none fun l=>Pt a none fun k Z=>oe1 (Fk l) none fun q=>oe1 (q.findIdx? (· == k)) none fun j=>if Nat.ble q.length 1000000 then some (.int j true,J) else none
def i7 (J:Aj) (o a:V):Option (V×Aj):=match o with
 |.str s=>oe1 (Bu J a) none fun l=>oe1 (nB l) none fun q=>if JoinOk s q then some (.str (Txt.join s q),J) else none
 |_=>none
def oG (J:Aj) (o a b:V):Option (V×Aj):=oe2 (Va J o) none fun j l=>Pt a none fun i Z=>if Ep i then some (.none,J.set j (.lst (l.take (Hu l.length i)++b::l.drop (Hu l.length i)))) else none
def rm (J:Aj) (o a b:V):Option (V×Aj):=oe1 (Kt J o) none fun l=>Pt a none fun k Z=>some ((Eu k l).getD b,J)
def gm (J:Aj) (id:String) (o a:V):Option (V×Aj):=if id=="list.pop" then vm J o a else if id=="list.index" then sU J o a else if id=="str.join" then i7 J o a else none
def uv (J:Aj) (id:String) (o a b:V):Option (V×Aj):=if id=="list.insert" then oG J o a b else if id=="dict.get" then rm J o a b else none
def jg (id:String) (args:List V) (J:Aj):Option (V×Aj):=match args with
 |[o,a]=>gm J id o a
 |[o,a,b]=>uv J id o a b
 |_=>none
theorem wf {α β:Type}{x:Option α}{f:α->β}{c:β}{G:Prop}(h:x.map f=some c)(k:∀a,x=some a->c=f a->G):G:=by
 cases x with
 |none=>exact nn h
 |some a=>exact k a rfl (wx h).symm
def fzP (f:V->Option V) (p:Int×V):Option (Int×V):=oe1 (f p.2) none fun b=>some (p.1,b)
def fzO (f:V->Option V) (o:Cv):Option V:=match o with
 |.lst l=>(Ec f l).map .lst
 |.dct l=>(Ec (fzP f) l).map .dct
 |_=>none
def fzR (f:V->Option V) (J:Aj) (n0 i:Nat):Option V:=if Nat.blt i n0 then some (.ref i) else oe1 J[i]? none (fzO f)
def fzC (n0:Nat) (v:V):Option V:=if Ar n0 v then some v else none
def By (J:Aj) (n0:Nat):Nat->V->Option V
 |0,_=>none
 |k+1,v=>match v with
  |.ref i=>fzR (By J n0 k) J n0 i
  |.tup l=>(Ec (By J n0 k) l).map .tup
  |.lst l=>(Ec (By J n0 k) l).map .lst
  |v=>fzC n0 v
structure Lv where
 ev:As->O6->Aj->Option (V×Aj)
 ts:As->O6->Aj->Option (Bool×Aj)
 ex:As->PC->Aj->Option (Fl×Aj)
 call:V->List V->List (O7×V)->Aj->Option (V×Aj)
def Fq {κ:Type} [DecidableEq κ]:List (κ×V)->List (κ×V)->List (κ×V)
 |AD,[]=>AD
 |AD,(k,v)::r=>Fq (Js k v AD) r
def kvI (p:V×V):Option (Int×V):=Pt p.1 none fun k Z=>some (k,p.2)
abbrev Us (l:List (V×V)):Option (List (Int×V)):=Ec kvI l
def yM (x:V):Option (Int×V):=match x with
 |.tup l=>match l with
  |a::r=>match r with
   |b::q=>match q with
    |[]=>Pt a none fun k Z=>some (k,b)
    |_::_=>none
   |[]=>none
  |[]=>none
 |_=>none
def Oh:List V->Option (List (Int×V))
 |[]=>some []
 |x::r=>oe2 (yM x) none fun k v=>oe1 (Oh r) none fun l=>some ((k,v)::l)
def noStar:O6->Bool
 |.Starred ..=>false
 |_=>true
def noSet:O6->Bool
 |.Set ..=>false
 |_=>true
def byTruth:O6->Bool
 |.Name ..|.Call ..|.Subscript ..|.BinOp ..|.Attribute ..|.ListComp ..=>true
 |_=>false
def noSuper:O6->Bool
 |.Call (.Name ..) [] [] _=>false
 |_=>true
def aE:V->Bool
 |.lst _|.tup _|.ref _=>true
 |_=>false
def Gb:O6->Bool
 |.Slice ..=>true
 |_=>false
def Dz:O6->Bool
 |.ListComp ..|.SetComp ..|.DictComp ..=>true
 |_=>false
section
variable (g:Gl) (L:Lv)
def rg (e:As) (k:O6) (f:List O6->Aj->Option (List (V×V)×Aj)) (vs:List O6) (J:Aj):Option (List (V×V)×Aj):=match vs with
 |v::vs=>oe2 (L.ev e k J) none fun a Ab=>oe2 (L.ev e v Ab) none fun b Ai=>oe2 (f vs Ai) none fun l Bk=>some ((a,b)::l,Bk)
 |[]=>none
def nJ (e:As):List (Option O6)->List O6->Aj->Option (List (V×V)×Aj)
 |[],vs,J=>match vs with
  |[]=>some ([],J)
  |_::_=>none
 |k::ks,vs,J=>oe1 k none fun k=>rg L e k (nJ e ks) vs J
theorem jc {L:Lv}{e:As}{k:Option O6}{ks:List (Option O6)}{vs:List O6}{J:Aj}:nJ L e (k::ks) vs J=oe1 k none fun k=>rg L e k (nJ L e ks) vs J:=rfl
def Kb (e:As):List O6->Aj->Option (List V×Aj)
 |[],J=>some ([],J)
 |x::r,J=>if !noStar x then none else oe2 (L.ev e x J) none fun v Ab=>oe2 (Kb e r Ab) none fun vs Ai=>some (v::vs,Ai)
theorem nS {L:Lv}{e:As}{x:O6}{r:List O6}{J:Aj}:Kb L e (x::r) J=if !noStar x then none else oe2 (L.ev e x J) none fun v Ab=>oe2 (Kb L e r Ab) none fun vs Ai=>some (v::vs,Ai):=rfl
def dG (e:As):List Keyword->Aj->Option (List (O7×V)×Aj)
 |[],J=>some ([],J)
 |k::r,J=>oe1 k.arg none fun n=>oe2 (L.ev e k.value J) none fun v Ab=>oe2 (dG e r Ab) none fun vs Ai=>some ((n,v)::vs,Ai)
theorem vQ {L:Lv}{e:As}{k:Keyword}{r:List Keyword}{J:Aj}:dG L e (k::r) J=oe1 k.arg none fun n=>oe2 (L.ev e k.value J) none fun v Ab=>oe2 (dG L e r Ab) none fun vs Ai=>some ((n,v)::vs,Ai):=rfl
def u8 (k:Aj->Option (Fl×Aj)) (f:Fl) (J:Aj):Option (Fl×Aj):=match f with
 |.next=>k J
 |.cont=>some (.cont,J)
 |.brk=>some (.brk,J)
 |.ret v=>some (.ret v,J)
def Dm (e:As):List PC->Aj->Option (Fl×Aj)
 |[],J=>some (.next,J)
 |s::r,J=>oe2 (L.ex e s J) none (u8 (Dm e r))
theorem kG {L:Lv}{e:As}{s:PC}{r:List PC}{J:Aj}:Dm L e (s::r) J=oe2 (L.ex e s J) none (u8 (Dm L e r)):=rfl
def we {α:Type} (op:BoolOp) (b:Bool) (CF:α) (go:α):α:=match op with
 |.And=>match b with
  |true=>go
  |false=>CF
 |.Or=>match b with
  |true=>CF
  |false=>go
def rW (e:As) (op:BoolOp):List O6->Aj->Option (Bool×Aj)
 |[],J=>some (match op with|.And=>true|.Or=>false,J)
 |x::r,J=>oe2 (L.ts e x J) none fun b Ab=>we op b (some (b,Ab)) (rW e op r Ab)
theorem kY {L:Lv}{e:As}{op:BoolOp}{x:O6}{r:List O6}{J:Aj}:rW L e op (x::r) J=oe2 (L.ts e x J) none fun b Ab=>we op b (some (b,Ab)) (rW L e op r Ab):=rfl
def r9 (e:As) (op:BoolOp) (x:O6) (f:Aj->Option (V×Aj)) (r:List O6) (J:Aj):Option (V×Aj):=match r with
 |[]=>L.ev e x J
 |_::_=>oe2 (L.ev e x J) none fun v Ab=>oe1 (On Ab v) none fun b=>we op b (some (v,Ab)) (f Ab)
def fG (e:As) (op:BoolOp):List O6->Aj->Option (V×Aj)
 |[],_=>none
 |x::r,J=>r9 L e op x (fG e op r) r J
def ib (e:As):Option O6->Aj->Option (V×Aj)
 |none,J=>some (.none,J)
 |some x,J=>L.ev e x J
def tT (e:As) (t:O6) (v:V) (J:Aj):Option Aj:=match t with
 |.Name x _=>Dj e x v J
 |_=>none
def Jm (e:As):List O6->List V->Aj->Option Aj
 |[],l,J=>match l with
  |[]=>some J
  |_::_=>none
 |t::ts,l,J=>match l with
  |v::l=>oe1 (tT e t v J) none (Jm e ts l)
  |[]=>none
def Cy (e:As) (t:O6) (v:V) (J:Aj):Option Aj:=match t with
 |.Name x _=>Dj e x v J
 |.Tuple ts _ _=>match v with
  |.tup l=>if ts.length==l.length then Jm e ts l J else none
  |_=>none
 |_=>none
def i6 (sc:Scope):Env:={ scope:=sc,locals:=0,globals:=0,cells:=[] }
def u9 {α:Type}:Sem α->Option α
 |.pure x=>some x
 |_=>none
theorem da {α:Type}{m:Sem α}{x:α}(h:u9 m=some x):m = .pure x:=by
 induction m using Sem.casesOn with
 |pure=>exact congrArg Sem.pure (wx h)
 |_=>exact nn h
def Yj (e:As) (ts:List O6) (x:O6):Option (Option (List O7)):=u9 (swappedStores [.Tuple ts 0 default] x (i6 e.scope))
def Mq (e:As):List O7->List V->Aj->Option Aj
 |[],l,J=>match l with
  |[]=>some J
  |_::_=>none
 |x::xs,l,J=>match l with
  |v::l=>oe1 (Dj e x v J) none (Mq e xs l)
  |[]=>none
def Ln (i:Int):Bool:=Nat.blt i.natAbs (2 ^ 61)
def Ud (vs:List V):Option Gh:=match vs with
 |a::r=>Pt a none fun x Z=>match r with
  |b::r=>Pt b none fun y Z=>match r with
   |[]=>if Ln x&&Ln y then some (.rng x (y-x).toNat) else none
   |_::_=>none
  |[]=>if Ln x then some (.rng 0 x.toNat) else none
 |[]=>none
def sW (J:Aj) (vs:List V):Option Gh:=match vs with
 |v::r=>match r with
  |[]=>oe1 (Bu J v) none fun Z=>some (.enum v)
  |_::_=>none
 |[]=>none
def ie (J:Aj) (vs:List V):Option Gh:=match vs with
 |a::r=>match r with
  |b::r=>match r with
   |[]=>oe1 (Bu J a) none fun Z=>oe1 (Bu J b) none fun Z=>some (.zip a b)
   |_::_=>none
  |[]=>none
 |[]=>none
def xV (m:String) (J:Aj) (vs:List V):Option Gh:=if m=="range" then Ud vs else if m=="enumerate" then sW J vs else if m=="zip" then ie J vs else none
def Jk (v:V):Option String:=match v with
 |.ty m=>if m=="range"||m=="enumerate"||m=="zip" then some m else none
 |_=>none
def s9 (J:Aj) (v:V):Option Gh:=oe1 (Bu J v) none fun Z=>some (.seq v)
def Sf (J:Aj) (v:V):Option Gh:=match v with
 |.tup _|.str _|.dct _=>some (.seq v)
 |v=>s9 J v
def Wc (e:As) (x:O6) (J:Aj):Option (Gh×Aj):=oe2 (L.ev e x J) none fun v Ab=>oe1 (Sf Ab v) none fun s=>some (s,Ab)
def lU (e:As) (n:O7) (x:O6) (args:List O6) (J:Aj):Option (Gh×Aj):=oe1 (oe1 (Dc g e n J) none Jk) (Wc L e x J) fun m=>
 oe2 (Kb L e args J) none fun vs Ab=>oe1 (xV m Ab vs) none fun s=>some (s,Ab)
def t7 (v:V):Option (List (Int×V)):=match v with
 |.dct l=>some l
 |_=>none
def Za (e:As) (o:O6) (BD p:Pos) (args:List O6) (J:Aj):Option (List (Int×V)×Aj):=if !(BD.endLine==p.line&&noSuper o) then none else match args with
 |[]=>oe2 (L.ev e o J) none fun v Ab=>oe1 (t7 v) none fun l=>some (l,Ab)
 |_::_=>none
def Zw (e:As) (o:O6) (n:O7) (BD p:Pos) (args:List O6) (x:O6) (J:Aj):Option (Gh×Aj):=
 if n==("items":O7) then oe2 (Za L e o BD p args J) none fun l Ab=>some (.items l,Ab)
 else if n==("values":O7) then oe2 (Za L e o BD p args J) none fun l Ab=>some (.vals l,Ab) else Wc L e x J
def Hx (e:As) (x:O6) (J:Aj):Option (Gh×Aj):=match x with
 |.Set ..=>none
 |.Call f args AJ p=>match AJ with
  |[]=>match f with
   |.Name n _=>lU g L e n x args J
   |.Attribute o n BD=>Zw L e o n BD p args x J
   |_=>none
  |_::_=>Wc L e x J
 |x=>Wc L e x J
def kK (k:Aj->Option (Fl×Aj)) (f:Fl) (J:Aj):Option (Fl×Aj):=match f with
 |.next=>k J
 |.cont=>k J
 |.brk=>some (.next,J)
 |.ret v=>some (.ret v,J)
def Mt (body:V->Aj->Option (Fl×Aj)) (s:Gh):Nat->Nat->Aj->Option (Fl×Aj)
 |0,_,_=>none
 |c+1,k,J=>oe1 (Da J s k) none fun r=>oe1 r (some (.next,J)) fun v=>oe2 (body v J) none (kK (Mt body s c (k+1)))
theorem Wy {body:V->Aj->Option (Fl×Aj)}{s:Gh}{c k:Nat}{J:Aj}:Mt body s (c+1) k J=oe1 (Da J s k) none fun r=>oe1 r (some (.next,J)) fun v=>oe2 (body v J) none (kK (Mt body s c (k+1))):=rfl
def Lm (CC:Aj->Option (Bool×Aj)) (body:Aj->Option (Fl×Aj)):Nat->Aj->Option (Fl×Aj)
 |0,_=>none
 |c+1,J=>oe2 (CC J) none fun b Ab=>match b with
  |true=>oe2 (body Ab) none (kK (Lm CC body c))
  |false=>some (.next,Ab)
theorem Kq {CC:Aj->Option (Bool×Aj)}{body:Aj->Option (Fl×Aj)}{c:Nat}{J:Aj}:Lm CC body (c+1) J=oe2 (CC J) none fun b Ab=>match b with
 |true=>oe2 (body Ab) none (kK (Lm CC body c))
 |false=>some (.next,Ab):=rfl
def Jv (body:V->Aj->List V->Option (List V×Aj)) (s:Gh):Nat->Nat->Aj->List V->Option (List V×Aj)
 |0,_,_,_=>none
 |c+1,k,J,AD=>oe1 (Da J s k) none fun r=>oe1 r (some (AD,J)) fun v=>oe2 (body v J AD) none fun kC Ab=>Jv body s c (k+1) Ab kC
def Qc (e:As):List O6->Aj->Option (Bool×Aj)
 |[],J=>some (true,J)
 |x::r,J=>match L.ts e x J with
  |some (true,Ab)=>Qc e r Ab
  |some (false,Ab)=>some (false,Ab)
  |none=>none
def Wg (e:As) (B4:Aj->List V->Option (List V×Aj)):List PA->Gh->Aj->List V->Option (List V×Aj)
 |[],_,_,_=>none
 |⟨t,_,A8,a⟩::r,s,J,AD=>if !(okTgt s t&&Fg s&&a==0) then none else Jv (fun v J AD=>oe1 (Cy e t v J) none fun Ab=>
  match Qc L e A8 Ab with
  |some (true,Ai)=>match r with
   |[]=>B4 Ai AD
   |⟨_,i,_,_⟩::_=>oe2 (Hx g L e i Ai) none fun s' Bk=>
    Wg e B4 r s' Bk AD
  |some (false,Ai)=>some (AD,Ai)
  |none=>none) s (Me J s+1) 0 J AD
def Fu:List (O7×PB)->List (O7×Nat)->Aj->List (O7×Nat)×Aj
 |[],cs,J=>(cs,J)
 |(x,k)::r,cs,J=>if k == .cell then Fu r ((x,J.length)::cs) (J++[.cell none]) else Fu r cs J
def Fz (e:As):List (O7×PB)->List (O7×Nat)->Option (List (O7×Nat))
 |[],AD=>some AD
 |(x,k)::r,AD=>if k == .free then oe1 (e.cells.lookup x) none fun i=>
    Fz e r ((x,i)::AD)
  else Fz e r AD
def Em (e:As):List (O7×V)->Aj->Option Aj
 |[],J=>some J
 |(x,v)::r,J=>oe1 (Dj e x v J) none fun Ab=>
    Em e r Ab
def okScope (sc:Scope):Bool:=(match sc.kind with|.function=>true|_=>false)&&(sc.names.lookup ("__debug__":O7)).isNone&&(sc.names.lookup ("__classdict__":O7)).isNone && !sc.isCoroutine && !sc.isGenerator
def Iq (sc:Scope):Bool:=sc.names.all fun x=>x.2 != .local||sc.names.lookup x.1==some .local
def Jx (e:As) (scope:Scope):Scope:={ scope with names:=scope.names.map fun (x,k)=>if k == .free&&e.kind x==some .cell then (x,.cell) else (x,k) }
def Gd (e:As) (scope:Scope) (gens:List PA) (B4:As->Aj->List V->Option (List V×Aj)) (J:Aj):Option (List V×Aj):=match gens with
 |[]=>none
 |⟨t,i,A8,a⟩::r=>match Hx g L e i J with
  |some (s,Ab)=>if okScope (Jx e scope)&&okScope scope&&Iq scope then oe1 (Fz e scope.names []) none fun cl=>
    let (cs,Ai):=Fu scope.names cl (Ab++[.fr []])
    let ce:As:={ scope:=Jx e scope,f:=Ab.length,cells:=cs }
    oe2 (Wg g L ce (B4 ce) (⟨t,i,A8,a⟩::r) s Ai []) none fun AD Bk=>
     oe1 (qM Bk Ab.length) none fun Z=>oe1 (Ec (By Bk Ab.length 6) AD) none fun vs=>
      oe1 (cut Bk Ab.length) none fun De=>
       some (vs,De)
   else none
  |none=>none
def Le (AW:O6):As->Aj->List V->Option (List V×Aj):=fun ce J AD=>oe2 (L.ev ce AW J) none fun v Ab=>
 if Nat.ble AD.length 1000000 then some (AD++[v],Ab) else none
def Vr (k v:O6):As->Aj->List V->Option (List V×Aj):=fun ce J AD=>oe2 (L.ev ce k J) none fun a Ab=>oe2 (L.ev ce v Ab) none fun b Ai=>Pt a none fun i sm=>if Nat.ble AD.length 1000000 then some (AD++[.tup [.int i sm,b]],Ai) else none
def eI (AW:O6):As->Aj->List V->Option (List V×Aj):=fun ce J AD=>oe2 (L.ev ce AW J) none fun v Ab=>Pt v none fun i sm=>if Nat.ble AD.length 1000 then some (AD++[.int i sm],Ab) else none
def Dv:V->Bool
 |.bi id=>id=="sorted"
 |_=>false
def Jp (f:V) (lo:Int) (J:Aj):Nat->Nat->Option (List Int×Aj)
 |0,_=>some ([],J)
 |n+1,k=>oe2 (L.call f [Bi (lo+k)] [] J) none fun a Ab=>Pt a none fun x Z=>oe2 (Jp f lo Ab n (k+1)) none fun r Ai=>some (x::r,Ai)
theorem Um {L:Lv}{f:V}{lo:Int}{J:Aj}{n k:Nat}:Jp L f lo J (n+1) k=oe2 (L.call f [Bi (lo+k)] [] J) none fun a Ab=>Pt a none fun x Z=>oe2 (Jp L f lo Ab n (k+1)) none fun r Ai=>some (x::r,Ai):=rfl
def Mm (k:Int) (x:Int):List (Int×Int)->List (Int×Int)
 |[]=>[(k,x)]
 |(k',x')::r=>if k<k' then (k,x)::(k',x')::r else (k',x')::Mm k x r
def Nq:V->Bool
 |.clo ..=>true
 |.fn _=>true
 |_=>false
def setV (v:V):Option (List Int):=match v with
 |.set l=>some l
 |_=>none
def nz (vs:List V):Option (List Int):=match vs with
 |v::r=>match r with
  |[]=>setV v
  |_::_=>none
 |[]=>none
def nu (s:Gh):Option (Int×Nat):=match s with
 |.rng lo c=>some (lo,c)
 |_=>none
def cw (a:O6):Option (O7×List O6):=match a with
 |.Call f as AJ _=>match AJ with
  |[]=>match f with
   |.Name n _=>some (n,as)
   |_=>none
  |_::_=>none
 |_=>none
def iL (args:List O6):Option (O7×List O6):=match args with
 |a::r=>match r with
  |[]=>cw a
  |_::_=>none
 |[]=>none
def ml (ks:List (O7×V)):Option V:=match ks with
 |k::r=>match r with
  |[]=>if k.1==("key":O7)&&Nq k.2 then some k.2 else none
  |_::_=>none
 |[]=>none
def uM (e:As) (args:List O6) (AJ:List Keyword) (J:Aj):Option (V×Aj):=oe2 (iL args) none fun n as=>oe1 (oe1 (Dc g e n J) none Jk) none fun m=>if m=="range" then
 oe2 (Kb L e as J) none fun vs Ab=>oe1 (Ud vs) none fun sr=>oe2 (nu sr) none fun lo c=>if Nat.ble c 60 then oe2 (dG L e AJ Ab) none fun ks Ai=>oe1 (ml ks) none fun f=>
  oe2 (Jp L f lo Ai c 0) none fun ks Bk=>some (.lst ((((ks.zip (PF c)).foldl (fun AD p=>Mm p.1 (lo+p.2) AD) []).map fun p=>Bi p.2)),Bk)
 else none
 else none
def yS (e:As) (args:List O6) (AJ:List Keyword) (J:Aj):Option (V×Aj):=match AJ with
 |[]=>oe2 (Kb L e args J) none fun vs Ab=>oe1 (nz vs) none fun l=>if Nat.blt l.length 64 then some (.lst (l.map Bi),Ab) else none
 |_::_=>uM g L e args AJ J
def Jy (e:As) (x:O6) (J:Aj):Option (V×Aj):=match x with
 |.ListComp AW gens scope _=>oe2 (Gd g L e scope gens (Le L AW) J) none fun vs Ab=>
  some (.lst vs,Ab)
 |.SetComp AW gens scope _=>oe2 (Gd g L e scope gens (eI L AW) J) none fun vs Ab=>
  oe1 (Fk vs) none fun q=>
   some (.set (q.foldl (fun s i=>Ch i s) []),Ab)
 |.DictComp k v gens scope _=>oe2 (Gd g L e scope gens (Vr L k v) J) none fun vs Ab=>
  oe1 (Oh vs) none fun l=>
   some (.dct (Fq [] l),Ab)
 |_=>none
def nK (c:Const) (J:Aj):Option (V×Aj):=match c with
 |.none=>some (.none,J)
 |.bool b=>some (.bool b,J)
 |.int i=>some (Bi i,J)
 |.str s=>some (.str s,J)
 |_=>none
def t5 (e:As) (n:O7) (J:Aj):Option (V×Aj):=oe1 (Dc g e n J) none fun v=>some (v,J)
def iz (e:As) (l:O6) (op:Operator) (r:O6) (J:Aj):Option (V×Aj):=oe2 (L.ev e l J) none fun a Ab=>oe2 (L.ev e r Ab) none fun b Ai=>Nz Ai op a b
def qd (e:As) (op:UnaryOp) (y:O6) (J:Aj):Option (V×Aj):=oe2 (L.ev e y J) none fun a Ab=>oe1 (wi op a) none fun v=>some (v,Ab)
def uT (e:As) (l:O6) (op:CmpOp) (r:O6) (J:Aj):Option (V×Aj):=if !noSet r then none else oe2 (L.ev e l J) none fun a Ab=>oe2 (L.ev e r Ab) none fun b Ai=>oe1 (Dx Ai op a b) none fun v=>some (.bool v,Ai)
def j8 (e:As) (l:O6) (ED:List CmpOp) (rs:List O6) (J:Aj):Option (V×Aj):=cX ED fun op=>cX rs fun r=>uT L e l op r J
def qi (e:As) (t a b:O6) (J:Aj):Option (V×Aj):=oe2 (L.ts e t J) none fun c Ab=>L.ev e (if c then a else b) Ab
def tL (e:As) (es:List O6) (J:Aj):Option (V×Aj):=if !Nat.ble es.length 1000000 then none else oe2 (Kb L e es J) none fun vs Ab=>some (.tup vs,Ab)
def rX (e:As) (es:List O6) (J:Aj):Option (V×Aj):=if !Nat.ble es.length 1000000 then none else oe2 (Kb L e es J) none fun vs Ab=>some (.lst vs,Ab)
def uH (e:As) (ks:List (Option O6)) (vs:List O6) (J:Aj):Option (V×Aj):=if Nat.ble ks.length 15 then oe2 (nJ L e ks vs J) none fun l Ab=>oe1 (Us l) none fun ps=>some (.dct (Fq [] ps),Ab) else none
def jb (e:As) (args:Arguments) (body:O6) (scope:Scope) (J:Aj):Option (V×Aj):=if args.defaults.isEmpty&&args.kw_defaults.isEmpty then oe2 e.tab none fun i q=>oe1 (tabAt J i) none fun q'=>if q'==q then oe1 (Fz e scope.names []) none fun cl=>some (.clo args body scope cl,J) else none else none
def gK (e:As) (o i:O6) (J:Aj):Option (V×Aj):=oe2 (L.ev e o J) none fun ov Ab=>oe2 (L.ev e i Ab) none fun iv Ai=>oe1 (Eb Ai ov iv) none fun v=>some (v,Ai)
def j6 (e:As) (o:O6) (a b st:Option O6) (J:Aj):Option (V×Aj):=match st with
 |none=>oe2 (L.ev e o J) none fun ov Ab=>oe2 (ib L e a Ab) none fun av Ai=>oe2 (ib L e b Ai) none fun bv Bk=>oe1 (Ur Bk ov av bv) none fun v=>some (v,Bk)
 |some _=>none
def nA (e:As) (o i:O6) (J:Aj):Option (V×Aj):=match i with
 |.Slice a b st _=>j6 L e o a b st J
 |i=>gK L e o i J
def lL (v:V):Option V:=match v with
 |.inst x=>some x
 |_=>none
def uV (e:As) (o:O6) (n:O7) (J:Aj):Option (V×Aj):=if !noSuper o then none else oe2 (L.ev e o J) none fun v Ab=>oe1 (lL v) none fun x=>if n==("comp_select_list":O7)&&aE x then some (x,Ab) else none
def Zx (e:As) (o:O6) (n:O7) (BD:Pos) (args:List O6) (p:Pos) (J:Aj):Option (V×Aj):=if !(BD.endLine==p.line&&noSuper o&&Nat.blt args.length 29) then none else oe2 (L.ev e o J) none fun ov Ab=>
 oe1 (Uc Ab ov n) (oe1 (lL ov) none fun Z=>if n==("compare":O7) then oe2 (Kb L e args Ab) none fun vs Ai=>L.call (.fn g.cmp) (ov::vs) [] Ai else none) fun id=>oe2 (Kb L e args Ab) none fun vs Ai=>jg id (ov::vs) Ai
def Wt (e:As) (n:O7) (args:List O6) (AJ:List Keyword) (J:Aj):Option (V×Aj):=oe1 (Dc g e n J) none fun f=>if Dv f then yS g L e args AJ J else oe2 (Kb L e args J) none fun vs Ab=>oe2 (dG L e AJ Ab) none fun ks Ai=>L.call f vs ks Ai
def evCl (e:As) (f:O6) (args:List O6) (AJ:List Keyword) (p:Pos) (J:Aj):Option (V×Aj):=match f with
 |.Name n _=>Wt g L e n args AJ J
 |.Attribute o n BD=>match AJ with
  |[]=>Zx g L e o n BD args p J
  |_::_=>none
 |_=>none
def gD (e:As) (x:O6) (J:Aj):Option (V×Aj):=match x with
 |.Constant c _ _=>nK c J
 |.Name n _=>t5 g e n J
 |.BinOp l op r _=>iz L e l op r J
 |.UnaryOp op y _=>qd L e op y J
 |.Compare l ED rs _=>j8 L e l ED rs J
 |.BoolOp op vs _=>fG L e op vs J
 |.IfExp t a b _=>qi L e t a b J
 |.Tuple es _ _=>tL L e es J
 |.List es _=>rX L e es J
 |.Dict ks vs _=>uH L e ks vs J
 |.ListComp AW gens scope q=>Jy g L e (.ListComp AW gens scope q) J
 |.SetComp AW gens scope q=>Jy g L e (.SetComp AW gens scope q) J
 |.DictComp k v gens scope q=>Jy g L e (.DictComp k v gens scope q) J
 |.Lambda args body scope _=>jb e args body scope J
 |.Subscript o i _=>nA L e o i J
 |.Attribute o n _=>uV L e o n J
 |.Call f args AJ p=>evCl g L e f args AJ p J
 |_=>none
def uh (e:As) (op:UnaryOp) (y:O6) (J:Aj):Option (Bool×Aj):=match op with
 |.Not=>oe2 (L.ts e y J) none fun b Ab=>some (!b,Ab)
 |_=>none
def ua (e:As) (l:O6) (op:CmpOp) (r:O6) (J:Aj):Option (Bool×Aj):=if !noSet r then none else oe2 (L.ev e l J) none fun a Ab=>oe2 (L.ev e r Ab) none fun b Ai=>oe1 (Dx Ai op a b) none fun v=>some (v,Ai)
def vA (e:As) (x:O6) (J:Aj):Option (Bool×Aj):=if !byTruth x then none else oe2 (L.ev e x J) none fun v Ab=>oe1 (On Ab v) none fun b=>some (b,Ab)
def gI (e:As) (x:O6) (J:Aj):Option (Bool×Aj):=match x with
 |.UnaryOp op y _=>uh L e op y J
 |.BoolOp op vs _=>rW L e op vs J
 |.Compare l ED rs _=>cX ED fun op=>cX rs fun r=>ua L e l op r J
 |x=>vA L e x J
def rt (e:As) (es:List O6) (J:Aj):Option (V×Aj):=if !Nat.ble es.length 1000000 then none else oe2 (Kb L e es J) none fun vs Ab=>some (.ref Ab.length,Ab++[.lst vs])
def re (e:As) (ks:List (Option O6)) (vs:List O6) (J:Aj):Option (V×Aj):=if Nat.ble ks.length 15 then oe2 (nJ L e ks vs J) none fun l Ab=>oe1 (Us l) none fun ps=>some (.ref Ab.length,Ab++[.dct (Fq [] ps)]) else none
def ba (b:Bool) (e:As) (x:O6) (J:Aj):Option (V×Aj):=if !b then L.ev e x J else match x with
 |.List es _=>rt L e es J
 |.Dict ks vs _=>re L e ks vs J
 |x=>L.ev e x J
def nC (e:As):List O6->List Bool
 |[]=>[]
 |.Name n _::r=>e.muts.contains n::nC e r
 |_::r=>false::nC e r
def Uw (e:As):List Bool->List O6->Aj->Option (List V×Aj)
 |_,[],J=>some ([],J)
 |bs,x::r,J=>if !noStar x then none else oe2 (ba L (bs.head?.getD false) e x J) none fun v Ab=>
  oe2 (Uw e bs.tail r Ab) none fun vs Ai=>
   some (v::vs,Ai)
theorem jY {L:Lv}{e:As}{bs:List Bool}{x:O6}{r:List O6}{J:Aj}:Uw L e bs (x::r) J=if !noStar x then none else oe2 (ba L (bs.head?.getD false) e x J) none fun v Ab=>
 oe2 (Uw L e bs.tail r Ab) none fun vs Ai=>
  some (v::vs,Ai):=rfl
def v5 (e:As) (ts es:List O6) (J:Aj):Option (V×Aj):=if !Nat.ble es.length 1000000 then none else oe2 (Uw L e (nC e ts) es J) none fun vs Ab=>some (.tup vs,Ab)
def nq (e:As) (ts:List O6) (x:O6) (J:Aj):Option (V×Aj):=match x with
 |.Tuple es _ _=>v5 L e ts es J
 |x=>L.ev e x J
def sM (e:As) (x:O6) (J:Aj):Option (Fl×Aj):=if Dz x then none else oe2 (L.ev e x J) none fun v Ab=>oe1 (Sp v) none fun Z=>some (.next,Ab)
def j4 (e:As) (x:Option O6) (J:Aj):Option (Fl×Aj):=match x with
 |none=>some (.ret .none,J)
 |some x=>oe2 (L.ev e x J) none fun v Ab=>some (.ret v,Ab)
def aQ (e:As) (n:O7) (x:O6) (J:Aj):Option (Fl×Aj):=oe2 (if Dz x then Jy g L e x J else ba L (e.muts.contains n) e x J) none fun v Ab=>oe1 (Dj e n v Ab) none fun Ai=>some (.next,Ai)
def jS (e:As) (o i x:O6) (J:Aj):Option (Fl×Aj):=if Dz x||Gb i then none else oe2 (L.ev e x J) none fun v Ab=>oe2 (L.ev e o Ab) none fun ov Ai=>oe2 (L.ev e i Ai) none fun iv Bk=>oe1 (Ga ov iv v Bk) none fun De=>some (.next,De)
def aU (e:As) (ts:List O6) (x:O6) (J:Aj):Option (Fl×Aj):=if Dz x then none else oe2 (nq L e ts x J) none fun v Ab=>oe1 (iO v) none fun l=>oe1 (Yj e ts x) none fun sw=>match sw with
 |none=>if ts.length==l.length then oe1 (Jm e ts l Ab) none fun Ai=>some (.next,Ai) else none
 |some names=>if names.length==l.length then oe1 (Mq e names.reverse l.reverse Ab) none fun Ai=>some (.next,Ai) else none
def jr (e:As) (t x:O6) (J:Aj):Option (Fl×Aj):=match t with
 |.Name n _=>aQ g L e n x J
 |.Subscript o i _=>jS L e o i x J
 |.Tuple ts _ _=>aU L e ts x J
 |_=>none
def t6 (e:As) (ts:List O6) (x:O6) (J:Aj):Option (Fl×Aj):=cX ts fun t=>jr g L e t x J
def jK (e:As) (n:O7) (x:O6) (J:Aj):Option (Fl×Aj):=oe1 (Dc g e n J) none fun a=>Pt a none fun a Z=>oe2 (L.ev e x J) none fun b Ab=>Pt b none fun b Z=>oe1 (Dj e n (.int (a+b) false) Ab) none fun Ai=>some (.next,Ai)
def iK (e:As) (o i x:O6) (J:Aj):Option (Fl×Aj):=if Gb i then none else oe2 (L.ev e o J) none fun ov Ab=>oe2 (L.ev e i Ab) none fun iv Ai=>oe1 (Eb Ai ov iv) none fun a=>Pt a none fun a Z=>oe2 (L.ev e x Ai) none fun b Bk=>Pt b none fun b Z=>
 oe1 (Ga ov iv (.int (a+b) false) Bk) none fun De=>some (.next,De)
def nv (e:As) (t x:O6) (J:Aj):Option (Fl×Aj):=match t with
 |.Name n _=>jK g L e n x J
 |.Subscript o i _=>iK L e o i x J
 |_=>none
def ue (e:As) (t:O6) (op:Operator) (x:O6) (J:Aj):Option (Fl×Aj):=match op with
 |.Add=>nv g L e t x J
 |_=>none
def uq (e:As) (t:O6) (b o:List PC) (J:Aj):Option (Fl×Aj):=oe2 (L.ts e t J) none fun c Ab=>Dm L e (if c then b else o) Ab
def bj (e:As) (t:O6) (b o:List PC) (J:Aj):Option (Fl×Aj):=match o with
 |[]=>Lm (L.ts e t) (Dm L e b) 64 J
 |_::_=>none
def vV (e:As) (t i:O6) (b:List PC) (J:Aj):Option (Fl×Aj):=oe2 (Hx g L e i J) none fun s Ab=>if !okTgt s t then none else Mt (fun v J=>oe1 (Cy e t v J) none fun Ai=>Dm L e b Ai) s (Me Ab s+1) 0 Ab
def t9 (e:As) (t i:O6) (b o:List PC) (J:Aj):Option (Fl×Aj):=match o with
 |[]=>vV g L e t i b J
 |_::_=>none
def iM (e:As) (s:PC) (J:Aj):Option (Fl×Aj):=match s with
 |.Expr x _=>sM L e x J
 |.Return x _=>j4 L e x J
 |.Break _=>some (.brk,J)
 |.Continue _=>some (.cont,J)
 |.Pass _=>some (.next,J)
 |.Assign ts x _=>t6 g L e ts x J
 |.AugAssign t op x _=>ue g L e t op x J
 |.If t b o _=>uq L e t b o J
 |.While t b o _=>bj L e t b o J
 |.For t i b o _=>t9 g L e t i b o J
 |_=>none
def Gq (a:Arguments):List O7:=a.args.map (·.arg)
def Wj:List O7->Bool
 |[]=>true
 |x::r=>!(r.contains x)&&Wj r
def Iy (a:Arguments) (n:Nat):Bool:=a.args.length==n&&a.posonlyargs.isEmpty&&a.vararg.isNone&&a.kwonlyargs.isEmpty&&a.kwarg.isNone&&Wj (Gq a)
def Zz (a:Arguments):Bool:=a.posonlyargs.isEmpty&&a.vararg.isNone&&a.kwarg.isNone&&Gq a==(["a","x","lo","hi"]:List O7)&&a.kwonlyargs.map (·.arg)==(["key"]:List O7)
def u6 (args:List V):Option (List (O7×V)):=match args with
 |[a,x]=>some [("a",a),("x",x),("lo",Bi 0),("hi",.none)]
 |[a,x,lo]=>some [("a",a),("x",x),("lo",lo),("hi",.none)]
 |[a,x,lo,hi]=>some [("a",a),("x",x),("lo",lo),("hi",hi)]
 |_=>none
def tw (AJ:List (O7×V)):Option V:=match AJ with
 |[]=>some .none
 |[(k,v)]=>if k==("key":O7) then some v else none
 |_=>none
def pv {α:Type} (AJ:List (O7×V)) (x:Option α):Option α:=match AJ with
 |[]=>x
 |_::_=>none
theorem Uo {α:Type}{AJ:List (O7×V)}{x:Option α}{c:α}{G:Prop}(h:pv AJ x=some c)(k:AJ=[]->x=some c->G):G:=by
 cases AJ with
 |nil=>exact k rfl h
 |cons=>exact nn h
def Hr (d:Ek) (args:List V) (AJ:List (O7×V)):Option (List (O7×V)):=if d.opt then (if Zz d.args then oe1 (u6 args) none fun l=>oe1 (tw AJ) none fun k=>some (l++[(("key":O7),k)]) else none)
 else pv AJ (if Iy d.args args.length then some ((Gq d.args).zip args) else none)
def uz:Fl->V
 |.ret v=>v
 |_=>.none
def Kd (d:Ek) (bs:List (O7×V)) (J:Aj):Option (V×Aj):=if !okScope d.scope then none else
 let n:=J.length
 let (cs,Ai):=Fu d.scope.names [] (J++[.fr []])
 let ce:As:={ scope:=d.scope,f:=n,cells:=cs,tab:=d.tab,muts:=d.muts }
 oe1 (Em ce bs Ai) none fun Bk=>
  oe2 (Dm L ce d.body Bk) none fun f De=>
   oe1 (By De n 6 (uz f)) none fun v'=>
    oe1 (cut De n) none fun fQ=>
     some (v',fQ)
def Fn:Aj->Aj->Bool
 |[],[]=>true
 |.tab p::r,.tab q::t=>p==q&&Fn r t
 |_,_=>false
def aI (a:O5) (args:List V) (AJ:List (O7×V)) (J:Aj):Option (V×Aj):=oe1 (g.D a) none fun d=>oe1 (Hr d args AJ) none fun bs=>
 if Bg g.nt bs then oe2 (Kd L d bs (J.take g.nt)) none fun v Ab=>
  if Fn Ab (J.take g.nt) then some (v,J) else none
 else Kd L d bs J
def gM (args:List V) (AJ:List (O7×V)) (J:Aj):Option (V×Aj):=cX args fun x=>pv AJ (some (.inst x,J))
def lmE (scope:Scope) (cells:List (O7×Nat)) (J:Aj):As:={ scope:=scope,f:=J.length,cells:=(Fu scope.names cells (J++[.fr []])).1 }
def xM (a:Arguments) (body:O6) (scope:Scope) (cells:List (O7×Nat)) (args:List V) (J:Aj):Option (V×Aj):=if Iy a args.length&&a.defaults.isEmpty&&okScope scope then
 oe1 (Em (lmE scope cells J) ((Gq a).zip args) (Fu scope.names cells (J++[.fr []])).2) none fun Bk=>
  oe2 (L.ev (lmE scope cells J) body Bk) none fun v De=>
   oe1 (By De J.length 6 v) none fun v'=>
    oe1 (cut De J.length) none fun fQ=>
     some (v',fQ)
 else none
def Qx (f:V) (args:List V) (AJ:List (O7×V)) (J:Aj):Option (V×Aj):=match f with
 |.fn a=>if a==g.cls then gM args AJ J else aI g L a args AJ J
 |.bi id=>pv AJ (oe1 (uD J id args) none fun v=>some (v,J))
 |.ty n=>pv AJ (tyV n args J)
 |.clo a body scope cells=>pv AJ (xM L a body scope cells args J)
 |_=>none
end
def Aw (g:Gl):Nat->Lv
 |0=>⟨fun Z Z Z=>none,fun Z Z Z=>none,fun Z Z Z=>none,fun Z Z Z Z=>none⟩
 |n+1=>⟨gD g (Aw g n),gI (Aw g n),iM g (Aw g n),Qx g (Aw g n)⟩
theorem lZ {α:Type}{x:O7}{v:α}:put [] x v=[(x,v)]:=rfl
theorem Kk {α:Type}{x:O7}{v:α}{y:O7}{u:α}{r:List (O7×α)}:put ((y,u)::r) x v=if x==y then (y,v)::r else (y,u)::put r x v:=rfl
theorem Vz {κ:Type} [DecidableEq κ] {k:κ}{v:V}{j:κ}{x:V}{r:List (κ×V)}:Js k v ((j,x)::r)=if j=k then (j,v)::r else (j,x)::Js k v r:=rfl
theorem nX {κ:Type} [DecidableEq κ] {k j:κ}{x:V}{r:List (κ×V)}:Eu k ((j,x)::r)=if j=k then some x else Eu k r:=rfl
theorem Wu {f:V->V->Option Bool}{x y:V}{r q:List V}:Ff f (x::r) (y::q)=oe1 (f x y) none fun a=>oe1 (Ff f r q) none fun b=>some (a&&b):=rfl
theorem eL {f:V->V->Option Bool}:Ff f [] []=some true:=rfl
theorem gn {f:V->V->Option Bool}{l:List (Int×V)}{k:Int}{x:V}{r:List (Int×V)}:Ml f l ((k,x)::r)=oe1 (Eu k l) (some false) fun y=>oe1 (f x y) none fun a=>oe1 (Ml f l r) none fun b=>some (a&&b):=rfl
theorem Ji {i j:Int}{r:List Int}:Ch i (j::r)=if j<i then j::Ch i r else if i<j then i::j::r else j::r:=rfl
theorem Wp {k x k' x':Int}{r:List (Int×Int)}:Mm k x ((k',x')::r)=if k<k' then (k,x)::(k',x')::r else (k',x')::Mm k x r:=rfl
theorem lg {b x:V}{r:List V}:eN b (x::r)=oe1 (Mf x b) none fun c=>eN (if c then x else b) r:=rfl
theorem Vg {x:O7}{k:PB}{r:List (O7×PB)}{cs:List (O7×Nat)}{J:Aj}:Fu ((x,k)::r) cs J=if k == .cell then Fu r ((x,J.length)::cs) (J++[.cell none]) else Fu r cs J:=rfl
theorem Gx {k:Nat}:Di k []=true:=rfl
theorem Fw {k:Nat}{x:V}{r:List V}:Di k (x::r)=(Ar k x&&Di k r):=rfl
theorem ii {k:Nat}:Fe k []=true:=rfl
theorem xO {k:Nat}{i:Int}{x:V}{r:List (Int×V)}:Fe k ((i,x)::r)=(Ar k x&&Fe k r):=rfl
theorem Sg {k:Nat}:Bg k []=true:=rfl
theorem Gu {k:Nat}{y:O7}{x:V}{r:List (O7×V)}:Bg k ((y,x)::r)=(Ar k x&&Bg k r):=rfl
theorem Tx {k:Nat}:Ci k []=true:=rfl
theorem Ia {k:Nat}{o:Cv}{r:Aj}:Ci k (o::r)=(Cg k o&&Ci k r):=rfl
theorem Rz {a:Int}:Ju a []=a:=rfl
theorem Pf {a x:Int}{r:List Int}:Ju a (x::r)=Ju (a+x) r:=rfl
theorem uY {a x:Int}{r:List Int}:Se a (x::r)=Se (if x<a then x else a) r:=rfl
theorem Yl {body:V->Aj->List V->Option (List V×Aj)}{s:Gh}{c k:Nat}{J:Aj}{AD:List V}:Jv body s (c+1) k J AD=oe1 (Da J s k) none fun r=>oe1 r (some (AD,J)) fun v=>oe2 (body v J AD) none fun kC Ab=>Jv body s c (k+1) Ab kC:=rfl
theorem Yv {e:As}{x:O7}{v:V}{r:List (O7×V)}{J:Aj}:Em e ((x,v)::r) J=oe1 (Dj e x v J) none fun Ab=>Em e r Ab:=rfl
theorem sT {L:Lv}{e:As}{x:O6}{r:List O6}{J:Aj}:Qc L e (x::r) J=match L.ts e x J with
 |some (true,Ab)=>Qc L e r Ab
 |some (false,Ab)=>some (false,Ab)
 |none=>none:=rfl
theorem nP {g:Gl}{L:Lv}{e:As}{B4:Aj->List V->Option (List V×Aj)}{t:O6}{x:O6}{A8:List O6}{a:Int}{r:List PA}{s:Gh}{J:Aj}{AD:List V}:Wg g L e B4 (⟨t,x,A8,a⟩::r) s J AD=if !(okTgt s t&&Fg s&&a==0) then none else Jv (fun v J AD=>oe1 (Cy e t v J) none fun Ab=>
 match Qc L e A8 Ab with
 |some (true,Ai)=>match r with
  |[]=>B4 Ai AD
  |⟨_,i,_,_⟩::_=>oe2 (Hx g L e i Ai) none fun s' Bk=>
   Wg g L e B4 r s' Bk AD
 |some (false,Ai)=>some (AD,Ai)
 |none=>none) s (Me J s+1) 0 J AD:=rfl
theorem Pn {k:Nat}{l:List V}:Ar k (.lst l)=Di k l:=rfl
theorem Pc {k:Nat}{l:List V}:Ar k (.tup l)=Di k l:=rfl
theorem Ow {k:Nat}{l:List (Int×V)}:Ar k (.dct l)=Fe k l:=rfl
theorem Ox {k:Nat}{i:Int}{b:Bool}:Ar k (.int i b)=true:=rfl
theorem Ph {k:Nat}{b:Bool}:Ar k (.bool b)=true:=rfl
theorem Ou {k:Nat}:Ar k .none=true:=rfl
theorem Pg {k i:Nat}:Ar k (.ref i)=Nat.blt i k:=rfl
theorem Ol {k i:Nat}:Ar k (.fn i)=true:=rfl
theorem Wn:∀{l:List Int}{i:Int},l.Pairwise (· < ·)->i∈l->Ch i l=l
 |j::r,i,h,m=>by
  rw[Ji];have h':=yf.mp h;rcases wk.mp m with q|q
  ·rw[if_neg (by lia),if_neg (by lia)]
  ·rw[if_pos (h'.1 i q),Wn h'.2 q]
theorem gG:∀{l:List Int}{i:Int},i∉l->(Ch i l).Perm (i::l):=by
 intro X
 induction X with
 |nil=>
  intro i Z;exact .refl _
 |cons j r ih=>
  intro i h;rw[Ji];split
  ·exact ((ih fun m=>h (.tail _ m)).cons j).trans (.swap ..)
  ·split
   ·exact .refl _
   ·exact absurd (show i=j by lia) fun q=>h (by rw[q];exact .head _)
theorem iJ:∀{l:List Int}{i x:Int},x∈Ch i l->x=i∨x∈l:=by
 intro X
 induction X with
 |nil=>
  intro i x h;exact .inl (wl.mp h)
 |cons j r ih=>
  intro i x h;rw[Ji] at h;split at h
  ·rcases wk.mp h with q|q
   ·exact .inr (by rw[q];exact .head _)
   ·exact (ih q).imp id (.tail _)
  ·split at h
   ·rcases wk.mp h with q|q
    ·exact .inl q
    ·exact .inr q
   ·exact .inr h
theorem Oa:∀{l:List Int}{i:Int},l.Pairwise (· < ·)->(Ch i l).Pairwise (· < ·):=by
 intro X
 induction X with
 |nil=>
  intro i Z;exact List.pairwise_singleton ..
 |cons j r ih=>
  intro i h;have h':=yf.mp h;rw[Ji];split
  ·rename_i hj;refine yf.mpr ⟨fun x m=>?_,ih h'.2⟩;rcases iJ m with q|q
   ·lia
   ·exact h'.1 x q
  ·split
   ·rename_i hj;refine yf.mpr ⟨fun x m=>?_,h⟩;rcases wk.mp m with q|q
    ·lia
    ·exact Int.lt_trans hj (h'.1 x q)
   ·exact h
section
variable {prog:Program}{w:World}{A:O8}{E:OY->OZ->Prop}{s:OZ}{a:O5}{o:Obj}{l:List Int}
theorem Gg.elems {es:Array (Int×OY)}(h:∀e∈es.toList,∃k u,e=((intKind prog w).hash k,.int k u)):ElemsOf (intKind prog w) es.toList:=fun e m=>by
 obtain ⟨k,u,rfl⟩:=h e m;exact ⟨⟨k,intKind_is _ _ _ _,rfl⟩,rfl⟩
theorem bW {k:Int}{e:Int×OY}(h:∃k u,e=((intKind prog w).hash k,OY.int k u))(q:(intKind prog w).is k e.2=true):jP e=k:=by
 obtain ⟨k',u,rfl⟩:=h;have:=KeyKind.is_eq_decide (knd:=intKind prog w) (intKind_is prog w k' u) k;rw[this] at q;have:k=k':=of_decide_eq_true q;rw[this];rfl
theorem Gg.size (x:Gg prog w o l):∃es ep t,o.data = .set es ep t∧es.size=l.length:=by
 obtain ⟨es,ep,t,hd,BW,hp,hb,hf,hr,hl⟩:=x.dat;refine ⟨es,ep,t,hd,?_⟩;have:=hp.length_eq;rw[wn,xq] at this;exact this
theorem Sj (CR:o.ExactSet){BK:Array (Int×OY)}{ep:Nat}{t1:SetTable}(BW:∀e∈BK.toList,∃k u,e=((intKind prog w).hash k,.int k u))(hp:(BK.toList.map jP).Perm l)(hb:BK.size<scanBound)(hf:t1.fits BK.size=true)
 (hr:Du t1.place) (hl:t1.led=true∨w.params.followText "set-order" = true) (hs:l.Pairwise (· < ·)):Gg prog w { o with data:=.set BK ep t1 } l:=
 ⟨CR,⟨BK,ep,t1,rfl,BW,hp,hb,hf,hr,hl⟩,hs⟩
theorem fB {g:Bool->Sem Unit}(hg:∀(b:Bool)(Ao:OZ)(Q':Unit->OZ->Prop),Q' () Ao->PD (model prog w) A (g b) Q' E Ao)
 {es:Array (Int×OY)}{ep:Nat}{t:SetTable} (ho:s.heap.get? a=some o) (CR:o.ExactSet) (hd:o.data = .set es ep t)
 {BK:Array (Int×OY)}{t2:SetTable} (D4:∀e∈BK.toList,∃k u,e=((intKind prog w).hash k,.int k u)) (FL:(BK.toList.map jP).Perm l) (hs:l.Pairwise (· < ·))
 (E7:BK.size<scanBound) (hf2:t2.fits BK.size=true) (LL:Du t2.place) (F7:t2.led=true∨w.params.followText "set-order" = true){wasDummy:Bool}{R:Option Bool->OZ->Prop}
 (h:∀h' o',O9.SameBut a s.heap h'->h'.get? a=some o'->Gg prog w o' l->R (some true) { s with heap:=h' }) :
 PD (model prog w) A (do
  storeSet a BK t2
  if (!wasDummy&&t2.tooFull)=true then do
   g (relayAll t2 BK (SetTable.grown BK.size)).2.2
   storeSet a (relayAll t2 BK (SetTable.grown BK.size)).1 (relayAll t2 BK (SetTable.grown BK.size)).2.1
   pure (some true)
   else pure (some true)) R E s:=by
 refine Aa (wpAny_storeSet_of ho hd ?_ (fits_of_scanBound E7));have FH:(s.heap.update a (Obj.putSet BK t2)).get? a=some { o with data:=.set BK (ep+1) t2 }:=by
  have:=zw (Obj.putSet BK t2) ho (by rw[putSet_of BK t2 hd];rfl);rw[putSet_of BK t2 hd] at this;exact this
 have H6:=zx s.heap a (Obj.putSet BK t2);split
 ·have hp:=relayAll_perm t2 BK (SetTable.grown BK.size);have BG:=relayAll_fits t2 BK (SetTable.grown BK.size);have JU:=Sy (t:=t2) BK (SetTable.grown BK.size);generalize hRl:relayAll t2 BK (SetTable.grown BK.size)=Rl at hp BG JU ⊢;obtain ⟨FC,t3,NC⟩:=Rl;dsimp only at hp BG JU ⊢;have BX:FC.size=BK.size:=by rw[← xq,hp.length_eq,xq]
  have DP:FC.size<scanBound:=by rw[BX];exact E7
  refine Aa (hg _ _ _ ?_);refine Aa (wpAny_storeSet_of FH rfl ?_ (fits_of_scanBound DP));have GM:((s.heap.update a (Obj.putSet BK t2)).update a (Obj.putSet FC t3)).get? a=some { o with data:=.set FC (ep+1+1) t3 }:=by
   have:=zw (Obj.putSet FC t3) FH (by rw[putSet_of FC t3 rfl];rfl);rw[putSet_of FC t3 rfl] at this;exact this
  exact Ag (h _ _ (H6.trans (zx _ a _)) GM
   (Sj CR (fun e m=>D4 e (hp.mem_iff.mp m)) ((hp.map jP).trans FL) DP BG JU.1 (by rw[JU.2];exact F7) hs))
 ·exact Ag (h _ _ H6 FH (Sj CR D4 FL E7 hf2 LL F7 hs))
theorem Zi {i:Int}{u:Tok}{Q:Bool->OZ->Prop}(ho:s.heap.get? a=some o)(hS:Gg prog w o l)(BY:l.length+1<scanBound)
 (h:∀h' o' b,O9.SameBut a s.heap h'->h'.get? a=some o'->Gg prog w o' (Ch i l)->Q b { s with heap:=h' }):PD (model prog w) A (setAddHashed a (.int i u) ((intKind prog w).hash i)) Q E s:=by
 obtain ⟨CR,⟨es,ep,t,hd,BW,hp,hb,hf,hr,hl⟩,hs⟩:=hS;have hE:=Gg.elems BW;have BX:es.size=l.length:=by
  have:=hp.length_eq;rw[wn] at this;exact this
 refine wpAny_holding (Aa (wpAny_setState_of ho hd hf ?_));dsimp only;rw[byScan_of (rfl) hb hE];refine Aa ?_;refine Aa (wpAny_rule ?_);refine Aa (wpAny_setScan_of (intKind_is prog w i u) ho hd hf hE ?_);cases hq:List.findIdx? (fun e=>(intKind prog w).is i e.2) es.toList with
 |some j=>
  dsimp only;obtain ⟨hj,hpj,_⟩:=List.findIdx?_eq_some_iff_getElem.mp hq;have hm:i∈l:=by
   exact hp.mem_iff.mp (xr.mpr (Mine.w12 _ (List.getElem_mem hj) (bW (BW _ (List.getElem_mem hj)) hpj)))
  refine Ag (Ag ?_);exact h s.heap o false (O9.SameBut.refl a s.heap) ho (by rw[Wn hs hm];exact ⟨CR,⟨es,ep,t,hd,BW,hp,hb,hf,hr,hl⟩,hs⟩)
 |none=>
  have hm:i∉l:=fun m=>by
   obtain ⟨e,he,hi⟩:=xr.mp (hp.mem_iff.mpr m);have:=List.findIdx?_eq_none_iff.mp hq e he;obtain ⟨k,u',rfl⟩:=BW e he;have hk:k=i:=hi;subst hk;rw[intKind_is] at this;cases this
  have hgw:∀(b:Bool){Ao:OZ}{Q':Unit->OZ->Prop},Q' () Ao->PD (model prog w) A (match b with|true=>rule "set.scan.the-table-gave-way"|false=>pure ()) Q' E Ao:=
   fun b Ao Q' hq=>by cases b<;>first|exact Ag hq|exact wpAny_rule hq
  have CL:=layNew_perm t es ((intKind prog w).hash i) (.int i u);have C9:=layNew_fits t es ((intKind prog w).hash i) (.int i u);have CU:=Xl hr es ((intKind prog w).hash i) (.int i u);generalize hL:layNew t es ((intKind prog w).hash i) (.int i u)=L at CL C9 CU ⊢;obtain ⟨BK,t1,wasDummy,gave⟩:=L;rw[Array.toList_push] at CL;have D4:∀e∈BK.toList,∃k u,e=((intKind prog w).hash k,OY.int k u):=fun e he=>by
   rcases xk.mp (CL.mem_iff.mp he) with q|q
   ·exact BW e q
   ·rw[wl.mp q];exact ⟨i,u,rfl⟩
  have FL:(BK.toList.map jP).Perm (Ch i l):=by
   refine (CL.map jP).trans ?_;rw[yc];exact ((hp.append (.refl [i])).trans List.perm_append_comm).trans (gG hm).symm
  have E7:BK.size<scanBound:=by rw[(show BK.size=l.length+1 from by rw[← xq,CL.length_eq,xb,xq,BX];rfl)];exact BY
  refine Aa (hgw _ ?_);split
  ·refine Aa ?_;refine Ag ?_;refine fB ?_ ho CR hd D4 FL (Oa hs) E7 ?_ ?_ ?_ fun h' o' x1 x2 x3=>?_
   ·intro b Ao Q' hq;cases b<;>first|exact Ag hq|exact wpAny_rule hq
   ·split
    ·exact C9
    ·exact SetTable.fits_plain_off C9
   ·split
    ·exact CU.1
    ·exact CU.1
   ·split
    ·rw[CU.2];exact hl
    ·show t1.led=true∨_;rw[CU.2];exact hl
   ·dsimp only;exact Ag (h _ _ _ x1 x2 x3)
  ·refine Aa (Ag ?_);refine fB ?_ ho CR hd D4 FL (Oa hs) E7 C9 CU.1 (by rw[CU.2];exact hl) fun h' o' x1 x2 x3=>?_
   ·intro b Ao Q' hq;cases b<;>first|exact Ag hq|exact wpAny_rule hq
   ·dsimp only;exact Ag (h _ _ _ x1 x2 x3)
theorem Ys {i:Int}{u:Tok}{Q:Bool->OZ->Prop}(ho:s.heap.get? a=some o)(hS:Gg prog w o l)(BY:l.length+1<scanBound)
 (h:∀h' o' b,O9.SameBut a s.heap h'->h'.get? a=some o'->Gg prog w o' (Ch i l)->Q b { s with heap:=h',toks:=s.toks+1 }):PD (model prog w) A (setAdd a (.int i u)) Q E s:=by
 refine wpAny_holding ?_;refine Aa ((intKind prog w).pyHash (k:=i) (intKind_is _ _ _ _) ?_);exact Zi (s:={ s with toks:=s.toks+1 }) ho hS BY fun h' o' b x1 x2 x3=>h h' o' b x1 x2 x3
end
variable {C:Cx}{g:Gl}{L:Lv}{n:Nat}{Y Bx:List O5}{J Av Ab Ai:Aj}{s Ao Be Cf:OZ}{h h':O9}{e:As}{AA:Env}{sr:Gh}{AH:List O5}{it:O5}{k:Nat}
structure Dq (A:O8)(n:Nat):Prop where
 hd:A.handled=none
 dp:A.depth+2*n≤900
 un:A.units+20*n≤9000
theorem Dq.le {A:O8}{n m:Nat}(r:Dq A n)(h:m≤n):Dq A m:=⟨r.hd,wp (Nat.add_le_add_left (zy _ h) _) r.dp,wp (Nat.add_le_add_left (zy _ h) _) r.un⟩
theorem Dq.pred {A:O8}{n:Nat}(r:Dq A (n+1)):Dq A n:=r.le (yh n)
theorem Dq.in1 {A:O8}{n:Nat}(r:Dq A (n+1)):Dq A.in1 n:=⟨r.hd,aRm (k:=0) r.dp (wz _),aRm (k:=1) r.un (by decide)⟩
theorem Dq.units {A:O8}{n:Nat}(r:Dq A n):A.units<cLine:=xe (wp (y9 ..) r.un) (show 9000<9900 by decide)
theorem Dq.units64 {A:O8}{n:Nat}(r:Dq A n):A.units+64<cLine:=xe (Nat.add_le_add_right (wp (y9 ..) r.un) 64) (show 9000+64<9900 by decide)
theorem Dq.depth {A:O8}{n:Nat}(r:Dq A n):A.depth<recursionLimit:=xe (wp (y9 ..) r.dp) (show 900<1000 by decide)
abbrev At (C:Cx) (n:Nat) (Y:List O5) (s:OZ){β:Type} (t:Sem β) (Av:Aj) (R:List O5->O9->β->Prop):Prop:=
 ∀A (Q:β->OZ->Prop) E,Dq A n->(∀Bx s' x,Ck C Y s Bx Av s'->R Bx s'.heap x->Q x s')->PD C.md A t Q E s
abbrev RV (C:Cx) (v:V):List O5->O9->OY->Prop:=fun Y h x=>Bz C Y h v x
section
variable {α β:Type}
theorem At.pure {x:α}{R:List O5->O9->α->Prop}(I:Bh C Y J s)(h:R Y s.heap x):At C n Y s (Pure.pure x:Sem α) J R:=fun Z Z Z Z k=>Ag (k _ _ _ (.refl I) h)
theorem At.bind {m:Sem α}{f:α->Sem β}{vy:List O5->O9->α->Prop}{R₂:List O5->O9->β->Prop}(h:At C n Y s m Ab vy)
 (k:∀An Ao x,Ck C Y s An Ab Ao->vy An Ao.heap x->At C n An Ao (f x) Ai R₂):At C n Y s (m >>= f) Ai R₂:=fun A Z E r q=>
 Aa (h A _ E r fun An Ao x g hx=>k An Ao x g hx A _ E r fun Bl Be y g' hy=>q Bl Be y (g.trans g') hy)
theorem At.le {m:Sem α}{R:List O5->O9->α->Prop}(h:At C n Y s m Av R):At C (n+1) Y s m Av R:=fun A Q E r k=>h A Q E r.pred k
theorem At.skip {m:Sem β}{u:Sem Unit}{R:List O5->O9->β->Prop}(hu:∀A (Q:Unit->OZ->Prop) E s,Q () s->PD C.md A u Q E s)(h:At C n Y s m Av R):At C n Y s (u >>= fun Z=>m) Av R:=
 fun A Q E r k=>Aa (hu _ _ _ _ (h A Q E r k))
end
structure Ba (C:Cx)(Y:List O5)(e:As)(AA:Env):Prop where
 sc:AA.scope=e.scope
 ok:okScope e.scope=true
 loc:Y[e.f]?=some AA.locals
 gl:AA.globals=mainGlobals
 bl:AA.builtins=builtinsNs
 ce:Cd Y e.cells AA.cells
 lam:∀i q,e.tab=some (i,q)->AA.qual++"<lambda>" = q∧∃c P,AA.code = .ref c∧Y[i]?=some P∧CodeHd C.h0 c P
theorem Ba.mv {C:Cx}{Y Bx:List O5}{h h':O9}{e:As}{AA:Env}(X:Ba C Y e AA)(m:Mv Y Bx h h'):Ba C Bx e AA:=
 ⟨X.sc,X.ok,m.get X.loc,X.gl,X.bl,X.ce.mv m,fun i q z=>(by obtain ⟨a,c,P,b1,b2,b3⟩:=X.lam i q z;exact ⟨a,c,P,b1,m.get b2,b3⟩)⟩
theorem Ba.go {C:Cx}{Y Bx:List O5}{s s':OZ}{Av:Aj}{e:As}{AA:Env}(X:Ba C Y e AA)(g:Ck C Y s Bx Av s'):Ba C Bx e AA:=X.mv g.mv
theorem Cn {sc:Scope}(h:okScope sc=true):sc.kind = .function∧sc.names.lookup ("__debug__":O7)=none∧sc.names.lookup ("__classdict__":O7)=none∧sc.isCoroutine=false∧sc.isGenerator=false:=by
 unfold okScope at h;simp only[Bool.and_eq_true,Option.isNone_iff_eq_none,Bool.not_eq_true'] at h;obtain ⟨⟨⟨⟨h1,h2⟩,h3⟩,h4⟩,h5⟩:=h;refine ⟨?_,h2,h3,h4,h5⟩;split at h1
 ·assumption
 ·cases h1
theorem Ba.kind {C:Cx}{Y:List O5}{e:As}{AA:Env}(X:Ba C Y e AA)(x:O7):AA.kindOf x=e.kind x:=by unfold Env.kindOf As.kind;rw[X.sc]
theorem Ba.fn {C:Cx}{Y:List O5}{e:As}{AA:Env}(X:Ba C Y e AA):AA.scope.kind = .function:=by rw[X.sc];exact (Cn X.ok).1
theorem Ba.noDebug {C:Cx}{Y:List O5}{e:As}{AA:Env}(X:Ba C Y e AA){x:O7}{k:PB}(h:e.kind x=some k):(x==("__debug__":O7))=false:=by
 cases q:(x==("__debug__":O7)) with
 |false=>rfl
 |true=>
  rw[beq_iff_eq] at q;subst q;unfold As.kind at h;rw[(Cn X.ok).2.1] at h;cases h
theorem Ba.noClsd {C:Cx}{Y:List O5}{e:As}{AA:Env}(X:Ba C Y e AA){x:O7}{k:PB}(h:e.kind x=some k):(x==("__classdict__":O7))=false:=by
 cases q:(x==("__classdict__":O7)) with
 |false=>rfl
 |true=>
  rw[beq_iff_eq] at q;subst q;unfold As.kind at h;rw[(Cn X.ok).2.2.1] at h;cases h
structure Xo (C:Cx)(a:O5)(d:Ek)(o:Obj)(fd:FuncData):Prop where
 ob:C.h0.get? a=some o
 dat:o.data = .func fd
 fcls:o.cls = .type "function"
 params:fd.params=d.args
 body:fd.body = .stmts d.body
 scope:fd.scope=d.scope
 gl:fd.globals=mainGlobals
 bl:fd.builtins=builtinsNs
 clos:fd.closure=[]
 code:C.h0.CodeRec fd.code fd.qualname
 opt:d.opt=true->∃T o2 n kd m t,fd.defaults = .ref T∧C.h0.get? T=some o2∧o2.data = .seq #[.int 0 t,.none] n∧fd.kwdefaults = .ref kd∧C.h0.Ns kd m∧m ("key":O7)=some .none
 noopt:d.opt=false->fd.defaults = .none∧fd.kwdefaults = .none
 tab:∀i q,d.tab=some (i,q)->fd.qualname++".<locals>."++"<lambda>" = q∧∃c P,fd.code = .ref c∧C.tabs[i]?=some P∧CodeHd C.h0 c P
structure lN (C:Cx)(g:Gl)(N:O5)(mN:O7->Option OY)(fI:O5)(oI:Obj)(fd:FuncData):Prop where
 cls:ClsAt C.h0 C.cls N mN
 cmp:mN ("compare":O7)=some (.ref g.cmp)
 cmpD:∃d,g.D g.cmp=some d
 init:mN ("__init__":O7)=some (.ref fI)
 ga:mN ("__getattribute__":O7)=none
 gh:mN ("__getattr__":O7)=none
 sa:mN ("__setattr__":O7)=none
 csl:mN ("comp_select_list":O7)=none
 ob:C.h0.get? fI=some oI
 dat:oI.data = .func fd
 fcls:oI.cls = .type "function"
 params:∃p1 p2,fd.params={ posonlyargs:=[],args:=[{ arg:="self",annotation:=none,pos:=p1 },{ arg:="comp_select_list",annotation:=none,pos:=p2 }],vararg:=none,kwonlyargs:=[],kw_defaults:=[],kwarg:=none,defaults:=[] }
 body:∃p1 p2 p3 p4,fd.body = .stmts [.Assign [.Attribute (.Name "self" p1) "comp_select_list" p2] (.Name "comp_select_list" p3) p4]
 scope:okScope fd.scope=true∧fd.scope.names.lookup ("self":O7)=some .local∧fd.scope.names.lookup ("comp_select_list":O7)=some .local∧fd.scope.names.all (fun x=>x.2 != .cell)=true
 gl:fd.globals=mainGlobals
 bl:fd.builtins=builtinsNs
 clos:fd.closure=[]
 dflt:fd.defaults = .none∧fd.kwdefaults = .none
 code:C.h0.CodeRec fd.code fd.qualname
structure Wd (C:Cx)(g:Gl):Prop where
 nt:g.nt=C.tabs.length
 cls:g.cls=C.cls
 klass:∃N mN fI oI fd,lN C g N mN fI oI fd
 defs:∀a d,g.D a=some d->∃o fd,Xo C a d o fd
 ns:∃mg mb,C.h0.Ns mainGlobals mg∧C.h0.Ns builtinsNs mb∧(∃bm o,mg "__builtins__" = some (.ref bm)∧bm≠builtinsNs∧bm≠mainGlobals∧C.h0.get? bm=some o∧o.cls = .type "module"∧o.dict=some builtinsNs∧o.data = .plain)∧∀x v,g.G x=some v->∃val,(mg x=some val∨(mg x=none∧mb x=some val))∧∀off Y J s,Bh { C with off:=off } Y J s->Bz { C with off:=off } Y s.heap v val
 tabs:∀t∈C.tabs,C.h0.get? t=some (Jz #[])
 nolimit:C.h0.NoLimit
theorem Wd.off {C:Cx}{g:Gl}(W:Wd C g)(o:List O5):Wd { C with off:=o } g where
 nt:=W.nt
 cls:=W.cls
 klass:=(by obtain ⟨N,mN,fI,oI,fd,x⟩:=W.klass;exact ⟨N,mN,fI,oI,fd,⟨x.cls,x.cmp,x.cmpD,x.init,x.ga,x.gh,x.sa,x.csl,x.ob,x.dat,x.fcls,x.params,x.body,x.scope,x.gl,x.bl,x.clos,x.dflt,x.code⟩⟩)
 defs:=fun a d e=>(by obtain ⟨o,fd,x⟩:=W.defs a d e;exact ⟨o,fd,⟨x.ob,x.dat,x.fcls,x.params,x.body,x.scope,x.gl,x.bl,x.clos,x.code,x.opt,x.noopt,x.tab⟩⟩)
 ns:=W.ns
 tabs:=W.tabs
 nolimit:=W.nolimit
theorem Bh.old {C:Cx} {Y J s}(I:Bh C Y J s){g:Gl}(W:Wd C g){b:O5}{o:Obj}(e:C.h0.get? b=some o)(hn:o≠Jz #[]):s.heap.get? b=some o:=
 I.base b o (fun m=>(I.fns b m).elim (fun q=>by rw[e] at q;cases q) fun q=>hn (wx (e.symm.trans (W.tabs b q)))) e
theorem Bh.ns {C:Cx} {Y J s}(I:Bh C Y J s){g:Gl}(W:Wd C g){a:O5}{m:O7->Option OY}(x:C.h0.Ns a m):s.heap.Ns a m:=
 (by obtain ⟨o,es,ep,e,d,r⟩:=x;exact ⟨o,es,ep,I.old W e (fun q=>by rw[q] at d;cases d),d,r⟩)
theorem Bh.noLimit {C:Cx} {Y J s}(I:Bh C Y J s){g:Gl}(W:Wd C g):s.heap.NoLimit:=(by obtain ⟨mc,a,b⟩:=W.nolimit;exact ⟨mc,I.ns W a,b⟩)
theorem nN (I:Bh C Y J s)(X:Ba C Y e AA){x:O7}{i:Nat}{c:Option V}(hi:e.cells.lookup x=some i)(hu:Ux J i=some c):∃a w,Y[i]?=some a∧AA.cells.lookup x=some a∧s.heap.get? a=some (Tr w)∧Lu C Y s.heap c w:=by
 have hc:=X.ce x;rw[hi] at hc;obtain ⟨a,ha,hl⟩:=hc;obtain ⟨w,hw,hr⟩:=I.objs _ _ _ ha (tU hu);exact ⟨a,w,ha,hl,hw,hr⟩
theorem kF (I:Bh C Y J s)(X:Ba C Y e AA){x:O7}{v:V}(h:(oe1 (e.cells.lookup x) none fun i=>oe1 (Ux J i) none fun c=>c)=some v):∃a val,AA.cells.lookup x=some a∧s.heap.get? a=some (Tr (some val))∧Bz C Y s.heap v val:=
 oC1 h fun i hi h=>oC1 h fun c hc h=>by
  obtain ⟨a,w,-,hl,hw,hr⟩:=nN I X hi hc;cases h;cases w with
  |none=>exact hr.elim
  |some val=>exact ⟨a,val,hl,hw,hr⟩
theorem bZ (W:Wd C g)(I:Bh C Y J s)(X:Ba C Y e AA){x:O7}{v:V}(h:Dc g e x J=some v){A:O8}{Q:OY->OZ->Prop}{E:OY->OZ->Prop}(k:∀x,Bz C Y s.heap v x->Q x s):PD C.md A (loadName AA x) Q E s:=by
 have h:Ss g e x J (e.kind x)=some v:=h;generalize hk:e.kind x=K at h
 induction K using Option.casesOn with
 |none=>exact nn h
 |some K=>
  induction K using PB.casesOn with
  |«local»=>
   refine oC1 h fun m hm h=>?_;obtain ⟨f,DM,hf⟩:=I.objs _ _ _ X.loc (Zm hm);have:=hf x;have this:=h ▸ this;cases hv:f x with
   |none=>rw[hv] at this;exact this.elim
   |some val=>rw[hv] at this;exact wpAny_loadName_local X.fn ((X.kind x).trans hk) DM hv (k _ this)
  |cell=>
   obtain ⟨a,val,hl,hw,hr⟩:=kF I X h;exact wpAny_loadName_cell X.fn ((X.kind x).trans hk) hl ⟨_,hw,rfl⟩ (k _ hr)
  |free=>
   obtain ⟨a,val,hl,hw,hr⟩:=kF I X h;exact wpAny_loadName_free X.fn ((X.kind x).trans hk) hl ⟨_,hw,rfl⟩ (k _ hr) (X.noClsd hk)
  |globalImplicit=>
   rw[loadName_read X.fn ((X.kind x).trans hk)];obtain ⟨mg,mb,hg,hb,_,q⟩:=W.ns;obtain ⟨val,hv,hr⟩:=q x v h;have hG:=I.ns W hg;have hB:=I.ns W hb;have hG:=X.gl ▸ hG;rw[← X.bl] at hB;rcases hv with hv|⟨h1,h2⟩
   ·exact Calls.loadGlobal_global hG hv (k _ (hr C.off _ _ _ I))
   ·exact Calls.loadGlobal_builtin hG h1 hB h2 (k _ (hr C.off _ _ _ I))
  |globalExplicit=>exact nn h
theorem nQ (W:Wd C g)(I:Bh C Y J s)(X:Ba C Y e AA){x:O7}{v:V}(h:Dc g e x J=some v):At C n Y s (loadName AA x) J (RV C v):=fun Z Z Z Z k=>bZ W I X h fun Z hx=>k _ _ _ (.refl I) hx
theorem Lf {α:Type}(x:O7)(v:α):∀(m:List (O7×α))(y:O7),(put m x v).lookup y=if y=x then some v else m.lookup y:=by
 intro X
 induction X with
 |nil=>
  intro y;rw[lZ];rw[y6,List.lookup_nil];by_cases h:y=x
  ·rw[if_pos h,beq_iff_eq.mpr h]
  ·rw[if_neg h,beq_eq_false_iff_ne.mpr h]
 |cons X r ih=>
  obtain ⟨z,u⟩:=X;intro y;rw[Kk];split
  ·rename_i hz;rw[beq_iff_eq] at hz;subst hz;rw[y6,y6];by_cases h:y=x
   ·rw[if_pos h,beq_iff_eq.mpr h]
   ·rw[if_neg h,beq_eq_false_iff_ne.mpr h]
  ·rename_i hz;rw[y6,y6,ih y];by_cases h:y=z
   ·rw[beq_iff_eq.mpr h];exact (if_neg fun q=>hz (by rw[beq_iff_eq,← q,h])).symm
   ·rw[beq_eq_false_iff_ne.mpr h]
theorem pZ {M:Model}{A:O8}{Q:Unit->OZ->Prop}{E:OY->OZ->Prop}{x:O7}{a:O5}{w:Option OY}{val:OY}(h1:AA.kindOf x=some .cell)(h2:AA.scope.kind = .function)(hl:AA.cells.lookup x=some a)(hw:s.heap.get? a=some (Tr w))
 (k:Q () { s with heap:=s.heap.update a fun o=>{ o with data:=.cell (some val) } }):PD M A (storeName AA x val) Q E s:=by
 unfold storeName;rw[h1];dsimp only;rw[h2];refine Aa (wpAny_cellOf hl ?_);refine Aa (wpAny_load hw ?_);exact wpAny_update hw k
theorem rL (I:Bh C Y J s)(X:Ba C Y e AA){x:O7}{v:V}{val:OY}(hv:Bz C Y s.heap v val)(h:Dj e x v J=some Av){A:O8}{Q:Unit->OZ->Prop}{E:OY->OZ->Prop}(k:∀Bx s' x,Ck C Y s Bx Av s'->True->Q x s'):PD C.md A (storeName AA x val) Q E s:=by
 have h:Zp e x v J (e.kind x)=some Av:=h;generalize hk:e.kind x=K at h
 induction K using Option.casesOn with
 |none=>exact nn h
 |some K=>
  induction K using PB.casesOn with
  |«local»=>
   refine oC1 h fun m hm h=>?_;cases h;obtain ⟨f,DM,hf⟩:=I.objs _ _ _ X.loc (Zm hm);refine wpAny_storeName_local ((X.kind x).trans hk) DM (fun h' GL hs=>?_) (by rw[X.fn];rfl);have z:=I.update X.loc (fun b o hb e=>(hs.2 b hb).trans e) (ao:=.fr (put m x v)) fun M=>⟨_,GL,fun y=>by
    rw[Lf];by_cases q:y=x
    ·rw[if_pos q,if_pos q];exact hv.mv M
    ·rw[if_neg q,if_neg q];exact (hf y).mv M⟩
   exact k _ _ _ ⟨z.inv.tok _,z.mv⟩ trivial
  |cell=>
   refine oC1 h fun i hi h=>oC1 h fun u hu h=>?_;cases h;obtain ⟨a,w,ha,hl,hw,hr⟩:=nN I X hi hu;refine pZ ((X.kind x).trans hk) X.fn hl hw ?_;exact k _ _ _ (I.update ha (fun b o hb e=>((zx ..).2 b hb).trans e) fun M=>⟨some val,zw _ hw rfl,hv.mv M⟩) trivial
  |_=>exact nn h
theorem Gr (I:Bh C Y J s)(X:Ba C Y e AA){x:O7}{v:V}{val:OY}(hv:Bz C Y s.heap v val)(h:Dj e x v J=some Av) :
 At C n Y s (storeName AA x val) Av (fun Z Z Z=>True):=fun Z Z Z Z k=>rL I X hv h k
theorem Jl {i:Int}:Ep i=true↔i.natAbs<2 ^ 63:=⟨fun h=>xm h,fun h=>xg h⟩
theorem m8 {i:Int}(h:i.natAbs<2 ^ 63):i.natAbs<2 ^ 64:=yb h (by decide)
theorem nW {a b:Int}(h:b.natAbs<2 ^ 63):IntMulOk a b:=.of_right (intBits_le (m8 h))
theorem kM {a b:Int}(h:a.natAbs<2 ^ 63):IntMulOk a b:=.of_left (intBits_le (m8 h))
theorem dO {a b:Int}(hb:0≤b):(a.fdiv b).natAbs≤a.natAbs:=by
 rw[zz a hb];exact Int.natAbs_ediv_le_natAbs a b
theorem noPy {x y:Int}(h:y.natAbs<2 ^ 63):Builtin.divisionGoesByPylong x y=false:=by
 refine PyProof.noPylong_of_log2 ?_;by_cases h0:y.natAbs=0
 ·rw[h0];decide +kernel
 ·exact yb ((Nat.log2_lt h0).mpr h) (by decide)
theorem uI {a b:Int}(hb:b≠0):(a.fmod b).natAbs≤b.natAbs:=by
 obtain ⟨_,_,h3,h4⟩:=fdiv_fmod_facts a b;rcases Int.lt_or_gt_of_ne hb with h|h
 ·rw[← Int.natAbs_neg,← Int.natAbs_neg b];exact yn (Int.natAbs_lt_natAbs_of_nonneg_of_lt (Int.neg_nonneg_of_nonpos (h4 h).2) (Int.neg_lt_neg (h4 h).1))
 ·exact yn (Int.natAbs_lt_natAbs_of_nonneg_of_lt (h3 h).1 (h3 h).2)
theorem Bv.length:∀{l:List V}{vs:List OY},Bv C Y h l vs->vs.length=l.length:=fun {l}=>by
 induction l with
 |nil=>intro vs e;rw[show vs=[] from e];rfl
 |cons x l ih=>
  intro vs r;obtain ⟨_,_,e,_,r⟩:=r;rw[e,x9,x9,ih r]
theorem Bv.append:∀{l l':List V}{vs BB:List OY},Bv C Y h l vs->Bv C Y h l' BB->Bv C Y h (l++l') (vs++BB):=fun {l}=>by
 induction l with
 |nil=>intro l' vs BB e r;rw[show vs=[] from e];exact r
 |cons x l ih=>
  intro l' vs BB r r';obtain ⟨v,_,e,r,q⟩:=r;rw[e];exact ⟨v,_,rfl,r,ih q r'⟩
theorem Bv.get:∀{l:List V}{vs:List OY}{i:Nat}{x:V},Bv C Y h l vs->l[i]?=some x->∃v,vs[i]?=some v∧Bz C Y h x v:=fun {l}=>by
 induction l with
 |nil=>intro vs i x _ e;exact nn e
 |cons y l ih=>
  intro vs i x r f;obtain ⟨v,BB,e,r,q⟩:=r;rw[e];cases i with
  |zero=>cases f;exact ⟨v,rfl,r⟩
  |succ i=>have:=ih q f;exact this
theorem Db (I:Bh C Y J s){v:V}{l:List V}{val:OY}(e:Bu J v=some l)(r:Bz C Y s.heap v val) :
 ∃a vs k,val = .ref a∧IsL s.heap a vs k∧Bv C Y s.heap l vs.toList:=by
 induction v using V.casesOn with
 |lst l'=>
  cases e;obtain ⟨a,vs,k,e1,_,e2,e3⟩:=r;exact ⟨a,vs,k,e1,e2,e3⟩
 |ref i=>
  obtain ⟨a,e1,e2⟩:=r;obtain ⟨vs,k,e3,e4⟩:=I.objs _ _ _ e2 (Qv e);exact ⟨a,vs,k,e1,e3,e4⟩
 |_=>exact nn e
theorem Bh.newTup (I:Bh C Y J s){l:List V}{vs:List OY}(r:Bv C Y s.heap l vs) :
 Ck C Y s Y J { s with heap:=s.heap.push { cls:=.type "tuple",data:=.seq vs.toArray } } ∧
 Bz C Y (s.heap.push { cls:=.type "tuple",data:=.seq vs.toArray }) (.tup l) (.ref s.heap.objs.size):=
 have g:=I.frozen { cls:=.type "tuple",data:=.seq vs.toArray }
 ⟨g,_,vs.toArray,0,rfl,I.new_off,xc _ rfl,r.mv g.mv⟩
theorem Bh.newLst (I:Bh C Y J s){l:List V}{vs:List OY}(r:Bv C Y s.heap l vs) :
 Ck C Y s Y J { s with heap:=s.heap.push { cls:=.type "list",data:=.seq vs.toArray } } ∧
 Bz C Y (s.heap.push { cls:=.type "list",data:=.seq vs.toArray }) (.lst l) (.ref s.heap.objs.size):=
 have g:=I.frozen { cls:=.type "list",data:=.seq vs.toArray }
 ⟨g,_,vs.toArray,0,rfl,I.new_off,xc _ rfl,r.mv g.mv⟩
theorem Rt (Y:List O5)(a:O5):(Y++[a])[Y.length]?=some a:=by rw[zv (wu _),Nat.sub_self];rfl
theorem Bh.newRef (I:Bh C Y J s){l:List V}{vs:List OY}(r:Bv C Y s.heap l vs) :
 Ck C Y s (Y++[s.heap.objs.size]) (J++[.lst l]) { s with heap:=s.heap.push { cls:=.type "list",data:=.seq vs.toArray } } ∧
 Bz C (Y++[s.heap.objs.size]) (s.heap.push { cls:=.type "list",data:=.seq vs.toArray }) (.ref J.length) (.ref s.heap.objs.size):=
 ⟨I.alloc (tk:=s.toks) (fun b o e=>ww _ e) (Co _) fun M Z=>⟨vs.toArray,0,xc _ rfl,r.mv M⟩,_,rfl,I.len ▸ Rt ..⟩
theorem Bz.int_t {i:Int}{sm:Bool}{t:Tok}(hs:sm=true->i.natAbs<2 ^ 63):Bz C Y h (.int i sm) (.int i t):=⟨⟨t,rfl⟩,hs⟩
theorem Dh {n:Nat}(h:Nat.ble n 1000000=true):n≤sizeLine:=wp (xm h) (by decide)
theorem gg {op:Operator}{i j:Int}{p q:Bool}{t u:Tok}{v:V}{A:O8}{Q E:OY->OZ->Prop}(hp:p=true->i.natAbs<2 ^ 63)(hq:q=true->j.natAbs<2 ^ 63)(e:v3 op i p j q=some v)
 (done:∀{i:Int}{sm:Bool},(sm=true->i.natAbs<2 ^ 63)->v = .int i sm->Q (.int i s.toks) { s with toks:=s.toks+1 }):PD C.md A (binaryOp op (.int i t) (.int j u)) Q E s:=by
 induction op using Operator.casesOn with
 |Add=>cases e;exact P.add_int (done (sm:=false) (fun q=>ft q) rfl)
 |Sub=>cases e;exact P.sub_int (done (sm:=false) (fun q=>ft q) rfl)
 |Mult=>
  split at e
  ·rename_i hm;cases e;refine P.mul_int (done (sm:=false) (fun q=>ft q) rfl) ?_;rcases Bool.or_eq_true_iff.mp hm with h|h
   ·rcases Bool.or_eq_true_iff.mp h with h|h
    ·exact (Bool.or_eq_true_iff.mp h).elim (fun h=>nW (hq h)) fun h=>kM (hp h)
    ·exact nW (Jl.mp h)
   ·exact kM (Jl.mp h)
  ·exact nn e
 |FloorDiv=>
  split at e
  ·exact nn e
  ·rename_i hb;split at e
   ·rename_i CT;cases e;exact PyProof.Rows.floordiv_int (fun q=>hb (beq_iff_eq.mpr q)) (done (fun h=>have h:=xh.mp h;xe (dO (of_decide_eq_true h.2)) (hp h.1)) rfl)
     (.inl (noPy ((Bool.or_eq_true_iff.mp CT).elim hq Jl.mp)))
   ·exact nn e
 |Mod=>
  split at e
  ·exact nn e
  ·rename_i hb;cases e;have CJ:¬j=0:=fun q=>hb (beq_iff_eq.mpr q);exact PyProof.Rows.mod_int' CJ (done (fun h=>xe (uI CJ) (hq h)) rfl)
 |Pow=>
  split at e
  ·rename_i hc;cases e;have hc:=xh.mp hc;have h1:=xh.mp hc.1;exact pow_int_small (of_decide_eq_true h1.2) (z4 (of_decide_eq_true hc.2) (by decide)) (m8 (hp h1.1)) (done (sm:=false) (fun q=>ft q) rfl)
  ·exact nn e
 |RShift=>
  have e:(if decide (0≤j)&&decide (j≤1000) then some (V.int (i.fdiv (2 ^ j.toNat)) p) else none)=some v:=e;split at e
  ·rename_i hc;cases e;have hc:=xh.mp hc;exact rshift_int (of_decide_eq_true hc.1) (done (fun h=>xe (dO (yp (Int.pow_pos (by decide)))) (hp h)) rfl)
  ·exact nn e
 |BitAnd=>cases e;exact and_int (done (sm:=false) (fun q=>ft q) rfl)
 |_=>exact nn e
theorem a9 (I:Bh C Y J s){op:Operator}{a b v:V}{va vb:OY}(ra:Bz C Y s.heap a va)(rb:Bz C Y s.heap b vb)(e:q9 J op a b=some (v,Av)) :
 At C n Y s (binaryOp op va vb) Av (RV C v):=by
 induction op using Operator.casesOn with
 |Add=>
  split at e
  ·rename_i x hx;split at e
   ·rename_i y hy;split at e
    ·rename_i hz;cases e;obtain ⟨p,vs,m,rfl,gp,rp⟩:=Db I hx ra;obtain ⟨q,ws,m',rfl,gq,rq⟩:=Db I hy rb;intro A Q E R k;have h1:=rp.length;have h2:=rq.length;rw[xq] at h1 h2;refine P.add_list gp gq ?_ (by rw[h1,h2];exact Dh hz);have z:=I.newLst (rp.append rq);rw[show (vs.toList++ws.toList).toArray=vs++ws by simp] at z;exact k _ _ _ z.1 z.2
    ·exact nn e
   ·exact nn e
  ·exact nn e
 |_=>exact nn e
theorem oj (I:Bh C Y J s){op:Operator}{a b v:V}{va vb:OY}(ra:Bz C Y s.heap a va)(rb:Bz C Y s.heap b vb)(e:Nz J op a b=some (v,Av)) :
 At C n Y s (binaryOp op va vb) Av (RV C v):=by
 induction a using V.casesOn with
 |int i p=>induction b using V.casesOn with
  |int j q=>
   split at e
   ·rename_i w hw;cases e;obtain ⟨⟨t,rfl⟩,hp⟩:=ra;obtain ⟨⟨u,rfl⟩,hq⟩:=rb;exact fun A Q E R k=>gg hp hq hw fun hs e=>k _ _ _ (.tok I _) (by rw[e];exact Bz.int_t hs)
   ·exact nn e
  |_=>exact nn e
 |_=>exact a9 I ra rb e
theorem Ii (I:Bh C Y J s){v:V}{l:List (Int×V)}{val:OY}(e:Kt J v=some l)(r:Bz C Y s.heap v val) :
 ∃a AE,val = .ref a∧a≠sysModules∧s.heap.DictOf (intKind C.prog C.w) a AE∧Eh C Y s.heap l AE:=by
 induction v using V.casesOn with
 |dct l'=>
  cases e;obtain ⟨a,AE,e1,_,e0,e2,e3⟩:=r;exact ⟨a,AE,e1,e0,e2,e3⟩
 |ref i=>
  obtain ⟨a,e1,e2⟩:=r;obtain ⟨e0,AE,e3,e4⟩:=I.objs _ _ _ e2 (dz e);exact ⟨a,AE,e1,e0,e3,e4⟩
 |_=>exact nn e
def fC (f:V->V->Option Bool) (x y:List V) (j:Nat):Bool:=match x[j]?,y[j]? with
 |some u,some v=>(f u v).getD false
 |_,_=>false
theorem bP {f:V->V->Option Bool}{x:List V}:∀{y:List V}{b:Bool},Ff f x y=some b ->
 (∀j u v,x[j]?=some u->y[j]?=some v->f u v=some (fC f x y j))∧b=((PF (min x.length y.length)).all (fC f x y)&&x.length==y.length):=by
 induction x with
 |nil=>
  intro y b e
  induction y with
  |nil=>cases e;exact ⟨fun j u v h=>by simp at h,rfl⟩
  |cons=>cases e;exact ⟨fun j u v h=>by simp at h,rfl⟩
 |cons u r ih=>
  intro y b e
  induction y with
  |nil=>cases e;exact ⟨fun j u v Z h=>by simp at h,rfl⟩
  |cons v q=>
   split at e
   ·rename_i c hc;split at e
    ·rename_i d hd;cases e;obtain ⟨h1,h2⟩:=ih hd;refine ⟨fun j=>?_,?_⟩
     ·cases j with
      |zero=>rintro _ _ ⟨⟩ ⟨⟩;show _=some ((f u v).getD false);rw[hc];rfl
      |succ j=>exact fun u v h3 h4=>h1 j u v h3 h4
     ·rw[x9,x9,Nat.succ_min_succ,List.range_succ_eq_map,List.all_cons,List.all_map,h2];have:fC f (u::r) (v::q) 0=c:=by show (f u v).getD false=c;rw[hc];rfl
      rw[this,Bool.and_assoc];have e2:(r.length+1==q.length+1)=(r.length==q.length):=by
       rw[Bool.eq_iff_iff,beq_iff_eq,beq_iff_eq];lia
      rw[e2];rfl
    ·cases e
   ·cases e
theorem Gc:∀{l:List (Int×V)}{AE:List (Int×OY)}{k:Int},Eh C Y h l AE ->
 (match Eu k l with
  |some x=>∃v,valueAt AE k=some v∧Bz C Y h x v
  |none=>valueAt AE k=none):=fun {l}=>by
 induction l with
 |nil=>intro AE k e;rw[show AE=[] from e];exact rfl
 |cons p r ih=>
  intro AE k r;obtain ⟨k',x⟩:=p;obtain ⟨v,BL,rfl,r1,r2⟩:=r;rw[nX];by_cases hk:k'=k
  ·subst hk;rw[if_pos rfl];exact ⟨v,by simp[valueAt],r1⟩
  ·rw[if_neg hk];have:=ih (k:=k) r2;have e2:valueAt ((k',v)::BL) k=valueAt BL k:=by simp[valueAt,hk]
   rw[e2];exact this
theorem Eh.keys:∀{l:List (Int×V)}{AE:List (Int×OY)},Eh C Y h l AE->l.map (·.1)=AE.map (·.1):=fun {l}=>by
 induction l with
 |nil=>intro AE e;rw[show AE=[] from e];rfl
 |cons p r ih=>
  intro AE r;obtain ⟨v,BL,e,_,r2⟩:=r;rw[e,x8,x8,ih r2]
theorem Eh.length {l:List (Int×V)}{AE:List (Int×OY)}(r:Eh C Y h l AE):l.length=AE.length:=by
 have:=congrArg List.length r.keys;rwa [wn,wn] at this
theorem wZ {knd:KeyKind C.prog C.w Int}{es:List DictEntry}{k1:List (Int×OY)}(x:Pairs knd es k1):∀{k2:List (Int×OY)},Pairs knd es k2->k1=k2:=by
 induction x with
 |nil=>intro k2 y;cases y;rfl
 |cons a1 a2 a3 ih=>
  intro k2 y;cases y with
  |cons b1 b2 b3=>rw[ih b3,Prod.ext (knd.inj _ _ _ a1 b1) (a2.symm.trans b2)]
theorem pG {knd:KeyKind C.prog C.w Int}{a:O5}{k1 k2:List (Int×OY)}(x:h.DictOf knd a k1)(y:h.DictOf knd a k2):k1=k2:=by
 obtain ⟨o,es,ep,h1,_,h2,_,h3,_⟩:=x;obtain ⟨o',es',ep',B0,_,BU,_,h3',_⟩:=y;cases h1.symm.trans B0;cases h2.symm.trans BU;exact wZ h3 h3'
theorem DictOf.nodup {knd:KeyKind C.prog C.w Int}{a:O5}{AE:List (Int×OY)}(x:h.DictOf knd a AE):(AE.map (·.1)).Nodup:=by
 obtain ⟨_,_,_,_,_,_,_,_,h⟩:=x;exact h
theorem jD {f:V->V->Option Bool}(hf:∀u v r b,f u v=some b->Bz C Y h u r->Bz C Y h v r->b=true){y:List (Int×V)}{AE:List (Int×OY)}(ry:Eh C Y h y AE)
 (hn:(AE.map (·.1)).Nodup):∀{x:List (Int×V)}{ks:List (Int×OY)}{b:Bool},Eh C Y h x ks->(∀k v,(k,v)∈ks->valueAt AE k=some v)->Ml f y x=some b->b=true:=fun {x}=>by
 induction x with
 |nil=>exact fun Z Z e=>(wx e).symm
 |cons p r ih=>
  intro ks b rx hs e;obtain ⟨k,u⟩:=p;obtain ⟨v,ks,rfl,r1,r2⟩:=rx;have h1:=Gc (k:=k) ry;have h1:=(hs k v (.head _)) ▸ h1;refine oS1 (show oe1 (Eu k y) (some false) (fun w=>oe1 (f u w) none fun a=>oe1 (Ml f y r) none fun b=>some (a&&b))=some b from e) (fun w hw e=>?_) fun hw Z=>?_
  ·rw[hw] at h1;obtain ⟨_,⟨⟩,h1⟩:=h1;refine oC1 e fun c hc e=>oC1 e fun d hd e=>?_;cases e;rw[hf _ _ _ _ hc r1 h1,ih r2 (fun k v m=>hs k v (.tail _ m)) hd];rfl
  ·rw[hw] at h1;cases h1
theorem dS {AE:List (Int×OY)}(hn:(AE.map (·.1)).Nodup){k:Int}{v:OY}(m:(k,v)∈AE):valueAt AE k=some v:=by
 induction AE with
 |nil=>cases m
 |cons p r ih=>
  rw[x8,yq] at hn;rcases wk.mp m with rfl|m
  ·simp[valueAt]
  ·have:p.1≠k:=fun q=>hn.1 (q ▸ xr.mpr ⟨_,m,rfl⟩);have e2:valueAt (p::r) k=valueAt r k:=by simp[valueAt,this]
   rw[e2];exact ih hn.2 m
theorem Bv.self {f:V->V->Option Bool}(hf:∀u v r b,f u v=some b->Bz C Y h u r->Bz C Y h v r->b=true):∀{x y:List V}{vs:List OY}{b:Bool},Bv C Y h x vs->Bv C Y h y vs->Ff f x y=some b->b=true:=fun {x}=>by
 induction x with
 |nil=>
  intro y vs b e1 r e;cases y with
  |nil=>exact (wx e).symm
  |cons=>obtain ⟨_,_,e2,_⟩:=r;rw[show vs=[] from e1] at e2;cases e2
 |cons u r ih=>
  intro y vs b r1 r2 e;obtain ⟨a,as,rfl,r1,r3⟩:=r1;cases y with
  |nil=>cases r2
  |cons v q=>
   obtain ⟨c,cs,e2,r2,r4⟩:=r2;cases e2;refine oC1 (show oe1 (f u v) none (fun a=>oe1 (Ff f r q) none fun b=>some (a&&b))=some b from e) fun c hc e=>oC1 e fun d hd e=>?_;cases e;rw[hf _ _ _ _ hc r1 r2,ih r3 r4 hd];rfl
section
variable {f:V->V->Option Bool}{u v:V}{r:OY}{b:Bool}
theorem t8 (I:Bh C Y J s)(hf:∀u v r b,f u v=some b->Bz C Y s.heap u r->Bz C Y s.heap v r->b=true)(e:eqR f J u v=some b)(ru:Bz C Y s.heap u r)(rv:Bz C Y s.heap v r):b=true:=
 oS1 e (fun x hx e=>oC1 e fun y hy e=>by
  obtain ⟨a,vs,k,rfl,h1,h2⟩:=Db I hx ru;obtain ⟨a',BB,k',e',B0,BU⟩:=Db I hy rv;cases e';cases h1.symm.trans B0;rw[if_pos (by rw[beq_iff_eq,← h2.length,← BU.length])] at e;exact h2.self hf BU e) fun Z e=>oC1 e fun x hx e=>oC1 e fun y hy e=>by
  obtain ⟨a,AE,rfl,_,h1,h2⟩:=Ii I hx ru;obtain ⟨a',BL,e',_,B0,BU⟩:=Ii I hy rv;cases e';cases pG h1 B0;rw[if_pos (by rw[beq_iff_eq,h2.length,BU.length])] at e;exact jD hf BU (DictOf.nodup h1) h2 (fun k v m=>dS (DictOf.nodup h1) m) e
theorem tu (I:Bh C Y J s)(hf:∀u v r b,f u v=some b->Bz C Y s.heap u r->Bz C Y s.heap v r->b=true)(e:eq1 f J u v=some b)(ru:Bz C Y s.heap u r)(rv:Bz C Y s.heap v r):b=true:=by
 induction u using V.casesOn with
 |none=>exact oC1 e fun Z Z e=>(wx e).symm
 |bool x=>exact oC1 e fun y hy e=>by rw[Uz hy] at rv;cases e;cases ru.symm.trans rv;exact beq_self_eq_true _
 |int x p=>
  refine Ps e fun y q hy e=>?_;cases e;subst hy;obtain ⟨⟨t,rfl⟩,_⟩:=ru;obtain ⟨⟨t',e'⟩,_⟩:=rv;cases e';exact beq_self_eq_true _
 |str x=>
  refine oC1 e fun y hy e=>?_;rw[aO hy] at rv;cases e;obtain ⟨t,rfl⟩:=ru;obtain ⟨t',e'⟩:=rv;cases e';exact beq_self_eq_true _
 |tup x=>
  refine oC1 e fun y hy e=>?_;rw[Qi hy] at rv;obtain ⟨a,vs,k,rfl,_,h1,h2⟩:=ru;obtain ⟨a',BB,k',e',_,B0,BU⟩:=rv;cases e';cases h1.symm.trans B0;exact h2.self hf BU e
 |_=>exact t8 I hf e ru rv
end
theorem gk (I:Bh C Y J s)(n:Nat):∀(u v:V)(r:OY)(b:Bool),Rc J n u v=some b->Bz C Y s.heap u r->Bz C Y s.heap v r->b=true:=by
 induction n with
 |zero=>exact fun Z Z Z Z e=>nn e
 |succ n ih=>exact fun u v r b e ru rv=>tu I ih e ru rv
theorem iF {p p':Program}{w w':World}{es:List DictEntry}{ks:List (Int×OY)}(r:Pairs (intKind p w) es ks):Pairs (intKind p' w') es ks:=by
 induction r with
 |nil=>exact .nil
 |cons a b _ ih=>exact .cons a b ih
theorem Ey {p p':Program}{w w':World}{a:O5}{ks:List (Int×OY)}(r:h.DictOf (intKind p w) a ks):h.DictOf (intKind p' w') a ks:=by
 obtain ⟨o,es,ep,h1,h2,h3,h4,h5,h6⟩:=r;exact ⟨o,es,ep,h1,h2,h3,h4,iF h5,h6⟩
theorem Ll {a:O5}{vs:Array OY}{k:Nat}(x:h.get? a=some (iP vs k)):h.IsList a vs:=⟨_,x,rfl,k,rfl⟩
theorem nV {a:O5}{vs:Array OY}{k:Nat}(x:h.get? a=some (yI vs k)):h.IsTuple a vs:=⟨_,x,rfl,k,rfl⟩
theorem Bv.getA {l:List V}{vs:Array OY}{i:Nat}(r:Bv C Y h l vs.toList)(hi:i<vs.size):∃x,l[i]?=some x∧Bz C Y h x vs[i]:=by
 have hl:=r.length;rw[xq] at hl;obtain ⟨x,hx⟩:∃x,l[i]?=some x:=⟨_,x7 (hl ▸ hi)⟩;obtain ⟨v,hv,rv⟩:=r.get hx;refine ⟨x,hx,?_⟩;rw[xy,Aaa hi] at hv;cases hv;exact rv
theorem oJ {A:O8}{f:V->V->Option Bool}(hf:∀u v ru rv b,f u v=some b->Bz C Y s.heap u ru->Bz C Y s.heap v rv->EqAt A s ru rv b){y:List (Int×V)}{kb:List (Int×OY)}
 (ry:Eh C Y s.heap y kb):∀{x:List (Int×V)}{ka:List (Int×OY)}{b:Bool},Eh C Y s.heap x ka->Ml f y x=some b->KeqHits A s kb ka b:=by
 intro X
 induction X with
 |nil=>
  intro Z b e h;rw[e];cases h;exact .nil
 |cons X r ih=>
  obtain ⟨k,u⟩:=X;intro Z b Y2 e;obtain ⟨v,ks,e1,r1,r2⟩:=Y2;subst e1;have h1:=Gc (k:=k) ry;split at e
  ·rename_i w hw;rw[hw] at h1;obtain ⟨v',DL,h1⟩:=h1;split at e
   ·rename_i c hc;split at e
    ·rename_i d hd;cases e;exact .hit DL (hf _ _ _ _ _ hc r1 h1) (ih r2 hd)
    ·cases e
   ·cases e
  ·rename_i hw;rw[hw] at h1;cases e;exact .miss h1
section
variable {A:O8}{f:V->V->Option Bool}{u v:V}{ru rv:OY}{b:Bool}{x y:List V}
def pu (A:O8) (s:OZ) (ru rv:OY) (b:Bool):Prop:=RcAt A s ru rv b∧RcNeAt A s ru rv (!b)
def xA (ru rv:OY):Prop:=∃a a',ru = .ref a∧rv = .ref a'
theorem elems {vs BB:Array OY}(IH:∀x y rx ry c,f x y=some c->Bz C Y s.heap x rx->Bz C Y s.heap y ry->EqAt A.in1 s rx ry c)(h2:Bv C Y s.heap x vs.toList)(BU:Bv C Y s.heap y BB.toList)
 (p:∀j u v,x[j]?=some u->y[j]?=some v->f u v=some (fC f x y j)) (j:Nat) (j1:j<vs.size) (j2:j<BB.size):EqAt A.in1 s vs[j] BB[j] (fC f x y j):=by
 obtain ⟨x,hx,rx⟩:=h2.getA j1;obtain ⟨y,hy,ry⟩:=BU.getA j2;exact IH x y _ _ _ (p j x y hx hy) rx ry
theorem pf (IH:∀x y rx ry c,f x y=some c->Bz C Y s.heap x rx->Bz C Y s.heap y ry->EqAt A.in1 s rx ry c)(hA:A.units<cLine)(xu:Bz C Y s.heap (.tup x) ru)(xv:Bz C Y s.heap (.tup y) rv)(e:Ff f x y=some b):pu A s ru rv b∧xA ru rv:=by
 obtain ⟨a,vs,k,rfl,o1,h1,h2⟩:=xu;obtain ⟨a',BB,k',rfl,o2,B0,BU⟩:=xv;obtain ⟨p,q⟩:=bP e;have l1:=h2.length;have l2:=BU.length;rw[xq] at l1 l2;rw[← l1,← l2] at q;subst q;exact ⟨⟨.tuples (nV h1) (nV B0) hA (elems IH h2 BU p),.tuples (nV h1) (nV B0) hA (elems IH h2 BU p)⟩,a,a',rfl,rfl⟩
theorem oa (I:Bh C Y J s)(IH:∀x y rx ry c,f x y=some c->Bz C Y s.heap x rx->Bz C Y s.heap y ry->EqAt A.in1 s rx ry c)(hA:A.units<cLine)(xu:Bz C Y s.heap u ru)(xv:Bz C Y s.heap v rv)(hx:Bu J u=some x)(hy:Bu J v=some y)
 (e:(if x.length==y.length then Ff f x y else some false)=some b):pu A s ru rv b∧xA ru rv:=by
 obtain ⟨a,vs,k,rfl,h1,h2⟩:=Db I hx xu;obtain ⟨a',BB,k',rfl,B0,BU⟩:=Db I hy xv;have l1:=h2.length;have l2:=BU.length;rw[xq] at l1 l2;refine ⟨?_,a,a',rfl,rfl⟩;split at e
 ·rename_i hl;rw[beq_iff_eq,← l1,← l2] at hl;obtain ⟨p,q⟩:=bP e;rw[← l1,← l2,hl,Nat.min_self,beq_self_eq_true,Bool.and_true] at q;subst q;rw[← hl];exact ⟨.lists (Ll h1) (Ll B0) hl hA (elems IH h2 BU p),.lists (Ll h1) (Ll B0) hl hA (elems IH h2 BU p)⟩
 ·rename_i hl;cases e;have AX:(vs.size != BB.size)=true:=by
   rw[bne_iff_ne,l1,l2];exact fun q=>hl (beq_iff_eq.mpr q)
  exact ⟨.lists_lengths (Ll h1) (Ll B0) AX hA,.lists_lengths (Ll h1) (Ll B0) AX hA⟩
theorem ng (I:Bh C Y J s)(IH:∀x y rx ry c,f x y=some c->Bz C Y s.heap x rx->Bz C Y s.heap y ry->EqAt A.in1 s rx ry c)(hA:A.units<cLine)(xu:Bz C Y s.heap u ru)(xv:Bz C Y s.heap v rv){x y:List (Int×V)}(hx:Kt J u=some x)(hy:Kt J v=some y)
 (e:(if x.length==y.length then Ml f y x else some false)=some b):pu A s ru rv b∧xA ru rv:=by
 obtain ⟨a,AE,rfl,ha,h1,h2⟩:=Ii I hx xu;obtain ⟨a',BL,rfl,GY,B0,BU⟩:=Ii I hy xv;refine ⟨?_,a,a',rfl,rfl⟩;have ha:=beq_eq_false_iff_ne.mpr ha;have GY:=beq_eq_false_iff_ne.mpr GY;split at e
 ·rename_i hl;have key:∀c,(((AE.length==BL.length)&&c):Bool)=c:=fun c=>by rw[← h2.length,← BU.length,hl,Bool.true_and]
  exact ⟨fun prog w E Q hq=>keq_eq (knd:=intKind prog w) ha GY (Ey h1) (Ey B0) hA (fun Z=>oJ IH BU h2 e) (by rw[key];exact hq),
   fun prog w E Q hq=>keq_ne (knd:=intKind prog w) ha GY (Ey h1) (Ey B0) hA (fun Z=>oJ IH BU h2 e) (by rw[key];exact hq)⟩
 ·rename_i hl;cases e;have no:∀{P:Prop},AE.length=BL.length->P:=fun q=>absurd (by rw[beq_iff_eq,h2.length,BU.length];exact q) hl;exact ⟨fun prog w E Q hq=>keq_eq (r:=false) (knd:=intKind prog w) ha GY (Ey h1) (Ey B0) hA no (by rw[Bool.and_false];exact hq),
   fun prog w E Q hq=>keq_ne (r:=false) (knd:=intKind prog w) ha GY (Ey h1) (Ey B0) hA no (by rw[Bool.and_false];exact hq)⟩
theorem rcR (I:Bh C Y J s)(IH:∀x y rx ry c,f x y=some c->Bz C Y s.heap x rx->Bz C Y s.heap y ry->EqAt A.in1 s rx ry c)(hA:A.units<cLine)(xu:Bz C Y s.heap u ru)(xv:Bz C Y s.heap v rv)(e:eqR f J u v=some b):pu A s ru rv b∧xA ru rv:=
 oS1 e (fun x hx e=>oC1 e fun y hy e=>oa I IH hA xu xv hx hy e) fun Z e=>oC1 e fun x hx e=>oC1 e fun y hy e=>ng I IH hA xu xv hx hy e
theorem rc1 (I:Bh C Y J s)(IH:∀x y rx ry c,f x y=some c->Bz C Y s.heap x rx->Bz C Y s.heap y ry->EqAt A.in1 s rx ry c)(hA:A.units<cLine)(xu:Bz C Y s.heap u ru)(xv:Bz C Y s.heap v rv)(e:eq1 f J u v=some b):pu A s ru rv b∧(EqAt A s ru rv b∨xA ru rv):=by
 induction u using V.casesOn with
 |none=>exact oC1 e fun Z hy e=>by rw[Wv hy] at xv;cases e;cases xu;cases xv;exact ⟨⟨.none_none,.none_none⟩,.inl (.same _)⟩
 |bool x=>exact oC1 e fun y hy e=>by rw[Uz hy] at xv;cases e;cases xu;cases xv;exact ⟨⟨.bool_bool _ _,.bool_bool _ _⟩,.inl (.bool_bool _ _)⟩
 |int x p=>
  refine Ps e fun y q hy e=>?_;cases e;subst hy;obtain ⟨⟨t,rfl⟩,_⟩:=xu;obtain ⟨⟨t',rfl⟩,_⟩:=xv;exact ⟨⟨.int_int _ _ _ _,.int_int _ _ _ _⟩,.inl (.int_int _ _ _ _)⟩
 |str x=>
  refine oC1 e fun y hy e=>?_;rw[aO hy] at xv;cases e;obtain ⟨t,rfl⟩:=xu;obtain ⟨t',rfl⟩:=xv;exact ⟨⟨.str_str _ _ _ _,.str_str _ _ _ _⟩,.inl (.str_str _ _ _ _)⟩
 |tup x=>
  refine oC1 e fun y hy e=>?_;rw[Qi hy] at xv;exact (by obtain ⟨h,k⟩:=pf IH hA xu xv e;exact ⟨h,.inr k⟩)
 |_=>exact (by obtain ⟨h,k⟩:=rcR I IH hA xu xv e;exact ⟨h,.inr k⟩)
end
theorem kU (I:Bh C Y J s)(n:Nat):∀(A:O8)(u v:V)(ru rv:OY)(b:Bool),A.units+n<cLine->Rc J n u v=some b->Bz C Y s.heap u ru->Bz C Y s.heap v rv->pu A s ru rv b∧EqAt A s ru rv b:=by
 induction n with
 |zero=>exact fun Z Z Z Z Z Z Z e=>nn e
 |succ n ih=>
  intro A u v ru rv b hu e xu xv;obtain ⟨h,k⟩:=rc1 I (fun x y rx ry c hc r1 r2=>(ih A.in1 x y rx ry c (xe (yr (Nat.succ_add ..)) hu) hc r1 r2).2) (xe (y9 ..) hu) xu xv e;refine ⟨h,k.elim id fun k=>?_⟩;obtain ⟨a,a',rfl,rfl⟩:=k;by_cases q:a=a'
  ·subst q;obtain rfl:=gk I (n+1) u v _ b e xu xv;exact .same _
  ·exact .of_refs q h.1
section
open AutoSeq1 (wpAny_loadPart')
open MeetsSeq MeetsSeq2 MeetsSeq3
def Vj:List V->List OY->Prop
 |[],vs=>vs=[]
 |.int i _::r,vs=>∃t BB,vs = .int i t::BB∧Vj r BB
 |_::r,vs=>∃v BB,vs=v::BB∧Vj r BB
theorem Bv.ints:∀{l:List V}{vs:List OY},Bv C Y h l vs->Vj l vs:=fun {l}=>by
 induction l with
 |nil=>exact fun e=>e
 |cons x r ih=>
  intro vs q;obtain ⟨v,vs,rfl,r1,r2⟩:=q
  induction x using V.casesOn with
  |int i sm=>obtain ⟨⟨t,rfl⟩,_⟩:=r1;exact ⟨t,vs,rfl,ih r2⟩
  |_=>exact ⟨v,vs,rfl,ih r2⟩
set_option maxHeartbeats 2000000 in
set_option tactic.hygienic true in
theorem gT (l b:O5)(items CA:Array OY)(n n2:Nat)(dd dd2:Option O5)(sl sl2:Array (Option OY))(u v:List V)(r:Bool)(e:wj u v=some r)(iu:Vj u items.toList)(iv:Vj v CA.toList) :
 Meets (Builtin.«tuple.__lt__» ⟨[.ref l,.ref b],[]⟩)
  (fun Z R s=>s.heap.get? l=some { cls:=.type "tuple",dict:=dd,data:=.seq items n,slots:=sl }∧s.heap.get? b=some { cls:=.type "tuple",dict:=dd2,data:=.seq CA n2,slots:=sl2 } ∧
   R (.ok (.ret (.bool r))) s):=
 .of_wp fun prog w A R s h=>by
  obtain ⟨hp,g,d,tk,os⟩:=s;obtain ⟨hl,hb,h⟩:=h;have f2:=AutoSeq1.sub_tuple_tuple
  wp_walk using wpAny_loadPart' hl,wpAny_loadPart' hb,wpAny_forIn_list _ (fun AM b s'=>b.1=none∧s'=⟨hp,g,d,tk,os⟩∧∃u v vs ws,AM=vs.zip ws∧Vj u vs∧Vj v ws∧wj u v=some r ∧
   (decide (vs.length<ws.length))=decide (items.size<CA.size)) _
  case turn=>
   rintro ⟨y,x⟩ AM b s' ⟨CJ,rfl,u,v,vs,ws,hz,hu,hv,hr,hs⟩;cases u with
   |nil=>cases hu;cases hz
   |cons p u=>
    cases v with
    |nil=>cases hv;rw[List.zip_nil_right] at hz;cases hz
    |cons q v=>
     refine Ps hr fun a Z hp hr=>Ps hr fun c Z hq hr=>?_
     ·subst hp;subst hq;obtain ⟨t1,vs,rfl,hu⟩:=hu;obtain ⟨t2,ws,rfl,hv⟩:=hv;rw[Aab] at hz;cases hz;refine Aa (EqAt.int_int a t1 c t2 prog w _ _ ?_);split at hr
      ·rename_i L8;rw[L8]
       wp_walk
       refine ⟨rfl,rfl,u,v,vs,ws,rfl,hu,hv,hr,?_⟩;rw[← hs,x9,x9,Bool.eq_iff_iff,decide_eq_true_iff,decide_eq_true_iff];exact ⟨Nat.succ_lt_succ,Nat.lt_of_succ_lt_succ⟩
      ·rename_i L8;cases hr;rw[show (a==c)=false by simpa using L8];simp only[Bool.not_false,if_true];refine Aa (wpAny_rule (Aa (m:=richCompare .Lt (.int a t1) (.int c t2)) (P.lt_int (a:=a) (b:=c) (t:=t1) (u:=t2) ?_)))
       wp_walk
       exact ⟨_,rfl,h⟩
  case fin=>
   rintro ⟨b1,b2⟩ s' ⟨CJ,rfl,u,v,vs,ws,hz,hu,hv,hr,hs⟩;simp only at CJ;subst CJ;have IA:r=decide (items.size<CA.size):=by
    rw[← hs];cases u with
    |nil=>
     cases hu;cases v with
     |nil=>cases hv;cases hr;rfl
     |cons q v=>
      have:∃a b,ws=a::b:=by cases q<;>obtain ⟨_,_,e,_⟩:=hv<;>exact ⟨_,_,e⟩
      obtain ⟨_,_,rfl⟩:=this;cases hr;simp
    |cons p u=>
     have:∃a b,vs=a::b:=by cases p<;>obtain ⟨_,_,e,_⟩:=hu<;>exact ⟨_,_,e⟩
     obtain ⟨_,_,rfl⟩:=this;cases v with
     |nil=>cases hv;cases hr;simp
     |cons q v=>
      have:∃a b,ws=a::b:=by cases q<;>obtain ⟨_,_,e,_⟩:=hv<;>exact ⟨_,_,e⟩
      obtain ⟨_,_,rfl⟩:=this;cases hz
   wp_walk
   refine ⟨_,rfl,?_⟩;rw[IA] at h;simpa [Builtin.Tuple.tupleCompareSizes] using h
  case h=>
   exact ⟨rfl,rfl,u,v,_,_,rfl,iu,iv,e,by simp⟩
theorem ji {A:O8}{Q:OY->OZ->Prop}{E:OY->OZ->Prop}{a b:V}{va vb:OY}{r:Bool}(hu:A.units<cLine)(ra:Bz C Y s.heap a va)(rb:Bz C Y s.heap b vb)(e:Mf a b=some r)(h:Q (.bool r) s) :
 PD C.md A (compareOp .Lt va vb) Q E s:=by
 induction a using V.casesOn with
 |int x _=>
  refine Ps e fun y Z hy e=>?_;rw[hy] at rb;obtain ⟨⟨t,rfl⟩,-⟩:=ra;obtain ⟨⟨u,rfl⟩,-⟩:=rb;exact P.lt_int (by rw[wx e];exact h)
 |tup x=>
  refine oC1 e fun y hy e=>?_;rw[Qi hy] at rb;obtain ⟨p,vs,m,rfl,op,gp,rp⟩:=ra;obtain ⟨q,ws,m',rfl,oq,gq,rq⟩:=rb;exact richCompare_meets_room (op:=.Lt) ⟨_,gp,rfl⟩ ⟨_,gq,rfl⟩ F.slot_tuple_lt F.entry_tuple_lt (F.args_tuple_lt_2 _ _) (gT p q vs ws m m' _ _ _ _ _ _ r e rp.ints rq.ints)
   ⟨gp,gq,show OY.bool r≠OY.notImplemented∧Q (.bool r) s from ⟨(fun x=>nomatch x),h⟩⟩ hu
 |_=>exact nn e
theorem Hf:∀{l:List V}{q:List Int}{vs:List OY},Fk l=some q->Bv C Y h l vs->IntsAre vs q:=fun {l}=>by
 induction l with
 |nil=>intro q vs e r;cases e;rw[r];exact .nil
 |cons x l ih=>
  intro q vs e r;obtain ⟨v,vs,rfl,r1,r2⟩:=r;refine Ei e fun i q h1 h2 e=>?_;refine lV h1 fun p hx=>?_;rw[hx] at r1;obtain ⟨⟨t,rfl⟩,_⟩:=r1;rw[e];exact .cons _ _ (ih h2 r2)
theorem Sx.lookup {C:Cx}{Y:List O5}{h:O9}:∀{l:List (O7×V)}{AE:List (O7×OY)}{k:O7},Sx C Y h l AE ->
 (match Eu k l with
  |some x=>∃v,valueAt AE k=some v∧Bz C Y h x v
  |none=>valueAt AE k=none):=fun {l}=>by
 induction l with
 |nil=>intro AE k e;rw[show AE=[] from e];exact rfl
 |cons p r ih=>
  intro AE k r;obtain ⟨k',x⟩:=p;obtain ⟨v,BL,rfl,r1,r2⟩:=r;rw[nX];by_cases hk:k'=k
  ·subst hk;rw[if_pos rfl];exact ⟨v,by simp[valueAt],r1⟩
  ·rw[if_neg hk];have:=ih (k:=k) r2;have e2:valueAt ((k',v)::BL) k=valueAt BL k:=by simp[valueAt,hk]
   rw[e2];exact this
set_option tactic.hygienic true in
theorem tN {l:List (Int×V)}{AE:List (Int×OY)}{k:Int}(r:Eh C Y h l AE):(Eu k l).isSome=(valueAt AE k).isSome:=by
 have:=Gc (k:=k) r;split at this
 ·rename_i x hx;obtain ⟨v,hv,_⟩:=this;rw[hx,hv];rfl
 ·rename_i hx;rw[hx,this];rfl
set_option tactic.hygienic true in
theorem wM {l:List (O7×V)}{AE:List (O7×OY)}{k:O7}(r:Sx C Y h l AE):(Eu k l).isSome=(valueAt AE k).isSome:=by
 have:=Sx.lookup (k:=k) r;split at this
 ·rename_i x hx;obtain ⟨v,hv,_⟩:=this;rw[hx,hv];rfl
 ·rename_i hx;rw[hx,this];rfl
theorem ir (I:Bh C Y J s){A:O8}{E:OY->OZ->Prop}{a b:V}{va vb:OY}{r:Bool}(ra:Bz C Y s.heap a va)(rb:Bz C Y s.heap b vb)(e:inV J a b=some r) :
 (∀Q:OY->OZ->Prop,(∀tk,Q (.bool r) { s with toks:=tk })->PD C.md A (compareOp .In va vb) Q E s)∧(∀Q:OY->OZ->Prop,(∀tk,Q (.bool !r) { s with toks:=tk })->PD C.md A (compareOp .NotIn va vb) Q E s):=by
 induction a using V.casesOn with
 |str k=>
  refine oC1 e fun l hl e=>?_;rw[lT hl] at rb;cases e;obtain ⟨t,rfl⟩:=ra;obtain ⟨d,AE,rfl,_,hd,hD,hr⟩:=rb;rw[wM hr];exact ⟨fun Q h=>wpAny_in_of (knd:=strKind C.prog C.w) (strKind_is _ _ _ _) (beq_eq_false_iff_ne.mpr hd) hD.mapOf (h _),fun Q h=>wpAny_notIn_of (knd:=strKind C.prog C.w) (strKind_is _ _ _ _) (beq_eq_false_iff_ne.mpr hd) hD.mapOf (h _)⟩
 |int k _=>
  obtain ⟨⟨t,rfl⟩,-⟩:=ra;refine oS1 e (fun l hl e=>?_) fun Z e=>oS1 e (fun l hl e=>oC1 e fun q hq e=>?_) fun Z e=>oC1 e fun l hl e=>oC1 e fun q hq e=>?_
  ·cases e;obtain ⟨d,AE,rfl,hd,hD,hr⟩:=Ii I hl rb;rw[tN hr];exact ⟨fun Q h=>wpAny_in_of (knd:=intKind C.prog C.w) (intKind_is _ _ _ _) (beq_eq_false_iff_ne.mpr hd) hD.mapOf (h _),fun Q h=>wpAny_notIn_of (knd:=intKind C.prog C.w) (intKind_is _ _ _ _) (beq_eq_false_iff_ne.mpr hd) hD.mapOf (h _)⟩
  ·cases e;obtain ⟨p,vs,m,rfl,gp,rp⟩:=Db I hl rb;have h1:=Hf hq rp;have h2:s.heap.IsList p vs.toList.toArray:=by rw[Array.toArray_toList];exact Ll gp
   exact ⟨fun Q h=>in_list_ints h2 h1 (h s.toks),fun Q h=>notin_list_ints h2 h1 (h s.toks)⟩
  ·cases e;rw[Qi hl] at rb;obtain ⟨p,vs,m,rfl,op,gp,rp⟩:=rb;have h1:=Hf hq rp;exact ⟨fun Q h=>in_tuple_ints (nV gp) h1 (h s.toks),fun Q h=>notin_tuple_ints (nV gp) h1 (h s.toks)⟩
 |_=>exact nn e
theorem tO (a b:Bool):(OY.bool a==OY.bool b)=(a==b):=by cases a<;>cases b<;>rfl
theorem j7 {a b:V}{va vb:OY}{c:Bool}(ra:Bz C Y h a va)(rb:Bz C Y h b vb)(e:wE a b=some c):plainIs va vb=true∧c=(va==vb):=by
 have N:∀{c':Bool},(oe1 (Sp b) none fun Z=>some c')=some c->vb = .none∧c=c':=fun e=>oC1 e fun Z hy e=>by rw[Wv hy] at rb;exact ⟨rb,(wx e).symm⟩
 induction a using V.casesOn with
 |bool x=>exact oC1 e fun y hy e=>by rw[Uz hy] at rb;cases ra;cases rb;exact ⟨rfl,by rw[tO];exact (wx e).symm⟩
 |none=>obtain ⟨rfl,rfl⟩:=N e;cases ra;exact ⟨rfl,rfl⟩
 |int x _=>obtain ⟨rfl,rfl⟩:=N e;obtain ⟨⟨t,rfl⟩,-⟩:=ra;exact ⟨rfl,rfl⟩
 |clo _ _ _ _=>obtain ⟨rfl,rfl⟩:=N e;obtain ⟨x,rfl,-⟩:=ra;exact ⟨rfl,rfl⟩
 |fn x=>obtain ⟨rfl,rfl⟩:=N e;obtain ⟨rfl,-⟩:=ra;exact ⟨rfl,rfl⟩
 |_=>exact nn e
theorem mh {o:Option Bool}{r:Bool}(e:o.map (!·)=some r):∃c,o=some c∧r = !c:=by
 cases o with
 |none=>cases e
 |some c=>exact ⟨c,rfl,(wx e).symm⟩
theorem uL (I:Bh C Y J s){op:CmpOp}{a b:V}{va vb:OY}{r:Bool}(ra:Bz C Y s.heap a va)(rb:Bz C Y s.heap b vb)(e:Dx J op a b=some r) :
 At C n Y s (compareOp op va vb) J (RV C (.bool r)):=by
 intro A Q E R k;have k1:Q (.bool r) s:=k _ _ _ (.refl I) rfl;have hu:A.units+8<cLine:=aC8 R.units64 (by decide);have hu0:A.units<cLine:=R.units
 induction op using CmpOp.casesOn with
 |Eq=>exact (kU I 8 A a b va vb r hu e ra rb).1.1 C.prog C.w E Q k1
 |NotEq=>
  obtain ⟨c,h,rfl⟩:=mh e;exact (kU I 8 A a b va vb c hu h ra rb).1.2 C.prog C.w E Q k1
 |Lt=>exact ji hu0 ra rb e k1
 |Gt=>
  refine Ps e fun x Z hx e=>Ps e fun y Z hy e=>?_;rw[hx] at ra;rw[hy] at rb;obtain ⟨⟨t,rfl⟩,-⟩:=ra;obtain ⟨⟨u,rfl⟩,-⟩:=rb;exact P.gt_int (by rw[wx e];exact k1)
 |GtE=>
  refine Ps e fun x Z hx e=>Ps e fun y Z hy e=>?_;rw[hx] at ra;rw[hy] at rb;obtain ⟨⟨t,rfl⟩,-⟩:=ra;obtain ⟨⟨u,rfl⟩,-⟩:=rb;exact P.ge_int (by rw[wx e];exact k1)
 |Is=>
  obtain ⟨h1,rfl⟩:=j7 ra rb e;exact wpAny_is_plain h1 k1
 |IsNot=>
  obtain ⟨c,h,rfl⟩:=mh e;obtain ⟨h1,rfl⟩:=j7 ra rb h;exact wpAny_isNot_plain h1 k1
 |In=>exact (ir I ra rb e).1 Q fun tk=>k _ _ _ (.tok I tk) rfl
 |NotIn=>
  obtain ⟨c,h,rfl⟩:=mh e;exact (ir I ra rb h).2 Q fun tk=>k _ _ _ (.tok I tk) rfl
 |LtE=>exact nn e
theorem bY (I:Bh C Y J s){a:V}{va:OY}{r:Bool}(ra:Bz C Y s.heap a va)(e:On J a=some r):At C n Y s (truthy va) J (fun Z Z x=>x=r):=by
 intro A Q E R k;have k1:Q r s:=k _ _ _ (.refl I) rfl;have G:tG J a=some r->PD C.md A (truthy va) Q E s:=fun e=>oC1 e fun l hl e=>by
  split at e
  ·rename_i hz;cases e;obtain ⟨p,vs,m,rfl,gp,rp⟩:=Db I hl ra;have h1:=rp.length;rw[xq] at h1;have hz:=xm hz;refine wpAny_truthy_list (Ll gp) (by rw[h1];lia) ?_;have:vs.isEmpty=l.isEmpty:=by
    rw[Bool.eq_iff_iff,Array.isEmpty_iff_size_eq_zero,List.isEmpty_iff_length_eq_zero,h1]
   rw[this];exact k _ _ _ (.tok I _) rfl
  ·cases e
 induction a using V.casesOn with
 |none=>cases e;cases ra;exact truthy_none k1
 |bool=>cases e;cases ra;exact wpAny_truthy_bool k1
 |int=>cases e;obtain ⟨⟨t,rfl⟩,-⟩:=ra;exact PyProof.Rows.truthy_int k1
 |_=>exact G e
theorem vl (I:Bh C Y J s){op:UnaryOp}{a v:V}{va:OY}(ra:Bz C Y s.heap a va)(e:wi op a=some v) :
 At C n Y s (unaryOp op va) J (RV C v):=by
 intro A Q E R k
 induction op using UnaryOp.casesOn with
 |USub=>induction a using V.casesOn with
  |int x _=>
   cases e;obtain ⟨⟨t,rfl⟩,hp⟩:=ra;exact PyProof.Rows.neg_int (k _ _ _ (.tok I _) (Bz.int_t fun h=>by rw[Int.natAbs_neg];exact hp h))
  |_=>exact nn e
 |_=>exact nn e
end
def gz (C:Cx) (Y:List O5) (h:O9):Fl->Flow->Prop
 |.next,f=>f = .next
 |.brk,f=>f = .brk
 |.cont,f=>f = .cont
 |.ret v,f=>∃x,f = .ret x∧Bz C Y h v x
abbrev RF (C:Cx) (f:Fl):List O5->O9->Flow->Prop:=fun Y h x=>gz C Y h f x
abbrev RU:List O5->O9->Unit->Prop:=fun Z Z Z=>True
structure Ce (g:Gl)(L:Lv)(n:Nat):Prop where
 ev:∀{C:Cx}{e:As}{AA:Env}{Y:List O5}{J Av:Aj}{s:OZ}{x:O6}{v:V},Wd C g->Bh C Y J s->Ba C Y e AA->L.ev e x J=some (v,Av)->At C n Y s (eval x AA) Av (RV C v)
 ts:∀{C:Cx}{e:As}{AA:Env}{Y:List O5}{J Av:Aj}{s:OZ}{x:O6}{b:Bool},Wd C g->Bh C Y J s->Ba C Y e AA->L.ts e x J=some (b,Av)->At C n Y s (isTrue x AA (eval x AA)) Av (fun Z Z r=>r=b)
 ex:∀{C:Cx}{e:As}{AA:Env}{Y:List O5}{J Av:Aj}{s:OZ}{x:PC}{f:Fl},Wd C g->Bh C Y J s->Ba C Y e AA->L.ex e x J=some (f,Av)->At C n Y s (exec x AA) Av (RF C f)
 keep:∀{C:Cx}{Y:List O5}{J:Aj}{s:OZ}{f:V}{args:List V}{AJ:List (O7×V)}{r:V×Aj}{vf:OY},Wd C g->Bh C Y J s->L.call f args AJ J=some r->Bz C Y s.heap f vf ->
  ∃k,(k=Keeper.frame∨k=Keeper.machine∨k=Keeper.boundFrame)∧Looks C.md s.heap (keeperOf vf) k
 call:∀{C:Cx}{Y:List O5}{J Av:Aj}{s:OZ}{f:V}{args:List V}{AJ:List (O7×V)}{v:V}{vf:OY}{AR vkw:List OY},Wd C g->Bh C Y J s->L.call f args AJ J=some (v,Av) ->
  Bz C Y s.heap f vf->Bv C Y s.heap args AR->Bv C Y s.heap (AJ.map (·.2)) vkw->At C n Y s (call vf AR ((AJ.map (·.1)).zip vkw)) Av (RV C v)
theorem Ti (W:Wd C g)(I:Bh C Y J s)(X:Ba C Y e AA){x:O7}{p:Pos}{v:V}(h:Dc g e x J=some v):At C n Y s (eval (.Name x p) AA) J (RV C v):=fun A Q E r k=>
 wpAny_Name (nQ W I X h A Q E r k) (by
  cases hk:e.kind x with
  |none=>exact nn ((congrArg (Ss g e x J) hk).symm.trans h)
  |some kd=>exact X.noDebug hk)
theorem mx (L':Ce g L n)(W:Wd C g)(I:Bh C Y J s)(X:Ba C Y e AA){l r:O6}{op:Operator}{p:Pos}{a b v:V}(h1:L.ev e l J=some (a,Ab))(h2:L.ev e r Ab=some (b,Ai))(h3:Nz Ai op a b=some (v,Av)) :
 At C n Y s (eval (.BinOp l op r p) AA) Av (RV C v):=fun A Q E R k=>
 wpAny_BinOp (L'.ev W I X h1 A _ E R fun An Ao va Ay ra=>L'.ev W Ay.inv (X.go Ay) h2 A _ E R fun Bl Be vb Bm rb=>
  oj Bm.inv (ra.mv Bm.mv) rb h3 A _ E R fun Fy Cf v Ft rv=>k _ _ _ ((Ay.trans Bm).trans Ft) rv)
theorem ta (L':Ce g L n)(W:Wd C g)(I:Bh C Y J s)(X:Ba C Y e AA){l:O6}{op:UnaryOp}{p:Pos}{a v:V}(h1:L.ev e l J=some (a,Ab))(h3:wi op a=some v) :
 At C n Y s (eval (.UnaryOp op l p) AA) Ab (RV C v):=fun A Q E R k=>
 wpAny_UnaryOp (L'.ev W I X h1 A _ E R fun An Ao va Ay ra=>vl Ay.inv ra h3 A _ E R fun Fy Cf v Ft rv=>k _ _ _ (Ay.trans Ft) rv)
theorem eK {op:CmpOp}{r:O6}(h:noSet r=true):behindInMarks op r=false:=by
 cases r<;>first|rfl|cases h
theorem og (L':Ce g L n)(W:Wd C g)(I:Bh C Y J s)(X:Ba C Y e AA){l r:O6}{op:CmpOp}{p:Pos}{a b:V}{v:Bool}(hs:noSet r=true)(h1:L.ev e l J=some (a,Ab))(h2:L.ev e r Ab=some (b,Ai))(h3:Dx Ai op a b=some v) :
 At C n Y s (eval (.Compare l [op] [r] p) AA) Ai (RV C (.bool v)):=fun A Q E R k=>
 wpAny_Compare1 (L'.ev W I X h1 A _ E R fun An Ao va Ay ra=>L'.ev W Ay.inv (X.go Ay) h2 A _ E R fun Bl Be vb Bm rb=>
  uL Bm.inv (ra.mv Bm.mv) rb h3 A _ E R fun Fy Cf v Ft rv=>k _ _ _ ((Ay.trans Bm).trans Ft) rv) (eK hs)
theorem pg (L':Ce g L n)(W:Wd C g)(I:Bh C Y J s)(X:Ba C Y e AA){l r:O6}{op:CmpOp}{p:Pos}{w:Sem OY}{a b:V}{v:Bool}(hs:noSet r=true)(h1:L.ev e l J=some (a,Ab))(h2:L.ev e r Ab=some (b,Ai))(h3:Dx Ai op a b=some v) :
 At C n Y s (isTrue (.Compare l [op] [r] p) AA w) Ai (fun Z Z r=>r=v):=fun A Q E R k=>
 wpAny_isTrue_Compare1 (L'.ev W I X h1 A _ E R fun An Ao va Ay ra=>L'.ev W Ay.inv (X.go Ay) h2 A _ E R fun Bl Be vb Bm rb=>
  uL Bm.inv (ra.mv Bm.mv) rb h3 A _ E R fun Fy Cf c Ft rv=>by
   subst rv;exact wpAny_truthy_bool (k _ _ _ ((Ay.trans Bm).trans Ft) rfl)) (eK hs)
theorem xR (L':Ce g L n)(W:Wd C g)(I:Bh C Y J s)(X:Ba C Y e AA){t a b:O6}{p:Pos}{c:Bool}{v:V}(h1:L.ts e t J=some (c,Ab))(h2:L.ev e (if c then a else b) Ab=some (v,Av)) :
 At C n Y s (eval (.IfExp t a b p) AA) Av (RV C v):=fun A Q E R k=>
 wpAny_IfExp (L'.ts W I X h1 A _ E R fun An Ao r Ay hr=>by
  subst hr;cases r with
  |true=>exact L'.ev W Ay.inv (X.go Ay) h2 A _ E R fun Bl Be v Bm rv=>k _ _ _ (Ay.trans Bm) rv
  |false=>exact L'.ev W Ay.inv (X.go Ay) h2 A _ E R fun Bl Be v Bm rv=>k _ _ _ (Ay.trans Bm) rv)
theorem Ef {x:O6}{r:List O6}(h:noStar x=true):starEach (x::r) AA=(false,eval x AA)::starEach r AA:=by
 cases x<;>first|rfl|cases h
theorem Lk (L':Ce g L n)(W:Wd C g){p:Pos}:∀{es:List O6}{Y:List O5}{J Av:Aj}{s:OZ}{vs:List V},Bh C Y J s->Ba C Y e AA->Kb L e es J=some (vs,Av) ->
 At C n Y s (spliced (backTo p (starEach es AA))) Av (fun Y h xs=>Bv C Y h vs xs):=fun {es}=>by
 induction es with
 |nil=>
  intro Y J Av s vs I _ h;cases h;exact fun A Q E R k=>wpAny_items_nil (k _ _ _ (.refl I) rfl)
 |cons x r ih=>
  intro Y J Av s vs I X h;refine itE (nS.symm.trans h) (fun Z=>nn) fun BM h=>oC2 h fun v Ab h1 h=>oC2 h fun vs Ai h2 h=>?_;cases h;exact fun A Q E R k=>wpAny_items_cons (L'.ev W I X h1 A _ E R fun An Ao v Ay rv=>ih Ay.inv (X.go Ay) h2 A _ E R fun Bl Be vs Bm rs=>
   k _ _ _ (Ay.trans Bm) ⟨v,vs,rfl,rv.mv Bm.mv,rs⟩) (Ef (by simpa using BM))
theorem Zf {L:Lv}{e:As}:∀{es:List O6}{J Av:Aj}{vs:List V},Kb L e es J=some (vs,Av)->vs.length=es.length:=fun {es}=>by
 induction es with
 |nil=>intro _ _ _ h;cases h;rfl
 |cons x r ih=>
  intro J Av vs h;exact itE (nS.symm.trans h) (fun Z=>nn) fun BM h=>oC2 h fun v Ab h1 h=>oC2 h fun vs Ai h2 h=>by
   cases h;rw[x9,x9,ih h2]
theorem sV (L':Ce g L n)(W:Wd C g)(I:Bh C Y J s)(X:Ba C Y e AA){es:List O6}{k:Nat}{p:Pos}{vs:List V}(hl:Nat.ble es.length 1000000=true)(h:Kb L e es J=some (vs,Av)) :
 At C n Y s (eval (.Tuple es k p) AA) Av (RV C (.tup vs)):=fun A Q E R K=>
 wpAny_Tuple (Lk L' W I X h A _ E R fun An Ao xs Ay rs=>⟨by rw[rs.length,Zf h];exact Dh hl,have z:=Ay.inv.newTup rs;K _ _ _ (Ay.trans z.1) z.2⟩)
theorem gf (L':Ce g L n)(W:Wd C g)(I:Bh C Y J s)(X:Ba C Y e AA){es:List O6}{p:Pos}{vs:List V}(hl:Nat.ble es.length 1000000=true)(h:Kb L e es J=some (vs,Av)) :
 At C n Y s (eval (.List es p) AA) Av (RV C (.lst vs)):=fun A Q E R K=>
 wpAny_List (Lk L' W I X h A _ E R fun An Ao xs Ay rs=>⟨by rw[rs.length,Zf h];exact Dh hl,have z:=Ay.inv.newLst rs;K _ _ _ (Ay.trans z.1) z.2⟩)
theorem yN (L':Ce g L n)(W:Wd C g)(I:Bh C Y J s)(X:Ba C Y e AA){es:List O6}{p:Pos}{vs:List V}(hl:Nat.ble es.length 1000000=true)(h:Kb L e es J=some (vs,Av)) :
 At C n Y s (eval (.List es p) AA) (Av++[.lst vs]) (RV C (.ref Av.length)):=fun A Q E R K=>
 wpAny_List (Lk L' W I X h A _ E R fun An Ao xs Ay rs=>⟨by rw[rs.length,Zf h];exact Dh hl,have z:=Ay.inv.newRef rs;K _ _ _ (Ay.trans z.1) z.2⟩)
theorem jy (L':Ce g L n)(W:Wd C g){op:BoolOp}:∀{es:List O6}{Y:List O5}{J Av:Aj}{s:OZ}{b:Bool},Bh C Y J s->Ba C Y e AA->rW L e op es J=some (b,Av) ->
 At C n Y s (allTrue op es AA) Av (fun Z Z r=>r=b):=fun {es}=>by
 induction es with
 |nil=>
  intro Y J Av s b I _ h A Q E R k;cases op with
  |And=>cases h;exact wpAny_allTrue_And_nil (k _ _ _ (.refl I) rfl)
  |Or=>cases h;exact wpAny_allTrue_Or_nil (k _ _ _ (.refl I) rfl)
 |cons x r ih=>
  intro Y J Av s b I X h A Q E R k;refine oC2 (kY.symm.trans h) fun c Ab h1 h=>?_;have go:∀{An Ao},Ck C Y s An Ab Ao->rW L e op r Ab=some (b,Av)->PD C.md A (allTrue op r AA) Q E Ao:=fun Ay h=>ih Ay.inv (X.go Ay) h A _ E R fun Bl Be b Bm rb=>k _ _ _ (Ay.trans Bm) rb;cases op with
  |And=>
   refine wpAny_allTrue_And_cons (L'.ts W I X h1 A _ E R fun An Ao c' Ay hc=>?_);subst hc;cases c' with
   |true=>exact go Ay h
   |false=>cases h;exact k _ _ _ Ay rfl
  |Or=>
   refine wpAny_allTrue_Or_cons (L'.ts W I X h1 A _ E R fun An Ao c' Ay hc=>?_);subst hc;cases c' with
   |true=>cases h;exact k _ _ _ Ay rfl
   |false=>exact go Ay h
theorem jG {x:O6}{w:Sem OY}(h:byTruth x=true):isTrue x AA w=(do let v ← w;standAt x.pos;holding [v] (truthy v)):=by
 cases x<;>first|rfl|cases h
theorem uK (L':Ce g L n)(W:Wd C g)(I:Bh C Y J s)(X:Ba C Y e AA){x:O6}{v:V}{b:Bool}(hx:byTruth x=true)(h1:L.ev e x J=some (v,Ab))(h2:On Ab v=some b) :
 At C n Y s (isTrue x AA (eval x AA)) Ab (fun Z Z r=>r=b):=fun A Q E R k=>
 wpAny_isTrue_value (L'.ev W I X h1 A _ E R fun An Ao x Ay rx=>bY Ay.inv rx h2 A _ E R fun Bl Be c Bm hc=>k _ _ _ (Ay.trans Bm) hc) (jG hx)
theorem Nr (L':Ce g L n)(W:Wd C g)(I:Bh C Y J s)(X:Ba C Y e AA){x:O6}{b:Bool}(hs:byTruth x=true)(h:vA L e x J=some (b,Av)):At C n Y s (isTrue x AA (eval x AA)) Av (fun Z Z r=>r=b):=
 itE h (fun Z=>nn) fun Z h=>oC2 h fun v Ab h1 h=>oC1 h fun c h2 h=>by
  cases h;exact uK L' W I X hs h1 h2
theorem pJ (L':Ce g L n)(W:Wd C g)(I:Bh C Y J s)(X:Ba C Y e AA){x:O6}{b:Bool}(h:gI L e x J=some (b,Av)):At C n Y s (isTrue x AA (eval x AA)) Av (fun Z Z r=>r=b):=by
 induction x using O6.casesOn with
 |UnaryOp op y p=>induction op using UnaryOp.casesOn with
  |Not=>
   refine oC2 h fun c Ab h1 h=>?_;cases h;exact fun A Q E R k=>wpAny_isTrue_Not (L'.ts W I X h1 A _ E R fun An Ao c Ay hc=>k _ _ _ Ay (by rw[hc]))
  |_=>exact nn h
 |BoolOp=>exact fun A Q E R k=>wpAny_isTrue_BoolOp (jy L' W I X h A _ E R k)
 |Compare l ED rs p=>
  refine Nk h fun op ho h=>Nk h fun r hr h=>itE h (fun Z=>nn) fun hs h=>oC2 h fun a Ab h1 h=>oC2 h fun b Ai h2 h=>oC1 h fun v h3 h=>?_;cases h;rw[ho,hr];exact pg L' W I X (by simpa using hs) h1 h2 h3
 |Name=>exact Nr L' W I X rfl h
 |Call=>exact Nr L' W I X rfl h
 |Subscript=>exact Nr L' W I X rfl h
 |BinOp=>exact Nr L' W I X rfl h
 |Attribute=>exact Nr L' W I X rfl h
 |ListComp=>exact Nr L' W I X rfl h
 |_=>exact nn h
theorem Nn {k:Int}{m j:Nat}(h:fy m k=some j):k.natAbs<2 ^ 63∧seqIndex? k m=some j:=itE h (fun hs h=>⟨Jl.mp hs,h⟩) fun Z=>nn
theorem Nx {prog:Program}{w:World}{A:O8}{E:OY->OZ->Prop}{value CO:O6}{pos:Pos}{Q:OY->OZ->Prop}(hs:Gb CO=false)
 (h:PD (model prog w) A (eval value AA) (fun o Ao=>PD (model prog w) A (eval CO AA) (fun i Be=>SubscriptOn (model prog w) A o i Q E Be) E Ao) E s) :
 PD (model prog w) A (eval (.Subscript value CO pos) AA) Q E s:=by
 refine Aa (wpAny_mono h (fun o Ao Hj=>Aa (wpAny_holding (wpAny_mono Hj (fun i Be zF=>Aa (wpAny_standAt ?_)) fun Z Z x=>x)))
  fun Z Z x=>x)
 obtain ⟨T,id,hl,hT,hg⟩:=zF;refine Aa ?_;have fin:PD (model prog w) A (operate [o,i] (getItem o i)) (fun r Cf=>PD (model prog w) A (letTemporaryGo value o r >>= fun Z=>pure r) Q E Cf) E Be:=
  wpAny_operating (wpAny_mono hg (fun r Cf Tc=>Aa (wpAny_letTemporaryGo (Ag Tc))) fun Z Z x=>x)
 have e1:subscripted CO false o i=operate [o,i] (getItem o i):=by cases CO<;>first|rfl|cases hs
 refine Aa (wpAny_specialOf hT hl ?_)
 first
  |exact Ag (Aa (e1 ▸ fin))
  |exact Aa (Ag (Aa (e1 ▸ fin)))
theorem Ot {prog:Program}{w:World}{A:O8}{E:OY->OZ->Prop}{value:O6}{lo hi:Option O6}{p pos:Pos}{Q:OY->OZ->Prop}
 (h:PD (model prog w) A (eval value AA) (fun o Ao=>PD (model prog w) A (eval (.Slice lo hi none p) AA) (fun i Be=>SubscriptOn (model prog w) A o i Q E Be) E Ao) E s) :
 PD (model prog w) A (eval (.Subscript value (.Slice lo hi none p) pos) AA) Q E s:=by
 rw[eval_Subscript];refine Aa (wpAny_mono h (fun o Ao Hj=>Aa (wpAny_holding (wpAny_mono Hj (fun i Be zF=>Aa (wpAny_standAt ?_)) fun Z Z x=>x)))
  fun Z Z x=>x)
 obtain ⟨T,id,hl,hT,hg⟩:=zF;refine Aa ?_;rw[getitemInPython_of_ne hT.not_modules];have fin:PD (model prog w) A (operate [i,o] (getItem o i)) (fun r Cf=>PD (model prog w) A (letTemporaryGo value o r >>= fun Z=>pure r) Q E Cf) E Be:=
  wpAny_operating (wpAny_mono hg (fun r Cf Tc=>Aa (wpAny_letTemporaryGo (Ag Tc))) fun Z Z x=>x)
 refine Aa (wpAny_specialOf hT hl ?_)
 first
  |exact Ag (Aa fin)
  |exact Aa (Ag (Aa fin))
theorem kJ (I:Bh C Y J s){A:O8}{E:OY->OZ->Prop}{Q:OY->OZ->Prop}{o i v:V}{vo vi:OY}(ro:Bz C Y s.heap o vo)(ri:Bz C Y s.heap i vi)(e:Eb J o i=some v)
 (K:∀r tk,Bz C Y s.heap v r->Q r { s with toks:=tk }):SubscriptOn C.md A vo vi Q E s:=by
 induction i using V.casesOn with
 |str k=>
  refine oC1 e fun l hl e=>?_;rw[lT hl] at ro;obtain ⟨t,rfl⟩:=ri;obtain ⟨d,AE,rfl,_,hd,hD,hr⟩:=ro;have:=Sx.lookup (k:=k) hr;rw[e] at this;obtain ⟨r,hv,rv⟩:=this;exact ⟨"dict",_,slot_dict_getitem.lookup,hD.typeIs,wpAny_getItem_of (knd:=strKind C.prog C.w) (strKind_is _ _ _ _) hD.mapOf hv (K _ _ rv)⟩
 |int k _=>
  obtain ⟨⟨t,rfl⟩,-⟩:=ri;have G:yA J o k=some v->SubscriptOn C.md A vo (.int k t) Q E s:=fun e=>oS1 e (fun l hl e=>by
   obtain ⟨d,AE,rfl,hd,hD,hr⟩:=Ii I hl ro;have:=Gc (k:=k) hr;rw[e] at this;obtain ⟨r,hv,rv⟩:=this;exact ⟨"dict",_,slot_dict_getitem.lookup,hD.typeIs,wpAny_getItem_of (knd:=intKind C.prog C.w) (intKind_is _ _ _ _) hD.mapOf hv (K _ _ rv)⟩) fun Z e=>oC1 e fun l hl e=>oC1 e fun j hj e=>by
   obtain ⟨hb,hj⟩:=Nn hj;obtain ⟨p,vs,m,rfl,gp,rp⟩:=Db I hl ro;obtain ⟨r,hr,rv⟩:=rp.get e;have h1:=rp.length;rw[xq] at h1;have hj:=h1 ▸ hj;have IA:vs[j]?=some r:=by rw[← xy];exact hr
   refine ⟨"list",_,list_getitem_lookup,(Ll gp).typeIs,?_⟩;unfold seqIndex? at hj;by_cases h0:k<0
   ·simp only[h0,if_true] at hj;refine itE hj (fun hc hj=>?_) fun Z=>nn;simp only[Bool.and_eq_true,decide_eq_true_eq] at hc;cases hj;exact wpAny_getItem_list_neg (Ll gp) h0 (by lia) (yp (aR1 hb).1) IA (K _ s.toks rv)
   ·simp only[h0,if_false] at hj;refine itE hj (fun hc hj=>?_) fun Z=>nn;simp only[Bool.and_eq_true,decide_eq_true_eq] at hc;cases hj;exact wpAny_getItem_list (Ll gp) (xw.mp h0) (aR1 hb).2 IA (K _ s.toks rv)
  induction o using V.casesOn with
  |tup l=>
   refine oC1 (show oH l k=_ from e) fun j hj e=>?_;obtain ⟨hb,hj⟩:=Nn hj;obtain ⟨p,vs,m,rfl,op,gp,rp⟩:=ro;obtain ⟨r,hr,rv⟩:=rp.get e;have h1:=rp.length;rw[← h1] at hj;exact ⟨"tuple",_,F.slot_tuple_getitem.lookup,(nV gp).typeIs,PyProof.Rows.getItem_tuple (nV gp) (yp (aR1 hb).1) (aR1 hb).2 hj (by rw[← xy];exact hr) (K _ s.toks rv)⟩
  |str sx=>
   refine oC1 e fun j hj e=>oC1 e fun c hc e=>?_;obtain ⟨hb,hj⟩:=Nn hj;cases e;obtain ⟨u,rfl⟩:=ro;refine ⟨"str",_,F.slot_str_getitem.lookup,typeIs_str s _ u,P.getItem_str (c:=c) ?_ (by rw[hj];exact hc) (K _ _ ⟨_,rfl⟩)⟩;exact Bool.or_eq_false_iff.mpr ⟨decide_eq_false (xw.mpr (yp (aR1 hb).1)),decide_eq_false (Int.not_le.mpr (aR1 hb).2)⟩
  |_=>exact G e
 |_=>exact nn e
theorem lh (L':Ce g L n)(W:Wd C g)(I:Bh C Y J s)(X:Ba C Y e AA){o i:O6}{p:Pos}{a b v:V}(hs:Gb i=false)(h1:L.ev e o J=some (a,Ab))(h2:L.ev e i Ab=some (b,Ai))(h3:Eb Ai a b=some v) :
 At C n Y s (eval (.Subscript o i p) AA) Ai (RV C v):=fun A Q E R k=>
 Nx hs (L'.ev W I X h1 A _ E R fun An Ao va Ay ra=>L'.ev W Ay.inv (X.go Ay) h2 A _ E R fun Bl Be vb Bm rb=>
  kJ Bm.inv (ra.mv Bm.mv) rb h3 fun r tk rv=>k _ _ _ ((Ay.trans Bm).trans (.tok Bm.inv tk)) rv)
theorem Bv.drop:∀{l:List V}{vs:List OY}(k:Nat),Bv C Y h l vs->Bv C Y h (l.drop k) (vs.drop k):=fun {l}=>by
 induction l with
 |nil=>intro vs k e;rw[show vs=[] from e,List.drop_nil,List.drop_nil];exact rfl
 |cons x l ih=>
  intro vs k r;cases k with
  |zero=>exact r
  |succ k=>obtain ⟨_,_,e,_,r⟩:=r;rw[e];exact ih k r
theorem Bv.take:∀{l:List V}{vs:List OY}(k:Nat),Bv C Y h l vs->Bv C Y h (l.take k) (vs.take k):=fun {l}=>by
 induction l with
 |nil=>intro vs k e;rw[show vs=[] from e,List.take_nil,List.take_nil];exact rfl
 |cons x l ih=>
  intro vs k r;cases k with
  |zero=>exact rfl
  |succ k=>obtain ⟨v,vs,e,r1,r⟩:=r;rw[e];exact ⟨v,_,rfl,r1,ih k r⟩
theorem Wm {v:V}{val:OY}{x:Option Int}(e:uO v=some x)(r:Bz C Y h v val):IsPart val x:=by
 induction v using V.casesOn with
 |none=>cases e;cases r;exact .none
 |int i _=>cases e;obtain ⟨⟨t,rfl⟩,-⟩:=r;exact .int _ _
 |_=>exact nn e
theorem vT (L':Ce g L n)(W:Wd C g)(I:Bh C Y J s)(X:Ba C Y e AA){x:Option O6}{v:V}(h:ib L e x J=some (v,Av)):At C n Y s (evalPart x AA) Av (RV C v):=by
 cases x with
 |none=>cases h;exact fun A Q E R k=>Ag (k _ _ _ (.refl I) rfl)
 |some x=>exact L'.ev W I X h
theorem sH (L':Ce g L n)(W:Wd C g)(I:Bh C Y J s)(X:Ba C Y e AA){o:O6}{lo hi:Option O6}{p pos:Pos}{a b c v:V}(h1:L.ev e o J=some (a,Ab))(h2:ib L e lo Ab=some (b,Ai))(h3:ib L e hi Ai=some (c,Av))
 (h4:Ur Av a b c=some v):At C n Y s (eval (.Subscript o (.Slice lo hi none p) pos) AA) Av (RV C v):=fun A Q E R k=>
 Ot (L'.ev W I X h1 A _ E R fun An Ao va Ay ra=>wpAny_Slice (vT L' W Ay.inv (X.go Ay) h2 A _ E R fun Bl Be vb Bm rb=>
  vT L' W Bm.inv ((X.go Ay).go Bm) h3 A _ E R fun Fy Cf vc Ft rc=>by
   refine Ag ?_;refine oC1 h4 fun x hx h4=>oC1 h4 fun y hy h4=>oC1 h4 fun l hl h4=>itE h4 (fun hz h4=>?_) fun Z=>nn;cases h4;obtain ⟨q,vs,m,rfl,gp,rp⟩:=Db Ft.inv hl (ra.mv (Bm.trans Ft).mv);have h1:=rp.length;rw[xq] at h1;have z1:=Ft.inv.frozen { cls:=.type "slice",data:=.fields #[vb,vc,.none] };refine ⟨"list",_,list_getitem_lookup,((Ll gp).push _).typeIs,wpAny_getItem_list_slice ((Ll gp).push _) (O9.IsSliceOf.new ..) (Wm hx (rb.mv Ft.mv)) (Wm hy rc) .none (by decide) ?_ (by rw[h1];exact Dh hz)⟩;rw[slicePick_plain,h1];have z2:=z1.inv.newLst (l:=Pi l x y) (vs:=(vs.toList.drop (x.elim 0 (clipAt l.length))).take (y.elim l.length (clipAt l.length)-x.elim 0 (clipAt l.length))) (((rp.mv z1.mv).drop _).take _);exact k _ _ _ (((Ay.trans Bm).trans Ft).trans (z1.trans z2.1)) z2.2))
theorem IntsAre.val {vs:List OY}{q:List Int}(r:IntsAre vs q):∀(i:Nat) v,vs[i]?=some v->∃t,v = .int (q.getD i 0) t:=by
 induction r with
 |nil=>exact fun Z Z h=>nn h
 |cons n t r ih=>
  intro i v h;cases i with
  |zero=>cases h;exact ⟨t,rfl⟩
  |succ i=>exact ih i v h
theorem sN {α β:Type}{f:α->Option β}:∀{l:List α}{q:List β},Ec f l=some q->q.length=l.length:=fun {l}=>by
 induction l with
 |nil=>intro q e;cases e;rfl
 |cons x l ih=>exact fun e=>Ei e fun y ys Z h2 e=>by rw[e,x9,x9,ih h2]
theorem Yg {l:List V}{q:List Int}(h:Fk l=some q):q.length=l.length:=sN h
theorem eT (q:List Int):∀(k:Nat),k≤q.length->Ju (preSum (q.getD · 0) k) (q.drop k)=Ju 0 q:=by
 intro X
 induction X with
 |zero=>
  intro Z;exact rfl
 |succ k ih=>
  intro h;rw[← ih (Nat.le_of_succ_le h),Aac (show k<q.length from h)];have:q[k]=q.getD k 0:=by rw[Aad,x7 (show k<q.length from h)];rfl
  rw[this];rfl
theorem o0 (I:Bh C Y J s){A:O8}{E:OY->OZ->Prop}{Q:OY->OZ->Prop}(hh:A.handled=none){a:O5}{vs:Array OY}{k:Nat}{q:List Int}(hl:IsL s.heap a vs k)(hq:IntsAre vs.toList q)
 (K:∀h' tk t,(∀b o,s.heap.get? b=some o->h'.get? b=some o)->Q (.int (Ju 0 q) t) { s with heap:=h',toks:=tk }):PD C.md A (call (.builtin "sum") [.ref a]) Q E s:=by
 have AX:a≠s.heap.objs.size:=ya (xl hl);refine call_sum_walkG (wpAny_pyIter_list (Ll hl) ⟨_,_,_,_,_,_,(q.getD · 0),rfl,Walks.list (A:=A.in1) hh s.heap.objs.size a AX vs,⟨?_,(Ll hl).push _⟩,?_,?_,?_⟩)
 ·exact ⟨_,xc _ rfl,rfl,rfl⟩
 ·intro b hb;rw[zm];rcases wk.mp hb with rfl|hb
  ·exact z5 _
  ·rw[wl.mp hb];exact zi (xl hl)
 ·intro i v hv;exact IntsAre.val hq i v (by rw[xy];exact hv)
 ·intro h' tk t' hk;have hn:vs.size=q.length:=by rw[← hq.length,xq]
  have:=eT q vs.size (yr hn);rw[hn,List.drop_length] at this;rw[hn];have e:preSum (q.getD · 0) q.length=Ju 0 q:=this;rw[e];exact K h' tk t' fun b o eb=>hk b o (by rw[wl];exact ya (xl eb)) (ww _ eb)
theorem dZ (x:Int)(r:List Int)(bt:Nat->Nat->Bool)(hb:∀i j,bt i j=decide ((x::r).getD i 0>(x::r).getD j 0)):∀(k:Nat),k≤r.length->Kx ((x::r).getD (argBest bt k) 0) (r.drop k)=Kx x r:=by
 intro X
 induction X with
 |zero=>
  intro Z;exact rfl
 |succ k ih=>
  intro h;rw[← ih (Nat.le_of_succ_le h),Aac (show k<r.length from h)];have e1:r[k]=(x::r).getD (k+1) 0:=by rw[List.getD_cons_succ,Aad,x7 (show k<r.length from h)];rfl
  show Kx _ _=Kx (if _>_ then _ else _) _;rw[e1];have e2:argBest bt (k+1)=if bt (k+1) (argBest bt k) then k+1 else argBest bt k:=rfl
  rw[e2];congr 1;rw[hb];by_cases hd:(x::r).getD (k+1) 0>(x::r).getD (argBest bt k) 0
  ·rw[if_pos hd,if_pos (decide_eq_true hd)]
  ·rw[if_neg hd,if_neg fun q=>hd (of_decide_eq_true q)]
theorem cL (x:Int)(r:List Int)(bt:Nat->Nat->Bool)(hb:∀i j,bt i j=decide ((x::r).getD i 0<(x::r).getD j 0)):∀(k:Nat),k≤r.length->Se ((x::r).getD (argBest bt k) 0) (r.drop k)=Se x r:=by
 intro X
 induction X with
 |zero=>
  intro Z;exact rfl
 |succ k ih=>
  intro h;rw[← ih (Nat.le_of_succ_le h),Aac (show k<r.length from h)];have e1:r[k]=(x::r).getD (k+1) 0:=by rw[List.getD_cons_succ,Aad,x7 (show k<r.length from h)];rfl
  show Se _ _=Se (if _<_ then _ else _) _;rw[e1];have e2:argBest bt (k+1)=if bt (k+1) (argBest bt k) then k+1 else argBest bt k:=rfl
  rw[e2];congr 1;rw[hb];by_cases hd:(x::r).getD (k+1) 0<(x::r).getD (argBest bt k) 0
  ·rw[if_pos hd,if_pos (decide_eq_true hd)]
  ·rw[if_neg hd,if_neg fun q=>hd (of_decide_eq_true q)]
section
variable {A:O8}{E:OY->OZ->Prop}{Q:OY->OZ->Prop}{a:O5}{vs:Array OY}{x:Int}{q:List Int}
theorem dK {val:Nat->Int}{op:CmpOp}{f:Int->Int->Bool}(hop:∀(a b:Int)(t u:Tok)(s:OZ)(Q:OY->OZ->Prop) E,Q (.bool (f a b)) s->PD C.md A (richCompare op (.int a t) (.int b u)) Q E s) :
 CmpOf C.prog C.w A op (fun i v=>∃t,v = .int (val i) t) (fun i j=>f (val i) (val j)):=by
 rintro i j vi vj s Q E ⟨t,rfl⟩ ⟨u,rfl⟩ h;exact hop _ _ _ _ _ _ _ h
theorem Walks.mono {prog:Program}{w:World}{A:O8}{I:O5}{fp wr:List O5}{n:Nat}{P P':Nat->OY->Prop}{St:Nat->O9->Prop}(W:Walks prog w A I fp wr n P St)(hP:∀i v,P i v->P' i v):Walks prog w A I fp wr n P' St where
 sub:=W.sub
 frame:=W.frame
 item:=fun i s Q E hi st hQ=>W.item i s Q E hi st fun v h' tk hv=>hQ v h' tk (hP i v hv)
 done:=W.done
 self:=W.self
theorem lf (I:Bh C Y J s)(hh:A.handled=none)(hl:IsL s.heap a vs k)(hq:IntsAre vs.toList (x::q))
 (K:∀h' tk t,(∀b o,s.heap.get? b=some o->h'.get? b=some o)->Q (.int (Kx x q) t) { s with heap:=h',toks:=tk }):PD C.md A (call (.builtin "max") [.ref a]) Q E s:=by
 have AX:a≠s.heap.objs.size:=ya (xl hl);have hn:vs.size=(x::q).length:=by rw[← hq.length,xq]
 refine call_max_walk (wpAny_pyIter_list (Ll hl) ⟨_,_,_,_,_,_,_,rfl,Walks.mono (P':=fun i v=>∃t,v = .int ((x::q).getD i 0) t) (Walks.list (A:=A.in1) hh s.heap.objs.size a AX vs) (fun i v hv=>IntsAre.val hq i v (by rw[xy];exact hv)),⟨?_,(Ll hl).push _⟩,?_,?_,
  dK (f:=fun a b=>decide (a>b)) (fun a b t u s Q E h=>P.gt_int h),?_⟩)
 ·exact ⟨_,xc _ rfl,rfl,rfl⟩
 ·intro b hb;rw[zm];rcases wk.mp hb with rfl|hb
  ·exact z5 _
  ·rw[wl.mp hb];exact zi (xl hl)
 ·rw[hn];exact Nat.succ_pos _
 ·rintro v h' tk ⟨t,rfl⟩ hk;have:=dZ x q (fun i j=>decide ((x::q).getD i 0>(x::q).getD j 0)) (fun Z Z=>rfl) q.length (wu _);rw[List.drop_length] at this;rw[hn,x9,Nat.add_sub_cancel];have e:(x::q).getD (argBest (fun i j=>decide ((x::q).getD i 0>(x::q).getD j 0)) q.length) 0=Kx x q:=this;rw[e];exact K h' tk t fun b o eb=>hk b o (by rw[wl];exact ya (xl eb)) (ww _ eb)
theorem mw (I:Bh C Y J s)(hh:A.handled=none)(hl:IsL s.heap a vs k)(hq:IntsAre vs.toList (x::q))
 (K:∀h' tk t,(∀b o,s.heap.get? b=some o->h'.get? b=some o)->Q (.int (Se x q) t) { s with heap:=h',toks:=tk }):PD C.md A (call (.builtin "min") [.ref a]) Q E s:=by
 have AX:a≠s.heap.objs.size:=ya (xl hl);have hn:vs.size=(x::q).length:=by rw[← hq.length,xq]
 refine call_min_walk (wpAny_pyIter_list (Ll hl) ⟨_,_,_,_,_,_,_,rfl,Walks.mono (P':=fun i v=>∃t,v = .int ((x::q).getD i 0) t) (Walks.list (A:=A.in1) hh s.heap.objs.size a AX vs) (fun i v hv=>IntsAre.val hq i v (by rw[xy];exact hv)),⟨?_,(Ll hl).push _⟩,?_,?_,
  dK (f:=fun a b=>decide (a<b)) (fun a b t u s Q E h=>P.lt_int h),?_⟩)
 ·exact ⟨_,xc _ rfl,rfl,rfl⟩
 ·intro b hb;rw[zm];rcases wk.mp hb with rfl|hb
  ·exact z5 _
  ·rw[wl.mp hb];exact zi (xl hl)
 ·rw[hn];exact Nat.succ_pos _
 ·rintro v h' tk ⟨t,rfl⟩ hk;have:=cL x q (fun i j=>decide ((x::q).getD i 0<(x::q).getD j 0)) (fun Z Z=>rfl) q.length (wu _);rw[List.drop_length] at this;rw[hn,x9,Nat.add_sub_cancel];have e:(x::q).getD (argBest (fun i j=>decide ((x::q).getD i 0<(x::q).getD j 0)) q.length) 0=Se x q:=this;rw[e];exact K h' tk t fun b o eb=>hk b o (by rw[wl];exact ya (xl eb)) (ww _ eb)
end
theorem Bz.ext {h':O9}{v:V}{x:OY}(k:∀b o,h.get? b=some o->h'.get? b=some o)(r:Bz C Y h v x):Bz C Y h' v x:=r.gen ⟨fun a o n e=>⟨n,k a o e⟩,fun Z Z e=>e⟩
section
variable {A:O8}{E:OY->OZ->Prop}{Q:OY->OZ->Prop}{R:Result->OZ->Prop}{ax I S:O5}{vs:Array OY}{l:List V}{hb:O9}
theorem qL (hh:A.handled=none)(hu:A.units+1<cLine)(AX:ax≠I)(KG:S∉[I,ax])(rl:Bv C Y hb l vs.toList)(NJ:hb.get? I=none)(NF:hb.get? S=none):∀(k j:Nat)(s:OZ)(u r:V)(vb:OY)(c:Nat),vs.size-j=k ->
 s.heap.IsListIter I ax j->s.heap.IsList ax vs->Bz C Y hb u vb->eN u (l.drop j)=some r->s.heap.get? S=some { cls:=.type "list",dict:=none,data:=.seq #[vb,vb] c,slots:=#[] } ->
 (∀b o,hb.get? b=some o->s.heap.get? b=some o) ->
 (∀v h' tk,Bz C Y hb r v->(∀b o,hb.get? b=some o->h'.get? b=some o)->R (.ok (.ret v)) { s with heap:=h',toks:=tk }) ->
 codeAny C.md A (.builtin "min.loop" ⟨[.ref I,.none,.ref S],[]⟩) R s:=by
 have W:=Walks.list (prog:=C.prog) (w:=C.w) (A:=A.in1) hh I ax AX vs;have FQ:=rl.length;intro k
 induction k with
 |zero=>
  intro j s u r vb c hk hi hx ru hm hS kp hR;have hj:vs.size≤j:=Nat.le_of_sub_eq_zero hk;have hd:l.drop j=[]:=List.drop_of_length_le (FQ ▸ hj);have hm:=hd ▸ hm;cases hm;refine codeAny_builtin F.entry_min_loop ?_;show PD _ A.in1 (seqItems? (.ref S) >>= _) _ _ s;refine Aa (wpAny_seqItems hS rfl ?_);show PD _ A.in1 (tryCatch (pyNext (.ref I)) _ >>= _) _ _ s;refine Aa (wpAny_tryCatch (wpAny_pyNext_list_end hh hi hx (by simpa using hj) fun h' DH=>?_));have kI:∀b o,b≠I->s.heap.get? b=some o->h'.get? b=some o:=fun b o hb e=>DH b o hb e;refine Aa ?_;refine wpAny_updateSeq (kI S _ (fun q=>KG (by rw[q];exact .head _)) hS) rfl (Aa (wpAny_letGo (Ag ?_)));exact hR vb _ s.toks ru fun b o e=>(yk _ _ (fun q=>by rw[← q,NF] at e;cases e)).trans (kI b o (fun q=>by rw[q,NJ] at e;cases e) (kp b o e))
 |succ k ih=>
  intro j s u r vb c hk hi hx ru hm hS kp hR;have AZ:j<vs.size:=aK1 hk;have HW:j<l.length:=FQ ▸ AZ;rw[Aac HW] at hm;split at hm
  ·rename_i d hd;refine codeAny_builtin F.entry_min_loop ?_;show PD _ A.in1 (seqItems? (.ref S) >>= _) _ _ s;refine Aa (wpAny_seqItems hS rfl ?_);show PD _ A.in1 (tryCatch (pyNext (.ref I)) _ >>= _) _ _ s;refine Aa (wpAny_tryCatch (W.item j s _ _ AZ ⟨hi,hx⟩ fun v h' tk hP C0 FM=>?_));have CI:=FM S _ (fun m=>KG (by rw[wl.mp m];exact .head _)) hS;obtain ⟨v',DL,rv⟩:=rl.get (x7 HW);have ev:v'=v:=by rw[xy,hP] at DL;exact (wx DL).symm
   rw[← ev];have JV:∀b o,hb.get? b=some o->h'.get? b=some o:=fun b o e=>FM b o (fun m=>by rw[wl.mp m,NJ] at e;cases e) (kp b o e);show PD _ A.in1 (tryCatch (holding [v',v'] (richCompare .Lt v' vb >>= _)) _ >>= _) _ _ _;refine Aa (wpAny_tryCatch (wpAny_holding (Aa (ji (A:=A.in1) hu (Bz.ext JV rv) (Bz.ext JV ru) hd ?_))));refine Aa (wpAny_holding (wpAny_truthy_bool ?_));refine Aa (wpAny_letGo (Ag ?_));have up:∀(f:Array OY->Array OY) b o,hb.get? b=some o->(h'.update S (Obj.mapSeq f)).get? b=some o:=fun f b o e=>
    (yk _ _ (fun q=>by rw[← q,NF] at e;cases e)).trans (JV b o e)
   cases d with
   |true=>
    dsimp only[if_true] at hm ⊢;refine Aa ?_;refine wpAny_updateSeq CI rfl (Aa (wpAny_letGo ?_));have hw:=W.frame _ _ (h'.update S (Obj.mapSeq fun Z=>#[v',v'])) C0 fun b FX o e=>(yk _ _ (fun q:S=b=>KG (by rw[q];exact FX))).trans e;exact Ag ⟨plainId_quiet F.plain_min_loop _,ih (j+1) _ _ _ _ _ (aK2 hk) hw.1 hw.2 rv hm (zw _ CI rfl) (up _) hR⟩
   |false=>
    dsimp only[Bool.false_eq_true,if_false] at hm ⊢;refine Aa (wpAny_letGo ?_);exact Ag ⟨plainId_quiet F.plain_min_loop _,ih (j+1) _ _ _ _ _ (aK2 hk) C0.1 C0.2 ru hm CI JV hR⟩
  ·cases hm
theorem dj (I:Bh C Y J s)(hh:A.handled=none)(hu:A.units+8<cLine){a:O5}{k:Nat}{x r:V}{q:List V}(hl:IsL s.heap a vs k)(rl:Bv C Y s.heap (x::q) vs.toList)(hm:eN x q=some r)
 (K:∀h' tk v,Bz C Y s.heap r v->(∀b o,s.heap.get? b=some o->h'.get? b=some o)->Q v { s with heap:=h',toks:=tk }):PD C.md A (call (.builtin "min") [.ref a]) Q E s:=by
 have AX:a≠s.heap.objs.size:=ya (xl hl);have MS:(toString "min"++toString ".loop":String)="min.loop":=rfl;have FQ:=rl.length;rw[xq] at FQ;refine call_function_tree F.kind_min F.plain_min F.entry_min (F.args_min1 _) ?_;show PD _ A.in1 (Builtin.Builtins.bindParams "min" ["key","default"] 0 ⟨[],[]⟩ >>= _) _ _ s;refine Aa (wpAny_of_eq (show Builtin.Builtins.bindParams "min" ["key","default"] 0 ⟨[],[]⟩=pure [none,none] from rfl) ?_);refine Aa (Ag ?_);refine Aa (wpAny_pyIter_list (Ll hl) ?_);refine Aa (wpAny_newObj_type ?_);generalize hI:s.heap.objs.size=I';have OF:s.heap.get? I'=none:=hI ▸ Co _;generalize hH:s.heap.push { cls:=.type "list_iterator",data:=.fields #[.ref a,.int 0 0] }=H;have kH:∀b o,s.heap.get? b=some o->H.get? b=some o:=fun b o e=>hH ▸ ww _ e;have hIt:H.IsListIter I' a 0:=⟨_,by rw[← hH,← hI];exact xc _ rfl,rfl,rfl⟩;have hA:H.IsList a vs:=hH ▸ (Ll hl).push _;generalize hS:H.objs.size=S';have KI:S'=I'+1:=by rw[← hS,← hH,zm,hI]
 have OE:s.heap.get? S'=none:=by
  cases e:s.heap.get? S' with
  |none=>rfl
  |some o=>exact absurd (xl e) (by rw[hI,KI];exact xz.mpr (yh _))
 have E6:S'∉[I',a]:=by
  intro m;rcases wk.mp m with q|m
  ·exact ya (z5 I') (q.symm.trans KI)
  ·exact Nat.ne_of_gt (zi (hI ▸ xl hl)) (KI.symm.trans (wl.mp m))
 have JF:S'∉[I']:=fun m=>E6 (by rw[wl.mp m];exact .head _);refine Ag ⟨plainId_quiet F.plain_min_loop _,?_⟩;have W:=Walks.list (prog:=C.prog) (w:=C.w) (A:=A.in1) hh I' a (by rw[← hI];exact AX) vs;generalize hH2:H.push { cls:=.type "list",data:=.seq #[] }=H2;have NR:∀b o,H.get? b=some o->H2.get? b=some o:=fun b o e=>hH2 ▸ ww _ e;have EQ:H2.get? S'=some { cls:=.type "list",data:=.seq #[] }:=by rw[← hH2,← hS];exact xc _ rfl
 refine codeAny_builtin F.entry_min_loop ?_;show PD _ A.in1 (seqItems? (.ref S') >>= _) _ _ _;refine Aa (wpAny_seqItems EQ rfl ?_);show PD _ A.in1 (tryCatch (pyNext (.ref I')) _ >>= _) _ _ _;have h0:0<vs.size:=by rw[FQ];exact Nat.succ_pos _
 refine Aa (wpAny_tryCatch (W.item 0 _ _ _ h0 (W.frame _ _ _ ⟨hIt,hA⟩ fun b Z o e=>NR b o e) fun v h' tk hP C0 FM=>?_));have CI:=FM S' _ JF EQ;show PD _ A.in1 (updateSeq S' (fun Z=>#[v,v]) >>= _) _ _ _;refine Aa ?_;refine wpAny_updateSeq CI rfl ?_;obtain ⟨v',DL,rv⟩:=rl.get (i:=0) (x:=x) rfl;have ev:v'=v:=by rw[xy,hP] at DL;exact (wx DL).symm
 subst ev;have hw:=W.frame _ _ (h'.update S' (Obj.mapSeq fun Z=>#[v',v'])) C0 fun b FX o e=>(yk _ _ (fun q:S'=b=>E6 (by rw[q];exact FX))).trans e;refine Ag ⟨plainId_quiet F.plain_min_loop _,qL (A:=A) hh (by lia) (by rw[← hI];exact AX) E6 rl OF OE _ 1 _ x r v' _ rfl hw.1 hw.2 rv hm (zw _ CI rfl) (fun b o e=>?_) fun v D1 K4 rv' FP=>?_⟩
 ·refine (yk _ _ (fun q=>by rw[← q,OE] at e;cases e)).trans (FM b o (fun m=>?_) (NR b o (kH b o e)));rw[wl.mp m,OF] at e;cases e
 ·exact K D1 K4 v rv' FP
end
theorem Qd {k:Nat}(h:Nat.ble k 1000000=true):(k:Int)<2 ^ 63:=by have:=xm h;lia
theorem xQ (i:Int)(t:Tok):Bz C Y h (.int i false) (.int i t):=Bz.int_t (sm:=false) fun q=>ft q
theorem gx (I:Bh C Y J s){m:Nat}{a:V}{va:OY}(ra:Bz C Y s.heap a va)(hz:Nat.ble m 1000000=true)(hm:g7 J a=some m){A:O8}{E Q:OY->OZ->Prop}(fin:Q (.int (m:Int) (s.toks+1)) { s with toks:=s.toks+1+1 }):PD C.md A (call (.builtin "len") [va]) Q E s:=
 oS1 hm (fun l hl e=>by
  cases e;obtain ⟨d,AE,rfl,hd,hD,hr⟩:=Ii I hl ra;exact call_len_dict (knd:=intKind C.prog C.w) (beq_eq_false_iff_ne.mpr hd) hD (by rw[← hr.length];exact Qd hz) (by rw[← hr.length];exact fin)) fun Z e=>oC1 e fun l hl e=>by
  cases e;obtain ⟨p,vs,m',rfl,gp,rp⟩:=Db I hl ra;have h1:=rp.length;rw[xq] at h1;exact Calls.call_len_list (Ll gp) (by rw[h1];exact Qd hz) (by rw[h1];exact fin)
theorem kq (I:Bh C Y J s){a v:V}{va:OY}(ra:Bz C Y s.heap a va)(e:ss J a=some v):At C n Y s (call (.builtin "len") [va]) J (RV C v):=by
 refine oC1 e fun m hm e=>?_;split at e
 ·rename_i hz;cases e;intro A Q E R k;have fin:Q (.int (m:Int) (s.toks+1)) { s with toks:=s.toks+1+1 }:=k _ _ _ (.tok I _) ⟨⟨_,rfl⟩,fun Z=>yg.mp (show (m:Int)<((2 ^ 63:Nat):Int) from Qd hz)⟩
  induction a using V.casesOn with
  |tup l=>
   cases hm;obtain ⟨p,vs,m',rfl,_,gp,rp⟩:=ra;have h1:=rp.length;rw[xq] at h1;exact PyProof.Rows.len_tuple (nV gp) (by rw[h1];exact Qd hz) (by rw[h1];exact fin)
  |str x=>
   cases hm;obtain ⟨t,rfl⟩:=ra;exact P.len_str (by have:=Qd hz;lia) fin
  |_=>exact gx I ra hz hm fin
 ·exact nn e
theorem f5 (I:Bh C Y J s){a v:V}{va:OY}(ra:Bz C Y s.heap a va)(e:uy J a=some v):At C n Y s (call (.builtin "sum") [va]) J (RV C v):=
 oC1 e fun l hl e=>oC1 e fun q hq e=>by
  cases e;obtain ⟨p,vs,m',rfl,gp,rp⟩:=Db I hl ra;exact fun A Q E R k=>o0 I R.hd gp (Hf hq rp) fun h' tk t hk=>k _ _ _ (I.ext hk tk) (xQ _ _)
theorem bk (I:Bh C Y J s){a v:V}{va:OY}(ra:Bz C Y s.heap a va)(e:tm J a=some v):At C n Y s (call (.builtin "max") [va]) J (RV C v):=
 oC1 e fun l hl e=>oC1 e fun q hq e=>by
  cases q with
  |nil=>exact nn e
  |cons x q=>
   cases e;obtain ⟨p,vs,m',rfl,gp,rp⟩:=Db I hl ra;exact fun A Q E R k=>lf I R.hd gp (Hf hq rp) fun h' tk t hk=>k _ _ _ (I.ext hk tk) (xQ _ _)
theorem fa (I:Bh C Y J s){a v:V}{va:OY}(ra:Bz C Y s.heap a va)(e:q7 J a=some v):At C n Y s (call (.builtin "min") [va]) J (RV C v):=
 oC1 e fun l hl e=>by
  cases l with
  |nil=>exact nn e
  |cons x r=>
   obtain ⟨p,vs,m',rfl,gp,rp⟩:=Db I hl ra;refine oS1 e (fun q hq e=>?_) fun Z e=>fun A Q E R k=>dj I R.hd (aC8 R.units64 (by decide)) gp rp e fun h' tk v rv hk=>k _ _ _ (I.ext hk tk) (rv.ext hk);cases q with
   |nil=>exact nn e
   |cons y q=>
    cases e;exact fun A Q E R k=>mw I R.hd gp (Hf hq rp) fun h' tk t hk=>k _ _ _ (I.ext hk tk) (xQ _ _)
theorem di (I:Bh C Y J s){a v:V}{va:OY}(ra:Bz C Y s.heap a va)(e:uw a=some v):At C n Y s (call (.builtin "ord") [va]) J (RV C v):=by
 induction a using V.casesOn with
 |str x=>
  obtain ⟨t,rfl⟩:=ra;obtain ⟨⟨l⟩⟩:=x;cases l with
  |nil=>exact nn e
  |cons c r=>
   cases r with
   |nil=>cases e;exact fun A Q E R k=>P.ord_of_char (k _ _ _ (.tok I _) (xQ _ _))
   |cons _ _=>exact nn e
 |_=>exact nn e
theorem tR (I:Bh C Y J s){a b v:V}{va vb:OY}(ra:Bz C Y s.heap a va)(rb:Bz C Y s.heap b vb)(e:ia a b=some v):At C n Y s (call (.builtin "min") [va,vb]) J (RV C v):=
 Ps e fun x p hx e=>Ps e fun y q hy e=>by
  cases e;subst hx;subst hy;obtain ⟨⟨t,rfl⟩,-⟩:=ra;obtain ⟨⟨u,rfl⟩,-⟩:=rb;refine fun A Q E R k=>min_two_ints R.hd fun h' tk hk=>k _ _ _ (I.ext hk tk) ?_;split<;>exact xQ _ _
theorem xG (I:Bh C Y J s){a v:V}{va:OY}(ra:Bz C Y s.heap a va)(e:iy a=some v):At C n Y s (call (.builtin "isinstance") [va,.type "tuple"]) J (RV C v):=by
 induction a using V.casesOn with
 |tup l=>cases e;obtain ⟨p,vs,m',rfl,_,gp,rp⟩:=ra;exact fun A Q E R k=>IsiPair.tuple_tuple gp rfl (k _ _ _ (.refl I) rfl)
 |int i p=>cases e;obtain ⟨⟨t,rfl⟩,-⟩:=ra;exact fun A Q E R k=>IsiPair.int_tuple (k _ _ _ (.tok I _) rfl)
 |_=>exact nn e
theorem yP (I:Bh C Y J s){a b v:V}{va vb:OY}(ra:Bz C Y s.heap a va)(rb:Bz C Y s.heap b vb)(e:ja a b=some v):At C n Y s (call (.builtin "isinstance") [va,vb]) J (RV C v):=by
 induction b using V.casesOn with
 |ty n=>
  split at e
  ·rename_i hn;cases rb;obtain rfl:=beq_iff_eq.mp hn;exact xG I ra e
  ·exact nn e
 |_=>exact nn e
theorem g9 (I:Bh C Y J s){id:String}{a v:V}{va:OY}(ra:Bz C Y s.heap a va)(e:rF J id a=some v):At C n Y s (call (.builtin id) [va]) J (RV C v):=by
 unfold rF at e;split at e
 ·obtain rfl:=beq_iff_eq.mp ‹_›;exact kq I ra e
 ·split at e
  ·obtain rfl:=beq_iff_eq.mp ‹(id=="sum")=true›;exact f5 I ra e
  ·split at e
   ·obtain rfl:=beq_iff_eq.mp ‹(id=="max")=true›;exact bk I ra e
   ·split at e
    ·obtain rfl:=beq_iff_eq.mp ‹(id=="min")=true›;exact fa I ra e
    ·split at e
     ·obtain rfl:=beq_iff_eq.mp ‹(id=="ord")=true›;exact di I ra e
     ·exact nn e
theorem a5 (I:Bh C Y J s){id:String}{a b v:V}{va vb:OY}(ra:Bz C Y s.heap a va)(rb:Bz C Y s.heap b vb)(e:jw id a b=some v):At C n Y s (call (.builtin id) [va,vb]) J (RV C v):=by
 unfold jw at e;split at e
 ·obtain rfl:=beq_iff_eq.mp ‹_›;exact tR I ra rb e
 ·split at e
  ·obtain rfl:=beq_iff_eq.mp ‹(id=="isinstance")=true›;exact yP I ra rb e
  ·exact nn e
theorem my (I:Bh C Y J s){id:String}{args:List V}{AR:List OY}{v:V}(ra:Bv C Y s.heap args AR)(e:uD J id args=some v):At C n Y s (call (.builtin id) AR) J (RV C v):=by
 cases args with
 |nil=>exact nn e
 |cons a r=>
  obtain ⟨va,_,rfl,ra,rr⟩:=ra;cases r with
  |nil=>cases rr;exact g9 I ra e
  |cons b r=>
   obtain ⟨vb,_,rfl,rb,rr⟩:=rr;cases r with
   |nil=>cases rr;exact a5 I ra rb e
   |cons _ _=>exact nn e
theorem Hi {p:Pos}:∀{es:List O6}{J Av:Aj}{vs:List V},Kb L e es J=some (vs,Av)->(backTo p (starEach es AA)).any (·.1)=false:=fun {es}=>by
 induction es with
 |nil=>intros;rfl
 |cons x r ih=>
  intro J Av vs h;exact itE (nS.symm.trans h) (fun Z=>nn) fun BM h=>oC2 h fun v Ab h1 h=>oC2 h fun vs Ai h2 h=>by
   rw[Ef (by simpa using BM)];exact ih h2
theorem Ni {p:Pos}:∀{ks:List Keyword}{J Av:Aj}{vs:List (O7×V)},dG L e ks J=some (vs,Av) ->
 (backToKw p (keywordEach ks AA)).any (·.1.isNone)=false∧(backToKw p (keywordEach ks AA)).all (·.1.isSome)=true∧(backToKw p (keywordEach ks AA)).filterMap (·.1)=vs.map (·.1):=fun {ks}=>by
 induction ks with
 |nil=>intro _ _ _ h;cases h;exact ⟨rfl,rfl,rfl⟩
 |cons kw r ih=>
  intro J Av vs h;obtain ⟨nm,x,kp⟩:=kw;refine oC1 (vQ.symm.trans h) fun LW hn h=>oC2 h fun v Ab h1 h=>oC2 h fun vs Ai h2 h=>?_;have hn:nm=_:=hn;cases h;obtain ⟨a,b,c⟩:=ih h2;rw[hn];exact ⟨a,b,(show LW::_=_ from congrArg _ c)⟩
theorem xN (L':Ce g L n)(W:Wd C g){p:Pos}:∀{ks:List Keyword}{Y:List O5}{J Av:Aj}{s:OZ}{vs:List (O7×V)},Bh C Y J s->Ba C Y e AA->dG L e ks J=some (vs,Av) ->
 At C n Y s (evalAll ((backToKw p (keywordEach ks AA)).map (·.2))) Av (fun Y h xs=>Bv C Y h (vs.map (·.2)) xs):=fun {ks}=>by
 induction ks with
 |nil=>
  intro Y J Av s vs I _ h;cases h;exact fun A Q E R k=>wpAny_evalAll_nil (k _ _ _ (.refl I) rfl)
 |cons kw r ih=>
  intro Y J Av s vs I X h;obtain ⟨nm,x,kp⟩:=kw;refine oC1 (vQ.symm.trans h) fun LW hn h=>oC2 h fun v Ab h1 h=>oC2 h fun vs Ai h2 h=>?_;cases h;exact fun A Q E R k=>kws_cons (name:=LW) (kp:=kp) (L'.ev W I X h1 A _ E R fun An Ao v Ay rv=>ih Ay.inv (X.go Ay) h2 A _ E R fun Bl Be vs Bm rs=>
   k _ _ _ (Ay.trans Bm) ⟨v,vs,rfl,rv.mv Bm.mv,rs⟩)
theorem dY (L':Ce g L n)(W:Wd C g)(I:Bh C Y J s)(X:Ba C Y e AA){f:V}{vf:OY}{args:List O6}{AJ:List Keyword}{p:Pos}{vs:List V}{ks:List (O7×V)}{v:V}(rf:Bz C Y s.heap f vf)
 (h1:Kb L e args J=some (vs,Ab)) (h2:dG L e AJ Ab=some (ks,Ai)) (h3:L.call f vs ks Ai=some (v,Av)) :
 At C n Y s (callWith p vf [] (backTo p (starEach args AA)) (backToKw p (keywordEach AJ AA))) Av (RV C v):=by
 intro A Q E R k;obtain ⟨k1,k2,k3⟩:=Ni (AA:=AA) (p:=p) h2;refine callWith_of (P:=fun h=>∃k,(k=Keeper.frame∨k=Keeper.machine∨k=Keeper.boundFrame)∧Looks C.md h (keeperOf vf) k) (by rw[Hi h1,k1];rfl) (fun Z x=>x) ?_;have fin:∀(An:List O5) (Ao:OZ) (xs:List OY),Ck C Y s An Ab Ao->Bv C An Ao.heap vs xs->PD C.md A (evalAll ((backToKw p (keywordEach AJ AA)).map (·.2)))
  (fun ys Be=>(∃k,(k=Keeper.frame∨k=Keeper.machine∨k=Keeper.boundFrame)∧Looks C.md Be.heap (keeperOf vf) k)∧PD C.md A (call vf ([]++xs) (((backToKw p (keywordEach AJ AA)).filterMap (·.1)).zip ys)) Q E Be) E Ao:=by
  intro An Ao xs Ay rs;refine xN L' W Ay.inv (X.go Ay) h2 A _ E R fun Bl Be ys Bm ry=>?_;have JY:=rf.mv (Ay.trans Bm).mv;refine ⟨L'.keep W Bm.inv h3 JY,?_⟩;rw[k3];exact L'.call W Bm.inv h3 JY (rs.mv Bm.mv) ry A Q E R fun Fy Cf x Ft rx=>k _ _ _ ((Ay.trans Bm).trans Ft) rx
 cases args with
 |nil=>
  cases h1;exact evalArgs_kw_nil k2 (fin _ _ _ (.refl I) rfl)
 |cons x r=>
  have hx:noStar x=true:=by
   split at h1
   ·cases h1
   ·rename_i BM;simpa using BM
  have e1:backTo p (starEach (x::r) AA)=(false,eval x AA)::backTo p (starEach r AA):=by rw[Ef hx];rfl
  have z:=Lk L' W (p:=p) I X h1 A _ E R fun An Ao xs Ay rs=>fin An Ao xs Ay rs;rw[e1] at z ⊢;exact evalArgs_kw k2 z
theorem ae (L':Ce g L n)(W:Wd C g)(I:Bh C Y J s)(X:Ba C Y e AA){nm:O7}{q p:Pos}{args:List O6}{AJ:List Keyword}{f v:V}{vs:List V}{ks:List (O7×V)}(h0:Dc g e nm J=some f)
 (h1:Kb L e args J=some (vs,Ab)) (h2:dG L e AJ Ab=some (ks,Ai)) (h3:L.call f vs ks Ai=some (v,Av)):At C n Y s (eval (.Call (.Name nm q) args AJ p) AA) Av (RV C v):=fun A Q E R k=>
 wpAny_Call_Name_kw (Ti W I X h0 A _ E R fun An Ao vf Ay rf=>dY L' W Ay.inv (X.go Ay) rf h1 h2 h3 A Q E R fun Bl Be x Bm rx=>k _ _ _ (Ay.trans Bm) rx)
theorem Ub (I:Bh C Y J s){o:V}{vo:OY}{j:Nat}{l:List V}(ro:Bz C Y s.heap o vo)(e:Va J o=some (j,l)) :
 ∃a vs k,vo = .ref a∧Y[j]?=some a∧IsL s.heap a vs k∧Bv C Y s.heap l vs.toList∧vs.size=l.length∧vs.size≤sizeLine:=by
 induction o using V.casesOn with
 |ref i=>
  refine oC1 e fun l' hl e=>?_;split at e
  ·rename_i hz;cases e;obtain ⟨a,rfl,ha⟩:=ro;obtain ⟨vs,k,h1,h2⟩:=I.objs _ _ _ ha (Qv hl);have h3:=h2.length;rw[xq] at h3;exact ⟨a,vs,k,rfl,ha,h1,h2,h3,by rw[h3];exact Dh hz⟩
  ·exact nn e
 |_=>exact nn e
theorem Uf (I:Bh C Y J s){j:Nat}{a:O5}{vs:Array OY}{k:Nat}{l':List V}(f:Array OY->Array OY)(ha:Y[j]?=some a)(hl:IsL s.heap a vs k)(r:Bv C Y s.heap l' (f vs).toList)(tk:Nat) :
 Ck C Y s Y (J.set j (.lst l')) { s with heap:=s.heap.update a (Obj.mapSeq f),toks:=tk }:=by
 have z:=I.update (ao:=.lst l') ha (h':=s.heap.update a (Obj.mapSeq f)) (fun b o hb e=>(yk _ _ (Ne.symm hb)).trans e) fun M=>⟨_,_,IsL.update hl f,r.mv M⟩;exact ⟨z.inv.tok tk,z.mv⟩
theorem Bv.erase {l:List V}:∀{vs:List OY}(k:Nat),Bv C Y h l vs->Bv C Y h (l.eraseIdx k) (vs.eraseIdx k):=by
 induction l with
 |nil=>intro vs k r;rw[r];exact rfl
 |cons x l ih=>
  intro vs k R;obtain ⟨v,vs,e,r1,r⟩:=R;rw[e]
  induction k with
  |zero=>exact r
  |succ k=>exact ⟨v,_,rfl,r1,ih k r⟩
theorem rP:∀{l:List V}{q:List O7}{vs:List OY},nB l=some q->Bv C Y h l vs->∃ts:List (O7×Tok),vs=strValues ts∧ts.map (·.1)=q:=fun {l}=>by
 induction l with
 |nil=>intro q vs e r;cases e;exact ⟨[],r,rfl⟩
 |cons x l ih=>
  intro q vs e r;obtain ⟨v,vs,rfl,r1,r2⟩:=r;refine Ei e fun i q h1 h2 e=>?_;rw[aO h1] at r1;obtain ⟨t,rfl⟩:=r1;obtain ⟨ts,rfl,h3⟩:=ih h2 r2;exact ⟨(_,t)::ts,rfl,by rw[e,← h3];rfl⟩
theorem oF {i:Int}(h:i.natAbs<2 ^ 63):Builtin.List.listFitsIndex i=true:=by
 unfold Builtin.List.listFitsIndex;simp only[Bool.and_eq_true,decide_eq_true_eq];exact ⟨yp (aR1 h).1,(aR1 h).2⟩
theorem sK {vs:List OY}{q:List Int}(h:IntsAre vs q)(k:Int):∀(j:Nat)(v:OY),vs[j]?=some v->∃x,q[j]?=some x∧isInt k v=(x==k):=by
 induction h with
 |nil=>intro j v h;rw[List.getElem?_nil] at h;exact nn h
 |cons x t r ih=>
  intro j v h;cases j with
  |zero=>cases h;exact ⟨x,rfl,rfl⟩
  |succ j=>exact ih j v h
theorem ju (I:Bh C Y J s){o a v:V}{vo va:OY}(ro:Bz C Y s.heap o vo)(ra:Bz C Y s.heap a va)(e:vm J o a=some (v,Av)):At C n Y s (call (.builtin "list.pop") [vo,va]) Av (RV C v):=
 oC2 e fun j l hj e=>Ps e fun i q hi e=>oC1 e fun p hp e=>oC1 e fun x hx e=>by
  cases e;subst hi;obtain ⟨hb,hp⟩:=Nn hp;obtain ⟨⟨t,rfl⟩,-⟩:=ra;obtain ⟨a,vs,m,rfl,ha,hl,hr,hs,hz⟩:=Ub I ro hj;obtain ⟨y,hy,ry⟩:=hr.get hx;rw[xy] at hy;intro A Q E R k;refine call_meets F.slot_list_pop ⟨_,hl,rfl⟩ F.entry_list_pop (F.args_list_pop_2 _ _) (MeetsSeq.list_pop_at a vs m _ t p y (oF hb) (by rw[hs];exact hp) hy hz) ⟨hl,?_⟩;have z:=Uf I (l':=l.eraseIdx p) (fun xs=>xs.eraseIdxIfInBounds p) ha hl (by
   rw[show (vs.eraseIdxIfInBounds p).toList=vs.toList.eraseIdx p by simp];exact hr.erase _) s.toks
  exact k _ _ _ z (ry.mv z.mv)
theorem uG (I:Bh C Y J s){o a v:V}{vo va:OY}(ro:Bz C Y s.heap o vo)(ra:Bz C Y s.heap a va)(e:sU J o a=some (v,Av)):At C n Y s (call (.builtin "list.index") [vo,va]) Av (RV C v):=
 oC1 e fun l hl e=>Ps e fun i p hi e=>oC1 e fun q hq e=>oC1 e fun j hj e=>by
  split at e
  ·rename_i hz;cases e;subst hi;obtain ⟨⟨t,rfl⟩,-⟩:=ra;obtain ⟨a,vs,m,rfl,gp,hr⟩:=Db I hl ro;have hi:=Hf hq hr;have hn:vs.size=q.length:=by rw[← hi.length,xq]
   obtain ⟨j1,j2,j3⟩:=List.findIdx?_eq_some_iff_getElem.mp hj;have hz:=xm hz;have jv:j<vs.size:=hn ▸ j1;have at':∀p (hp:p<vs.size),isInt i vs[p]=(q[p]'(hn ▸ hp)==i):=fun p hp=>by
    obtain ⟨x,hx,hb⟩:=sK hi i p vs[p] (by rw[xy,Aaa hp]);rw[x7 (hn ▸ hp)] at hx;cases hx;exact hb
   intro A Q E R k;refine call_meets F.slot_list_index ⟨_,gp,rfl⟩ F.entry_list_index (F.args_list_index_2 _ _) (MeetsSeq.list_index a vs m (.int i t) (isInt i) (fun y hy=>eq_isInt i t hi y (by simpa using hy)) j jv (by lia)
    (by rw[at' j jv];exact j2) (fun p hp AZ=>by rw[at' p hp];simpa using j3 p AZ)) ⟨gp,?_⟩
   exact k _ _ _ (.tok I _) ⟨⟨_,rfl⟩,fun Z=>xd j1 (wp hz (by decide))⟩
  ·exact nn e
theorem aj (I:Bh C Y J s){o a v:V}{vo va:OY}(ro:Bz C Y s.heap o vo)(ra:Bz C Y s.heap a va)(e:i7 J o a=some (v,Av)):At C n Y s (call (.builtin "str.join") [vo,va]) Av (RV C v):=by
 induction o using V.casesOn with
 |str x=>
  refine oC1 e fun l hl e=>oC1 e fun q hq e=>?_;split at e
  ·rename_i CY;cases e;obtain ⟨t,rfl⟩:=ro;obtain ⟨a,vs,m,rfl,gp,hr⟩:=Db I hl ra;obtain ⟨ts,h1,h2⟩:=rP hq hr;exact fun A Q E R k=>SC.join (l:=ts) (by rw[← h1,Array.toArray_toList];exact Ll gp) h2 CY fun t' tk=>k _ _ _ (.tok I tk) ⟨t',rfl⟩
  ·exact nn e
 |_=>exact nn e
theorem qQ (I:Bh C Y J s){o a b v:V}{vo va vb:OY}(ro:Bz C Y s.heap o vo)(ra:Bz C Y s.heap a va)(rb:Bz C Y s.heap b vb)(e:oG J o a b=some (v,Av)):At C n Y s (call (.builtin "list.insert") [vo,va,vb]) Av (RV C v):=
 oC2 e fun j l hj e=>Ps e fun i q hi e=>by
  split at e
  ·rename_i IS;cases e;subst hi;have IS:=Jl.mp IS;obtain ⟨⟨t,rfl⟩,-⟩:=ra;obtain ⟨a,vs,m,rfl,ha,hl,hr,hs,hz⟩:=Ub I ro hj;intro A Q E R k;refine call_meets F.slot_list_insert ⟨_,hl,rfl⟩ F.entry_list_insert (F.args_list_insert_3 _ _ _) (AutoListH.list_insert_list_int_val_1 a vs m i t vb (by rw[oF IS];decide) hz) ⟨hl,?_⟩;exact k _ _ _ (Uf I (fun xs=>have k:=if i<0 then (i+((xs.size:Nat):Int)).toNat else min i.toNat xs.size;(xs.extract 0 k).push vb++xs.extract k) ha hl
    (l':=l.take (Hu l.length i)++_::l.drop (Hu l.length i)) (by
     have e1:((vs.extract 0 (Hu vs.size i)).push vb++vs.extract (Hu vs.size i)).toList=vs.toList.take (Hu vs.size i)++vb::vs.toList.drop (Hu vs.size i):=by
      simp
      exact List.take_of_length_le (by simp)
     show Bv C Y s.heap _ ((vs.extract 0 (Hu vs.size i)).push vb++vs.extract (Hu vs.size i)).toList;rw[e1,hs];exact (hr.take _).append ⟨vb,_,rfl,rb,hr.drop _⟩) s.toks) rfl
  ·exact nn e
theorem p9 (I:Bh C Y J s){o a b v:V}{vo va vb:OY}(ro:Bz C Y s.heap o vo)(ra:Bz C Y s.heap a va)(rb:Bz C Y s.heap b vb)(e:rm J o a b=some (v,Av)):At C n Y s (call (.builtin "dict.get") [vo,va,vb]) Av (RV C v):=
 oC1 e fun l hl e=>Ps e fun i q hi e=>by
  cases e;subst hi;obtain ⟨⟨t,rfl⟩,-⟩:=ra;obtain ⟨d,AE,rfl,hd,hD,hr⟩:=Ii I hl ro;intro A Q E R k;refine call_meetsIn F.slot_dict_get hD.typeIs F.entry_dict_get (F.args_dict_get_3 _ _ _) (meets_dict_get_default (intKind C.prog C.w) d (k:=i) (key:=.int i t) (intKind_is _ _ i t) (beq_eq_false_iff_ne.mpr hd) vb) ⟨_,hD.mapOf,?_⟩;refine k _ _ _ (.tok I _) ?_;have:=Gc (k:=i) hr;cases q:Eu i l with
  |none=>
   rw[q] at this;rw[show valueAt AE i=none from this];exact rb
  |some x=>
   rw[q] at this;obtain ⟨w,h1,h2⟩:=this;rw[h1];exact h2
theorem v6 (I:Bh C Y J s){id:String}{args:List V}{AR:List OY}{v:V}(ra:Bv C Y s.heap args AR)(e:jg id args J=some (v,Av)):At C n Y s (call (.builtin id) AR) Av (RV C v):=by
 cases args with
 |nil=>exact nn e
 |cons o r=>
  obtain ⟨vo,_,rfl,ro,rr⟩:=ra;cases r with
  |nil=>exact nn e
  |cons a r=>
   obtain ⟨va,_,rfl,ra,rr⟩:=rr;cases r with
   |nil=>
    cases rr;have e:gm J id o a=some (v,Av):=e;unfold gm at e;split at e
    ·obtain rfl:=beq_iff_eq.mp ‹_›;exact ju I ro ra e
    ·split at e
     ·obtain rfl:=beq_iff_eq.mp ‹(id=="list.index")=true›;exact uG I ro ra e
     ·split at e
      ·obtain rfl:=beq_iff_eq.mp ‹(id=="str.join")=true›;exact aj I ro ra e
      ·exact nn e
   |cons b r=>
    obtain ⟨vb,_,rfl,rb,rr⟩:=rr;cases r with
    |nil=>
     cases rr;have e:uv J id o a b=some (v,Av):=e;unfold uv at e;split at e
     ·obtain rfl:=beq_iff_eq.mp ‹_›;exact qQ I ro ra rb e
     ·split at e
      ·obtain rfl:=beq_iff_eq.mp ‹(id=="dict.get")=true›;exact p9 I ro ra rb e
      ·exact nn e
    |cons _ _=>exact nn e
theorem mU (L':Ce g L n)(W:Wd C g)(I:Bh C Y J s)(X:Ba C Y e AA){id:String}{first:List OY}{args:List O6}{p q:Pos}{vs:List V}{R₂:List O5->O9->OY->Prop}
 (h1:Kb L e args J=some (vs,Ab)) (k:∀An Ao xs,Ck C Y s An Ab Ao->Bv C An Ao.heap vs xs->At C n An Ao (call (.builtin id) (first++xs)) Av R₂) :
 At C n Y s (callWith q (.builtin id) first (backTo p (starEach args AA)) []) Av R₂:=by
 intro A Q E R K;refine callWith_of (P:=fun Z=>True) (by rw[Hi h1];rfl) (fun Z Z=>⟨.machine,.inr (.inl rfl),Looks.of_pure rfl⟩) ?_;have fin:∀(An:List O5) (Ao:OZ) (xs:List OY),Ck C Y s An Ab Ao->Bv C An Ao.heap vs xs->PD C.md A (evalAll (([]:List (Option O7×Sem OY)).map (·.2)))
  (fun ys Be=>True∧PD C.md A (call (.builtin id) (first++xs) ((([]:List (Option O7×Sem OY)).filterMap (·.1)).zip ys)) Q E Be) E Ao:=fun An Ao xs Ay rs=>
  wpAny_evalAll_nil ⟨trivial,k An Ao xs Ay rs A Q E R fun Bl Be x Bm hx=>K _ _ _ (Ay.trans Bm) hx⟩
 cases args with
 |nil=>
  cases h1;exact evalArgs_kw_nil rfl (fin _ _ _ (.refl I) rfl)
 |cons x r=>
  have hx:noStar x=true:=by
   split at h1
   ·cases h1
   ·rename_i BM;simpa using BM
  have e1:backTo p (starEach (x::r) AA)=(false,eval x AA)::backTo p (starEach r AA):=by rw[Ef hx];rfl
  have z:=Lk L' W (p:=p) I X h1 A _ E R fun An Ao xs Ay rs=>fin An Ao xs Ay rs;rw[e1] at z ⊢;exact evalArgs_kw rfl z
theorem Ip {o:O6}{nm:O7}{w:Sem OY}(h:noSuper o=true):attributeBase o nm AA w=w:=by
 induction o using O6.casesOn with
 |Call f as ks p=>
  induction f using O6.casesOn with
  |Name x q=>cases as with
   |nil=>cases ks with
    |nil=>exact ft h
    |cons _ _=>rfl
   |cons _ _=>rfl
  |_=>rfl
 |_=>rfl
def Zo (s:OZ) (vo:OY) (nm:O7) (id:String):Prop:=
 ∃T,PlainAttrs T∧Slot T nm id∧typeOf (.builtin id)=pure (.type "method_descriptor")∧s.TypeIs vo T∧(∀a,vo = .ref a->∃ob,s.heap.get? a=some ob∧ob.dict=none)
theorem yD {nm:O7}{id:String}{x:O7}{t:Tok}(e:(if nm==("join":O7) then some "str.join" else none)=some id):Zo s (.str x t) nm id:=by
 split at e
 ·obtain rfl:=beq_iff_eq.mp ‹_›;cases e;exact ⟨"str",F.plainAttrs_str,F.slot_str_join,F.type_str_join,typeIs_str _ _ _,fun Z q=>nomatch q⟩
 ·exact nn e
theorem wA {a:O5}{vs:Array OY}{m:Nat}{nm:O7}{id:String}(gp:IsL s.heap a vs m)(e:wL nm=some id):Zo s (.ref a) nm id:=by
 have h4:s.TypeIs (.ref a) "list":=⟨_,gp,rfl⟩;have h5:∀b,OY.ref a = .ref b->∃ob,s.heap.get? b=some ob∧ob.dict=none:=fun b q=>by cases q;exact ⟨_,gp,rfl⟩
 unfold wL at e;split at e
 ·obtain rfl:=beq_iff_eq.mp ‹_›;cases e;exact ⟨"list",F.plainAttrs_list,F.slot_list_insert,F.type_list_insert,h4,h5⟩
 ·split at e
  ·obtain rfl:=beq_iff_eq.mp ‹(nm==("pop":O7))=true›;cases e;exact ⟨"list",F.plainAttrs_list,F.slot_list_pop,F.type_list_pop,h4,h5⟩
  ·split at e
   ·obtain rfl:=beq_iff_eq.mp ‹(nm==("index":O7))=true›;cases e;exact ⟨"list",F.plainAttrs_list,F.slot_list_index,F.type_list_index,h4,h5⟩
   ·exact nn e
theorem vM (I:Bh C Y J s){o:V}{vo:OY}{nm:O7}{id:String}(ro:Bz C Y s.heap o vo)(e:je J o nm=some id):Zo s vo nm id:=
 oS1 e (fun l hl e=>by
  obtain ⟨a,vs,m,rfl,gp,hr⟩:=Db I hl ro;exact wA gp e) fun Z e=>oC1 e fun l hl e'=>by
  split at e'
  ·obtain rfl:=beq_iff_eq.mp ‹_›;cases e';obtain ⟨d,AE,rfl,hd,hD,hr⟩:=Ii I hl ro;exact ⟨"dict",F.plainAttrs_dict,F.slot_dict_get,F.type_dict_get,hD.typeIs,hD.mapOf.noDict⟩
  ·exact nn e'
theorem pS (I:Bh C Y J s){o:V}{vo:OY}{nm:O7}{id:String}(ro:Bz C Y s.heap o vo)(e:Uc J o nm=some id):Zo s vo nm id:=by
 induction o using V.casesOn with
 |str x=>obtain ⟨t,rfl⟩:=ro;exact yD e
 |_=>exact vM I ro e
theorem gt (L':Ce g L n)(W:Wd C g)(I:Bh C Y J s)(X:Ba C Y e AA){o:O6}{nm:O7}{ap p:Pos}{args:List O6}{ov v:V}{vs:List V}{id:String}
 (hg:(ap.endLine==p.line&&noSuper o&&Nat.blt args.length 29)=true) (h0:L.ev e o J=some (ov,Ab)) (h1:Uc Ab ov nm=some id) (h2:Kb L e args Ab=some (vs,Ai)) (h3:jg id (ov::vs) Ai=some (v,Av)) :
 At C n Y s (eval (.Call (.Attribute o nm ap) args [] p) AA) Av (RV C v):=by
 intro A Q E R k;simp only[Bool.and_eq_true] at hg;refine wpAny_Call_method_late (Ip hg.1.2) ?_ hg.1.1 rfl (L'.ev W I X h0 A _ E R fun An Ao vo Ay ro=>?_)
 ·have:=Hi (AA:=AA) (p:=p) h2;simp only[Bool.and_eq_true,decide_eq_true_eq];refine ⟨⟨?_,rfl⟩,?_⟩
  ·rw[List.all_eq_not_any_not];simp only[Bool.not_not];rw[this];rfl
  ·have:=xm hg.2;show args.length+0+_<30;simp only[List.isEmpty_nil,if_true]
   lia
 ·obtain ⟨T,a,b,c,d,f⟩:=pS Ay.inv ro h1;exact ⟨T,id,a,b,c,d,f,mU L' W Ay.inv (X.go Ay) h2 (fun Bl Be xs Bm rs=>v6 Bm.inv (show Bv C Bl Be.heap (ov::vs) (vo::xs) from ⟨vo,xs,rfl,ro.mv Bm.mv,rs⟩) h3) A Q E R fun Bl Be x Bm rx=>k _ _ _ (Ay.trans Bm) rx⟩
theorem Ba.wo {C:Cx}{Y:List O5}{e:As}{AA:Env}(X:Ba C Y e AA)(o:List O5):Ba (C.wo o) Y e AA:=⟨X.sc,X.ok,X.loc,X.gl,X.bl,X.ce,X.lam⟩
theorem Ba.un {C:Cx}{Y:List O5}{e:As}{AA:Env}{o:List O5}(X:Ba (C.wo o) Y e AA):Ba C Y e AA:=⟨X.sc,X.ok,X.loc,X.gl,X.bl,X.ce,X.lam⟩
theorem Bh.enter (I:Bh C Y J s){nw:List O5}{h':O9}{tk:Nat}(k:∀b o,s.heap.get? b=some o->h'.get? b=some o)(hn:∀a∈nw,s.heap.get? a=none∧∃o,h'.get? a=some o):Bh (C.wo (nw++C.off)) Y J { s with heap:=h',toks:=tk }:=
 I.junk (fun b o Z e=>k b o e) (fun a m=>(xk.mp m).elim (fun q=>.inr (hn a q).1) .inl)
  (fun a m=>(xk.mp m).elim (fun q=>(hn a q).2) fun q=>(by obtain ⟨o,z⟩:=(I.offs a q).2.2;exact ⟨o,k a o z⟩))
theorem Kp.enter {nw off:List O5}{h h':O9}(k:∀b o,h.get? b=some o->h'.get? b=some o)(hn:∀a∈nw,h.get? a=none):Kp off (nw++off) Y Y h h':=
 ⟨fun b o n e=>⟨⟨n.1,fun m=>(xk.mp m).elim (fun q=>by rw[hn b q] at e;cases e) n.2⟩,k b o e⟩,fun Z Z e=>e⟩
theorem Kp.leave {nw off:List O5}{h h':O9}(k:∀b o,b∉nw->h.get? b=some o->h'.get? b=some o):Kp (nw++off) off Y Y h h':=
 ⟨fun b o n e=>⟨⟨n.1,fun m=>n.2 (yd _ m)⟩,k b o (fun m=>n.2 (xp _ m)) e⟩,fun Z Z e=>e⟩
theorem Ck.under {nw:List O5}{Hj:O9}{pi:Nat}(k1:∀b o,s.heap.get? b=some o->Hj.get? b=some o)(hn:∀a∈nw,s.heap.get? a=none)
 (G:Ck (C.wo (nw++C.off)) Y { s with heap:=Hj,toks:=pi } Bx Av Be){Tc:O9}{t₃:Nat} (k2:∀b o,b∉nw->Be.heap.get? b=some o->Tc.get? b=some o) (ho:∀a∈C.off,∃o,s.heap.get? a=some o) :
 Ck C Y s Bx Av { Be with heap:=Tc,toks:=t₃ } where
 inv:=G.inv.junk (AC:=C.off) (fun b o hb e=>k2 b o (fun m=>hb (xp _ m)) e) (fun a m=>.inl (yd _ m))
  (fun a m=>(by obtain ⟨_,_,o,z⟩:=G.inv.offs a (yd _ m);exact ⟨o,k2 a o (fun q=>by obtain ⟨o',z'⟩:=ho a m;rw[hn a q] at z';cases z') z⟩))
 mv:={
  ext:=G.mv.ext
  fresh:=fun a m=>(G.mv.fresh a m).imp id fun q=>by
   cases z:s.heap.get? a with
   |none=>rfl
   |some o=>
    rw[k1 a o z] at q;cases q
  keep:=fun b o hb e=>k2 b o (fun m=>by rw[hn b m] at e;cases e) (G.mv.keep b o hb (k1 b o e)) }
theorem Bh.offGet (I:Bh C Y J s):∀a∈C.off,∃o,s.heap.get? a=some o:=fun a m=>(I.offs a m).2.2
theorem Bh.offNew (I:Bh C Y J s){a:O5}(e:s.heap.get? a=none):a∉C.off:=fun m=>by obtain ⟨o,z⟩:=I.offGet a m;rw[z] at e;cases e
theorem Vt {k k':Int}{w v:OY}{r:List (Int×OY)}(h:k'≠k):stored ((k',w)::r) k v=(k',w)::stored r k v:=by
 unfold stored;by_cases q:(r.any fun kv=>decide (kv.1=k))=true
 ·rw[if_pos q,if_pos (by rw[List.any_cons,q,Bool.or_true])];rw[x8,if_neg h]
 ·rw (config:={}) [if_neg q,if_neg (by rw[List.any_cons,Bool.or_eq_true];exact fun z=>z.elim (fun y=>h (of_decide_eq_true y)) q)]
  rfl
theorem Uq {k:Int}{w v:OY}{r:List (Int×OY)}(h:k∉r.map (·.1)):stored ((k,w)::r) k v=(k,v)::r:=by
 unfold stored;rw[if_pos (by rw[List.any_cons];simp),x8,if_pos rfl,map_store_of_not_mem r k v h]
theorem Eh.put {x:V}{v:OY}{k:Int}:∀{l:List (Int×V)}{AE:List (Int×OY)},Eh C Y h l AE->(AE.map (·.1)).Nodup->Bz C Y h x v->Eh C Y h (Js k x l) (stored AE k v):=fun {l}=>by
 induction l with
 |nil=>intro AE r _ rv;rw[show AE=[] from r];exact ⟨v,[],rfl,rv,rfl⟩
 |cons p l ih=>
  intro AE r hn rv;obtain ⟨k',u⟩:=p;obtain ⟨w,ks,rfl,r1,r2⟩:=r;rw[x8,yq] at hn;rw[Vz];by_cases q:k'=k
  ·subst q;rw[if_pos rfl,Uq hn.1];exact ⟨v,ks,rfl,rv,r2⟩
  ·rw[if_neg q,Vt q];exact ⟨w,_,rfl,r1,ih r2 hn.2 rv⟩
theorem aH {AE:List (Int×OY)}(hn:(AE.map (·.1)).Nodup)(k:Int)(v:OY):((stored AE k v).map (·.1)).Nodup:=by
 unfold stored;split
 ·rw[keys_map_store];exact hn
 ·rename_i q;rw[yc,zd];refine ⟨hn,by simp,fun a ha b hb z=>q ?_⟩;subst z;have:a=k:=by simpa using hb
  subst this;obtain ⟨p,hp,rfl⟩:=xr.mp ha;exact List.any_eq_true.mpr ⟨p,hp,by simp⟩
theorem Eh.merge:∀{ps:List (Int×V)}{qs:List (Int×OY)}{l:List (Int×V)}{AE:List (Int×OY)},Eh C Y h l AE->(AE.map (·.1)).Nodup->Eh C Y h ps qs->Eh C Y h (Fq l ps) (merged AE qs):=fun {ps}=>by
 induction ps with
 |nil=>intro qs l AE r _ e;rw[show qs=[] from e];exact r
 |cons p ps ih=>
  intro qs l AE r hn r0;obtain ⟨k,x⟩:=p;obtain ⟨v,qs,rfl,r1,r2⟩:=r0;show Eh C Y h (Fq (Js k x l) ps) (merged (stored AE k v) qs);exact ih (r.put hn r1) (aH hn k v) r2
def iW (C:Cx) (Y:List O5) (h:O9):List (V×V)->List (OY×OY)->Prop
 |[],vs=>vs=[]
 |(a,b)::r,vs=>∃x y BB,vs=(x,y)::BB∧Bz C Y h a x∧Bz C Y h b y∧iW C Y h r BB
theorem iW.mv {h':O9}(x:Mv Y Bx h h'):∀{l:List (V×V)}{vs:List (OY×OY)},iW C Y h l vs->iW C Bx h' l vs:=fun {l}=>by
 induction l with
 |nil=>exact fun r=>r
 |cons a l ih=>
  intro vs r;obtain ⟨a,b,vs,e,r1,r2,r⟩:=r;exact ⟨a,b,vs,e,r1.mv x,r2.mv x,ih r⟩
theorem iW.carries:∀{l:List (V×V)}{ps:List (Int×V)}{vs:List (OY×OY)},Us l=some ps->iW C Y h l vs->∃AE,Carries (intKind C.prog C.w) vs AE∧Eh C Y h ps AE:=fun {l}=>by
 induction l with
 |nil=>intro ps vs e r;cases e;rw[r];exact ⟨[],trivial,rfl⟩
 |cons a l ih=>
  intro ps vs e r;obtain ⟨a,b⟩:=a;obtain ⟨x,y,vs,rfl,r1,r2,r⟩:=r;refine Ei e fun i q h1 h2 e=>Ps h1 fun k Z hx h1=>?_;have hx:a=_:=hx;rw[hx] at r1;cases h1;obtain ⟨AE,c1,c2⟩:=ih h2 r;obtain ⟨⟨t,rfl⟩,-⟩:=r1;rw[e];exact ⟨(k,y)::AE,⟨intKind_is _ _ _ _,rfl,c1⟩,y,AE,rfl,r2,c2⟩
theorem qR {e:As}{p:Pos}:∀{ks:List (Option O6)}{vs:List O6}{J Av:Aj}{l:List (V×V)},nJ L e ks vs J=some (l,Av)->∃qs:List (O6×O6),qs.length=ks.length ∧
 (evalEachOpt ks AA).zip ((evalEach vs AA).map fun v=>do let x ← v;standAt p;pure x)=(qs.map fun q=>((eval q.1 AA,do let x ← eval q.2 AA;standAt p;pure x):Sem OY×Sem OY)).map (fun p=>(some p.1,p.2)) ∧
 ks=qs.map (some ·.1)∧vs=qs.map (·.2):=fun {ks}=>by
 induction ks with
 |nil=>
  intro vs J Av l h;cases vs with
  |nil=>exact ⟨[],rfl,rfl,rfl,rfl⟩
  |cons=>exact nn h
 |cons k ks ih=>
  intro vs J Av l h;refine oC1 (jc.symm.trans h) fun k hk h=>?_;subst hk;cases vs with
  |nil=>exact nn h
  |cons v vs=>
   exact oC2 h fun a Ab Z h=>oC2 h fun b Ai Z h=>oC2 h fun l Bk h3 h=>by
    obtain ⟨qs,h1,h2,h4,h5⟩:=ih h3;refine ⟨(k,v)::qs,by rw[x9,x9,h1],?_,by rw[h4];rfl,by rw[h5];rfl⟩;rw[x8,x8,← h2];rfl
theorem lw (L':Ce g L n)(W:Wd C g){p:Pos}:∀{qs:List (O6×O6)}{Y:List O5}{J Av:Aj}{s:OZ}{l:List (V×V)},Bh C Y J s->Ba C Y e AA->nJ L e (qs.map (some ·.1)) (qs.map (·.2)) J=some (l,Av) ->
 At C n Y s (evalPairs (qs.map fun q=>(eval q.1 AA,do let x ← eval q.2 AA;standAt p;pure x))) Av (fun Y h xs=>iW C Y h l xs):=fun {qs}=>by
 induction qs with
 |nil=>
  intro Y J Av s l I _ h;cases h;exact fun A Q E R k=>evalPairs_nil (k _ _ _ (.refl I) rfl)
 |cons q qs ih=>
  intro Y J Av s l I X h A Q E R k;exact oC2 h fun a Ab h1 h=>oC2 h fun b Ai h2 h=>oC2 h fun l Bk h3 h=>by
   cases h;refine evalPairs_cons (L'.ev W I X h1 A _ E R fun An Ao x Ay rx=>Aa (L'.ev W Ay.inv (X.go Ay) h2 A _ E R fun Bl Be y Bm ry=>Aa (wpAny_standAt (Ag ?_))));exact ih Bm.inv ((X.go Ay).go Bm) h3 A _ E R fun Fy Cf vs Ft rs=>k _ _ _ ((Ay.trans Bm).trans Ft) ⟨x,y,vs,rfl,(rx.mv Bm.mv).mv Ft.mv,ry.mv Ft.mv,rs⟩
theorem Kp.watch {a:O5}{off:List O5}{h h':O9}(k:∀b o,b∉[a]->h.get? b=some o->h'.get? b=some o):Kp ([a]++off) off Y (Y++[a]) h h':=
 ⟨fun b o n e=>⟨⟨fun m=>(xk.mp m).elim n.1 fun m=>n.2 (xp _ m),fun m=>n.2 (yd _ m)⟩,k b o (fun m=>n.2 (xp _ m)) e⟩,
  fun i b e=>by rw[yu (wv.mp e).1];exact e⟩
theorem Ck.watch {a:O5}{Hj:O9}{pi:Nat}(I:Bh C Y J s)(k1:∀b o,s.heap.get? b=some o->Hj.get? b=some o)(hn:s.heap.get? a=none)
 (G:Ck (C.wo ([a]++C.off)) Y { s with heap:=Hj,toks:=pi } Bx Av Be){Tc:O9}{t₃:Nat}{ao:Cv} (k2:∀b o,b∉[a]->Be.heap.get? b=some o->Tc.get? b=some o)
 (ho:a≠sysModules->Gy C (Bx++[a]) Tc a ao):Ck C Y s (Bx++[a]) (Av++[ao]) { Be with heap:=Tc,toks:=t₃ }:=by
 obtain ⟨⟨f1,f2⟩,f3,f4⟩:=I.free hn;have K:=Kp.watch (Y:=Bx) (off:=C.off) k2;have ha:a∉Bx:=(G.inv.offs a (.head _)).1;refine ⟨⟨by simp[G.inv.len],zd.mpr ⟨G.inv.nd,by simp,fun b m c m' q=>ha (wl.mp m' ▸ q ▸ m)⟩,fun b o hb e=>?_,fun b m=>?_,fun i b ob e1 e2=>?_,G.inv.os,G.inv.gens,G.inv.big,fun b m=>?_,((by obtain ⟨t,e⟩:=G.inv.tb;exact ⟨t++[a],by rw[e,xj]⟩))⟩,?_⟩
 ·exact k2 b o (fun m=>hb (yd _ m)) (G.inv.base b o (fun m=>hb (xp _ m)) e)
 ·rcases xk.mp m with m|m
  ·exact G.inv.fns b m
  ·exact .inl (wl.mp m ▸ f3)
 ·rcases ye i Bx.length with hi|hi
  ·have e1:=(yu hi) ▸ e1;rw[yu (G.inv.len ▸ hi)] at e2;have bm:=xt e1;obtain ⟨o,hh⟩:=G.inv.at bm;have hb:b∉[a]:=fun m=>ha (wl.mp m ▸ bm);exact (G.inv.objs i b ob e1 e2).gen (AC:=C.off) K ((k2 b o hb hh).trans hh.symm)
  ·have AT:i=Bx.length:=by
    have:=(wv.mp e1).1;simp at this;lia
   subst AT;rw[zv (wu _),Nat.sub_self] at e1;rw[G.inv.len,zv (wu _),Nat.sub_self] at e2;cases e1;cases e2;exact ho f4
 ·obtain ⟨x,y,o,z⟩:=G.inv.offs b (yd _ m);have hb:b∉[a]:=fun q=>f2 (wl.mp q ▸ m);exact ⟨fun q=>(xk.mp q).elim x hb,y,o,k2 b o hb z⟩
 ·obtain ⟨t,ht⟩:=G.mv.ext;refine ⟨⟨t++[a],by rw[ht,xj]⟩,fun b m=>?_,fun b o hb e=>?_⟩
  ·rcases xk.mp m with m|m
   ·refine (G.mv.fresh b m).imp id fun q=>?_;cases z:s.heap.get? b with
    |none=>rfl
    |some o=>
     rw[k1 b o z] at q;cases q
   ·exact .inr (wl.mp m ▸ hn)
  ·exact k2 b o (fun m=>by rw[wl.mp m,hn] at e;cases e) (G.mv.keep b o hb (k1 b o e))
theorem Yx (L':Ce g L n)(W:Wd C g)(I:Bh C Y J s)(X:Ba C Y e AA){ks:List (Option O6)}{vs:List O6}{p:Pos}{l:List (V×V)}{ps:List (Int×V)}
 (hl:Nat.ble ks.length 15=true) (h:nJ L e ks vs J=some (l,Av)) (hp:Us l=some ps){A:O8}{Q:OY->OZ->Prop}{E:OY->OZ->Prop} (R:Dq A n)
 (K:∀Bl Be h' tk AE,Ck (C.wo ([s.heap.objs.size]++C.off)) Y { s with heap:=s.heap.push { cls:=.type "dict",data:=.dict #[] },toks:=s.toks } Bl Av Be ->
  (∀b o,b∉[s.heap.objs.size]->Be.heap.get? b=some o->h'.get? b=some o)->h'.DictOf (intKind C.prog C.w) s.heap.objs.size AE->Eh (C.wo ([s.heap.objs.size]++C.off)) Bl Be.heap (Fq [] ps) AE ->
  Q (.ref s.heap.objs.size) { Be with heap:=h',toks:=tk }) :
 PD C.md A (eval (.Dict ks vs p) AA) Q E s:=by
 obtain ⟨qs,h1,h2,h3,h4⟩:=qR (AA:=AA) (p:=p) h;subst h3 h4;have hz:=Co s.heap;have kx:∀b o,s.heap.get? b=some o->(s.heap.push { cls:=.type "dict",data:=.dict #[] }).get? b=some o:=fun b o e=>ww _ e;have F0:=O9.DictOf.new (knd:=intKind C.prog C.w) s.heap;obtain ⟨⟨f1,f2⟩,f3,f4⟩:=I.free hz;have I':Bh (C.wo ([s.heap.objs.size]++C.off)) Y J { s with heap:=s.heap.push { cls:=.type "dict",data:=.dict #[] },toks:=s.toks }:=I.enter kx fun a m=>by
  rw[wl.mp m];exact ⟨hz,(by obtain ⟨o,_,_,z,_⟩:=F0;exact ⟨o,z⟩)⟩
 cases qs with
 |nil=>
  cases h;cases hp;rw[yl,yl,eval_Dict_empty];refine Aa (wpAny_standAt ?_);refine wpAny_newObj_type ?_;exact K Y { s with heap:=s.heap.push { cls:=.type "dict",data:=.dict #[] },toks:=s.toks } (s.heap.push { cls:=.type "dict",data:=.dict #[] }) s.toks [] (.refl I') (fun b o Z e=>e) F0 rfl
 |cons q qs=>
  refine wpAny_Dict_pairs (knd:=intKind C.prog C.w) h2 (by simp) ?_ ?_
  ·rw[wn,h1];exact xm hl
  ·refine lw L' (W.off _) I' (X.wo _) h A _ E R fun Bl Be xs G rs=>?_;obtain ⟨AE,c1,c2⟩:=rs.carries hp;have hD2:Be.heap.DictOf (intKind C.prog C.w) s.heap.objs.size []:=F0.at fun o e=>G.mv.keep _ o f1 e;refine ⟨AE,c1,hD2,fun h' F9 BJ=>?_⟩;refine K Bl Be h' _ _ G (fun b o hb e=>(BJ.2 b fun q=>hb (by rw[q];exact .head _)).trans e) F9 ?_;exact Eh.merge (l:=[]) (AE:=[]) rfl (by decide) c2
theorem ei (L':Ce g L n)(W:Wd C g)(I:Bh C Y J s)(X:Ba C Y e AA){ks:List (Option O6)}{vs:List O6}{p:Pos}{l:List (V×V)}{ps:List (Int×V)}
 (hl:Nat.ble ks.length 15=true) (h:nJ L e ks vs J=some (l,Av)) (hp:Us l=some ps):At C n Y s (eval (.Dict ks vs p) AA) Av (RV C (.dct (Fq [] ps))):=fun A Q E R k=>
 Yx L' W I X hl h hp R fun Bl Be h' tk AE G k2 h5 h6=>by
  obtain ⟨⟨f1,f2⟩,f3,f4⟩:=I.free (Co s.heap);exact k _ _ _ (Ck.under (C:=C) (t₃:=tk) (fun b o e=>ww _ e) (fun a m=>by rw[wl.mp m];exact Co _) G k2 I.offGet)
   ⟨_,AE,rfl,⟨(G.inv.offs _ (.head _)).1,f2⟩,f4,h5,h6.gen (AC:=C.off) (Kp.leave k2)⟩
theorem tY (L':Ce g L n)(W:Wd C g)(I:Bh C Y J s)(X:Ba C Y e AA){ks:List (Option O6)}{vs:List O6}{p:Pos}{l:List (V×V)}{ps:List (Int×V)}
 (hl:Nat.ble ks.length 15=true) (h:nJ L e ks vs J=some (l,Av)) (hp:Us l=some ps):At C n Y s (eval (.Dict ks vs p) AA) (Av++[.dct (Fq [] ps)]) (RV C (.ref Av.length)):=fun A Q E R k=>
 Yx L' W I X hl h hp R fun Bl Be h' tk AE G k2 h5 h6=>
  k _ _ _ (Ck.watch (t₃:=tk) I (fun b o e=>ww _ e) (Co _) G k2 fun f4=>⟨f4,AE,h5,h6.gen (AC:=C.off) (Kp.watch k2)⟩)
   ⟨_,rfl,by have:=Rt Bl s.heap.objs.size;rwa [G.inv.len] at this⟩
theorem aP {prog:Program}{w:World}{A:O8}{E:OY->OZ->Prop}{l:O5}{items:Array OY}{m:Nat}{k:Int}{t:Tok}{v:OY}{Q:Unit->OZ->Prop}(hl:IsL s.heap l items m)
 (h0:0≤k) (HF:k<2 ^ 63) (hn:k<items.size)
 (hQ:Q () { s with heap:=s.heap.update l (Obj.mapSeq (·.setIfInBounds k.toNat v)) }) :
 PD (model prog w) A (setItem (.ref l) (.int k t) v) Q E s:=by
 have ht:s.TypeIs (.ref l) "list":=⟨_,hl,rfl⟩;unfold setItem
 try with_reducible refine wpAny_holding ?_
 first|refine Aa (Ag ?_)|skip
 refine Aa (wpAny_sequenceKey ht (rfl) ?_);refine Aa (wpAny_callSpecial?_slot (name:=PE "__setitem__") ht slot_list_setitem
  (wpAny_call_entry slot_list_setitem ht entry_list_setitem ?_ (args_list_setitem _ _ _)))
 show PD _ _ (Builtin.List.listSubscript? (.int k t) >>= _) _ _ s;refine Aa (wpAny_listSubscript_int (fitsIndex_of h0 HF) ?_);clear HF;obtain ⟨j,rfl⟩:=Int.eq_ofNat_of_zero_le h0;have hj:j<items.size:=by lia
 have hx':items[j]?=some items[j]:=Aaa hj;show PD _ _ ((seqItemAt l j >>= fun r=>pure (r.map (j,·))) >>= _) _ _ s;refine Aa (Aa (wpAny_seqItemAt hl rfl (Ag ?_)));rw[hx'];show PD _ _ (setSeqItemAt l j v >>= _) _ _ s;refine Aa (wpAny_setSeqItemAt hl rfl ?_)
 first
  |exact Aa (Ag (Ag ⟨.none,rfl,Ag hQ⟩))
  |exact Ag ⟨.none,rfl,Ag hQ⟩
theorem Bv.set:∀{l:List V}{vs:List OY}(k:Nat){x:V}{v:OY},Bv C Y h l vs->Bz C Y h x v->Bv C Y h (l.set k x) (vs.set k v):=fun {l}=>by
 induction l with
 |nil=>intro vs k x v r _;rw[show vs=[] from r];exact rfl
 |cons y l ih=>
  intro vs k x v r rv;obtain ⟨w,vs,e,r1,r⟩:=r;rw[e];cases k with
  |zero=>exact ⟨v,vs,rfl,rv,r⟩
  |succ k=>exact ⟨w,_,rfl,r1,ih k r rv⟩
theorem Wr (I:Bh C Y J s){o i v:V}{vo vi vv:OY}(ro:Bz C Y s.heap o vo)(ri:Bz C Y s.heap i vi)(rv:Bz C Y s.heap v vv)(e:Ga o i v J=some Av):At C n Y s (setItem vo vi vv) Av RU:=by
 induction o using V.casesOn with
 |ref j=>
  obtain ⟨a,rfl,ha⟩:=ro;refine oC1 e fun ob hj e=>?_
  induction ob using Cv.casesOn with
  |lst l=>
   refine Ps e fun q p hq e=>?_;split at e
   ·rename_i hc;cases e;subst hq;simp only[Bool.and_eq_true,decide_eq_true_eq] at hc;obtain ⟨⟨t,rfl⟩,-⟩:=ri;obtain ⟨vs,m,h1,h2⟩:=I.objs _ _ _ ha hj;have h3:=h2.length;rw[xq] at h3;have h4:=xm hc.2;have h5:=Jl.mp hc.1.2;refine fun A Q E R k=>aP h1 hc.1.1 (aR1 h5).2 (by rw[h3];exact (Int.toNat_lt hc.1.1).mp h4) ?_;exact k _ _ _ (Uf I (fun xs=>xs.setIfInBounds q.toNat vv) ha h1 (by
     rw[show (vs.setIfInBounds q.toNat vv).toList=vs.toList.set q.toNat vv by simp];exact h2.set _ rv) s.toks) trivial
   ·exact nn e
  |dct l=>
   refine Ps e fun q p hq e=>?_;split at e
   ·rename_i hc;cases e;subst hq;obtain ⟨⟨t,rfl⟩,-⟩:=ri;obtain ⟨h0,AE,h1,h2⟩:=I.objs _ _ _ ha hj;refine fun A Q E R k=>wpAny_setItem_pairs (knd:=intKind C.prog C.w) (intKind_is _ _ q t) h1 (fun h' hD hs=>?_) (by rw[← h2.length];exact Dh hc);have z:=I.update (ao:=.dct (Js q v l)) ha (h':=h') (fun b o hb e=>(hs.2 b hb).trans e) fun M=>⟨h0,_,hD,(h2.mv M).put (DictOf.nodup h1) (rv.mv M)⟩;exact k _ _ _ ⟨z.inv.tok _,z.mv⟩ trivial
   ·exact nn e
  |_=>exact nn e
 |_=>exact nn e
theorem Hg:∀{ts:List O6},(ts.all noStar)=true->assignEach ts AA=ts.map fun t=>(false,assign t AA):=fun {ts}=>by
 induction ts with
 |nil=>exact fun Z=>rfl
 |cons t ts ih=>
  intro h;rw[List.all_cons,wm] at h;rw[x8,← ih h.2]
  induction t using O6.casesOn with
  |Starred=>exact ft h.1
  |_=>rfl
theorem eE {t:O6}{v:V}(h:tT e t v J=some Av):∃x p,t = .Name x p∧Dj e x v J=some Av:=by
 induction t using O6.casesOn with
 |Name x p=>exact ⟨x,p,rfl,h⟩
 |_=>exact nn h
theorem fF:∀{ts:List O6}{vs:List V}{J Av:Aj},Jm e ts vs J=some Av->(ts.all noStar)=true:=fun {ts}=>by
 induction ts with
 |nil=>exact fun Z=>rfl
 |cons t ts ih=>
  intro vs J Av h;cases vs with
  |nil=>exact nn h
  |cons v vs=>
   refine oC1 (show oe1 (tT e t v J) none (Jm e ts vs)=some Av from h) fun Nu h1 h2=>?_;obtain ⟨x,p,rfl,-⟩:=eE h1;rw[List.all_cons,ih h2];rfl
theorem pC:∀(ts:List O6){Y:List O5}{J Av:Aj}{s:OZ}{l:List V}{vs:List OY},Ba C Y e AA->Bh C Y J s->Bv C Y s.heap l vs->Jm e ts l J=some Av->At C n Y s (assignInOrder (ts.map fun t=>assign t AA) vs) Av RU:=by
 intro ts
 induction ts with
 |nil=>
  intro Y J Av s l vs X I rv h;cases l with
  |nil=>cases h;exact fun A Q E R k=>Ag (k _ _ _ (.refl I) trivial)
  |cons=>exact nn h
 |cons t ts ih=>
  intro Y J Av s l vs X I rv h;cases l with
  |nil=>exact nn h
  |cons v l=>
   refine oC1 h fun Ab h1 h2=>?_;obtain ⟨y,p,rfl,h1⟩:=eE h1;obtain ⟨x,vs,rfl,r1,r2⟩:=rv;intro A Q E R k;refine Aa (wpAny_holding (Aa (wpAny_standAt (wpAny_bindName (Gr I X r1 h1 A _ E R fun An Ao Z Ay Z=>?_)))));exact ih (X.go Ay) Ay.inv (r2.mv Ay.mv) h2 A Q E R fun Bl Be x Bm hx=>k _ _ _ (Ay.trans Bm) hx
theorem Qy (t:O6){Y:List O5}{J Av:Aj}{s:OZ}{v:V}{val:OY}(X:Ba C Y e AA)(I:Bh C Y J s)(rv:Bz C Y s.heap v val)(h:Cy e t v J=some Av):At C n Y s (assign t AA val) Av RU:=by
 induction t using O6.casesOn with
 |Name x p=>
  exact fun A Q E R k=>Aa (wpAny_standAt (wpAny_bindName (Gr I X rv h A Q E R k)))
 |Tuple ts q p=>
  induction v using V.casesOn with
  |tup l=>
   split at h
   ·rename_i hl;obtain ⟨a,vs,m,rfl,ho,gp,hr⟩:=rv;intro A Q E R k;have BM:=fF h;have h3:=hr.length;rw[xq] at h3;rw[beq_iff_eq] at hl;refine wpAny_assign_Tuple R.hd (nV gp) ?_ ?_ fun h' hx=>?_
    ·rw[Hg BM,wn,h3];exact hl
    ·rw[Hg BM,List.findIdx?_map,List.findIdx?_eq_none_iff];intro _ _;rfl
    ·rw[Hg BM,z6];have kx:∀b o,s.heap.get? b=some o->h'.get? b=some o:=fun b o e=>hx b o (ya (xl e)) e;have G:=I.ext kx s.toks;exact pC ts (X.go G) G.inv (hr.mv G.mv) h A Q E R fun Bl Be x Bm hx=>k _ _ _ (G.trans Bm) hx
   ·exact nn h
  |_=>exact nn h
 |_=>exact nn h
theorem qB:∀{xs:List O7}{Y:List O5}{J Av:Aj}{s:OZ}{l:List V}{vs:List OY},Ba C Y e AA->Bh C Y J s->Bv C Y s.heap l vs->Mq e xs l J=some Av->At C n Y s (assignInOrder (xs.map fun x=>bindName AA x) vs) Av RU:=fun {xs}=>by
 induction xs with
 |nil=>
  intro Y J Av s l vs X I rv h;cases l with
  |nil=>cases h;exact fun A Q E R k=>Ag (k _ _ _ (.refl I) trivial)
  |cons=>exact nn h
 |cons x xs ih=>
  intro Y J Av s l vs X I rv h;cases l with
  |nil=>exact nn h
  |cons v l=>
   have h:oe1 (Dj e x v J) none (Mq e xs l)=some Av:=h;refine oC1 h fun Ab h1 h=>?_;obtain ⟨y,vs,rfl,r1,r2⟩:=rv;intro A Q E R k;refine Aa (wpAny_holding (wpAny_bindName (Gr I X r1 h1 A _ E R fun An Ao Z Ay Z=>?_)));exact ih (X.go Ay) Ay.inv (r2.mv Ay.mv) h A Q E R fun Bl Be x Bm hx=>k _ _ _ (Ay.trans Bm) hx
theorem Bv.rev {l:List V}{vs:List OY}:Bv C Y h l vs->Bv C Y h l.reverse vs.reverse:=by
 induction l generalizing vs with
 |nil=>intro e;rw[e];rfl
 |cons x l ih=>
  rintro ⟨v,vs,rfl,r1,r2⟩;rw[List.reverse_cons,List.reverse_cons];exact (ih r2).append ⟨v,[],rfl,r1,rfl⟩
theorem tZ {ts:List O6}{q:Nat}{p:Pos}{x:O6}:swappedStores [.Tuple ts q p] x AA=swappedStores [.Tuple ts 0 default] x (i6 AA.scope):=by
 induction x using O6.casesOn with
 |_=>rfl
theorem dP (X:Ba C Y e AA){ts:List O6}{q:Nat}{p:Pos}{x:O6}{r:Option (List O7)}(h:Yj e ts x=some r):swappedStores [.Tuple ts q p] x AA=pure r:=tZ.trans (by rw[X.sc];exact da h)
def Li:V->Bool
 |.lst _|.ref _=>true
 |_=>false
inductive Ge (C:Cx) (Y:List O5) (h:O9):Gh->List O5->O5->Nat->Prop
 |tup {l:List V}{I a:O5}{k:Nat}:h.IsTupleIter I a k->Bz C Y h (.tup l) (.ref a)->Ge C Y h (.seq (.tup l)) [I] I k
 |lst {u:V}{I a:O5}{k:Nat}:Li u=true->h.IsListIter I a k->Bz C Y h u (.ref a)->Ge C Y h (.seq u) [I] I k
 |str {x:O7}{t:Tok}{I:O5}{k:Nat}:h.IsStrIter I (strIterType x) x t k->Ge C Y h (.seq (.str x)) [I] I k
 |dct {l:List (Int×V)}{I d:O5}{AE:List (Int×OY)}{ep k:Nat}:h.IsKeyIter I d k AE.length ep->h.DictAt (intKind C.prog C.w) d AE ep->d∉Y∧d∉C.off->Eh C Y h l AE->Ge C Y h (.seq (.dct l)) [I] I k
 |rng {lo:Int}{n:Nat}{I:O5}{k:Nat}:IsRangeIter h I (lo+k) ((n:Int)-k) 1->k≤n->(lo.natAbs:Int)+n<2 ^ 63->Ge C Y h (.rng lo n) [I] I k
 |enum {u:V}{E IT a:O5}{k:Nat}{old:OY}:Li u=true->IsEnum h E IT k old->h.IsListIter IT a k->Bz C Y h u (.ref a)->E≠IT->Ge C Y h (.enum u) [E,IT] E k
 |zip {u v:V}{z TI TO i1 i2 a b:O5}{x y:OY}{k:Nat}:Li u=true->Li v=true->IsZip h z TI TO .none->IsPair h TI (.ref i1) (.ref i2)->IsPair h TO x y->h.IsListIter i1 a k->h.IsListIter i2 b k->Bz C Y h u (.ref a)->Bz C Y h v (.ref b) ->
   ([z,TI,TO,i1,i2]:List O5).Nodup->Ge C Y h (.zip u v) [z,TI,TO,i1,i2] z k
 |items {l:List (Int×V)}{I d:O5}{AE:List (Int×OY)}{ep k:Nat}{ok ov:OY}:IsItemIter h I d k AE.length ep ok ov->h.DictAt (intKind C.prog C.w) d AE ep->d∉Y∧d∉C.off->Eh C Y h l AE->Ge C Y h (.items l) [I] I k
 |vals {l:List (Int×V)}{I d:O5}{AE:List (Int×OY)}{ep k:Nat}:h.IsValIter I d k AE.length ep->h.DictAt (intKind C.prog C.w) d AE ep->d∉Y∧d∉C.off->Eh C Y h l AE->Ge C Y h (.vals l) [I] I k
theorem Ge.gen (x:Ge C Y h sr AH it k){AC:List O5}(K:Kp C.off AC Y Bx h h')(hk:∀a∈AH,∀o,h.get? a=some o->h'.get? a=some o):Ge (C.wo AC) Bx h' sr AH it k:=by
 induction x with
 |tup i r=>exact .tup (i.at fun o e=>hk _ (.head _) o e) (r.gen K)
 |lst u i r=>exact .lst u (i.at fun o e=>hk _ (.head _) o e) (r.gen K)
 |str i=>exact .str ((by obtain ⟨o,e,q⟩:=i;exact ⟨o,hk _ (.head _) o e,q⟩))
 |dct i d n r=>exact .dct (i.at fun o e=>hk _ (.head _) o e) (let ⟨o,es,e,q⟩:=d;⟨o,es,K.b n e,q⟩) (let ⟨o,es,e,q⟩:=d;K.a n e) (r.gen K)
 |rng i a b=>exact .rng (hk _ (.head _) _ i) a b
 |enum u e i r n=>exact .enum u (hk _ (.head _) _ e) (i.at fun o e=>hk _ (.tail _ (.head _)) o e) (r.gen K) n
 |zip u v z t1 t2 i1 i2 r1 r2 n=>exact .zip u v (hk _ (.head _) _ z) (hk _ (.tail _ (.head _)) _ t1) (hk _ (.tail _ (.tail _ (.head _))) _ t2) (i1.at fun o e=>hk _ (.tail _ (.tail _ (.tail _ (.head _)))) o e) (i2.at fun o e=>hk _ (.tail _ (.tail _ (.tail _ (.tail _ (.head _))))) o e) (r1.gen K) (r2.gen K) n
 |items i d n r=>exact .items (hk _ (.head _) _ i) (let ⟨o,es,e,q⟩:=d;⟨o,es,K.b n e,q⟩) (let ⟨o,es,e,q⟩:=d;K.a n e) (r.gen K)
 |vals i d n r=>exact .vals (i.at fun o e=>hk _ (.head _) o e) (let ⟨o,es,e,q⟩:=d;⟨o,es,K.b n e,q⟩) (let ⟨o,es,e,q⟩:=d;K.a n e) (r.gen K)
theorem Ge.live (x:Ge C Y h sr AH it k):∀a∈AH,∃o,h.get? a=some o:=by
 induction x with
 |tup i r=>intro a m;rw[wl.mp m];obtain ⟨o,e,_⟩:=i;exact ⟨o,e⟩
 |lst u i r=>intro a m;rw[wl.mp m];obtain ⟨o,e,_⟩:=i;exact ⟨o,e⟩
 |str i=>intro a m;rw[wl.mp m];obtain ⟨o,e,_⟩:=i;exact ⟨o,e⟩
 |dct i d n r=>intro a m;rw[wl.mp m];obtain ⟨o,e,_⟩:=i;exact ⟨o,e⟩
 |rng i a b=>intro a m;rw[wl.mp m];exact ⟨_,i⟩
 |enum u e i r n=>
  intro a m;rcases wk.mp m with rfl|m
  ·exact ⟨_,e⟩
  ·rw[wl.mp m];obtain ⟨o,e,_⟩:=i;exact ⟨o,e⟩
 |zip u v z t1 t2 i1 i2 r1 r2 n=>
  intro a m;rcases wk.mp m with rfl|m
  ·exact ⟨_,z⟩
  rcases wk.mp m with rfl|m
  ·exact ⟨_,t1⟩
  rcases wk.mp m with rfl|m
  ·exact ⟨_,t2⟩
  rcases wk.mp m with rfl|m
  ·obtain ⟨o,e,_⟩:=i1;exact ⟨o,e⟩
  ·rw[wl.mp m];obtain ⟨o,e,_⟩:=i2;exact ⟨o,e⟩
 |items i d n r=>intro a m;rw[wl.mp m];exact ⟨_,i⟩
 |vals i d n r=>intro a m;rw[wl.mp m];obtain ⟨o,e,_⟩:=i;exact ⟨o,e⟩
theorem wQ {M:Model}{A:O8}{E:OY->OZ->Prop}{ts:List O6}{k:Nat}{p:Pos}{I:O5}{o:Obj}{nm:String}{v:OY}{Q:Unit->OZ->Prop}(ho:s.heap.get? I=some o)(hc:o.cls = .type nm)
 (hn:(["enumerate","zip","dict_itemiterator","dict_reverseitemiterator","odict_iterator","itertools.zip_longest","itertools.pairwise"].contains nm)=false) (h:Q () s):PD M A (letOwnedTupleGo (.Tuple ts k p) (.ref I) v) Q E s:=by
 induction v using OY.casesOn with
 |ref a=>
  show PD M A (load I >>= _) Q E s;refine Aa (wpAny_load ho ?_);obtain ⟨c,d,dt,sl⟩:=o;subst hc
  induction dt using Data.casesOn with
  |fields vs=>
   show PD M A (if (_&&_)=true then _ else pure ()) Q E s;rw[hn,Bool.false_and,if_neg Bool.false_ne_true];exact Ag h
  |_=>exact Ag h
 |_=>exact Ag h
theorem Jg {M:Model}{A:O8}{E:OY->OZ->Prop}{t:O6}{I:O5}{o:Obj}{nm:String}{v:OY}{Q:Unit->OZ->Prop}(ho:s.heap.get? I=some o)(hc:o.cls = .type nm)
 (hn:(["enumerate","zip","dict_itemiterator","dict_reverseitemiterator","odict_iterator","itertools.zip_longest","itertools.pairwise"].contains nm)=false) (h:Q () s):PD M A (letOwnedTupleGo t (.ref I) v) Q E s:=by
 induction t using O6.casesOn with
 |Tuple ts k p=>exact wQ ho hc hn h
 |List ts k=>exact wQ (ts:=ts) (k:=0) (p:=k) ho hc hn h
 |_=>exact Ag h
theorem Rv {t:O6}(h:Vd t=true):∃ts q p,t = .Tuple ts q p:=by
 induction t using O6.casesOn with
 |Tuple ts q p=>exact ⟨_,_,_,rfl⟩
 |_=>exact ft h
theorem Te {I:Bh C Y J s}{u:V}{a:O5}(hu:Li u=true){l:List V}(e:Bu J u=some l)(r:Bz C Y s.heap u (.ref a)):∃vs m,IsL s.heap a vs m∧Bv C Y s.heap l vs.toList:=by
 obtain ⟨b,vs,m,q,h1,h2⟩:=Db I e r;cases q;exact ⟨vs,m,h1,h2⟩
theorem Ts {I a:O5}{vs:Array OY}{m:Nat}{j:Nat}{b:O5}(x:IsL h a vs m)(y:h.IsListIter I b j):a≠I:=fun q=>by
 obtain ⟨o,e,c,_⟩:=y;rw[← q] at e;have z:=congrArg Obj.cls (wx (x.symm.trans e));rw[c] at z;exact absurd z (by simp)
theorem Qj {l:List V}{vs:Array OY}(r:Bv C Y h l vs.toList)(k:Nat):match l[k]? with
 |some x=>∃v,vs[k]?=some v∧Bz C Y h x v
 |none=>vs[k]?=none:=by
 have h1:=r.length;rw[xq] at h1;cases q:l[k]? with
 |some x=>
  obtain ⟨v,hv,rv⟩:=r.get q;exact ⟨v,by rw[← xy];exact hv,rv⟩
 |none=>
  rw[List.getElem?_eq_none_iff] at q;exact Array.getElem?_eq_none (by rw[h1];exact q)
theorem Sr (B2:∀a∈AH,a∈C.off)(hk:∀b o,b∉AH->h.get? b=some o->h'.get? b=some o):Kp C.off C.off Y Y h h':=
 ⟨fun b o n e=>⟨n,hk b o (fun m=>n.2 (B2 b m)) e⟩,fun Z Z e=>e⟩
theorem Mw {a b:O5}(h:b∉[a]):b≠a:=fun q=>h (by rw[q];exact .head _)
theorem qA {u:V}{r:Option V}(hu:Li u=true)(e:Da J (.seq u) k=some r):∃l,Bu J u=some l∧r=l[k]?:=by
 cases u<;>first|cases hu|skip
 ·cases e;exact ⟨_,rfl,rfl⟩
 ·unfold Da at e;dsimp only at e;split at e
  ·rename_i l hl;cases e;exact ⟨l,hl,rfl⟩
  ·cases e
theorem iI {u:V}{r:Option V}(e:Da J (.enum u) k=some r):∃l,Bu J u=some l∧r=l[k]?.map fun x=>.tup [Bi k,x]:=by
 unfold Da at e;dsimp only at e;split at e
 ·rename_i l hl;cases e;exact ⟨l,hl,rfl⟩
 ·cases e
theorem qJ {u v:V}{r:Option V}(e:Da J (.zip u v) k=some r):∃l q,Bu J u=some l∧Bu J v=some q∧r=oe1 l[k]? none fun x=>oe1 q[k]? none fun y=>some (.tup [x,y]):=by
 unfold Da at e;dsimp only at e;split at e
 ·rename_i l hl;split at e
  ·rename_i q hq;cases e;exact ⟨l,q,hl,hq,rfl⟩
  ·cases e
 ·cases e
theorem Vl {l:List (Int×V)}{AE:List (Int×OY)}(r:Eh C Y h l AE)(k:Nat):match l[k]? with
 |some p=>∃v,AE[k]?=some (p.1,v)∧Bz C Y h p.2 v
 |none=>AE[k]?=none:=by
 induction l generalizing AE k with
 |nil=>rw[r];rfl
 |cons p l ih=>
  obtain ⟨v,ks,rfl,r1,r2⟩:=r;cases k with
  |zero=>exact ⟨v,rfl,r1⟩
  |succ k=>exact ih r2 k
theorem Ng (i:Int)(t:Tok):Bz C Y h (Bi i) (.int i t):=⟨⟨t,rfl⟩,Jl.mp⟩
theorem ub {x b c:O5}(h:x∉[b,c]):x≠b∧x≠c:=⟨Aaf h,Aaf (Aam h)⟩
theorem qm {x a b c:O5}(h:x∉[a,b,c]):x≠a∧x≠b∧x≠c:=⟨Aaf h,ub (Aam h)⟩
theorem q8 {x a b c d:O5}(h:x∉[a,b,c,d]):x≠a∧x≠b∧x≠c∧x≠d:=⟨Aaf h,qm (Aam h)⟩
theorem lP {A:O8}{E E1:OY->OZ->Prop}{t:O6}{r:Option V}{Q0:OZ->Prop}{Q1:OY->OZ->Prop}(I:Bh C Y J s)(X:Ge C Y s.heap sr AH it k)(B2:∀a∈AH,a∈C.off)(e:Da J sr k=some r)(ht:okTgt sr t=true)(hh:A.handled=none)
 (K0:r=none->∀h' tk,(∀b o,b∉AH->s.heap.get? b=some o->h'.get? b=some o)->Q0 { s with heap:=h',toks:=tk })
 (K1:∀v h' tk x,r=some v->(∀b o,b∉AH->s.heap.get? b=some o->h'.get? b=some o)->Bz C Y h' v x->Ge C Y h' sr AH it (k+1)->Q1 x { s with heap:=h',toks:=tk }) :
 PD C.md A (pyNext (.ref it)) (fun r Ao=>match r with
  |none=>Q0 Ao
  |some v=>PD C.md A (letOwnedTupleGo t (.ref it) v) (fun Z Be=>Q1 v Be) E1 Ao) E s:=by
 induction X with
 |@tup l it a k i r=>
  cases e;obtain ⟨b,vs,m,q,n,gp,hr⟩:=id r;cases q;have hs:=Qj hr k;cases q:l[k]? with
  |none=>
   have hs:=q ▸ hs;exact wpAny_pyNext_tuple_end hh i (nV gp) hs fun h' hx=>K0 q h' s.toks fun b o hb e=>hx b o (Mw hb) e
  |some x=>
   rw[q] at hs;obtain ⟨v,hv,rv⟩:=hs;refine wpAny_pyNext_tuple_item i (nV gp) hv fun h' i' hx=>?_;have kk:∀b o,b∉[it]->s.heap.get? b=some o->h'.get? b=some o:=fun b o hb e=>(hx.2 b (Mw hb)).trans e;have K:=Sr (Y:=Y) B2 kk;obtain ⟨o,z,c,_⟩:=id i';exact Jg z c (rfl) (K1 x h' s.toks v q kk (rv.gen K) (.tup i' (r.gen K)))
 |@lst u it a k hu i r=>
  obtain ⟨l,hl,rfl⟩:=qA hu e;obtain ⟨vs,m,gp,hr⟩:=Te (I:=I) hu hl r;have hs:=Qj hr k;cases q:l[k]? with
  |none=>
   rw[q] at hs;exact wpAny_pyNext_list_end hh i (Ll gp) hs fun h' hx=>K0 q h' s.toks fun b o hb e=>hx b o (Mw hb) e
  |some x=>
   have hs:=q ▸ hs;obtain ⟨v,hv,rv⟩:=hs;refine wpAny_pyNext_list_item i (Ll gp) hv fun h' i' hx=>?_;have kk:∀b o,b∉[it]->s.heap.get? b=some o->h'.get? b=some o:=fun b o hb e=>(hx.2 b (Mw hb)).trans e;have K:=Sr (Y:=Y) B2 kk;obtain ⟨o,z,c,_⟩:=id i';exact Jg z c (rfl) (K1 x h' s.toks v q kk (rv.gen K) (.lst hu i' (r.gen K)))
 |@str x tk it k i=>
  cases e;unfold strIterType at i;cases q:x.cps[k]? with
  |none=>
   split at i
   ·exact wpAny_pyNext_ascii_end hh i q fun h' hx=>K0 (by rw[q];rfl) h' s.toks fun b o hb e=>hx b o (Mw hb) e
   ·exact wpAny_pyNext_wide_end hh i q fun h' hx=>K0 (by rw[q];rfl) h' s.toks fun b o hb e=>hx b o (Mw hb) e
  |some c=>
   split at i
   ·rename_i ha;refine wpAny_pyNext_ascii_item i q fun h' i' hx=>?_;have kk:∀b o,b∉[it]->s.heap.get? b=some o->h'.get? b=some o:=fun b o hb e=>(hx.2 b (Mw hb)).trans e;obtain ⟨o,z,c',_⟩:=id i';exact Jg z c' (rfl) (K1 (.str ⟨#[c]⟩) h' _ _ (by rw[q];rfl) kk ⟨_,rfl⟩ (.str (x:=x) (t:=tk) (by unfold strIterType;rw[if_pos ha];exact i')))
   ·rename_i ha;refine wpAny_pyNext_wide_item i q fun h' i' hx=>?_;have kk:∀b o,b∉[it]->s.heap.get? b=some o->h'.get? b=some o:=fun b o hb e=>(hx.2 b (Mw hb)).trans e;obtain ⟨o,z,c',_⟩:=id i';exact Jg z c' (rfl) (K1 (.str ⟨#[c]⟩) h' _ _ (by rw[q];rfl) kk ⟨_,rfl⟩ (.str (x:=x) (t:=tk) (by unfold strIterType;rw[if_neg ha];exact i')))
 |@dct l it d AE ep k i hd hn hr=>
  cases e;have hs:=Vl hr k;cases q:l[k]? with
  |none=>
   rw[q] at hs;exact wpAny_pyNext_dict_end hh i hd hs fun h' hx=>K0 (by rw[q];rfl) h' s.toks fun b o hb e=>hx b o (Mw hb) e
  |some p=>
   rw[q] at hs;obtain ⟨v,hv,rv⟩:=hs;refine wpAny_pyNext_dict_item i hd hv fun key h' AU i' hx=>?_;have kk:∀b o,b∉[it]->s.heap.get? b=some o->h'.get? b=some o:=fun b o hb e=>(hx.2 b (Mw hb)).trans e;have K:=Sr (Y:=Y) B2 kk;obtain ⟨o,z,c,_⟩:=id i';obtain ⟨t,rfl⟩:=OY.isInt_shape AU;exact Jg z c (rfl) (K1 _ h' s.toks _ (by rw[q];rfl) kk (Bz.int_t (sm:=false) fun q=>ft q)
    (.dct i' (let ⟨o,es,e,q⟩:=hd;(Mine.e2 o es ⟨K.b hn e,q⟩)) hn (hr.gen K)))
 |@rng lo m it k i hk hz=>
  cases e;by_cases q:k<m
  ·refine wpAny_pyNext_range_item i (by lia) fun h' i' hx=>?_;refine Jg i' rfl (rfl) (K1 _ h' _ _ (if_pos (xg q)) (fun b o hb e=>(hx.2 b (Mw hb)).trans e) (Ng _ _) (.rng ?_ q hz));rw[(show lo+(k:Int)+1=lo+((k+1:Nat):Int) from by push_cast;lia),(show (m:Int)-k-1=m-((k+1:Nat):Int) from by push_cast;lia)] at i';exact i'
  ·exact wpAny_pyNext_range_end hh i (by lia) fun h' hx=>K0 (if_neg fun z=>q (xm z)) h' s.toks fun b o hb e=>hx b o (Mw hb) e
 |@enum u it IT a k old hu he i r AX=>
  obtain ⟨l,hl,rfl⟩:=iI e;obtain ⟨vs,m,gp,hr⟩:=Te (I:=I) hu hl r;have hs:=Qj hr k;obtain ⟨ts,tq,tp,rfl⟩:=Rv (show Vd t=true from ht);cases q:l[k]? with
  |none=>
   rw[q] at hs;exact wpAny_pyNext_enum_end hh he i (Ll gp) hs fun h' hx=>K0 (by rw[q];rfl) h' s.toks fun b o hb e=>hx b o (fun z=>hb (by rw[z];exact .tail _ (.head _))) e
  |some x=>
   rw[q] at hs;obtain ⟨v,hv,rv⟩:=hs;refine wpAny_pyNext_enum_item he i (Ll gp) hv AX fun h' DH i' hT BX hk=>?_;have n1:it∉Y:=(I.offs it (B2 _ (.head _))).1;have kk:∀b o,b∉[it,IT]->s.heap.get? b=some o->h'.get? b=some o:=fun b o hb e=>hk b o (fun z=>hb (by rw[z];exact .head _)) (fun z=>hb (by rw[z];exact .tail _ (.head _))) e;refine wpAny_letOwnedTupleGo_enum DH fun h2 LB EH=>?_;have k2:∀b o,b≠it->h'.get? b=some o->h2.get? b=some o:=fun b o hb e=>(EH.2 b hb).trans e;have CS:∀b o,b∉[it,IT]->s.heap.get? b=some o->h2.get? b=some o:=fun b o hb e=>k2 b o (fun z=>hb (by rw[z];exact .head _)) (kk b o hb e);have K:=Sr (Y:=Y) B2 CS;refine K1 (.tup [Bi k,x]) h2 _ _ (by rw[q];rfl) CS (Mine.e2 _ _ (Mine.w14 _ rfl (I.free (Co s.heap)).1 (k2 _ _ (fun z=>by have:=xl he;rw[← z] at this;exact yy _ this) hT) ⟨.int k s.toks,_,rfl,Ng _ _,v,[],rfl,rv.gen K,rfl⟩)) (.enum hu LB (i'.at fun o e=>k2 IT o AX.symm e) (r.gen K) AX)
 |@items l it d AE ep k ok ov i hd hn hr=>
  cases e;have hs:=Vl hr k;obtain ⟨ts,tq,tp,rfl⟩:=Rv (show Vd t=true from ht);cases q:l[k]? with
  |none=>
   have hs:=q ▸ hs;exact wpAny_pyNext_items_end hh i hd hs fun h' hx=>K0 (by rw[q];rfl) h' s.toks fun b o hb e=>hx b o (Mw hb) e
  |some p=>
   rw[q] at hs;obtain ⟨v,hv,rv⟩:=hs;refine wpAny_pyNext_items_item i hd hv fun key h' AU i' hT BX hk=>?_;refine wpAny_letOwnedTupleGo_items i' fun h2 i2 EH=>?_;have k2:∀b o,b≠it->h'.get? b=some o->h2.get? b=some o:=fun b o hb e=>(EH.2 b hb).trans e;have CS:∀b o,b∉[it]->s.heap.get? b=some o->h2.get? b=some o:=fun b o hb e=>k2 b o (Mw hb) (hk b o (Mw hb) e);have K:=Sr (Y:=Y) B2 CS;have hTe:s.heap.objs.size≠it:=fun z=>by have:=xl i;rw[← z] at this;exact yy _ this
   obtain ⟨t,rfl⟩:=OY.isInt_shape AU;exact K1 (.tup [.int p.1 false,p.2]) h2 s.toks _ (by rw[q];rfl) CS (Mine.e2 _ _ (Mine.w14 _ rfl (I.free (Co s.heap)).1 (k2 _ _ hTe hT) ⟨_,_,rfl,(Bz.int_t (sm:=false) fun q=>ft q),v,[],rfl,rv.gen K,rfl⟩))
    (.items i2 (let ⟨o,es,e,q⟩:=hd;(Mine.e2 o es ⟨K.b hn e,q⟩)) hn (hr.gen K))
 |@vals l it d AE ep k i hd hn hr=>
  cases e;have hs:=Vl hr k;cases q:l[k]? with
  |none=>
   rw[q] at hs;exact wpAny_pyNext_values_end hh i hd hs fun h' hx=>K0 (by rw[q];rfl) h' s.toks fun b o hb e=>hx b o (Mw hb) e
  |some p=>
   rw[q] at hs;obtain ⟨v,hv,rv⟩:=hs;refine wpAny_pyNext_values_item i hd hv fun h' i' hx=>?_;have kk:∀b o,b∉[it]->s.heap.get? b=some o->h'.get? b=some o:=fun b o hb e=>(hx.2 b (Mw hb)).trans e;have K:=Sr (Y:=Y) B2 kk;obtain ⟨o,z,c,_⟩:=id i';exact Jg z c (rfl) (K1 _ h' s.toks _ (by rw[q];rfl) kk (rv.gen K)
    (.vals i' (let ⟨o,es,e,q⟩:=hd;(Mine.e2 o es ⟨K.b hn e,q⟩)) hn (hr.gen K)))
 |@zip u v it TI TO i1 i2 a b x y k hu hv hz t1 t2 j1 j2 r1 r2 hnd=>
  obtain ⟨l,p,hl,hp,rfl⟩:=qJ e;obtain ⟨vs,m,gp,hr⟩:=Te (I:=I) hu hl r1;obtain ⟨ws,m',gq,hq⟩:=Te (I:=I) hv hp r2;obtain ⟨ts,tq,tp,rfl⟩:=Rv (show Vd t=true from ht);have hs:=Qj hr k;have BJ:=Qj hq k;have CD:∀{c d:O5}{xs:Array OY}{m:Nat}{o:Obj},IsL s.heap c xs m->s.heap.get? d=some o->o.cls≠.type "list"->c≠d:=fun x y z q=>by
   rw[← q] at y;exact z (congrArg Obj.cls (wx (x.symm.trans y))).symm
  have n1:=yq.mp hnd;have n2:=yq.mp n1.2;have n3:=yq.mp n2.2;have n4:=yq.mp n3.2;obtain ⟨d1,d2,d3,d4⟩:=q8 n1.1;obtain ⟨d5,d6,d7⟩:=qm n2.1;obtain ⟨d8,d9⟩:=ub n3.1;have d10:=Aaf n4.1;have D:ZipApart it TI TO i1 i2 a b:=⟨Ne.symm d1,Ne.symm d2,Ne.symm d3,Ne.symm d4,d5,d6,d7,d8,d9,d10,CD gp hz (by simp),CD gp t2 (by simp),Ts gp j1,Ts gp j2,
   CD gq hz (by simp),CD gq t2 (by simp),Ts gq j1,Ts gq j2⟩
  have EX:∀{b:O5},b∉[it,TI,TO,i1,i2]->b≠it∧b≠TO∧b≠i1∧b≠i2:=fun hb=>⟨Aaf hb,(q8 (Aam hb)).2⟩;have fin:vs[k]?=none∨ws[k]?=none->(oe1 l[k]? none fun x=>oe1 p[k]? none fun y=>some (V.tup [x,y]))=none->PD C.md A (pyNext (.ref it)) (fun r Ao=>match r with
   |none=>Q0 Ao
   |some v=>PD C.md A (letOwnedTupleGo (.Tuple ts tq tp) (.ref it) v) (fun Z Be=>Q1 v Be) E1 Ao) E s:=fun LV q=>
   wpAny_pyNext_zip_end hh D hz t1 t2 j1 j2 (Ll gp) (Ll gq) LV fun h' hk=>K0 q h' s.toks fun b o hb e=>hk b o (EX hb).1 (EX hb).2.1 (EX hb).2.2.1 (EX hb).2.2.2 e
  cases q1:l[k]? with
  |none=>
   rw[q1] at hs;exact fin (.inl hs) (by rw[q1];rfl)
  |some x1=>
   cases q2:p[k]? with
   |none=>
    rw[q2] at BJ;exact fin (.inr BJ) (by rw[q1];show oe1 p[k]? none _=_;rw[q2];rfl)
   |some y1=>
    rw[q1] at hs;rw[q2] at BJ;obtain ⟨w1,hw1,rw1⟩:=hs;obtain ⟨w2,KV,rw2⟩:=BJ;refine wpAny_pyNext_zip_item D hz t1 t2 j1 j2 (Ll gp) (Ll gq) hw1 KV fun h' GP t2' j1' j2' hT BX hk=>?_;refine wpAny_letOwnedTupleGo_zip GP fun h2 hz2 EH=>?_;have k2:∀b o,b≠it->h'.get? b=some o->h2.get? b=some o:=fun b o hb e=>(EH.2 b hb).trans e;have CS:∀b o,b∉[it,TI,TO,i1,i2]->s.heap.get? b=some o->h2.get? b=some o:=fun b o hb e=>k2 b o (EX hb).1 (hk b o (EX hb).1 (EX hb).2.1 (EX hb).2.2.1 (EX hb).2.2.2 e);have K:=Sr (Y:=Y) B2 CS;refine K1 (.tup [x1,y1]) h2 s.toks _ (by rw[q1];show oe1 p[k]? none _=_;rw[q2]) CS (Mine.e2 _ _ (Mine.w14 _ rfl (I.free (Co s.heap)).1 (k2 _ _ (fun z=>by have:=xl hz;rw[← z] at this;exact yy _ this) hT) ⟨w1,_,rfl,rw1.gen K,w2,[],rfl,rw2.gen K,rfl⟩)) (.zip hu hv hz2 ?_ (k2 _ _ (Ne.symm d2) t2') (j1'.at fun o e=>k2 i1 o (Ne.symm d3) e) (j2'.at fun o e=>k2 i2 o (Ne.symm d4) e) (r1.gen K) (r2.gen K) ?_)
    ·exact k2 _ _ (Ne.symm d1) (hk _ _ (Ne.symm d1) d5 d6 d7 t1)
    ·exact hnd
theorem Tv {v:V}{l:List V}(e:Bu J v=some l):Li v=true:=by
 induction v using V.casesOn with
 |lst _=>rfl
 |ref _=>rfl
 |_=>exact nn e
theorem kR {A:O8}{E:OY->OZ->Prop}{Q:OY->OZ->Prop}(X:Ge C Y s.heap sr AH it k)(hn:Fg sr=true)(h:Q (.ref it) s):PD C.md A (pyIter (.ref it)) Q E s:=by
 induction X with
 |tup i r=>exact wpAny_pyIter_tupleiter i h
 |lst u i r=>exact wpAny_pyIter_listiter i h
 |str i=>
  unfold strIterType at i;split at i
  ·exact wpAny_pyIter_striter_ascii i h
  ·exact wpAny_pyIter_striter_wide i h
 |dct i d n r=>exact wpAny_pyIter_keyiter i h
 |rng i a b=>exact wpAny_pyIter_rangeiter i h
 |enum u e i r n=>exact wpAny_pyIter_enum e h
 |zip u v z t1 t2 i1 i2 r1 r2 n=>exact wpAny_pyIter_zip z h
 |items i d n r=>cases hn
 |vals i d n r=>exact wpAny_pyIter_valiter i h
abbrev Mr (C:Cx) (Av:Aj) (sr:Gh) (Y:List O5) (s:OZ) (Q:OY->OZ->Prop):Prop:=
 ∀An Cj Hj tk AH it,Ck C Y s An Av Cj->(∀b o,Cj.heap.get? b=some o->Hj.get? b=some o)->(∀a∈AH,Cj.heap.get? a=none)->Ge (C.wo (AH++C.off)) An Hj sr AH it 0->Q (.ref it) { Cj with heap:=Hj,toks:=tk }
theorem Vy {o:Obj}{nw off:List O5}(hz:∀a∈nw,s.heap.get? a=none):Kp off (nw++off) Y Y s.heap (s.heap.push o):=Kp.enter (fun b o' e=>ww _ e) hz
theorem jW {A:O8}{E:OY->OZ->Prop}{Q:OY->OZ->Prop}{v:V}{val:OY}{An:List O5}{Cj:OZ}(G:Ck C Y s An Av Cj)(r:Bz C An Cj.heap v val)(e:s9 Av v=some sr)(K:Mr C Av sr Y s Q) :
 PD C.md A (pyIter val) Q E Cj:=
 oC1 e fun l hl e'=>by
  cases e';have hz:∀a∈[Cj.heap.objs.size],Cj.heap.get? a=none:=fun a m=>by rw[wl.mp m];exact Co _
  obtain ⟨a,vs,m,rfl,gp,hr⟩:=Db G.inv hl r;exact wpAny_pyIter_list (Ll gp) (K An Cj _ Cj.toks [Cj.heap.objs.size] _ G (fun b o e=>ww _ e) hz (.lst (Tv hl) ⟨_,xc _ rfl,rfl,rfl⟩ (r.gen (Vy hz))))
theorem oK {A:O8}{E:OY->OZ->Prop}{Q:OY->OZ->Prop}{v:V}{val:OY}{An:List O5}{Cj:OZ}(G:Ck C Y s An Av Cj)(r:Bz C An Cj.heap v val)(e:Sf Av v=some sr)(K:Mr C Av sr Y s Q) :
 PD C.md A (pyIter val) Q E Cj:=by
 have I:=G.inv;have hz:∀a∈[Cj.heap.objs.size],Cj.heap.get? a=none:=fun a m=>by rw[wl.mp m];exact Co _
 induction v using V.casesOn with
 |tup l=>
  cases e;obtain ⟨a,vs,m,rfl,n,gp,hr⟩:=id r;exact wpAny_pyIter_tuple (nV gp) (K An Cj _ Cj.toks [Cj.heap.objs.size] _ G (fun b o e=>ww _ e) hz (.tup ⟨_,xc _ rfl,rfl,rfl⟩ (r.gen (Vy hz))))
 |str x=>
  cases e;obtain ⟨t,rfl⟩:=r;exact wpAny_pyIter_strU (K An Cj _ Cj.toks [Cj.heap.objs.size] _ G (fun b o e=>ww _ e) hz (.str ⟨_,xc _ rfl,rfl,rfl⟩))
 |dct l=>
  cases e;obtain ⟨d,AE,rfl,nd,hd,hD,hr⟩:=r;obtain ⟨ep,CM⟩:=hD.dictAt;have hp:=Vy (Y:=An) (off:=C.off) (o:={ cls:=.type "dict_keyiterator",data:=.fields #[.ref d,.int 0 0,.int AE.length 0,.int ep 0] }) hz;exact wpAny_pyIter_dict (beq_eq_false_iff_ne.mpr hd) CM (K An Cj _ Cj.toks [Cj.heap.objs.size] _ G (fun b o e=>ww _ e) hz
   (.dct ⟨_,xc _ rfl,rfl,rfl⟩ (CM.push _) (let ⟨o,es,e,q⟩:=CM;hp.a nd e) (hr.gen hp)))
 |_=>exact jW G r e K
theorem Tm (L':Ce g L n)(W:Wd C g)(I:Bh C Y J s)(X:Ba C Y e AA){x:O6}(h:Wc L e x J=some (sr,Av)){A:O8}{E E':OY->OZ->Prop}{Q:OY->OZ->Prop}(R:Dq A n)(K:Mr C Av sr Y s Q) :
 PD C.md A (eval x AA) (fun v Ao=>PD C.md A (pyIter v) Q E' Ao) E s:=by
 exact oC2 h fun v Ab h1 h=>oC1 h fun q hq h=>by
  cases h;exact L'.ev W I X h1 A _ E R fun An Ao x Ay rx=>oK Ay rx hq K
theorem eG {a b:Int}(ha:a.natAbs<2 ^ 61)(hb:b.natAbs<2 ^ 61):Builtin.Range.small a b 1=true∧(a.natAbs:Int)+(b-a).toNat<2 ^ 63∧Builtin.Range.rangeSize a b 1=((b-a).toNat:Int):=by
 have hs:Builtin.Range.rangeSize a b 1=((b-a).toNat:Int):=by
  rw[rangeSize_one];by_cases h:a<b
  ·rw[if_pos h];exact (Int.toNat_of_nonneg (Int.sub_nonneg_of_le (yp h))).symm
  ·rw[if_neg h,Int.toNat_of_nonpos (Int.sub_nonpos_of_le (xw.mp h))]
   rfl
 have T:(b-a).toNat<2 ^ 62:=(Int.toNat_lt' (by decide)).mpr (Int.lt_of_lt_of_le (Int.add_lt_add (aR2 hb).2 (Int.neg_lt_of_neg_lt (aR2 ha).1)) (by decide));have bd:∀{a:Int},a.natAbs<2 ^ 61->-2 ^ 63≤a∧a<2 ^ 63:=fun h=>⟨yp (Int.lt_of_le_of_lt (by decide) (aR2 h).1),Int.lt_trans (aR2 h).2 (by decide)⟩;have bs:-2 ^ 63≤Builtin.Range.rangeSize a b 1∧Builtin.Range.rangeSize a b 1<2 ^ 63:=by
  rw[hs];exact ⟨z4 (b:=0) (by decide) (zt _),Int.lt_of_lt_of_le (yg.mpr T) (by rfl')⟩
 refine ⟨?_,Int.lt_of_lt_of_le (Int.add_lt_add (yg.mpr ha) (yg.mpr T)) (by rfl'),hs⟩;unfold Builtin.Range.small;simp only[Builtin.Range.rangeFitsLong,Bool.and_eq_true,Bool.or_eq_true,decide_eq_true_eq,beq_iff_eq];refine ⟨⟨⟨⟨by first|exact bd ha|exact bd hb|grind,by first|exact bd ha|exact bd hb|lia⟩,by first|exact bd ha|exact bd hb|lia⟩,bs⟩,.inr ?_⟩;rw[if_pos (by decide)];simp only[Bool.and_eq_true,decide_eq_true_eq];rw[Int.sub_self,Int.add_zero];exact bd hb
theorem yY {A:O8}{E:OY->OZ->Prop}{Q:OY->OZ->Prop}{a b:Int}{r:O5}{t u w:Tok}{An:List O5}{Cj:OZ}{Hj:O9}{tk:Nat}(G:Ck C Y s An Av Cj)(k1:∀b o,Cj.heap.get? b=some o->Hj.get? b=some o)(ha:a.natAbs<2 ^ 61)(hb:b.natAbs<2 ^ 61)
 (hr:IsRange Hj r a b 1 t u w) (K:Mr C Av (.rng a (b-a).toNat) Y s Q):PD C.md A (pyIter (.ref r)) Q E { Cj with heap:=Hj,toks:=tk }:=by
 obtain ⟨o1,o2,o3⟩:=eG ha hb;refine wpAny_pyIter_range hr o1 (K An Cj _ tk [Hj.objs.size] _ G (fun b o e=>ww _ (k1 b o e)) (fun a m=>?_) (.rng ?_ (wz _) o2))
 ·rw[wl.mp m];cases q:Cj.heap.get? Hj.objs.size with
  |none=>rfl
  |some o=>have:=k1 _ _ q;rw[Co] at this;cases this
 ·rw[o3];have e1:a+((0:Nat):Int)=a:=by simp
  have e2:(((b-a).toNat:Nat):Int)-((0:Nat):Int)=((b-a).toNat:Int):=rfl;rw[e1,e2];exact xc _ rfl
theorem Oj {i:Int}(h:Ln i=true):i.natAbs<2 ^ 61:=xm h
theorem rJ {Wz Hj:O9}{a:O5}(k:∀b o,Wz.get? b=some o->Hj.get? b=some o)(e:Hj.get? a=none):Wz.get? a=none:=by
 cases q:Wz.get? a with
 |none=>rfl
 |some o=>rw[k a o q] at e;cases e
theorem Jf {Wz:O9}{a:O5}(e:Wz.objs.size≤a):Wz.get? a=none:=by
 cases q:Wz.get? a with
 |none=>rfl
 |some o=>exact absurd (xl q) (xz.mpr e)
theorem kZ (L':Ce g L n)(W:Wd C g)(I:Bh C Y J s)(X:Ba C Y e AA){nm:O7}{q p:Pos}{m:String}{args:List O6}{vs:List V}(h0:Dc g e nm J=some (.ty m))(h1:Kb L e args J=some (vs,Ab))
 {A:O8}{E:OY->OZ->Prop}{Q:OY->OZ->Prop} (R:Dq A n) (K:∀An Ao xs,Ck C Y s An Ab Ao->Bv C An Ao.heap vs xs->PD C.md A (call (.type m) xs) Q E Ao) :
 PD C.md A (eval (.Call (.Name nm q) args [] p) AA) Q E s:=
 wpAny_Call_Name_kw (Ti W I X h0 A _ E R fun An Ao vf Ay rf=>by
  subst rf;refine callWith_of (P:=fun Z=>True) (by rw[Hi h1];rfl) (fun Z Z=>⟨.machine,.inr (.inl rfl),Looks.of_pure rfl⟩) ?_;have fin:∀(Bl:List O5) (Be:OZ) (xs:List OY),Ck C An Ao Bl Ab Be->Bv C Bl Be.heap vs xs->PD C.md A (evalAll (([]:List (Option O7×Sem OY)).map (·.2)))
   (fun ys Cf=>True∧PD C.md A (call (.type m) ([]++xs) ((([]:List (Option O7×Sem OY)).filterMap (·.1)).zip ys)) Q E Cf) E Be:=fun Bl Be xs Bm rs=>
   wpAny_evalAll_nil ⟨trivial,K Bl Be xs (Ay.trans Bm) rs⟩
  cases args with
  |nil=>
   cases h1;exact evalArgs_kw_nil rfl (fin _ _ _ (.refl Ay.inv) rfl)
  |cons x r=>
   have hx:noStar x=true:=by
    split at h1
    ·cases h1
    ·rename_i BM;simpa using BM
   have e1:backTo p (starEach (x::r) AA)=(false,eval x AA)::backTo p (starEach r AA):=by rw[Ef hx];rfl
   have z:=Lk L' W (p:=p) Ay.inv (X.go Ay) h1 A _ E R fun Bl Be xs Bm rs=>fin Bl Be xs Bm rs;rw[e1] at z;show PD C.md A (evalArgs (.type m) true (backTo p (starEach (x::r) AA)) []) _ E Ao;rw[e1];exact evalArgs_kw rfl z)
section
variable {A:O8}{E E':OY->OZ->Prop}{Q:OY->OZ->Prop}{An:List O5}{vs:List V}{xs:List OY}
theorem cN {Q:OY->OZ->Prop}(hq:Ud vs=some sr)(rs:Bv C Y s.heap vs xs)
 (K:∀h' tk r a b t u w,(∀b o,s.heap.get? b=some o->h'.get? b=some o)->s.heap.get? r=none->IsRange h' r a b 1 t u w->a.natAbs<2 ^ 61->b.natAbs<2 ^ 61->sr = .rng a (b-a).toNat->Q (.ref r) { s with heap:=h',toks:=tk }) :
 PD C.md A (call (.type "range") xs) Q E s:=by
 cases vs with
 |nil=>exact nn hq
 |cons x r=>
  obtain ⟨_,_,rfl,rx,rr⟩:=rs;refine Ps hq fun a Z ha CT=>?_;subst ha;obtain ⟨⟨t,rfl⟩,-⟩:=rx;cases r with
  |nil=>
   cases rr;have CT:(if Ln a then some (Gh.rng 0 a.toNat) else none)=some sr:=CT;split at CT
   ·rename_i ha;exact call_range_1 (K _ _ s.heap.objs.size 0 a _ _ _ (fun b o e=>ww _ e) (Co _) (IsRange.new s.heap 0 a 1 s.toks t (s.toks+1)) (by decide) (Oj ha) (by rw[Int.sub_zero];exact (wx CT).symm))
   ·exact nn CT
  |cons y r=>
   obtain ⟨_,_,rfl,ry,rr⟩:=rr;refine Ps CT fun b Z hb GN=>?_;subst hb;obtain ⟨⟨u,rfl⟩,-⟩:=ry;cases r with
   |nil=>
    cases rr;split at GN
    ·rename_i JK;have JK:=xh.mp JK;exact call_range_2 (K _ _ s.heap.objs.size a b _ _ _ (fun b o e=>ww _ e) (Co _) (IsRange.new s.heap a b 1 t u s.toks) (Oj JK.1) (Oj JK.2) (wx GN).symm)
    ·exact nn GN
   |cons _ _=>exact nn GN
theorem qZ (Ay:Ck C Y s An Av Ao)(rs:Bv C An Ao.heap vs xs)(hq:Ud vs=some sr)(K:Mr C Av sr Y s Q):PD C.md A (call (.type "range") xs) (fun v Ao=>PD C.md A (pyIter v) Q E' Ao) E Ao:=
 cN hq rs fun h' tk r a b t u w kk hn hr l1 l2 e=>by subst e;exact yY Ay kk l1 l2 hr K
theorem sS (Ay:Ck C Y s An Av Ao)(rs:Bv C An Ao.heap vs xs)(hq:sW Av vs=some sr)(K:Mr C Av sr Y s Q):PD C.md A (call (.type "enumerate") xs) (fun v Ao=>PD C.md A (pyIter v) Q E' Ao) E Ao:=by
 cases vs with
 |nil=>exact nn hq
 |cons x r=>
  obtain ⟨_,_,rfl,rv,rr⟩:=rs;cases r with
  |cons _ _=>exact nn hq
  |nil=>
   cases rr;refine oC1 hq fun l hl CT=>?_;cases CT;obtain ⟨a,ws,m,rfl,gp,hr⟩:=Db Ay.inv hl rv;refine call_enumerate_list (Ll gp) fun h' he hi hz hk=>wpAny_pyIter_enum he ?_;have hf:∀b∈[Ao.heap.objs.size+1,Ao.heap.objs.size],Ao.heap.get? b=none:=fun b m=>by
    rcases wk.mp m with rfl|m
    ·exact Jf (yh _)
    ·rw[wl.mp m];exact Co _
   exact K An Ao h' Ao.toks [Ao.heap.objs.size+1,Ao.heap.objs.size] _ Ay hk hf (.enum (Tv hl) he hi (rv.gen (Kp.enter hk hf)) (Nat.succ_ne_self _))
theorem i0 (Ay:Ck C Y s An Av Ao)(rs:Bv C An Ao.heap vs xs)(hq:ie Av vs=some sr)(K:Mr C Av sr Y s Q):PD C.md A (call (.type "zip") xs) (fun v Ao=>PD C.md A (pyIter v) Q E' Ao) E Ao:=by
 cases vs with
 |nil=>exact nn hq
 |cons x r=>
  obtain ⟨_,_,rfl,rv,rr⟩:=rs;cases r with
  |nil=>exact nn hq
  |cons y r=>
   obtain ⟨_,_,rfl,E3,rr⟩:=rr;cases r with
   |cons _ _=>exact nn hq
   |nil=>
    cases rr;refine oC1 hq fun l hl CT=>oC1 CT fun l' JW GN=>?_;cases GN;obtain ⟨a,ws,m,rfl,gp,hr⟩:=Db Ay.inv hl rv;obtain ⟨b,us,m',rfl,gq,IA⟩:=Db Ay.inv JW E3;refine call_zip_2 (Ll gp) (Ll gq) fun h' hz t1 t2 j1 j2 BX hk=>wpAny_pyIter_zip hz ?_;have hf:∀b∈[Ao.heap.objs.size+4,Ao.heap.objs.size+2,Ao.heap.objs.size+3,Ao.heap.objs.size,Ao.heap.objs.size+1],Ao.heap.get? b=none:=fun b m=>Jf (by
     rcases wk.mp m with rfl|m
     ·exact y9 _ _
     rcases wk.mp m with rfl|m
     ·exact y9 _ _
     rcases wk.mp m with rfl|m
     ·exact y9 _ _
     rcases wk.mp m with rfl|m
     ·exact wu _
     ·rw[wl.mp m];exact y9 _ _)
    refine K An Ao h' Ao.toks _ _ Ay hk hf (.zip (Tv hl) (Tv JW) hz t1 t2 j1 j2 (rv.gen (Kp.enter hk hf)) (E3.gen (Kp.enter hk hf)) ?_);simp
theorem kh {m:String}(Ay:Ck C Y s An Av Ao)(rs:Bv C An Ao.heap vs xs)(hq:xV m Av vs=some sr)(K:Mr C Av sr Y s Q):PD C.md A (call (.type m) xs) (fun v Ao=>PD C.md A (pyIter v) Q E' Ao) E Ao:=by
 unfold xV at hq;split at hq
 ·obtain rfl:=beq_iff_eq.mp ‹_›;exact qZ Ay rs hq K
 ·split at hq
  ·obtain rfl:=beq_iff_eq.mp ‹(m=="enumerate")=true›;exact sS Ay rs hq K
  ·split at hq
   ·obtain rfl:=beq_iff_eq.mp ‹(m=="zip")=true›;exact i0 Ay rs hq K
   ·exact nn hq
end
theorem Xq {v:V}{m:String}(h:Jk v=some m):v = .ty m:=by
 induction v using V.casesOn with
 |ty n=>
  split at h
  ·exact congrArg V.ty (wx h)
  ·exact nn h
 |_=>exact nn h
theorem fe {v:V}{l:List (Int×V)}(h:t7 v=some l):v = .dct l:=by
 induction v using V.casesOn with
 |dct n=>exact congrArg V.dct (wx h)
 |_=>exact nn h
theorem jJ (L':Ce g L n)(W:Wd C g)(I:Bh C Y J s)(X:Ba C Y e AA){nm:O7}{q p:Pos}{args:List O6}(h:lU g L e nm (.Call (.Name nm q) args [] p) args J=some (sr,Av)){A:O8}{E E':OY->OZ->Prop}{Q:OY->OZ->Prop}(R:Dq A n)(K:Mr C Av sr Y s Q) :
 PD C.md A (eval (.Call (.Name nm q) args [] p) AA) (fun v Ao=>PD C.md A (pyIter v) Q E' Ao) E s:=
 oS1 h (fun m hm h=>oC1 hm fun v hv hm=>oC2 h fun vs Ab h1 h=>oC1 h fun q hq h=>by
  cases h;rw[Xq hm] at hv;exact kZ L' W I X hv h1 R fun An Ao xs Ay rs=>kh Ay rs hq K) fun Z h=>Tm L' W I X h R K
theorem cA (L':Ce g L n)(W:Wd C g)(I:Bh C Y J s)(X:Ba C Y e AA){o:O6}{nm:O7}{ap p:Pos}{args:List O6}{l:List (Int×V)}{id:String}(hi:∀x,x="dict"->Slot x nm id)(hty:typeOf (.builtin id)=pure (.type "method_descriptor"))
 (h:Za L e o ap p args J=some (l,Av)){A:O8}{E:OY->OZ->Prop}{Q:OY->OZ->Prop} (R:Dq A n)
 (K:∀An Ao d AE ep,Ck C Y s An Av Ao->(d==sysModules)=false->Ao.heap.DictOf (intKind C.prog C.w) d AE->Ao.heap.DictAt (intKind C.prog C.w) d AE ep->(d∉An∧d∉C.off)->Eh C An Ao.heap l AE->PD C.md A (call (.builtin id) [.ref d]) Q E Ao) :
 PD C.md A (eval (.Call (.Attribute o nm ap) args [] p) AA) Q E s:=by
 unfold Za at h;split at h
 ·exact nn h
 ·rename_i hg;simp only[Bool.not_eq_true,Bool.not_eq_false',Bool.and_eq_true] at hg;cases args with
  |cons _ _=>exact nn h
  |nil=>
   refine oC2 h fun v Ab h1 h2=>oC1 h2 fun l' hl h3=>?_;cases h3;rw[fe hl] at h1;refine wpAny_Call_method_late (Ip hg.2) (by rfl) hg.1 rfl (L'.ev W I X h1 A _ E R fun An Ao vo Ay ro=>?_);obtain ⟨d,AE,rfl,nd,hd,hD,hr⟩:=ro;obtain ⟨ep,CM⟩:=hD.dictAt;exact ⟨"dict",_,F.plainAttrs_dict,hi _ rfl,hty,hD.typeIs,hD.mapOf.noDict,callWith_method0 (K An Ao d AE ep Ay (beq_eq_false_iff_ne.mpr hd) hD CM nd hr)⟩
theorem jT (L':Ce g L n)(W:Wd C g)(I:Bh C Y J s)(X:Ba C Y e AA){o:O6}{nm:O7}{ap p:Pos}{args:List O6}(h:Zw L e o nm ap p args (.Call (.Attribute o nm ap) args [] p) J=some (sr,Av)){A:O8}{E E':OY->OZ->Prop}{Q:OY->OZ->Prop}(R:Dq A n)(K:Mr C Av sr Y s Q) :
 PD C.md A (eval (.Call (.Attribute o nm ap) args [] p) AA) (fun v Ao=>PD C.md A (pyIter v) Q E' Ao) E s:=by
 unfold Zw at h;split at h
 ·obtain rfl:=beq_iff_eq.mp ‹_›;refine oC2 h fun l Ab h1 h2=>?_;cases h2;refine cA L' W I X (by rintro _ rfl;exact F.slot_dict_items) F.type_dict_items h1 R fun An Ao d AE ep Ay hd hD CM nd hr=>?_;refine call_meetsIn F.slot_dict_items hD.typeIs F.entry_dict_items (F.args_dict_items_1 _) (meets_dict_items (intKind C.prog C.w) d hd) ⟨⟨AE,hD⟩,?_⟩;have hv:(Ao.heap.push { cls:=.type "dict_items",data:=.fields #[.ref d] }).IsItemsView Ao.heap.objs.size d:=⟨_,xc _ rfl,rfl,rfl⟩;refine wpAny_pyIter_items hv (CM.push _) ?_;generalize hH:Ao.heap.push { cls:=.type "dict_items",data:=.fields #[.ref d] }=H;have kH:∀b o,Ao.heap.get? b=some o->H.get? b=some o:=fun b o e=>hH ▸ ww _ e;have hs:H.objs.size=Ao.heap.objs.size+1:=by rw[← hH];exact zm ..
  have hf:∀b∈[H.objs.size],Ao.heap.get? b=none:=fun b m=>by
   rw[wl.mp m];exact Jf (by rw[hs];exact yh _)
  have kk:∀b o,Ao.heap.get? b=some o->(H.push { cls:=.type "dict_itemiterator",data:=.fields #[.none,.bool false,.ref d,.int 0 0,.int AE.length 0,.int ep 0,.none,.none] }).get? b=some o:=fun b o e=>ww _ (kH b o e);have hp:=Kp.enter (Y:=An) (off:=C.off) kk hf;exact K An Ao _ Ao.toks [H.objs.size] _ Ay kk hf (.items (xc _ rfl) ((hH ▸ CM.push _).push _) (let ⟨o,es,e,q⟩:=CM;hp.a nd e) (hr.gen hp))
 ·split at h
  ·obtain rfl:=beq_iff_eq.mp ‹(nm==("values":O7))=true›;refine oC2 h fun l Ab h1 h2=>?_;cases h2;refine cA L' W I X (by rintro _ rfl;exact F.slot_dict_values) F.type_dict_values h1 R fun An Ao d AE ep Ay hd hD CM nd hr=>?_;refine call_meetsIn F.slot_dict_values hD.typeIs F.entry_dict_values (F.args_dict_values_1 _) (meets_dict_values (intKind C.prog C.w) d hd) ⟨⟨AE,hD⟩,?_⟩;have hv:(Ao.heap.push { cls:=.type "dict_values",data:=.fields #[.ref d] }).IsValuesView Ao.heap.objs.size d:=⟨_,xc _ rfl,rfl,rfl⟩;refine wpAny_pyIter_values hv (CM.push _) ?_;generalize hH:Ao.heap.push { cls:=.type "dict_values",data:=.fields #[.ref d] }=H;have kH:∀b o,Ao.heap.get? b=some o->H.get? b=some o:=fun b o e=>hH ▸ ww _ e;have hs:H.objs.size=Ao.heap.objs.size+1:=by rw[← hH];exact zm ..
   have hf:∀b∈[H.objs.size],Ao.heap.get? b=none:=fun b m=>by
    rw[wl.mp m];exact Jf (by rw[hs];exact yh _)
   have kk:∀b o,Ao.heap.get? b=some o->(H.push { cls:=.type "dict_valueiterator",data:=.fields #[.ref d,.int 0 0,.int AE.length 0,.int ep 0] }).get? b=some o:=fun b o e=>ww _ (kH b o e);have hp:=Kp.enter (Y:=An) (off:=C.off) kk hf;exact K An Ao _ Ao.toks [H.objs.size] _ Ay kk hf (.vals ⟨_,xc _ rfl,rfl,rfl⟩ ((hH ▸ CM.push _).push _) (let ⟨o,es,e,q⟩:=CM;hp.a nd e) (hr.gen hp))
  ·exact Tm L' W I X h R K
theorem aD (L':Ce g L n)(W:Wd C g)(I:Bh C Y J s)(X:Ba C Y e AA){x:O6}(h:Hx g L e x J=some (sr,Av)){A:O8}{E E':OY->OZ->Prop}{Q:OY->OZ->Prop}(R:Dq A n)(K:Mr C Av sr Y s Q) :
 PD C.md A (eval x AA) (fun v Ao=>PD C.md A (pyIter v) Q E' Ao) E s:=by
 induction x using O6.casesOn with
 |Set=>exact nn h
 |Call f args AJ p=>
  cases AJ with
  |cons _ _=>exact Tm L' W I X h R K
  |nil=>
   induction f using O6.casesOn with
   |Name nm q=>exact jJ L' W I X h R K
   |Attribute o nm ap=>exact jT L' W I X h R K
   |_=>exact nn h
 |_=>exact Tm L' W I X h R K
theorem Rg (L':Ce g L n)(W:Wd C g):∀{b:List PC}{Y:List O5}{J Av:Aj}{s:OZ}{f:Fl},Bh C Y J s->Ba C Y e AA->Dm L e b J=some (f,Av)->At C n Y s (execs b AA) Av (RF C f):=fun {b}=>by
 induction b with
 |nil=>
  intro Y J Av s f I _ h;cases h;exact fun A Q E R k=>wpAny_execs_nil (k _ _ _ (.refl I) rfl)
 |cons x r ih=>
  intro Y J Av s f' I X h A Q E R k;refine oC2 (kG.symm.trans h) fun f Ab h1 h=>wpAny_execs_cons (L'.ex W I X h1 A _ E R fun An Ao fl Ay hf=>?_)
  induction f using Fl.casesOn with
  |next=>
   have hf:fl = .next:=hf;rw[hf];exact ih Ay.inv (X.go Ay) h A _ E R fun Bl Be x Bm hx=>k _ _ _ (Ay.trans Bm) hx
  |brk=>have hf:fl = .brk:=hf;rw[hf];cases h;exact k _ _ _ Ay rfl
  |cont=>have hf:fl = .cont:=hf;rw[hf];cases h;exact k _ _ _ Ay rfl
  |ret v=>cases h;obtain ⟨x,hf,rx⟩:=hf;rw[hf];exact k _ _ _ Ay ⟨x,rfl,rx⟩
theorem gz.gen {AC:List O5}(K:Kp C.off AC Y Bx h h'){f:Fl}{x:Flow}(r:gz C Y h f x):gz (C.wo AC) Bx h' f x:=by
 cases f with
 |ret v=>obtain ⟨y,e,r⟩:=r;exact ⟨y,e,r.gen K⟩
 |_=>exact r
theorem Nf {x:O6}{r:Gh×Aj}(h:Hx g L e x J=some r)(v:OY):foldedSetIterable x AA v=pure v:=by
 induction x using O6.casesOn with
 |Set=>unfold Hx at h;cases h
 |_=>rfl
theorem Bh.leave {nw:List O5}{h':O9}{tk:Nat}(I:Bh (C.wo (nw++C.off)) Y J s)(k2:∀b o,b∉nw->s.heap.get? b=some o->h'.get? b=some o)(hd:∀a∈C.off,a∉nw):Bh C Y J { s with heap:=h',toks:=tk }:=
 I.junk (AC:=C.off) (fun b o hb e=>k2 b o (fun m=>hb (xp _ m)) e) (fun a m=>.inl (yd _ m))
  (fun a m=>(by obtain ⟨_,_,o,z⟩:=I.offs a (yd _ m);exact ⟨o,k2 a o (hd a m) z⟩))
theorem Bh.apart (I:Bh C Y J s){nw:List O5}(hn:∀a∈nw,s.heap.get? a=none):∀a∈C.off,a∉nw:=fun a m q=>by
 obtain ⟨o,z⟩:=I.offGet a m;rw[hn a q] at z;cases z
abbrev aA (L:Lv) (e:As) (t:O6) (b:List PC):V->Aj->Option (Fl×Aj):=fun v J=>oe1 (Cy e t v J) none fun Ai=>Dm L e b Ai
theorem Tp {C:Cx}{An Hw:List O5}{Pu:Aj}{Cj sk:OZ}{A:O8}{E E1:OY->OZ->Prop}{t:O6}{r:Option V}{Q0:OZ->Prop}{Q1:OY->OZ->Prop}(I0:∀a∈C.off,a∉AH)(hn:∀a∈AH,Cj.heap.get? a=none)
 (I:Bh (C.wo (AH++C.off)) Hw Pu sk) (M:Mv An Hw Cj.heap sk.heap) (X:Ge (C.wo (AH++C.off)) Hw sk.heap sr AH it k) (e:Da Pu sr k=some r) (ht:okTgt sr t=true) (hh:A.handled=none)
 (K0:r=none->∀h' tk,Bh C Hw Pu { sk with heap:=h',toks:=tk }->Mv An Hw Cj.heap h'->Q0 { sk with heap:=h',toks:=tk })
 (K1:∀v h' tk x,r=some v->Bh (C.wo (AH++C.off)) Hw Pu { sk with heap:=h',toks:=tk }->Mv An Hw Cj.heap h'->Bz (C.wo (AH++C.off)) Hw h' v x->Ge (C.wo (AH++C.off)) Hw h' sr AH it (k+1)->Q1 x { sk with heap:=h',toks:=tk }) :
 PD C.md A (pyNext (.ref it)) (fun r Ao=>match r with
  |none=>Q0 Ao
  |some v=>PD C.md A (letOwnedTupleGo t (.ref it) v) (fun Z Be=>Q1 v Be) E1 Ao) E sk:=by
 have hM:∀{h':O9},(∀b o,b∉AH->sk.heap.get? b=some o->h'.get? b=some o)->Mv An Hw Cj.heap h':=fun kk=>
  ⟨M.ext,M.fresh,fun b o hb e=>kk b o (fun m=>by rw[hn b m] at e;cases e) (M.keep b o hb e)⟩
 refine lP (C:=C.wo (AH++C.off)) I X (fun a m=>xp _ m) e ht hh (fun q h' tk kk=>K0 q h' tk (I.leave kk I0) (hM kk)) fun v h' tk x q kk rx S2=>K1 v h' tk x q ?_ (hM kk) rx S2;exact I.junk (AC:=AH++C.off) (fun b o hb e=>kk b o (fun m=>hb (xp _ m)) e) (fun a m=>.inl m) fun a m=>by
  by_cases q:a∈AH
  ·exact S2.live a q
  ·obtain ⟨_,_,o,z⟩:=I.offs a m;exact ⟨o,kk a o q z⟩
def qb (C:Cx) (L:Lv) (e:As) (t:O6) (b:List PC) (AH An:List O5) (Wz:O9) (sr:Gh) (it:O5) (z:Option (Fl×Aj)) (m:Nat) (sk:OZ):Prop:=
 ∃Hw Pu k,Bh (C.wo (AH++C.off)) Hw Pu sk∧Mv An Hw Wz sk.heap∧Ge (C.wo (AH++C.off)) Hw sk.heap sr AH it k∧Mt (aA L e t b) sr m k Pu=z
theorem p8 (L':Ce g L n)(W:Wd C g)(I:Bh C Y J s)(X:Ba C Y e AA){t i:O6}{b:List PC}{p:Pos}{f:Fl}{c:Nat}(h0:Hx g L e i J=some (sr,Ab))(ht:okTgt sr t=true)(h1:Mt (aA L e t b) sr c 0 Ab=some (f,Av)) :
 At C n Y s (exec (.For t i b [] p) AA) Av (RF C f):=by
 intro A Q E R K;refine wpAny_For (aD L' W I X h0 R fun An Cj hp tk AH it G kx E0 St=>?_) (Nf h0);have I0:=G.inv.apart E0;refine codeAny_forLoop_any (qb C L e t b AH An Cj.heap sr it (some (f,Av))) ?_ c
  (Mine.e2 An Ab (Mine.w14 0 (G.inv.enter kx fun a m=>⟨E0 a m,St.live a m⟩) ⟨⟨[],(xx _).symm⟩,fun Z m=>.inl m,fun b o Z e=>kx b o e⟩ St h1))
 rintro m sk ⟨Hw,Pu,k,Ik,Mk,Sk,hk⟩;cases m with
 |zero=>exact nn hk
 |succ m=>
  refine oC1 (Wy.symm.trans hk) fun r0 hv hk=>oS1 hk (fun v hr hk=>?_) fun hr hk=>?_
  ·refine Tp I0 E0 Ik Mk Sk hv ht R.hd (fun q=>by rw[hr] at q;cases q) fun v' h2 FG x q I2 M2 rx S2=>?_;cases (hr.symm.trans q);have X2:Ba (C.wo (AH++C.off)) Hw e AA:=((X.go G).wo _).mv M2;refine oC2 hk fun f' Su hb hk=>oC1 hb fun bD LC hb=>Qy (C:=C.wo (AH++C.off)) t X2 I2 rx LC A _ _ R fun Td s3 Z g3 Z=>Rg (C:=C.wo (AH++C.off)) L' (W.off _) g3.inv (X2.go g3) hb A _ _ R fun bG s4 fl g4 hf=>?_;have CH:=g3.trans g4;have M':=M2.trans CH.mv;have go:Mt (aA L e t b) sr m (k+1) Su=some (f,Av)->∃m',m'<m+1∧qb C L e t b AH An Cj.heap sr it (some (f,Av)) m' s4:=fun hk=>
    ⟨m,z5 _,bG,Su,k+1,g4.inv,M',S2.gen (AC:=AH++C.off) CH.mv.kp fun a m o e=>CH.mv.keep a o ((fun a m=>(I2.offs a (xp _ m)).1) a m) e,hk⟩
   have CF:=G.trans ⟨g4.inv.leave (tk:=s4.toks) (fun b o Z e=>e) I0,M'⟩
   induction f' using Fl.casesOn with
   |next=>have hf:fl = .next:=hf;rw[hf];exact go hk
   |cont=>have hf:fl = .cont:=hf;rw[hf];exact go hk
   |brk=>have hf:fl = .brk:=hf;rw[hf];cases hk;exact K _ _ _ CF rfl
   |ret v=>cases hk;obtain ⟨y,hf,ry⟩:=hf;rw[hf];exact K _ _ _ CF (Mine.w12 y rfl (ry.gen (AC:=C.off) (Kp.leave fun b o Z e=>e)))
  ·cases hk;refine Tp I0 E0 Ik Mk Sk hv ht R.hd (fun Z h2 FG I2 M2=>?_) (fun v' h2 FG x q=>by rw[hr] at q;cases q);exact wpAny_execs_nil (K _ _ _ (G.trans ⟨I2,M2⟩) rfl)
theorem vO (L':Ce g L n)(W:Wd C g)(I:Bh C Y J s)(X:Ba C Y e AA){t:O6}{b:List PC}{p:Pos}{f:Fl}{c:Nat}(h:Lm (L.ts e t) (Dm L e b) c J=some (f,Av)):At C n Y s (exec (.While t b [] p) AA) Av (RF C f):=by
 intro A Q E R K;refine wpAny_While (codeAny_whileLoop (fun m sk=>∃Hw Pu,Ck C Y s Hw Pu sk∧Lm (L.ts e t) (Dm L e b) m Pu=some (f,Av)) ?_ c (Mine.e2 Y J ⟨.refl I,h⟩));rintro m sk ⟨Hw,Pu,G,hk⟩;cases m with
 |zero=>exact nn hk
 |succ m=>
  refine oC2 (Kq.symm.trans hk) fun b' Nu h1 hk=>L'.ts W G.inv (X.go G) h1 A _ _ R fun Pr s1 r g1 hr=>?_;subst hr;have G1:=G.trans g1;cases r with
  |false=>cases hk;exact wpAny_execs_nil (K _ _ _ G1 rfl)
  |true=>
   refine oC2 hk fun f' bD h2 hk=>Rg L' W G1.inv (X.go G1) h2 A _ _ R fun bH s2 fl g2 hf=>?_;have G2:=G1.trans g2
   induction f' using Fl.casesOn with
   |next=>have hf:fl = .next:=hf;rw[hf];exact ⟨m,z5 _,bH,bD,G2,hk⟩
   |cont=>have hf:fl = .cont:=hf;rw[hf];exact ⟨m,z5 _,bH,bD,G2,hk⟩
   |brk=>have hf:fl = .brk:=hf;rw[hf];cases hk;exact K _ _ _ G2 rfl
   |ret v=>cases hk;obtain ⟨y,hf,ry⟩:=hf;rw[hf];exact K _ _ _ G2 (Mine.w12 y rfl ry)
theorem yW (L':Ce g L n)(W:Wd C g)(I:Bh C Y J s)(X:Ba C Y e AA){b:Bool}{x:O6}{v:V}(h:ba L b e x J=some (v,Av)):At C n Y s (eval x AA) Av (RV C v):=by
 cases b with
 |false=>exact L'.ev W I X h
 |true=>
  induction x using O6.casesOn with
  |List es q=>
   refine itE (show rt L e es J=_ from h) (fun Z=>nn) fun hz h=>oC2 h fun vs Nu h1 h=>?_;cases h;exact yN L' W I X (by simpa using hz) h1
  |Dict ks vs q=>
   refine itE (show re L e ks vs J=_ from h) (fun hz h=>oC2 h fun l Nu h1 h=>oC1 h fun ps hp h=>?_) fun Z=>nn;cases h;exact tY L' W I X hz h1 hp
  |_=>exact L'.ev W I X h
theorem ff (L':Ce g L n)(W:Wd C g){p:Pos}:∀{es:List O6}{bs:List Bool}{Y:List O5}{J Av:Aj}{s:OZ}{vs:List V},Bh C Y J s->Ba C Y e AA->Uw L e bs es J=some (vs,Av) ->
 At C n Y s (spliced (backTo p (starEach es AA))) Av (fun Y h xs=>Bv C Y h vs xs):=fun {es}=>by
 induction es with
 |nil=>
  intro bs Y J Av s vs I _ h;cases h;exact fun A Q E R k=>wpAny_items_nil (k _ _ _ (.refl I) rfl)
 |cons x r ih=>
  intro bs Y J Av s vs I X h;refine itE (jY.symm.trans h) (fun Z=>nn) fun BM h=>oC2 h fun v Ab h1 h=>oC2 h fun vs Ai h2 h=>?_;cases h;exact fun A Q E R k=>wpAny_items_cons (yW L' W I X h1 A _ E R fun An Ao v Ay rv=>ih Ay.inv (X.go Ay) h2 A _ E R fun Bl Be vs Bm rs=>
   k _ _ _ (Ay.trans Bm) ⟨v,vs,rfl,rv.mv Bm.mv,rs⟩) (Ef (by simpa using BM))
theorem yC:∀{es:List O6}{bs:List Bool}{J Av:Aj}{vs:List V},Uw L e bs es J=some (vs,Av)->vs.length=es.length:=fun {es}=>by
 induction es with
 |nil=>intro _ _ _ _ h;cases h;rfl
 |cons x r ih=>
  intro bs J Av vs h;exact itE (jY.symm.trans h) (fun Z=>nn) fun BM h=>oC2 h fun v Ab h1 h=>oC2 h fun vs Ai h2 h=>by
   cases h;rw[x9,x9,ih h2]
theorem tW (L':Ce g L n)(W:Wd C g)(I:Bh C Y J s)(X:Ba C Y e AA){ts:List O6}{x:O6}{v:V}(h:nq L e ts x J=some (v,Av)):At C n Y s (eval x AA) Av (RV C v):=by
 induction x using O6.casesOn with
 |Tuple es q p=>
  refine itE (show v5 L e ts es J=_ from h) (fun Z=>nn) fun hz h=>oC2 h fun vs Nu h1 h=>?_;cases h;exact fun A Q E R K=>wpAny_Tuple (ff L' W I X h1 A _ E R fun An Ao xs Ay rs=>⟨by rw[rs.length,yC h1];exact Dh (by simpa using hz),have z:=Ay.inv.newTup rs;K _ _ _ (Ay.trans z.1) z.2⟩)
 |_=>exact L'.ev W I X h
theorem Ez {x:O6}{t:Option O6}{l:Nat}(h:Dz x=false):swapsWith x t l AA=pure false:=by
 cases x<;>first|rfl|cases h
theorem jO (L':Ce g L n)(W:Wd C g)(I:Bh C Y J s)(X:Ba C Y e AA){nm:O7}{q p:Pos}{b:Bool}{x:O6}{v:V}(hc:Dz x=false)(h1:ba L b e x J=some (v,Ab))(h2:Dj e nm v Ab=some Av) :
 At C n Y s (exec (.Assign [.Name nm q] x p) AA) Av (RF C .next):=fun A Q E R K=>
 wpAny_Assign_Name (yW L' W I X h1 A _ E R fun An Ao x Ay rx=>Gr Ay.inv (X.go Ay) rx h2 A _ E R fun Bl Be Z Bm Z=>K _ _ _ (Ay.trans Bm) rfl) (Ez hc)
theorem qD (L':Ce g L n)(W:Wd C g)(I:Bh C Y J s)(X:Ba C Y e AA){o i x:O6}{q p:Pos}{v a b:V}{Bk:Aj}(hc:Dz x=false)(h1:L.ev e x J=some (v,Ab))(h2:L.ev e o Ab=some (a,Ai))(h3:L.ev e i Ai=some (b,Bk))
 (h4:Ga a b v Bk=some Av):At C n Y s (exec (.Assign [.Subscript o i q] x p) AA) Av (RF C .next):=fun A Q E R K=>
 wpAny_Assign_Subscript (L'.ev W I X h1 A _ E R fun An Ao x Ay rx=>L'.ev W Ay.inv (X.go Ay) h2 A _ E R fun Bl Be y Bm ry=>L'.ev W Bm.inv ((X.go Ay).go Bm) h3 A _ E R fun Fy Cf z Ft rz=>
  Wr Ft.inv (ry.mv Ft.mv) rz (rx.mv (Bm.trans Ft).mv) h4 A _ E R fun jm bI Z zG Z=>K _ _ _ (((Ay.trans Bm).trans Ft).trans zG) rfl) (Ez hc)
theorem pE (L':Ce g L n)(W:Wd C g)(I:Bh C Y J s)(X:Ba C Y e AA){ts:List O6}{x:O6}{m:Nat}{q p:Pos}{l:List V}(hc:Dz x=false)(h1:nq L e ts x J=some (.tup l,Ab))(hs:Yj e ts x=some none)(hl:ts.length=l.length)
 (h2:Jm e ts l Ab=some Av):At C n Y s (exec (.Assign [.Tuple ts m q] x p) AA) Av (RF C .next):=fun A Q E R K=>
 wpAny_Assign_stores (tW L' W I X h1 A _ E R fun An Ao x Ay rx=>Qy (.Tuple ts m q) (X.go Ay) Ay.inv rx (by unfold Cy;dsimp only;rw[if_pos (beq_iff_eq.mpr hl)];exact h2) A _ E R fun Bl Be Z Bm Z=>K _ _ _ (Ay.trans Bm) rfl)
  (show swapsWithSole [.Tuple ts m q] x p.line AA=pure false from (Ez hc:swapsWith x (some (.Tuple ts m q)) p.line AA=pure false)) (dP X hs)
theorem jQ (L':Ce g L n)(W:Wd C g)(I:Bh C Y J s)(X:Ba C Y e AA){ts:List O6}{x:O6}{m:Nat}{q p:Pos}{l:List V}{names:List O7}(hc:Dz x=false)(h1:nq L e ts x J=some (.tup l,Ab))(hs:Yj e ts x=some (some names))
 (hl:names.length=l.length) (h2:Mq e names.reverse l.reverse Ab=some Av):At C n Y s (exec (.Assign [.Tuple ts m q] x p) AA) Av (RF C .next):=by
 intro A Q E R K;rw[exec_Assign_arm];refine Aa (wpAny_standAt ?_);rw[show swapsWithSole [.Tuple ts m q] x p.line AA=pure false from (Ez hc:swapsWith x (some (.Tuple ts m q)) p.line AA=pure false)];refine Aa (Ag ?_);rw[if_neg (by decide)];refine Aa (tW L' W I X h1 A _ E R fun An Ao x Ay rx=>?_);rw[dP X hs];refine Aa (Ag ?_);obtain ⟨a,vs,k,rfl,_,gp,hr⟩:=rx;have h3:=hr.length;rw[xq] at h3;refine Aa (wpAny_rule ?_);rw[hl,← h3];refine Aa (wpAny_unpackItems_tuple R.hd (nV gp) fun h' hx=>?_);have G:=Ay.inv.ext (h':=h') (fun b o e=>hx b o (ya (xl e)) e) Ao.toks;refine Aa (qB ((X.go Ay).go G) G.inv (hr.mv G.mv).rev h2 A _ E R fun Bl Be Z Bm Z=>Ag ?_);exact K _ _ _ ((Ay.trans G).trans Bm) rfl
theorem nE {A:O8}{E:OY->OZ->Prop}{a b:Int}{t u:Tok}{Q:OY->OZ->Prop}(h:Q (.int (a+b) s.toks) { s with toks:=s.toks+1 }):PD C.md A (inplaceOp .Add (.int a t) (.int b u)) Q E s:=AutoIntOps.iadd_0 h
theorem iA (L':Ce g L n)(W:Wd C g)(I:Bh C Y J s)(X:Ba C Y e AA){nm:O7}{q p:Pos}{x:O6}{a b:Int}{sa sb:Bool}(h1:Dc g e nm J=some (.int a sa))(h2:L.ev e x J=some (.int b sb,Ab))(h3:Dj e nm (.int (a+b) false) Ab=some Av) :
 At C n Y s (exec (.AugAssign (.Name nm q) .Add x p) AA) Av (RF C .next):=fun A Q E R K=>
 wpAny_AugAssign_Name (nQ W I X h1 A _ E R fun An Ao y Ay ry=>L'.ev W Ay.inv (X.go Ay) h2 A _ E R fun Bl Be z Bm rz=>by
  obtain ⟨⟨t,rfl⟩,-⟩:=ry;obtain ⟨⟨u,rfl⟩,-⟩:=rz;have G:=(Ay.trans Bm).trans (.tok Bm.inv (Be.toks+1));exact nE (C:=C) (Gr G.inv (X.go G) (Bz.int_t (sm:=false) fun q=>ft q) h3 A _ E R fun Fy Cf Z Ft Z=>K _ _ _ (G.trans Ft) rfl))
theorem pV (L':Ce g L n)(W:Wd C g)(I:Bh C Y J s)(X:Ba C Y e AA){o i x:O6}{q p:Pos}{va vi:V}{a b:Int}{sa sb:Bool}{Bk:Aj}(hs:Gb i=false)(h1:L.ev e o J=some (va,Ab))(h2:L.ev e i Ab=some (vi,Ai))(h3:Eb Ai va vi=some (.int a sa))
 (h4:L.ev e x Ai=some (.int b sb,Bk)) (h5:Ga va vi (.int (a+b) false) Bk=some Av):At C n Y s (exec (.AugAssign (.Subscript o i q) .Add x p) AA) Av (RF C .next):=fun A Q E R K=>
 wpAny_AugAssign_SubscriptAny (L'.ev W I X h1 A _ E R fun An Ao y Ay ry=>L'.ev W Ay.inv (X.go Ay) h2 A _ E R fun Bl Be z Bm rz=>by
  have MZ:=ry.mv Bm.mv;obtain ⟨_,_,_,_,hit⟩:=kJ (C:=C) (A:=A) (E:=E) (Q:=fun r s'=>r≠.none∧∃tk t,r = .int a t∧s'={ Be with toks:=tk }) Bm.inv MZ rz h3 fun r tk rr=>by
   obtain ⟨⟨t,rfl⟩,-⟩:=rr;exact ⟨fun q=>(nomatch q),tk,t,rfl,rfl⟩
  refine wpAny_mono hit (fun r s' hr=>?_) fun Z Z x=>x;obtain ⟨_,tk,t,rfl,rfl⟩:=hr;have G:=(Ay.trans Bm).trans (.tok Bm.inv tk);refine L'.ev W G.inv (X.go G) h4 A _ E R fun Fy Cf w Ft E3=>?_;obtain ⟨⟨u,rfl⟩,-⟩:=E3;have G3:=G.trans (Ft.trans (.tok Ft.inv (Cf.toks+1)));exact nE (C:=C) (Wr G3.inv (MZ.mv Ft.mv) (rz.mv Ft.mv) (Bz.int_t (sm:=false) fun q=>ft q) h5 A _ E R fun jm bI Z zG Z=>K _ _ _ (G3.trans zG) rfl)) (fun ov iv new=>by cases i<;>first|rfl|cases hs)
theorem f9 (L':Ce g L n)(W:Wd C g)(I:Bh C Y J s)(X:Ba C Y e AA){x:O6}{p:Pos}(hc:Dz x=false)(h:L.ev e x J=some (.none,Av)):At C n Y s (exec (.Expr x p) AA) Av (RF C .next):=fun A Q E R K=>
 wpAny_Expr (L'.ev W I X h A _ E R fun An Ao v Ay rv=>by
  subst rv;exact K _ _ _ Ay rfl) (by unfold interactive;rw[X.fn];rfl) (Ez hc)
theorem tz (L':Ce g L n)(W:Wd C g)(I:Bh C Y J s)(X:Ba C Y e AA){t:O6}{b o:List PC}{p:Pos}{c:Bool}{f:Fl}(h1:L.ts e t J=some (c,Ab))(h2:Dm L e (if c then b else o) Ab=some (f,Av)):At C n Y s (exec (.If t b o p) AA) Av (RF C f):=fun A Q E R K=>
 wpAny_If (L'.ts W I X h1 A _ E R fun An Ao r Ay hr=>by
  subst hr;cases r with
  |true=>exact Rg L' W Ay.inv (X.go Ay) h2 A _ E R fun Bl Be x Bm hx=>K _ _ _ (Ay.trans Bm) hx
  |false=>exact Rg L' W Ay.inv (X.go Ay) h2 A _ E R fun Bl Be x Bm hx=>K _ _ _ (Ay.trans Bm) hx)
theorem Cd.nil:Cd Y [] []:=fun x=>rfl
theorem Cd.cons {cells:List (O7×Nat)}{cs:List (O7×O5)}(r:Cd Y cells cs){x:O7}{i:Nat}{a:O5}(h:Y[i]?=some a):Cd Y ((x,i)::cells) ((x,a)::cs):=fun y=>by
 rw[y6,y6];cases q:y==x with
 |true=>exact ⟨a,h,rfl⟩
 |false=>exact r y
theorem Cd.ext {cells:List (O7×Nat)}{cs:List (O7×O5)}(r:Cd Y cells cs)(h:∀(i:Nat)(a:O5),Y[i]?=some a->Bx[i]?=some a):Cd Bx cells cs:=fun x=>by
 have:=r x;split at this
 ·exact (by obtain ⟨a,e,f⟩:=this;exact ⟨a,h _ _ e,f⟩)
 ·exact this
theorem Bh.newCell (I:Bh C Y J s):Ck C Y s (Y++[s.heap.objs.size]) (J++[.cell none]) { s with heap:=s.heap.push { cls:=.type "cell",data:=.cell none } }:=
 I.alloc (tk:=s.toks) (fun b o e=>ww _ e) (Co _) fun Z Z=>⟨none,xc _ rfl,trivial⟩
theorem cD {M:Model}{A:O8}{E:OY->OZ->Prop}(f:O7×PB->List (O7×O5)->Sem (ForInStep (List (O7×O5))))
 (hf:∀name kind cells,f (name,kind) cells=if kind == .cell then (do let a ← alloc { cls:=.type "cell",data:=.cell none };pure (.yield ((name,a)::cells))) else pure (.yield cells)) :
 ∀(names:List (O7×PB)) (AD:List (O7×Nat)) (cs:List (O7×O5)) (Y:List O5) (J:Aj) (s:OZ) (Q:List (O7×O5)->OZ->Prop),Bh C Y J s->Cd Y AD cs ->
  (∀Bx s' B9,Ck C Y s Bx (Fu names AD J).2 s'->Cd Bx (Fu names AD J).1 B9->Q B9 s')->PD M A (forIn names cs f) Q E s:=by
 intro X
 induction X with
 |nil=>
  intro AD cs Y J s Q I r k;rw[List.forIn_nil];exact Ag (k _ _ _ (.refl I) r)
 |cons X names ih=>
  obtain ⟨x,kd⟩:=X;intro AD cs Y J s Q I r k;rw[List.forIn_cons,hf];by_cases hk:(kd == .cell)=true
  ·rw[if_pos hk];have G:=I.newCell;refine Aa (Aa (wpAny_alloc (Ag ?_)));refine ih ((x,J.length)::AD) _ _ _ _ Q G.inv ((r.ext fun i a e=>G.mv.get e).cons (by rw[← I.len];exact Rt ..)) fun Bx s' B9 G' r'=>?_;refine k Bx s' B9 (G.trans ?_) ?_
   ·rw[Vg];rw[if_pos hk];exact G'
   ·rw[Vg];rw[if_pos hk];exact r'
  ·rw[if_neg hk];refine Aa (Ag (ih AD _ _ _ _ Q I r fun Bx s' B9 G' r'=>?_));refine k Bx s' B9 ?_ ?_
   ·rw[Vg];rw[if_neg hk];exact G'
   ·rw[Vg];rw[if_neg hk];exact r'
theorem Bh.newFrame (I:Bh C Y J s)(cl:String):Ck C Y s (Y++[s.heap.objs.size]) (J++[.fr []]) { s with heap:=s.heap.push { cls:=.type cl,data:=.dict #[] } }:=
 I.alloc (tk:=s.toks) (fun b o e=>ww _ e) (Co _) fun Z Z=>⟨fun Z=>none,⟨_,#[],0,xc _ rfl,rfl,fun Z he=>by simp at he,fun Z=>rfl⟩,fun Z=>trivial⟩
abbrev aG (A8:List O6) (AA:Env):Sem Bool:=forIn A8 true fun c r=>if r=true then do let ok ← isTrue c AA (eval c AA);pure (ForInStep.yield ok) else pure (ForInStep.yield r)
theorem cF {M:Model}{A:O8}{E:OY->OZ->Prop}{Q:Bool->OZ->Prop}:∀(A8:List O6),Q false s->PD M A (forIn A8 false fun c r=>if r=true then do let ok ← isTrue c AA (eval c AA);pure (ForInStep.yield ok) else pure (ForInStep.yield r)) Q E s:=by
 intro X
 induction X with
 |nil=>
  intro h;rw[List.forIn_nil];exact Ag h
 |cons x r ih=>
  intro h;rw[List.forIn_cons,if_neg (by decide)];exact Aa (Ag (ih h))
theorem tM (L':Ce g L n)(W:Wd C g):∀{A8:List O6}{Y:List O5}{J Av:Aj}{s:OZ}{b:Bool},Bh C Y J s->Ba C Y e AA->Qc L e A8 J=some (b,Av)->At C n Y s (aG A8 AA) Av (fun Z Z r=>r=b):=by
 intro X
 induction X with
 |nil=>
  intro Z Z Z Z Z I Z h;cases h;intro A Q E R k;rw[aG];exact Ag (k _ _ _ (.refl I) rfl)
 |cons x r ih=>
  intro Z Z Z Z Z I X h;rw[sT] at h;intro A Q E R k;rw[aG,List.forIn_cons];split at h
  ·rename_i Nu h1;refine Aa (Aa (L'.ts W I X h1 A _ E R fun Pr s1 c g1 hc=>?_));subst hc;exact Ag (ih g1.inv (X.go g1) h A Q E R fun bH s2 c g2 hc=>k _ _ _ (g1.trans g2) hc)
  ·rename_i Nu h1;cases h;refine Aa (Aa (L'.ts W I X h1 A _ E R fun Pr s1 c g1 hc=>?_));subst hc;exact Ag (cF r (k _ _ _ g1 rfl))
  ·cases h
def jN (M:Model) (A:O8) (x:O6) (AD:OY) (AA:Env) (Q:OZ->Prop) (E:OY->OZ->Prop) (s:OZ):Prop:=match x with
 |.ListComp AW _ _ _=>PD M A (eval AW AA) (fun v Ao=>PD M A (call (.builtin "list.append") [AD,v]) (fun Z=>Q) E Ao) E s
 |.SetComp AW _ _ _=>PD M A (eval AW AA) (fun v Ao=>PD M A (call (.builtin "set.add") [AD,v]) (fun Z=>Q) E Ao) E s
 |.DictComp k v _ _ _=>PD M A (eval k AA) (fun a Ao=>PD M A (eval v AA) (fun b Be=>∃d,AD = .ref d∧PD M A (dictSet d a b) (fun Z=>Q) E Be) E Ao) E s
 |_=>False
set_option tactic.hygienic true in
theorem bX {M:Model}{A:O8}{E:OY->OZ->Prop}{x:O6}{d:Nat}{it AD:OY}{t i:O6}{A8:List O6}{QD:OZ->Prop}{QA:OZ->Prop}(hx:Dz x=true)(hg:(clausesOf x)[d]?=some ⟨t,i,A8,0⟩)
 (h:PD M A (pyNext it) (fun r Ao=>match r with
  |none=>QD Ao
  |some v=>PD M A (letOwnedTupleGo t it v) (fun Z Be=>PD M A (assign t AA v) (fun Z Cf=>PD M A (aG A8 AA) (fun ok bI=>if ok=true then
    (match (clausesOf x)[d+1]? with
     |none=>jN M A x AD AA QA E bI
     |some g'=>g'.is_async=0∧(∀v,foldedSetIterable g'.iter AA v=pure v)∧PD M A (eval g'.iter AA) (fun y zH=>PD M A (pyIter y) (fun FE zI=>PD M A (runOwn (.compStart x (d+1) FE AD AA) AA) (fun Z=>QA) E zI) E zH) E bI)
    else QA bI) E Cf) E Be) E Ao) E s) :
 PD M A (compTurn x d it AD AA) (fun f s'=>match f with
  |.done f=>f = .next∧QD s'
  |.again c=>c = .compLoop x d it AD AA∧QA s') E s:=by
 have fin:∀s',QA s'->PD M A (again (.compLoop x d it AD AA)) (fun f s'=>match f with
  |.done f=>f = .next∧QD s'
  |.again c=>c = .compLoop x d it AD AA∧QA s') E s':=fun s' q=>Ag ⟨rfl,q⟩
 unfold compTurn;split
 rename_i gens B4 FR;have HG:gens=clausesOf x∧∀s,jN M A x AD AA QA E s->PD M A B4 (fun Z=>QA) E s:=by
  clear h hg fin
  induction x using O6.casesOn with
  |ListComp AW gs sc p=>
   obtain ⟨rfl,rfl⟩:=Prod.mk.inj FR;exact ⟨rfl,fun s h=>Aa (wpAny_mono h (fun v zH kD=>Aa (wpAny_mono kD (fun Z zI bJ=>Ag bJ) fun Z Z q=>q)) fun Z Z q=>q)⟩
  |SetComp AW gs sc p=>
   obtain ⟨rfl,rfl⟩:=Prod.mk.inj FR;exact ⟨rfl,fun s h=>Aa (wpAny_mono h (fun v zH kD=>Aa (wpAny_standAt (Aa (wpAny_mono kD (fun Z zI bJ=>Ag bJ) fun Z Z q=>q)))) fun Z Z q=>q)⟩
  |DictComp k v gs sc p=>
   obtain ⟨rfl,rfl⟩:=Prod.mk.inj FR;exact ⟨rfl,fun s h=>Aa (wpAny_mono h (fun a zH kD=>Aa (wpAny_holding (wpAny_mono kD (fun b zI bJ=>by
    obtain ⟨d',rfl,bJ⟩:=bJ;exact Aa (wpAny_standAt (wpAny_holding bJ))) fun Z Z q=>q))) fun Z Z q=>q)⟩
  |_=>exact ft hx
 obtain ⟨rfl,em⟩:=HG;clear FR;rw[hg];refine Aa (wpAny_standAt ?_);refine Aa (wpAny_mono h (fun r Ao Hj=>?_) fun Z Z q=>q);cases r with
 |none=>exact Ag ⟨rfl,Hj⟩
 |some v=>
  refine Aa (wpAny_mono Hj (fun Z Be zF=>?_) fun Z Z q=>q);refine Aa (wpAny_mono zF (fun Z Cf Tc=>?_) fun Z Z q=>q);refine Aa (wpAny_mono Tc (fun ok bI kE=>?_) fun Z Z q=>q);cases ok with
  |false=>exact fin _ kE
  |true=>
   cases q:(clausesOf x)[d+1]? with
   |none=>
    rw[q] at kE;exact Aa (wpAny_mono (em _ kE) (fun Z LI pj=>fin _ pj) fun Z Z q=>q)
   |some g'=>
    rw[q] at kE;obtain ⟨ha,hf,kE⟩:=kE;have hb:(g'.is_async != 0)=false:=by rw[ha];rfl
    refine Aa (wpAny_mono kE (fun y zH kD=>?_) fun Z Z q=>q);refine Aa (wpAny_standAt ?_);rw[hb];refine Aa (wpAny_of_eq (hf y) ?_);refine Aa (wpAny_holding (wpAny_mono kD (fun FE zI bJ=>?_) fun Z Z q=>q));exact Aa (wpAny_mono bJ (fun Z LI pj=>fin _ pj) fun Z Z q=>q)
theorem Px {M:Program}{w:World}{A:O8}{x:O6}{d:Nat}{it AD:OY}(hx:Dz x=true):(model M w).den (.compLoop x d it AD AA)=(compTurn x d it AD AA).onRaise (fun x=>do noteFrame x AA;theTreesLotGoes x)∧(model M w).den (.compStart x d it AD AA)=(compStart x d it AD AA).onRaise (fun x=>do noteFrame x AA;standAt theWindowsPlace)∧A.under (.compLoop x d it AD AA)=A∧A.under (.compStart x d it AD AA)=A:=by
 induction x using O6.casesOn with
 |ListComp=>exact ⟨rfl,rfl,rfl,rfl⟩
 |SetComp=>exact ⟨rfl,rfl,rfl,rfl⟩
 |DictComp=>exact ⟨rfl,rfl,rfl,rfl⟩
 |_=>exact ft hx
theorem qV {M:Program}{w:World}{A:O8}{x:O6}{d:Nat}{it AD:OY}{R:Result->OZ->Prop}(hx:Dz x=true)(OW:Nat->OZ->Prop)
 (turn:∀n s,OW n s->PD (model M w) A (compTurn x d it AD AA) (fun f s'=>match f with
  |.done f=>f = .next∧R (.ok .next) s'
  |.again c=>c = .compLoop x d it AD AA∧∃m,m<n∧OW m s') (notedBy (model M w) A AA fun e s'=>R (.error e) s') s) (n:Nat) (h:OW n s):codeAny (model M w) A (.compLoop x d it AD AA) R s:=by
 refine codeAny_loop rfl OW (fun n s hI=>?_) n h;rw[(Px (A:=A) hx).1,(Px (M:=M) (w:=w) hx).2.2.1];refine wpAny_noted (wpAny_mono (turn n s hI) (fun f s' hf=>?_) fun Z Z q=>q);cases f with
 |done f=>obtain ⟨rfl,q⟩:=hf;exact q
 |again c=>exact hf
theorem Od {M:Program}{w:World}{A:O8}{x:O6}{d:Nat}{it AD:OY}{R:Result->OZ->Prop}{g:PA}(hx:Dz x=true)(hg:(clausesOf x)[d]?=some g)(ha:g.is_async=0)
 (h0:codeAny (model M w) A (.compLoop x d it AD AA) R s)
 (h:PD (model M w) A (pyIter it) (fun FE s'=>codeAny (model M w) A (.compLoop x d FE AD AA) R s') (notedBy (model M w) A AA fun x s'=>R (.error x) s') s) :
 codeAny (model M w) A (.compStart x d it AD AA) R s:=by
 have hb:(((clausesOf x)[d]?).elim false (·.is_async != 0))=false:=by rw[hg];show (g.is_async != 0)=false;rw[ha];rfl
 refine codeAny_of_tree ?_;rw[(Px (A:=A) hx).2.1,(Px (M:=M) (w:=w) hx).2.2.2];refine wpAny_notedAt ?_;unfold compStart;rw[hb];refine Aa (wpAny_askSetting ?_);split
 ·exact Aa (Ag (Ag (And.intro rfl h0)))
 ·refine Aa (wpAny_rule ?_);rw[hg];exact Aa (wpAny_standAt (Aa (wpAny_mono h (fun FE s' h'=>Ag (And.intro rfl h')) fun Z Z q=>q)))
structure Qo (X Y Bx:List O5)(h h':O9):Prop where
 ext:∃t,Bx=Y++t
 fresh:∀a∈Bx,a∈Y∨h.get? a=none
 keep:∀b o,b∉Y->b∉X->h.get? b=some o->h'.get? b=some o
theorem Mv.x {X:List O5}(m:Mv Y Bx h h'):Qo X Y Bx h h':=⟨m.ext,m.fresh,fun b o hb Z e=>m.keep b o hb e⟩
theorem Qo.mv {X:List O5}(m:Qo X Y Bx h h')(hX:∀b∈X,h.get? b=none):Mv Y Bx h h':=⟨m.ext,m.fresh,fun b o hb e=>m.keep b o hb (fun q=>by rw[hX b q] at e;cases e) e⟩
theorem Qo.trans {X fP:List O5}{D1:O9}(x:Qo X Y Bx h h')(y:Qo X Bx fP h' D1)(hX:∀b∈X,b∉Bx )(hl:∀b∈X,∃o,h'.get? b=some o):Qo X Y fP h D1 where
 ext:=(by obtain ⟨t,e⟩:=x.ext;exact (by obtain ⟨u,e'⟩:=y.ext;exact ⟨t++u,by rw[e',e,xj]⟩))
 fresh:=fun a m=>(y.fresh a m).elim (x.fresh a) fun l=>by
  by_cases q:a∈Y
  ·exact .inl q
  ·right
   cases hh:h.get? a with
   |none=>rfl
   |some o=>
    by_cases r:a∈X
    ·obtain ⟨o',z⟩:=hl a r;rw[z] at l;cases l
    ·rw[x.keep a o q r hh] at l;cases l
 keep:=fun b o hb hX e=>y.keep b o (fun m=>(x.fresh b m).elim hb fun l=>by rw[e] at l;cases l) hX (x.keep b o hb hX e)
theorem Qo.get {X:List O5}(x:Qo X Y Bx h h'){i:Nat}{a:O5}(e:Y[i]?=some a):Bx[i]?=some a:=by
 obtain ⟨t,rfl⟩:=x.ext;rw[yu (wv.mp e).1];exact e
theorem Ba.mvx {X:List O5}{e:As}{AA:Env}(E:Ba C Y e AA)(m:Qo X Y Bx h h'):Ba C Bx e AA:=⟨E.sc,E.ok,m.get E.loc,E.gl,E.bl,E.ce.ext fun Z Z e=>m.get e,fun i q z=>(by obtain ⟨a,c,P,b1,b2,b3⟩:=E.lam i q z;exact ⟨a,c,P,b1,m.get b2,b3⟩)⟩
theorem cC {sr:Gh}{AH:List O5}{it:O5}{k:Nat}{X:List O5}{C:Cx}{An Hw:List O5}{Pu:Aj}{Cj sk:OZ}{A:O8}{E E1:OY->OZ->Prop}{t:O6}{r:Option V}{Q0:OZ->Prop}{Q1:OY->OZ->Prop}(I0:∀a∈C.off,a∉AH)
 (hn:∀a∈AH,Cj.heap.get? a=none) (I:Bh (C.wo (AH++C.off)) Hw Pu sk) (M:Qo X An Hw Cj.heap sk.heap) (OX:Ge (C.wo (AH++C.off)) Hw sk.heap sr AH it k) (e:Da Pu sr k=some r) (ht:okTgt sr t=true) (hh:A.handled=none)
 (K0:r=none->∀h' tk,(∀b o,b∉AH->sk.heap.get? b=some o->h'.get? b=some o)->Bh C Hw Pu { sk with heap:=h',toks:=tk }->Qo X An Hw Cj.heap h'->Q0 { sk with heap:=h',toks:=tk })
 (K1:∀v h' tk x,r=some v->(∀b o,b∉AH->sk.heap.get? b=some o->h'.get? b=some o)->Bh (C.wo (AH++C.off)) Hw Pu { sk with heap:=h',toks:=tk }->Qo X An Hw Cj.heap h'->Bz (C.wo (AH++C.off)) Hw h' v x->Ge (C.wo (AH++C.off)) Hw h' sr AH it (k+1) ->
  Q1 x { sk with heap:=h',toks:=tk }) :
 PD C.md A (pyNext (.ref it)) (fun r Ao=>match r with
  |none=>Q0 Ao
  |some v=>PD C.md A (letOwnedTupleGo t (.ref it) v) (fun Z Be=>Q1 v Be) E1 Ao) E sk:=by
 have hM:∀{h':O9},(∀b o,b∉AH->sk.heap.get? b=some o->h'.get? b=some o)->Qo X An Hw Cj.heap h':=fun kk=>
  ⟨M.ext,M.fresh,fun b o hb hx e=>kk b o (fun m=>by rw[hn b m] at e;cases e) (M.keep b o hb hx e)⟩
 refine lP (C:=C.wo (AH++C.off)) I OX (fun a m=>xp _ m) e ht hh (fun q h' tk kk=>K0 q h' tk kk (I.leave kk I0) (hM kk)) fun v h' tk x q kk rx S2=>K1 v h' tk x q kk ?_ (hM kk) rx S2;exact I.junk (AC:=AH++C.off) (fun b o hb e=>kk b o (fun m=>hb (xp _ m)) e) (fun a m=>.inl m) fun a m=>by
  by_cases q:a∈AH
  ·exact S2.live a q
  ·obtain ⟨_,_,o,z⟩:=I.offs a m;exact ⟨o,kk a o q z⟩
inductive CK where
 |list|dict|set
def Fi (C:Cx) (Y:List O5) (h:O9) (D:O5):CK->List V->Prop
 |.list,AD=>∃vs m,IsL h D vs m∧Bv C Y h AD vs.toList
 |.dict,AD=>∃l AE,Oh AD=some l∧h.DictOf (intKind C.prog C.w) D AE∧Eh C Y h (Fq [] l) AE
 |.set,AD=>∃q o,Fk AD=some q∧h.get? D=some o∧Gg C.prog C.w o (q.foldl (fun s i=>Ch i s) [])
theorem Fi.gen {AC:List O5}(K:Kp C.off AC Y Bx h h'){D:O5}(hD:∀o,h.get? D=some o->h'.get? D=some o){k:CK}{AD:List V}(r:Fi C Y h D k AD):Fi (C.wo AC) Bx h' D k AD:=by
 cases k with
 |list=>obtain ⟨vs,m,a,b⟩:=r;exact ⟨vs,m,hD _ a,b.gen K⟩
 |dict=>obtain ⟨l,AE,a,b,c⟩:=r;exact ⟨l,AE,a,b.at hD,c.gen K⟩
 |set=>obtain ⟨q,o,a,b,c⟩:=r;exact ⟨q,o,a,hD _ b,c⟩
theorem Fi.live {D:O5}{k:CK}{AD:List V}(r:Fi C Y h D k AD):∃o,h.get? D=some o:=by
 cases k with
 |list=>obtain ⟨vs,m,a,b⟩:=r;exact ⟨_,a⟩
 |dict=>obtain ⟨l,AE,a,⟨o,es,ep,z,_⟩,c⟩:=r;exact ⟨o,z⟩
 |set=>obtain ⟨q,o,a,b,c⟩:=r;exact ⟨o,b⟩
def Os (C:Cx) (n:Nat) (x:O6) (kd:CK) (D:O5) (ce:As) (AA:Env) (em:Aj->List V->Option (List V×Aj)):Prop:=
 ∀(off Y:List O5) (J Av:Aj) (s:OZ) (AD BA:List V),Bh (C.wo off) Y J s->Ba C Y ce AA->D∈off->Fi (C.wo off) Y s.heap D kd AD->em J AD=some (BA,Av)->∀A Q E,Dq A n ->
  (∀Bx s',Bh (C.wo off) Bx Av s'->Qo [D] Y Bx s.heap s'.heap->Fi (C.wo off) Bx s'.heap D kd BA->Q s')->jN C.md A x (.ref D) AA Q E s
abbrev m7 (g:Gl) (L:Lv) (ce:As) (em:Aj->List V->Option (List V×Aj)) (t:O6) (A8:List O6) (r:List PA):V->Aj->List V->Option (List V×Aj):=fun v J AD=>oe1 (Cy ce t v J) none fun Ab=>
 match Qc L ce A8 Ab with
 |some (true,Ai)=>match r with
  |[]=>em Ai AD
  |⟨_,i,_,_⟩::_=>oe2 (Hx g L ce i Ai) none fun s' Bk=>Wg g L ce em r s' Bk AD
 |some (false,Ai)=>some (AD,Ai)
 |none=>none
def pe (C:Cx) (g:Gl) (L:Lv) (ce:As) (em:Aj->List V->Option (List V×Aj)) (t:O6) (A8:List O6) (r:List PA) (AH off Y:List O5) (Wz:O9) (D:O5) (kd:CK) (sr:Gh) (it:O5) (z:Option (List V×Aj)) (m:Nat) (sk:OZ):Prop:=
 ∃Hw Pu k CN,Bh (C.wo (AH++off)) Hw Pu sk∧Qo [D] Y Hw Wz sk.heap∧Ge (C.wo (AH++off)) Hw sk.heap sr AH it k∧Fi (C.wo (AH++off)) Hw sk.heap D kd CN∧Jv (m7 g L ce em t A8 r) sr m k Pu CN=z
theorem nDl {C:Cx}{D:O5}(hD:D∈C.off)(I:Bh C Y J s):∀b∈[D],b∉Y:=fun b m=>by rw[wl.mp m];exact (I.offs D hD).1
theorem lDl {C:Cx}{D:O5}(hD:D∈C.off)(I:Bh C Y J s):∀b∈[D],∃o,s.heap.get? b=some o:=fun b m=>by rw[wl.mp m];exact (I.offs D hD).2.2
theorem Ge.mvx {C:Cx}{D:O5}{Hw Td AH:List O5}{h2 h3:O9}{sr:Gh}{it:O5}{k:Nat}(OX:Ge C Hw h2 sr AH it k)(m3:Qo [D] Hw Td h2 h3)(C7:D∈C.off)(HC:D∉AH)(hi:∀a∈AH,a∉Hw):Ge C Td h3 sr AH it k:=
 OX.gen (AC:=C.off) (Bx:=Td) (h':=h3) ⟨fun b o nb e=>⟨⟨(fun m=>(m3.fresh b m).elim nb.1 fun l=>by rw[e] at l;cases l),nb.2⟩,m3.keep b o nb.1 (fun m=>nb.2 (by rw[wl.mp m];exact C7)) e⟩,fun Z Z e=>m3.get e⟩
  fun a m o e=>m3.keep a o (hi a m) (fun q=>HC (by rw[← wl.mp q];exact m)) e
set_option tactic.hygienic true in
theorem pH (L':Ce g L n)(W:Wd C g){x:O6}{kd:CK}{D:O5}{ce:As}{em:Aj->List V->Option (List V×Aj)}(hx:Dz x=true)(GB:Os C n x kd D ce AA em):∀(gens:List PA)(d:Nat),(∀j,(clausesOf x)[d+j]?=gens[j]?) ->
 ∀(off AH:List O5) (Y:List O5) (J Av:Aj) (s Cj:OZ) (sr:Gh) (it:O5) (AD BA:List V) (R:Result->OZ->Prop) (A:O8),Bh (C.wo (AH++off)) Y J s->D∈off->(∀a∈off,a∉AH)->(∀a∈AH,Cj.heap.get? a=none)->Qo [D] Y Y Cj.heap s.heap ->
  Ge (C.wo (AH++off)) Y s.heap sr AH it 0->Ba C Y ce AA->Fi (C.wo (AH++off)) Y s.heap D kd AD->Wg g L ce em gens sr J AD=some (BA,Av)->Dq A n ->
  (∀Bx s',Bh (C.wo off) Bx Av s'->Qo [D] Y Bx Cj.heap s'.heap->Fi (C.wo off) Bx s'.heap D kd BA->R (.ok .next) s')->codeAny C.md A (.compLoop x d (.ref it) (.ref D) AA) R s:=by
 intro gens
 induction gens with
 |nil=>
  intro d hd off AH Y J Av s Cj sr it AD BA R A I KJ JP hn M OX X Ac h;cases h
 |cons g0 r IH=>
  obtain ⟨t,i,A8,as⟩:=g0;intro d hd off AH Y J Av s Cj sr it AD BA R A I KJ JP hn M OX X Ac h Rm K;split at h
  ·cases h
  ·rename_i hc;simp only[Bool.not_eq_true,Bool.not_eq_false',Bool.and_eq_true,beq_iff_eq] at hc;obtain ⟨⟨ht,hni⟩,rfl⟩:=hc;have HC:D∉AH:=JP D KJ;refine qV hx (pe C g L ce em t A8 r AH off Y Cj.heap D kd sr it (some (BA,Av))) ?_ _ ⟨Y,J,0,AD,I,M,OX,Ac,h⟩;rintro m sk ⟨Hw,Pu,k,CN,Ik,Mk,Yk,Ak,hk⟩;cases m with
   |zero=>cases hk
   |succ m=>
    refine bX hx (by have:=hd 0;simpa using this) ?_;split at hk
    ·rename_i r0 hv;rcases r0 with _|v
     ·cases hk;refine cC (C:=C.wo off) JP hn Ik Mk Yk hv ht Rm.hd (fun Z h2 FG kk I2 M2=>?_) (fun v' h2 FG y q=>by cases q);exact K Hw _ I2 M2 (Ak.gen (AC:=off) (Bx:=Hw) (Kp.leave kk) fun o z=>kk D o HC z)
     ·refine cC (C:=C.wo off) JP hn Ik Mk Yk hv ht Rm.hd (fun q=>by cases q) fun v' h2 FG y q kk I2 M2 ry Y2=>?_;cases q;have A2:Fi (C.wo (AH++off)) Hw h2 D kd CN:=by
       exact (Ak.gen (AC:=AH++off) (Bx:=Hw) (h':=h2) (Sr (C:=C.wo (AH++off)) (AH:=AH) (fun a m=>xp _ m) kk) (fun o z=>kk D o HC z))
      split at hk
      ·rename_i EV Nu hb;have C7:D∈AH++off:=yd _ KJ;have X2:=X.mvx M2;have nD:∀{Td:List O5}{Su:Aj}{s3:OZ},Bh (C.wo (AH++off)) Td Su s3->∀b∈[D],b∉Td:=nDl (C:=C.wo (AH++off)) C7;have lD:∀{Td:List O5}{Su:Aj}{s3:OZ},Bh (C.wo (AH++off)) Td Su s3->∀b∈[D],∃o,s3.heap.get? b=some o:=lDl (C:=C.wo (AH++off)) C7;have C5:∀{Td:List O5}{s3:OZ},Bh (C.wo (AH++off)) Td Nu s3->Qo [D] Hw Td h2 s3.heap->Fi (C.wo (AH++off)) Td s3.heap D kd EV->∃m',m'<m+1∧pe C g L ce em t A8 r AH off Y Cj.heap D kd sr it (some (BA,Av)) m' s3:=fun {Td s3} I3 M3 A3=>
        ⟨m,z5 _,Td,Nu,k+1,EV,I3,M2.trans M3 (nD I2) (lD I2),Y2.mvx (C:=C.wo (AH++off)) M3 C7 HC (fun a m=>(I2.offs a (xp _ m)).1),A3,hk⟩
       split at hb
       ·rename_i bD E7;refine Qy (C:=C.wo (AH++off)) t (X2.wo _) I2 ry E7 A _ _ Rm fun Td s3 Z g3 Z=>?_;split at hb
        ·rename_i Su DP;refine tM (C:=C.wo (AH++off)) L' (W.off _) g3.inv ((X2.wo _).go g3) DP A _ _ Rm fun bG s4 b g4 CJ=>?_;subst CJ;rw[if_pos rfl];have CH:=g3.trans g4;have A4:Fi (C.wo (AH++off)) bG s4.heap D kd CN:=A2.gen (AC:=AH++off) (Bx:=bG) (h':=s4.heap) CH.mv.kp fun o z=>CH.mv.keep D o (nD I2 D (.head _)) z;split at hb
         ·have JD:=hd 1;rw[JD];exact GB (AH++off) bG Su Nu s4 CN EV g4.inv (((X2.wo _).go CH).un) C7 A4 hb A _ _ Rm fun jn s5 I5 M5 A5=>C5 I5 (CH.mv.x.trans M5 (nD g4.inv) (lD g4.inv)) A5
         ·rename_i t' i' MA NU r';have JD:=hd 1;rw[JD];split at hb
          ·rename_i s' vz OM;have NH:=hb;split at NH
           ·cases NH
           ·rename_i CB;simp only[Bool.not_eq_true,Bool.not_eq_false',Bool.and_eq_true,beq_iff_eq] at CB;obtain ⟨⟨-,hni'⟩,as0⟩:=CB;refine ⟨as0,fun v=>Nf OM v,?_⟩;have X4:Ba (C.wo (AH++off)) bG ce AA:=(X2.wo _).go CH;refine aD (C:=C.wo (AH++off)) L' (W.off _) g4.inv X4 OM Rm fun jn s5 h5 NV D3 FE G5 kx JT LP=>?_;have I5:Bh (C.wo (D3++(AH++off))) jn vz { s5 with heap:=h5,toks:=NV }:=G5.inv.enter kx fun a m=>⟨JT a m,LP.live a m⟩;have A5:Fi (C.wo (D3++(AH++off))) jn h5 D kd CN:=by
             exact (A4.gen (AC:=AH++off) (Bx:=jn) (h':=s5.heap) G5.mv.kp fun o z=>G5.mv.keep D o (nD g4.inv D (.head _)) z).gen (AC:=D3++(AH++off)) (Bx:=jn) (h':=h5) (Kp.enter kx JT) fun o z=>kx D o z
            have D6:codeAny C.md A (.compLoop x (d+1) (.ref FE) (.ref D) AA) (fun r s'=>match r with
             |.ok f=>∃m',m'<m+1∧pe C g L ce em t A8 (⟨t',i',MA,NU⟩::r') AH off Y Cj.heap D kd sr it (some (BA,Av)) m' s'
             |.error e=>cameBackBy C.md A AA (notedBy C.md A AA fun e s'=>R (.error e) s') e s') { s5 with heap:=h5,toks:=NV }:=
             IH (d+1) (fun j=>by have:=hd (j+1);rw[show d+1+j=d+(j+1) by lia,this];rfl) (AH++off) D3 jn vz Nu _ s5 s' FE CN EV _ A I5 C7 (G5.inv.apart JT) JT (⟨⟨[],(xx _).symm⟩,fun Z m=>.inl m,fun b o Z Z e=>kx b o e⟩) LP
              (X4.un.mv G5.mv) A5 hb Rm fun ρ6 s6 I6 M6 A6=>C5 I6 ((CH.mv.x.trans G5.mv.x (nD g4.inv) (lD g4.inv)).trans M6 (nD G5.inv) (lD G5.inv)) A6
            exact wpAny_runOwn (h:=none) (Od hx JD as0 D6 (kR (C:=C.wo (D3++(AH++off))) LP hni' D6))
          ·cases hb
        ·rename_i Su DP;cases hb;refine tM (C:=C.wo (AH++off)) L' (W.off _) g3.inv ((X2.wo _).go g3) DP A _ _ Rm fun bG s4 b g4 CJ=>?_;subst CJ;have CH:=g3.trans g4;exact C5 g4.inv CH.mv.x (A2.gen (AC:=AH++off) (Bx:=bG) (h':=s4.heap) CH.mv.kp fun o z=>CH.mv.keep D o (nD I2 D (.head _)) z)
        ·cases hb
       ·cases hb
      ·cases hk
    ·cases hk
theorem Bh.onlyD {D:O5}{off:List O5}(I:Bh (C.wo off) Y J s)(hD:D∈off){h':O9}{tk:Nat}(k:∀b o,b≠D->s.heap.get? b=some o->h'.get? b=some o)(hl:∃o,h'.get? D=some o):Bh (C.wo off) Y J { s with heap:=h',toks:=tk }:=
 I.junk (AC:=off) (fun b o hb e=>k b o (fun q=>hb (by rw[q];exact hD)) e) (fun a m=>.inl m) fun a m=>by
  by_cases q:a=D
  ·rw[q];exact hl
  ·obtain ⟨_,_,o,z⟩:=I.offs a m;exact ⟨o,k a o q z⟩
theorem kpD {D:O5}{off:List O5}(hD:D∈off)(k:∀b o,b≠D->h.get? b=some o->h'.get? b=some o):Kp off off Y Y h h':=
 ⟨fun b o n e=>⟨n,k b o (fun q=>n.2 (by rw[q];exact hD)) e⟩,fun Z Z e=>e⟩
theorem fq {D:O5}(k:∀b o,b≠D->h.get? b=some o->h'.get? b=some o):Qo [D] Y Y h h':=
 ⟨⟨[],(xx _).symm⟩,fun Z m=>.inl m,fun b o Z hx e=>k b o (fun q=>hx (by rw[q];exact .head _)) e⟩
theorem Yc (L':Ce g L n)(W:Wd C g){AW:O6}{gens:List PA}{sc:Scope}{p:Pos}{D:O5}{ce:As}:Os C n (.ListComp AW gens sc p) .list D ce AA (Le L AW ce):=by
 intro off Y J Av s AD BA I X hD hA h A Q E R K;unfold Le at h;split at h
 ·rename_i v Nu h1;split at h
  ·rename_i hz;cases h;show PD C.md A (eval AW AA) _ E s;refine L'.ev (C:=C.wo off) (W.off _) I (X.wo _) h1 A _ E R fun Pr s1 x g1 rx=>?_;have A1:Fi (C.wo off) Pr s1.heap D .list AD:=hA.gen (AC:=off) (Bx:=Pr) (h':=s1.heap) g1.mv.kp fun o z=>g1.mv.keep D o (I.offs D hD).1 z;obtain ⟨vs,m,hl,hr⟩:=A1;have hs:=hr.length;rw[xq] at hs;refine call_meets F.slot_list_append ⟨_,hl,rfl⟩ F.entry_list_append (F.args_list_append_2 _ _) (list_append D vs m x (by rw[hs];exact Dh hz)) ⟨hl,?_⟩;have k:∀b o,b≠D->s1.heap.get? b=some o->(s1.heap.update D (Obj.mapSeq fun x_1=>x_1.push x)).get? b=some o:=fun b o hb e=>(yk _ _ (Ne.symm hb)).trans e;have F9:=IsL.update hl (fun xs=>xs.push x);refine K Pr _ (g1.inv.onlyD hD k ⟨_,F9⟩) (g1.mv.x.trans (fq k) (fun b m=>by rw[wl.mp m];exact (g1.inv.offs D hD).1) (fun b m=>by rw[wl.mp m];exact ⟨_,hl⟩)) ⟨vs.push x,_,F9,?_⟩;have e1:(vs.push x).toList=vs.toList++[x]:=by simp
   have K2:=kpD (Y:=Pr) (off:=off) hD k;rw[e1];exact (hr.gen (AC:=off) K2).append ⟨x,[],rfl,rx.gen (AC:=off) K2,rfl⟩
  ·cases h
 ·cases h
theorem wX {x v:V}{k:Int}(h:yM x=some (k,v)):∃p,x = .tup [.int k p,v]:=by
 induction x using V.casesOn with
 |tup l=>
  cases l with
  |nil=>exact nn h
  |cons a l=>cases l with
   |nil=>exact nn h
   |cons b l=>cases l with
    |nil=>exact Ps h fun i p ha h'=>by cases h';exact ⟨p,by rw[ha]⟩
    |cons _ _=>exact nn h
 |_=>exact nn h
theorem jI {k:Int}{sm:Bool}{v:V}{l:List V}:∀{q:List (Int×V)},Oh l=some q->Oh (l++[.tup [.int k sm,v]])=some (q++[(k,v)]):=by
 induction l with
 |nil=>intro q h;cases h;rfl
 |cons x l ih=>exact fun {q} h=>oC2 h fun k' v' h1 h2=>oC1 h2 fun q' hq h3=>by cases h3;exact (oE2 h1).trans (oE1 (ih hq))
theorem fZ {κ:Type} [DecidableEq κ]:∀(l:List (κ×V))(AD:List (κ×V))(k:κ)(v:V),Fq AD (l++[(k,v)])=Js k v (Fq AD l):=by
 intro X
 induction X with
 |nil=>
  intro Z Z Z;exact rfl
 |cons X l ih=>
  obtain ⟨a,b⟩:=X;intro AD k v;exact ih (Js a b AD) k v
theorem qT {l:List V}:∀{q:List (Int×V)},Oh l=some q->q.length=l.length:=by
 induction l with
 |nil=>intro q h;cases h;rfl
 |cons x l ih=>exact fun {q} h=>oC2 h fun k' v' h1 h2=>oC1 h2 fun q' hq h3=>by cases h3;rw[x9,x9,ih hq]
theorem sF {κ:Type} [DecidableEq κ] (k:κ)(v:V):∀(l:List (κ×V)),(Js k v l).length≤l.length+1:=by
 intro X
 induction X with
 |nil=>
  exact wu _
 |cons X r ih=>
  obtain ⟨k',x⟩:=X;rw[Vz];split
  ·exact yh _
  ·exact z7 (ih)
theorem oZ {κ:Type} [DecidableEq κ]:∀(l AD:List (κ×V)),(Fq AD l).length≤AD.length+l.length:=by
 intro X
 induction X with
 |nil=>
  intro Z;exact wu _
 |cons X l ih=>
  obtain ⟨k,v⟩:=X;intro AD;have h1:=ih (Js k v AD);have h2:=sF k v AD;show (Fq (Js k v AD) l).length≤AD.length+(l.length+1);exact wp h1 (wp (Nat.add_le_add_right h2 _) (yr (Nat.succ_add ..)))
theorem Yz (L':Ce g L n)(W:Wd C g){k v:O6}{gens:List PA}{sc:Scope}{p:Pos}{D:O5}{ce:As}:Os C n (.DictComp k v gens sc p) .dict D ce AA (Vr L k v ce):=by
 intro off Y J Av s AD BA I X hD hA h A Q E R K;refine oC2 h fun a Nu h1 h=>oC2 h fun b bD h2 h=>Ps h fun i sm ha h=>itE h (fun hz h=>?_) fun Z=>nn;cases h;show PD C.md A (eval k AA) _ E s;refine L'.ev (C:=C.wo off) (W.off _) I (X.wo _) h1 A _ E R fun Pr s1 x g1 rx=>?_;refine L'.ev (C:=C.wo off) (W.off _) g1.inv ((X.wo _).go g1) h2 A _ E R fun bH s2 y g2 ry=>⟨D,rfl,?_⟩;have E5:=g1.trans g2;obtain ⟨l,AE,hl,hd,hr⟩:Fi (C.wo off) bH s2.heap D .dict AD:=hA.gen (AC:=off) (Bx:=bH) (h':=s2.heap) E5.mv.kp fun o z=>E5.mv.keep D o (I.offs D hD).1 z;rw[ha] at rx;obtain ⟨⟨t,rfl⟩,-⟩:=rx;have AV:AE.length≤sizeLine:=by
  rw[← hr.length];have:=oZ l [];rw[qT hl] at this;have h3:=Dh hz;simp at this
  ac_rfl
 refine wpAny_dictSet_pairs (knd:=intKind C.prog C.w) (intKind_is _ _ i t) hd (fun h' F9 BJ=>?_) AV;have kk:∀b o,b≠D->s2.heap.get? b=some o->h'.get? b=some o:=fun b o hb e=>(BJ.2 b hb).trans e;have K2:=kpD (Y:=bH) (off:=off) hD kk;obtain ⟨o,es,ep,z,_⟩:=id F9;obtain ⟨o2,FC,ep2,z2,_⟩:=id hd;refine K bH _ (g2.inv.onlyD hD kk ⟨_,z⟩) (E5.mv.x.trans (fq kk) (fun b m=>by rw[wl.mp m];exact (g2.inv.offs D hD).1) (fun b m=>by rw[wl.mp m];exact ⟨_,z2⟩)) ⟨_,_,(by rw[ha];exact jI hl),F9,?_⟩;rw[fZ];exact (hr.gen (AC:=off) K2).put (DictOf.nodup hd) (ry.gen (AC:=off) K2)
section
variable {AC:List O5}
theorem Py {i:Nat}{a:O5}(hi:i<k)(e:Y[i]?=some a):(Y.take k)[i]?=some a:=by rw[zl hi];exact e
theorem Fc {a:O5}{off:List O5}(ho:∀a,a∉Y->a∉off->a∉AC)(x:a∉Y∧a∉off):a∉Y.take k∧a∉AC:=⟨fun m=>x.1 (zn m),ho a x.1 x.2⟩
theorem We {α:Type}:∀{l:List (O7×α)}{x:O7}{c:α},l.lookup x=some c->(x,c)∈l
 |(y,d)::r,x,c,h=>by
  rw[y6] at h;cases q:x==y with
  |true=>rw[q] at h;cases h;rw[beq_iff_eq.mp q];exact .head _
  |false=>rw[q] at h;exact .tail _ (We h)
theorem Bz.cut (ho:∀a,a∉Y->a∉C.off->a∉AC){v:V}{x:OY}(c:Ar k v=true)(r:Bz C Y h v x):Bz (C.wo AC) (Y.take k) h v x:=by
 refine V.rec (motive_1:=fun v=>∀x,Ar k v=true->Bz C Y h v x->Bz (C.wo AC) (Y.take k) h v x) (motive_2:=fun l=>∀vs,Di k l=true->Bv C Y h l vs->Bv (C.wo AC) (Y.take k) h l vs) (motive_3:=fun l=>∀vs,Fe k l=true->Eh C Y h l vs->Eh (C.wo AC) (Y.take k) h l vs)
  (motive_4:=fun l=>∀vs,Bg k l=true->Sx C Y h l vs->Sx (C.wo AC) (Y.take k) h l vs) (motive_5:=fun p=>∀x,Ar k p.2=true->Bz C Y h p.2 x->Bz (C.wo AC) (Y.take k) h p.2 x) (motive_6:=fun p=>∀x,Ar k p.2=true->Bz C Y h p.2 x->Bz (C.wo AC) (Y.take k) h p.2 x)
  (fun Z Z r=>r) (fun Z Z Z r=>r) (fun Z Z Z Z r=>r) (fun Z Z Z r=>r) ?_ ?_ ?_ ?_ ?_ ?_ (fun Z Z Z r=>r) (fun Z Z Z r=>r) (fun Z Z Z r=>r) ?_ ?_ (fun Z Z r=>r) (fun Z Z r=>r) ?_ (fun Z Z r=>r) ?_ (fun Z Z r=>r) ?_ (fun Z Z ih=>ih) (fun Z Z ih=>ih) v x c r
 ·intro l ih v c r;obtain ⟨a,vs,n,e,o,g,l⟩:=r;exact ⟨a,vs,n,e,Fc ho o,g,ih _ c l⟩
 ·intro l ih v c r;obtain ⟨a,vs,n,e,o,g,l⟩:=r;exact ⟨a,vs,n,e,Fc ho o,g,ih _ c l⟩
 ·intro l ih v c r;obtain ⟨a,AE,e,o,ns,d,l⟩:=r;exact ⟨a,AE,e,Fc ho o,ns,d,ih _ c l⟩
 ·intro l ih v c r;obtain ⟨a,AE,e,o,ns,d,l⟩:=r;exact ⟨a,AE,e,Fc ho o,ns,d,ih _ c l⟩
 ·intro l v c r;obtain ⟨a,ob,e,o,g,r⟩:=r;exact ⟨a,ob,e,Fc ho o,g,r⟩
 ·intro i v c r;obtain ⟨a,e,f⟩:=r;exact ⟨a,e,Py (xm c) f⟩
 ·intro args body scope cells v c r;obtain ⟨a,e,⟨o,fd,g,r1,r2,r3,r4,r5,r6,r7,r8,d,oc,vs,t,q1,q2,q3,q4⟩⟩:=r;refine ⟨a,e,⟨Fc ho o,fd,g,r1,r2,r3,r4,r5,r6,r7,(fun x=>?_),d,oc,vs,t,q1,Fc ho q2,q3,q4⟩⟩;have:=r8 x;cases hi:cells.lookup x with
  |none=>rw[hi] at this;exact this
  |some i=>
   rw[hi] at this;obtain ⟨b,e1,e2⟩:=this;exact ⟨b,Py (xm (xo.mp c _ (We hi))) e1,e2⟩
 ·intro y ih v c r;obtain ⟨a,d,ob,od,val,e,o,o',g,g',q,i,r⟩:=r;exact ⟨a,d,ob,od,val,e,Fc ho o,Fc ho o',g,g',q,i,ih _ c r⟩
 ·intro y l DY DZ v c r;obtain ⟨v,BB,e,r,l⟩:=r;have c:=xh.mp c;exact ⟨v,BB,e,DY _ c.1 r,DZ _ c.2 l⟩
 ·intro y l DY DZ v c r;obtain ⟨v,BB,e,r,l⟩:=r;have c:=xh.mp c;exact ⟨v,BB,e,DY _ c.1 r,DZ _ c.2 l⟩
 ·intro y l DY DZ v c r;obtain ⟨v,BB,e,r,l⟩:=r;have c:=xh.mp c;exact ⟨v,BB,e,DY _ c.1 r,DZ _ c.2 l⟩
theorem Bv.cut (ho:∀a,a∉Y->a∉C.off->a∉AC){l:List V}:∀{vs:List OY},Di k l=true->Bv C Y h l vs->Bv (C.wo AC) (Y.take k) h l vs:=by
 induction l with
 |nil=>exact fun Z r=>r
 |cons y l ih=>
  intro _ c r;obtain ⟨v,BB,e,r,l⟩:=r;have c:=xh.mp c;exact ⟨v,BB,e,Bz.cut ho c.1 r,ih c.2 l⟩
theorem Eh.cut (ho:∀a,a∉Y->a∉C.off->a∉AC){l:List (Int×V)}:∀{es:List (Int×OY)},Fe k l=true->Eh C Y h l es->Eh (C.wo AC) (Y.take k) h l es:=by
 induction l with
 |nil=>exact fun Z r=>r
 |cons y l ih=>
  intro _ c r;obtain ⟨v,BB,e,r,l⟩:=r;have c:=xh.mp c;exact ⟨v,BB,e,Bz.cut ho c.1 r,ih c.2 l⟩
theorem jL {m:List (O7×V)}:∀{x:O7}{v:V},Bg k m=true->m.lookup x=some v->Ar k v=true:=by
 induction m with
 |nil=>intro x v c h;cases h
 |cons p r ih=>
  intro x v c h;obtain ⟨y,d⟩:=p;rw[Gu] at c;rw[wm] at c;rw[y6] at h;cases q:x==y with
  |true=>rw[q] at h;cases h;exact c.1
  |false=>rw[q] at h;exact ih c.2 h
theorem Gy.cut (ho:∀a,a∉Y->a∉C.off->a∉AC){a:O5}{o:Cv}(c:Cg k o=true)(r:Gy C Y h a o):Gy (C.wo AC) (Y.take k) h a o:=by
 induction o using Cv.casesOn with
 |fr m=>
  obtain ⟨f,ns,q⟩:=r;refine ⟨f,ns,fun x=>?_⟩;have:=q x;cases hx:m.lookup x with
  |none=>
   rw[hx] at this;cases hf:f x with
   |none=>trivial
   |some w=>rw[hf] at this;exact this.elim
  |some v=>
   rw[hx] at this;cases hf:f x with
   |none=>rw[hf] at this;exact this.elim
   |some w=>rw[hf] at this;exact Bz.cut ho (jL c hx) this
 |cell u=>
  obtain ⟨w,e,r⟩:=r;refine ⟨w,e,?_⟩;cases u with
  |none=>cases w with
   |none=>trivial
   |some w=>exact r.elim
  |some v=>cases w with
   |none=>exact r.elim
   |some w=>exact Bz.cut ho c r
 |lst l=>obtain ⟨vs,m,e,r⟩:=r;exact ⟨vs,m,e,r.cut ho c⟩
 |dct l=>obtain ⟨ns,AE,d,r⟩:=r;exact ⟨ns,AE,d,r.cut ho c⟩
 |tab _=>
  obtain ⟨ps,g,t,r⟩:=r;refine ⟨ps,g,t,fun pos cv z=>?_⟩;obtain ⟨c,o,vs,t,q1,q2,q3,q4⟩:=r pos cv z;exact ⟨c,o,vs,t,q1,Fc ho q2,q3,q4⟩
theorem Jd:∀{J:Aj}{i:Nat}{o:Cv},Ci k J=true->J[i]?=some o->Cg k o=true
 |[],_,_,_,h=>by simp at h
 |x::r,0,o,c,h=>by
  cases h;rw[Ia] at c;rw[wm] at c;exact c.1
 |x::r,i+1,o,c,h=>by
  rw[Ia] at c;rw[wm] at c;exact Jd c.2 h
theorem Bh.ntLe (I:Bh C Y J s):C.tabs.length≤J.length:=by
 obtain ⟨t,e⟩:=I.tb;rw[← I.len,e,xb];exact y9 _ _
theorem Bh.cut (I:Bh C Y J s)(hk:C.tabs.length≤k)(hc:cut J k=some Av)(hf:∀a∈Y.drop k,C.h0.get? a=none)(ho:∀a,a∉Y->a∉C.off->a∉AC)
 (hof:∀a∈AC,a∉Y.take k∧C.h0.get? a=none∧∃o,s.heap.get? a=some o):Bh (C.wo AC) (Y.take k) Av s:=by
 unfold Mine.cut at hc;split at hc
 ·rename_i c;cases hc;exact {
   len:=by rw[yo,yo,I.len]
   nd:=List.Sublist.nodup (List.take_sublist ..) I.nd
   base:=fun b o hb e=>by
    by_cases q:b∈Y
    ·rcases xk.mp (by rw[zo];exact q:b∈Y.take k++Y.drop k) with m|m
     ·exact absurd m hb
     ·rw[hf b m] at e;cases e
    ·exact I.base b o q e
   fns:=fun a m=>I.fns a (zn m)
   objs:=fun i a o e1 e2=>by
    have hi:i<k:=by
     have:=(wv.mp e1).1;rw[yo] at this;exact xd this (yz _ _)
    have c':=Jd c e2;rw[zl hi] at e1 e2;exact (I.objs i a o e1 e2).cut ho c'
   os:=I.os
   gens:=I.gens
   big:=I.big
   offs:=hof
   tb:=(by obtain ⟨t,e⟩:=I.tb;exact ⟨t.take (k-C.tabs.length),by rw[e,List.take_append,List.take_of_length_le hk]⟩)}
 ·cases hc
theorem sC {f:V->Option V}{vs:List OY}(hf:∀v x v',f v=some v'->Bz C Y h v x->Bz (C.wo AC) (Y.take k) h v' x):∀{l l':List V}{vs:List OY},Ec f l=some l'->Bv C Y h l vs->Bv (C.wo AC) (Y.take k) h l' vs:=fun {l}=>by
 induction l with
 |nil=>intro l' vs e r;cases e;exact r
 |cons x l ih=>
  intro l' vs e r;obtain ⟨v,vs,e1,r1,r2⟩:=r;exact Ei e fun y ys hy FD e=>by rw[e];exact ⟨v,vs,e1,hf x v y hy r1,ih FD r2⟩
theorem pY {f:Int×V->Option (Int×V)}(hf:∀i v x p,f (i,v)=some p->Bz C Y h v x->p.1=i∧Bz (C.wo AC) (Y.take k) h p.2 x):∀{l l':List (Int×V)}{vs:List (Int×OY)},Ec f l=some l'->Eh C Y h l vs->Eh (C.wo AC) (Y.take k) h l' vs:=fun {l}=>by
 induction l with
 |nil=>intro l' vs e r;cases e;exact r
 |cons x l ih=>
  intro l' vs e r;obtain ⟨v,vs,e1,r1,r2⟩:=r;refine Ei e fun y ys hy FD e=>?_;obtain ⟨q1,q2⟩:=hf _ _ v y hy r1;rw[e];obtain ⟨y1,y2⟩:=y;cases q1;exact ⟨v,vs,e1,q2,ih FD r2⟩
end
section
variable {AC:List O5}
theorem Yn {α:Type}{l:List α}{i j:Nat}{a:α}(d:l.Nodup)(h1:l[i]?=some a)(h2:l[j]?=some a):i=j:=(List.getElem?_inj (wv.mp h1).1 d).mp (h1.trans h2.symm)
theorem xP (I:Bh C Y J s){i:Nat}{a:O5}(e:Y[i]?=some a)(hi:¬i<k):a∉Y.take k:=by
 intro m;obtain ⟨j,hj⟩:=yj m;have DR:j<k:=by
  have:=(wv.mp hj).1;rw[yo] at this;exact xd this (yz _ _)
 have hj:=(zl DR) ▸ hj;have AZ:=(wv.mp e).1;have GU:=(wv.mp hj).1;have:j=i:=Yn I.nd hj e
 grind
theorem Zb (I:Bh C Y J s)(ho:∀a,a∉Y->a∉C.off->a∉AC)(hw:∀(i:Nat) a o,Y[i]?=some a->J[i]?=some o->(match o with|.lst _=>a∉AC|.dct _=>a∉AC|_=>True)):∀(m:Nat)(v:V)(x:OY)(v':V),By J k m v=some v'->Bz C Y s.heap v x->Bz (C.wo AC) (Y.take k) s.heap v' x:=by
 intro m
 induction m with
 |zero=>exact fun Z Z Z hv Z=>nn hv
 |succ m ih=>
  intro v x v' hv r;have fall:∀{w:V},fzC k w=some v'->Bz C Y s.heap w x->Bz (C.wo AC) (Y.take k) s.heap v' x:=fun hz E3=>itE hz (fun c hz=>by cases hz;exact E3.cut ho c) fun Z=>nn;have L6:∀{l l':List V}{vs:List OY},Ec (By J k m) l=some l'->Bv C Y s.heap l vs->Bv (C.wo AC) (Y.take k) s.heap l' vs:=fun e q=>sC (vs:=[]) ih e q
  induction v using V.casesOn with
  |ref i=>
   obtain ⟨a,rfl,ha⟩:=r;refine itE (show fzR (By J k m) J k i=_ from hv) (fun c hv=>?_) fun c hv=>oC1 hv fun o hl hv=>?_
   ·cases hv;exact ⟨a,rfl,Py (xm c) ha⟩
   ·have off:=xP I ha fun q=>c (xg q)
    induction o using Cv.casesOn with
    |lst l=>
     obtain ⟨vs,sz,e,q⟩:=I.objs i a _ ha hl;exact wf hv fun l' hm e'=>by rw[e'];exact ⟨a,vs,sz,rfl,⟨off,hw _ _ _ ha hl⟩,e,L6 hm q⟩
    |dct l=>
     obtain ⟨ns,AE,d,q⟩:=I.objs i a _ ha hl;exact wf hv fun l' hm e'=>by
      rw[e'];exact ⟨a,AE,rfl,⟨off,hw _ _ _ ha hl⟩,ns,d,pY (fun i v x p hp rv=>oC1 hp fun b hz hp=>by cases hp;exact ⟨rfl,ih _ _ _ hz rv⟩) hm q⟩
    |_=>exact nn hv
  |tup l=>
   obtain ⟨a,vs,sz,rfl,o,e,q⟩:=r;exact wf hv fun l' hm e'=>by rw[e'];exact ⟨a,vs,sz,rfl,Fc ho o,e,L6 hm q⟩
  |lst l=>
   obtain ⟨a,vs,sz,rfl,o,e,q⟩:=r;exact wf hv fun l' hm e'=>by rw[e'];exact ⟨a,vs,sz,rfl,Fc ho o,e,L6 hm q⟩
  |_=>exact fall hv r
end
section
variable {AC:List O5}
theorem Sz (X:Cd Y e.cells AA.cells)(f:O7×PB->List (O7×O5)->Sem (ForInStep (List (O7×O5))))
 (hf:∀name kind cells,f (name,kind) cells=if kind == .free then (do let a ← cellOf AA name;pure (.yield ((name,a)::cells))) else pure (.yield cells)) :
 ∀(names:List (O7×PB)) (AD:List (O7×Nat)) (cs:List (O7×O5)) (cl:List (O7×Nat)),Fz e names AD=some cl->Cd Y AD cs ->
  ∃B9,forIn names cs f=(pure B9:Sem _)∧Cd Y cl B9:=fun names=>by
 induction names with
 |nil=>
  intro AD cs cl h r;cases h;exact ⟨cs,List.forIn_nil,r⟩
 |cons p names ih=>
  intro AD cs cl h r;obtain ⟨x,kd⟩:=p;rw[List.forIn_cons,hf];split at h
  ·rename_i hk;rw[if_pos hk];split at h
   ·rename_i i hi;have hc:=X x;rw[hi] at hc;obtain ⟨a,ha,hl⟩:=hc;obtain ⟨B9,e1,e2⟩:=ih ((x,i)::AD) ((x,a)::cs) cl h (r.cons ha);refine ⟨B9,?_,e2⟩;rw[← e1];unfold cellOf;rw[hl]
    rfl
   ·cases h
  ·rename_i hk;rw[if_neg hk];exact ih AD cs cl h r
theorem Ut (X:Cd Y e.cells AA.cells){scope:Scope}{cl:List (O7×Nat)}(h:Fz e scope.names []=some cl):∃cs,closureFor scope AA=pure cs∧Cd Y cl cs:=by
 obtain ⟨cs,e1,e2⟩:=Sz (Y:=Y) (e:=e) (AA:=AA) X (fun x cells=>if x.2 == .free then (do let a ← cellOf AA x.1;pure (.yield ((x.1,a)::cells))) else pure (.yield cells)) (fun name kind cells=>rfl) scope.names [] [] cl h Cd.nil;refine ⟨cs,?_,e2⟩;exact congrArg (fun m:Sem (List (O7×O5))=>m >>= pure) e1
theorem gP {D F:O5}{f:Nat}{m:List (O7×V)}{An Fy:List O5}{Bk De:Aj}{Cj Cf:OZ}(I0:Bh C An Ab Cj)(hD:Cj.heap.get? D=none)(I3:Bh (C.wo (D::C.off)) Fy Bk Cf)(M:Qo [D] An Fy Cj.heap Cf.heap)
 (hF:Fy[f]?=some F) (hf:Ab.length≤f) (hm:Bk[f]?=some (.fr m)) (hc:cut Bk Ab.length=some De) :
 Cj.heap.get? F=none∧F≠D∧Bh (C.wo (F::C.off)) An De Cf∧Qo [D] An An Cj.heap Cf.heap ∧
  ∀(d:Nat) (v:V) (x:OY) (v':V),By Bk Ab.length d v=some v'->Bz (C.wo (D::C.off)) Fy Cf.heap v x->Bz (C.wo (F::C.off)) An Cf.heap v' x:=by
 obtain ⟨t,rfl⟩:=M.ext;have ht:(An++t).take Ab.length=An:=by rw[← I0.len];exact List.take_left ..
 have KT:F∈An++t:=xt hF;have DJ:∀a∈t,a∉An:=fun a m q=>(zd.mp I3.nd).2.2 a q a m rfl;have fresh:∀a∈t,Cj.heap.get? a=none:=fun a m=>(M.fresh a (yd _ m)).elim (fun q=>absurd q (DJ a m)) id;have LS:F∈t:=by
  rw[zv (by rw[I0.len];exact hf)] at hF;exact xt hF
 have FS:F≠D:=fun q=>(I3.offs D (.head _)).1 (q ▸ KT);have ho:∀a,a∉An++t->a∉D::C.off->a∉F::C.off:=fun a h1 h2 m=>by
  rcases wk.mp m with q|q
  ·exact h1 (q ▸ KT)
  ·exact h2 (.tail _ q)
 have h0:∀a∈t,C.h0.get? a=none:=fun a m=>by
  cases q:C.h0.get? a with
  |none=>rfl
  |some o=>have:=I0.base a o (DJ a m) q;rw[fresh a m] at this;cases this
 have M':Qo [D] An An Cj.heap Cf.heap:=⟨⟨[],(xx _).symm⟩,fun Z m=>.inl m,fun b o hb hx e=>M.keep b o hb hx e⟩;refine ⟨fresh F LS,FS,?_,M',?_⟩
 ·have:=I3.cut (k:=Ab.length) (AC:=F::C.off) I0.ntLe hc (fun a m=>by
   rw[show (An++t).drop Ab.length=t by rw[← I0.len];exact List.drop_left ..] at m;exact h0 a m) ho (fun a m=>by
   rw[ht];rcases wk.mp m with q|q
   ·subst q;exact ⟨DJ a LS,h0 a LS,I3.at KT⟩
   ·obtain ⟨x,y,z⟩:=I3.offs a (.tail _ q);exact ⟨fun w=>x (xp _ w),y,z⟩)
  rw[ht] at this;exact this
 ·intro d v x v' hv r;have:=Zb (C:=C.wo (D::C.off)) (k:=Ab.length) I3 ho (fun i a o e1 e2=>by
   have nF:∀{o},Bk[i]?=some o->(∀m,o≠.fr m)->a∉F::C.off:=fun {o} e2 no m'=>by
    rcases wk.mp m' with q|q
    ·subst q;have:=Yn I3.nd e1 hF;subst this;rw[hm] at e2;cases e2;exact no _ rfl
    ·exact (I3.offs a (.tail _ q)).1 (xt e1)
   cases o with
   |lst _=>exact nF e2 fun Z q=>by cases q
   |dct _=>exact nF e2 fun Z q=>by cases q
   |_=>trivial) d v x v' hv r
  rw[ht] at this;exact this
theorem oY {C':Cx}{f:V->Option V}(hf:∀v x v',f v=some v'->Bz C Y h v x->Bz C' Bx h' v' x):∀{l l':List V}{vs:List OY},Ec f l=some l'->Bv C Y h l vs->Bv C' Bx h' l' vs:=fun {l}=>by
 induction l with
 |nil=>intro l' vs e r;cases e;exact r
 |cons x l ih=>
  intro l' vs e r;obtain ⟨v,vs,e1,r1,r2⟩:=r;exact Ei e fun y ys hy FD e=>by rw[e];exact ⟨v,vs,e1,hf x v y hy r1,ih FD r2⟩
end
section
variable {AC:List O5}
theorem gW {A:O8}{E:OY->OZ->Prop}{Q:Env->OZ->Prop}(I:Bh C Y J s){scope:Scope}{cl:List (O7×Nat)}{cs:List (O7×O5)}(r:Cd Y cl cs){gl:O5}{qual:O7}
 (K:∀Bx s' B9 F,Ck C Y s Bx (Fu scope.names cl (J++[.fr []])).2 s'->Bx[J.length]?=some F->Cd Bx (Fu scope.names cl (J++[.fr []])).1 B9 ->
  Q { scope,locals:=F,globals:=gl,cells:=B9,qual,func:=none,code:=AA.code,frame:=AA.frame,builtins:=AA.builtins } s') :
 PD C.md A (newFunctionEnv scope gl cs [] qual none .none (some AA)) Q E s:=by
 have G:=I.newFrame "dict";refine Aa (wpAny_alloc ?_);refine Aa (cD (C:=C) _ (fun name kind cells=>rfl) scope.names cl cs _ _ _ _ G.inv (r.ext fun i a e=>G.mv.get e) fun Bx s' B9 G' r'=>?_);refine Aa ?_;refine Ag ?_;refine Ag ?_;exact K Bx s' B9 s.heap.objs.size (G.trans G') (G'.mv.get (by rw[← I.len];exact Rt ..)) r'
def Sb (C:Cx) (kd:CK) (m:Sem OY):Prop:=∃o:Obj,o.isFreed=false∧(∀(off:List O5) (Y:List O5) (h:O9) (D:O5),h.get? D=some o->Fi (C.wo off) Y h D kd []) ∧
 ∀(A:O8) (E:OY->OZ->Prop) (Q:OY->OZ->Prop) (s:OZ),Q (.ref s.heap.objs.size) { s with heap:=s.heap.push o }->PD C.md A m Q E s
theorem Si:Sb C .list (newList []):=⟨{ cls:=.type "list",data:=.seq ([]:List OY).toArray },rfl,fun Z Z Z Z z=>⟨#[],_,z,rfl⟩,fun A E Q s k=>wpAny_newList k⟩
theorem Sm:Sb C .dict newDict:=⟨{ cls:=.type "dict",data:=.dict #[] },rfl,fun C' Y h D z=>⟨[],[],rfl,⟨_,#[],0,z,⟨rfl,rfl,rfl⟩,rfl,fun Z he=>by simp at he,Pairs.nil,List.nodup_nil⟩,rfl⟩,fun A E Q s k=>wpAny_newObj_type k⟩
theorem rZ (X:Ba C Y e AA)(scope:Scope):Jx e scope=relabel scope AA:=by
 have hk:=(Cn X.ok).1;unfold Jx relabel;rw[X.sc,hk];have:∀x,AA.kindOf x=e.kind x:=fun x=>by unfold Env.kindOf As.kind;rw[X.sc]
 simp only[this];congr 1;refine Aag fun x Z=>?_;obtain ⟨n,k⟩:=x;simp
end
section
variable {AC:List O5}
abbrev zL (J:Aj) (k d:Nat):Int×V->Option (Int×V):=fzP (By J k d)
theorem Vp {m:Aj}{d:Nat}{i:Int}{v:V}{p:Int×V}(h:zL m k d (i,v)=some p):∃b,By m k d v=some b∧p=(i,b):=oC1 h fun b hb h=>⟨b,hb,(wx h).symm⟩
theorem Tf {α β:Type}{f:α->Option β}{x:α}{l:List α}{r:List β}(h:Ec f (x::l)=some r):∃y ys,f x=some y∧Ec f l=some ys∧r=y::ys:=Ei h fun y ys h1 h2 e=>⟨y,ys,h1,h2,e⟩
theorem aM {m:Aj}{d:Nat}{i:Int}{v b:V}(h:By m k d v=some b):zL m k d (i,v)=some (i,b):=oE1 h
theorem vN {m:Aj}{d:Nat}{AD:List V}:∀{vs:List V}{l:List (Int×V)},Ec (By m k (d+2)) AD=some vs->Oh AD=some l->∃l',Oh vs=some l'∧Ec (zL m k (d+1)) l=some l':=by
 induction AD with
 |nil=>intro vs l hm hl;cases hm;cases hl;exact ⟨[],rfl,rfl⟩
 |cons x r ih=>
  intro vs l hm hl;obtain ⟨y,ys,h1,h2,rfl⟩:=Tf hm;refine oC2 hl fun i v h0 JW=>oC1 JW fun l1 GK F7=>?_;cases F7;obtain ⟨sm,rfl⟩:=wX h0;obtain ⟨l2,h3,h4⟩:=ih h2 GK;have h1:(Ec (By m k (d+1)) [.int i sm,v]).map V.tup=some y:=h1;cases hq:Ec (By m k (d+1)) [.int i sm,v] with
  |none=>rw[hq] at h1;exact nn h1
  |some ps=>
   rw[hq] at h1;cases h1;obtain ⟨a,as,q1,q2,rfl⟩:=Tf hq;obtain ⟨b,bs,q3,q4,rfl⟩:=Tf q2;cases q4;cases q1;exact ⟨(i,b)::l2,(oE2 (show yM (.tup [.int i sm,b])=some (i,b) from rfl)).trans (oE1 h3),Fa (aM q3) h4⟩
theorem bu {m:Aj}{d:Nat}{i:Int}{v v':V}(hv:By m k d v=some v'):∀{l l':List (Int×V)},Ec (zL m k d) l=some l'->Ec (zL m k d) (Js i v l)=some (Js i v' l'):=by
 intro X
 induction X with
 |nil=>
  intro l' h;cases h;exact Fa (aM hv) rfl
 |cons X r ih=>
  obtain ⟨j,w⟩:=X;intro l' h;obtain ⟨y,ys,h1,h2,rfl⟩:=Tf h;obtain ⟨b,h3,rfl⟩:=Vp h1;rw[Vz,Vz];split
  ·rename_i q
   first
    |exact Fa (aM hv) h2
    |(subst q;exact Fa (aM hv) h2)
  ·exact Fa h1 (ih h2)
theorem yO {m:Aj}{d:Nat}:∀{l l' AD BA:List (Int×V)},Ec (zL m k d) AD=some BA->Ec (zL m k d) l=some l'->Ec (zL m k d) (Fq AD l)=some (Fq BA l'):=fun {l}=>by
 induction l with
 |nil=>intro l' AD BA h1 h2;cases h2;exact h1
 |cons p r ih=>
  intro l' AD BA h1 h2;obtain ⟨j,w⟩:=p;refine Ei h2 fun y ys h3 h4 e=>?_;obtain ⟨b,h5,rfl⟩:=Vp h3;rw[e];show Ec (zL m k d) (Fq (Js j w AD) r)=some (Fq (Js j b BA) ys);exact ih (bu h5 h1) h4
theorem gS {C':Cx}{m:Aj}{d:Nat}(hf:∀v x v',By m k d v=some v'->Bz C Y h v x->Bz C' Bx h v' x):∀{l l':List (Int×V)}{vs:List (Int×OY)},Ec (zL m k d) l=some l'->Eh C Y h l vs->Eh C' Bx h l' vs:=fun {l}=>by
 induction l with
 |nil=>intro l' vs e r;cases e;exact r
 |cons p l ih=>
  intro l' vs e r;obtain ⟨v,vs,e1,r1,r2⟩:=r;refine Ei e fun y ys h3 h4 e=>?_;obtain ⟨b,h5,rfl⟩:=Vp h3;rw[e];exact ⟨v,vs,e1,hf _ v b h5 r1,ih h4 r2⟩
theorem f8 {m:Aj}{d:Nat}:∀{AD vs:List V}{q:List Int},Ec (By m k (d+2)) AD=some vs->Fk AD=some q->Fk vs=some q:=fun {AD}=>by
 induction AD with
 |nil=>intro vs q hm hq;cases hm;exact hq
 |cons x r ih=>
  intro vs q hm hq;refine Ei hm fun y ys h1 h2 e=>Ei hq fun i is h3 h4 e'=>lV h3 fun p hx=>?_;have h1:=hx ▸ h1;cases (show some (V.int i p)=some y from h1);rw[e,e'];exact Fa rfl (ih h2 h4)
theorem Fi.frozen {C':Cx}{D:O5}{m:Aj}(hz:∀d v x v',By m k d v=some v'->Bz C Y h v x->Bz C' Bx h v' x)(hp:C'.prog=C.prog)(hw:C'.w=C.w)
 {d:Nat}{AD vs:List V} (hm:Ec (By m k (d+2)) AD=some vs){kd:CK} (r:Fi C Y h D kd AD):Fi C' Bx h D kd vs:=by
 cases kd with
 |list=>obtain ⟨xs,n,a,b⟩:=r;exact ⟨xs,n,a,oY (hz _) hm b⟩
 |dict=>
  obtain ⟨l,AE,a,b,c⟩:=r;obtain ⟨l',h1,h2⟩:=vN hm a;exact ⟨l',AE,h1,by rw[hp,hw];exact b,gS (hz _) (yO rfl h2) c⟩
 |set=>obtain ⟨q,o,a,b,c⟩:=r;exact ⟨q,o,f8 hm a,b,by rw[hp,hw];exact c⟩
set_option tactic.hygienic true in
theorem Xs (L':Ce g L n)(W:Wd C g)(I:Bh C Y J s)(X:Ba C Y e AA){kd:CK}{x:O6}{scope:Scope}{pos:Pos}{BO:Sem OY}{t i:O6}{A8:List O6}{as:Int}{r:List PA}
 {em:As->Aj->List V->Option (List V×Aj)}{vs:List V} (hx:Dz x=true) (AL:clausesOf x=⟨t,i,A8,as⟩::r) (GB:∀D ce AQ,Os C n x kd D ce AQ (em ce)) (CX:Sb C kd BO)
 (h:Gd g L e scope (⟨t,i,A8,as⟩::r) em J=some (vs,Av)){A:O8}{E:OY->OZ->Prop}{Q:OY->OZ->Prop} (R:Dq A n) (LY:Option (OY->Sem Unit))
 (K:∀An Ab Cj Cf D F m,Ck C Y s An Ab Cj->Cj.heap.get? D=none->Cj.heap.get? F=none->F≠D->Cf.heap.Ns F m->Bh (C.wo (F::C.off)) An Av Cf->Qo [D] An An Cj.heap Cf.heap ->
  Fi (C.wo (F::C.off)) An Cf.heap D kd vs->compPost C.md A E LY Q (.ref D) F (.ok .next) Cf) :
 PD C.md A (comprehension x scope AA pos BO false (eval i AA) LY) Q E s:=by
 unfold Gd at h;dsimp only at h;split at h
 ·rename_i sr Nu NM;split at h
  ·rename_i CY;simp only[Bool.and_eq_true] at CY;obtain ⟨⟨hok1,hok2⟩,J3⟩:=CY;split at h
   ·rename_i cl J6;split at h
    ·rename_i AD Su B8;split at h
     ·rename_i m BG;have BG:=Zm BG;split at h
      ·rename_i BB B6;split at h
       ·rename_i vz CZ;cases h;obtain ⟨cs,E9,E2⟩:=Ut X.ce J6;have FY:∀y∈scope.names,y.2 = .local->scope.names.lookup y.1=some .local:=fun y hy hl=>by
         have:=xo.mp J3 y hy;rw[hl] at this;simpa using this
        refine wpAny_comprehension_free AL (fun v=>Nf NM v) E9 (Cn hok2).1 FY ?_;refine aD L' W I X NM R fun Pr s0 h1 tk AH it G kx hn St=>?_;obtain ⟨o,HR,JB,HY⟩:=CX;refine HY _ _ _ _ ?_;have F0:s0.heap.get? h1.objs.size=none:=by
         cases q:s0.heap.get? h1.objs.size with
         |none=>rfl
         |some ob=>have:=kx _ _ q;rw[Co] at this;cases this
        have LH:∀b ob,s0.heap.get? b=some ob->(h1.push o).get? b=some ob:=fun b ob z=>ww _ (kx b ob z);have I2:Bh (C.wo (AH++(h1.objs.size::C.off))) Pr Nu { s0 with heap:=h1.push o,toks:=tk }:=by
         have:=G.inv.enter (nw:=AH++[h1.objs.size]) (tk:=tk) LH fun a m=>by
          rcases xk.mp m with q|q
          ·exact ⟨hn a q,(by obtain ⟨ob,z⟩:=St.live a q;exact ⟨ob,ww _ z⟩)⟩
          ·rw[wl.mp q];exact ⟨F0,_,xc _ HR⟩
         rw[xj] at this;exact this
        have St2:Ge (C.wo (AH++(h1.objs.size::C.off))) Pr (h1.push o) sr AH it 0:=St.gen (AC:=AH++(h1.objs.size::C.off)) (Bx:=Pr) (h':=h1.push o)
         ⟨fun b ob nb z=>⟨⟨nb.1,fun m=>(xk.mp m).elim (fun q=>nb.2 (xp _ q)) fun q=>(wk.mp q).elim (fun w=>by rw[w,Co] at z;cases z) fun w=>nb.2 (yd _ w)⟩,ww _ z⟩,fun Z Z z=>z⟩
         fun a m ob z=>ww _ z
        refine gW (C:=C.wo (AH++(h1.objs.size::C.off))) I2 (E2.ext fun i a e=>G.mv.get e) fun bG s4 B9 F G4 hF FZ=>?_;have Xc:Ba C bG { scope:=Jx e scope,f:=Nu.length,cells:=(Fu scope.names cl (Nu++[.fr []])).1 }
         { scope:=relabel scope AA,locals:=F,globals:=AA.globals,cells:=B9,qual:=AA.qual,func:=none,code:=AA.code,frame:=AA.frame,builtins:=AA.builtins }:=
         ⟨(rZ X scope).symm,hok1,hF,X.gl,X.bl,FZ,fun Z Z z=>by cases z⟩
        have NA:Ge (C.wo (AH++(h1.objs.size::C.off))) bG s4.heap sr AH it 0:=St2.gen (AC:=AH++(h1.objs.size::C.off)) (Bx:=bG) (h':=s4.heap) G4.mv.kp fun a m ob z=>G4.mv.keep a ob (I2.offs a (xp _ m)).1 z;have NS:=B8;split at NS
        ·cases NS
        ·rename_i CB;simp only[Bool.not_eq_true,Bool.not_eq_false',Bool.and_eq_true,beq_iff_eq] at CB;obtain ⟨⟨-,hni⟩,as0⟩:=CB;have D6:=pH L' W hx (GB h1.objs.size _ _) (⟨t,i,A8,as⟩::r) 0 (fun j=>by rw[Nat.zero_add,AL]) (h1.objs.size::C.off) AH bG _ Su s4 s0 sr it [] AD
          (compPost C.md A E LY Q (.ref h1.objs.size) F) A G4.inv (.head _) (fun a m=>(wk.mp m).elim (fun q=>by rw[q];exact (fun m=>by obtain ⟨ob,z⟩:=St.live _ m;rw[Co] at z;cases z)) (G.inv.apart hn a)) hn (⟨⟨[],(xx _).symm⟩,fun Z m=>.inl m,fun b ob hb Z z=>G4.mv.keep b ob (fun m=>hb (by obtain ⟨t,q⟩:=G4.mv.ext;rw[q];exact xp _ m)) (LH b ob z)⟩) NA Xc (JB _ _ _ _ (G4.mv.keep _ o ((fun I3=>(I3.offs _ (yd _ (.head _))).1) I2) (xc _ HR))) B8 R fun jn s5 I5 M5 A5=>by
           have M15:Qo [h1.objs.size] Pr jn s0.heap s5.heap:=by
            have f4:∀a∈bG,a∈Pr∨s0.heap.get? a=none:=fun a m=>(G4.mv.fresh a m).imp id fun z=>by
             cases q:s0.heap.get? a with
             |none=>rfl
             |some ob=>have:=LH _ _ q;exact absurd (this.symm.trans z) (by simp)
            refine ⟨?_,fun a m=>(M5.fresh a m).elim (f4 a) .inr,fun b ob hb hbx z=>M5.keep b ob (fun m=>(f4 b m).elim hb fun w=>by rw[w] at z;cases z) hbx z⟩;obtain ⟨t1,q1⟩:=G4.mv.ext;obtain ⟨t2,q2⟩:=M5.ext;exact ⟨t1++t2,by rw[q2,q1,xj]⟩
           have NB:=M5.get hF;obtain ⟨hF0,FS,I6,M6,fz⟩:=gP G.inv F0 I5 M15 NB (wu _) BG CZ;obtain ⟨fm,DM,-⟩:=I5.objs _ _ _ NB BG;exact K Pr Nu s0 s5 _ F fm G F0 hF0 FS DM I6 M6 (Fi.frozen (C':=C.wo (F::C.off)) (d:=4) fz rfl rfl B6 A5)
         exact Od hx (by rw[AL];rfl) as0 D6 (kR (C:=C.wo (AH++(h1.objs.size::C.off))) NA hni D6)
       ·cases h
      ·cases h
     ·cases h
    ·cases h
   ·cases h
  ·cases h
 ·cases h
end
section
variable {AC:List O5}
theorem fH {D F:O5}{An Fy:List O5}{Cj:OZ}(G:Ck C Y s An Ab Cj)(hD:Cj.heap.get? D=none)(hF:Cj.heap.get? F=none)(I:Bh (C.wo (F::C.off)) Fy Av Cf)(M:Qo [D] An Fy Cj.heap Cf.heap)
 {h':O9} (sb:O9.SameBut F Cf.heap h'):Ck C Y s Fy Av { Cf with heap:=h' } where
 inv:=Bh.leave (nw:=[F]) (tk:=Cf.toks) I (fun b o hb z=>(sb.2 b (fun q=>hb (by rw[q];exact .head _))).trans z) (G.inv.apart fun a m=>by rw[wl.mp m];exact hF)
 mv:=G.mv.trans ⟨M.ext,M.fresh,fun b o hb z=>(sb.2 b (fun q=>by rw[q,hF] at z;cases z)).trans
  (M.keep b o hb (fun m=>by rw[wl.mp m,hD] at z;cases z) z)⟩
theorem Qk {gens:List PA}{em:As->Aj->List V->Option (List V×Aj)}{scope:Scope}{vs:List V}(h:Gd g L e scope gens em J=some (vs,Av)):∃t i A8 as r,gens=⟨t,i,A8,as⟩::r:=by
 unfold Gd at h;split at h
 ·cases h
 ·exact ⟨_,_,_,_,_,rfl⟩
theorem Xw {gens:List PA}{em:As->Aj->List V->Option (List V×Aj)}{scope:Scope}{vs:List V}(h:Gd g L e scope gens em J=some (vs,Av)):firstAsync gens=false:=by
 unfold Gd at h;split at h
 ·cases h
 ·skip
  split at h
  ·split at h
   ·split at h
    ·split at h
     ·rename_i hc;split at hc
      ·cases hc
      ·rename_i CB;simp only[Bool.not_eq_true,Bool.not_eq_false',Bool.and_eq_true,beq_iff_eq] at CB;obtain ⟨⟨-,-⟩,as0⟩:=CB;rw[as0]
       rfl
     ·cases h
    ·cases h
   ·cases h
  ·cases h
def cM:CK->List V->Option V
 |.list,vs=>some (.lst vs)
 |.dict,vs=>match Oh vs with
  |some l=>some (.dct (Fq [] l))
  |none=>none
 |.set,vs=>match Fk vs with
  |some q=>some (.set (q.foldl (fun s i=>Ch i s) []))
  |none=>none
theorem nG {D:O5}{vs:List V}{v:V}(hD:D∉Y∧D∉C.off)(hs:D≠sysModules){kd:CK}(r:Fi C Y h D kd vs)(hv:cM kd vs=some v):Bz C Y h v (.ref D):=by
 unfold cM at hv;cases kd with
 |list=>obtain ⟨xs,c,a,b⟩:=r;cases hv;exact ⟨D,xs,c,rfl,hD,a,b⟩
 |dict=>
  obtain ⟨l,AE,a,b,c⟩:=r;dsimp only at hv;rw[a] at hv;cases hv;exact ⟨D,AE,rfl,hD,hs,b,c⟩
 |set=>
  obtain ⟨q,o,a,b,c⟩:=r;dsimp only at hv;rw[a] at hv;cases hv;exact ⟨D,o,rfl,hD,b,c⟩
theorem mu {F:O5}{h':O9}(sb:O9.SameBut F h h'):Kp (C.wo (F::C.off)).off C.off Y Y h h':=Kp.leave (nw:=[F]) fun b o hb z=>(sb.2 b (fun q=>hb (by rw[q];exact .head _))).trans z
section
variable {kd:CK}{x:O6}{scope:Scope}{pos:Pos}{BO:Sem OY}{gens:List PA}{em:As->Aj->List V->Option (List V×Aj)}{vs:List V}{v:V}
theorem Rf (L':Ce g L n)(W:Wd C g)(I:Bh C Y J s)(X:Ba C Y e AA)(hx:Dz x=true)(AL:clausesOf x=gens)(GB:∀D ce AQ,Os C n x kd D ce AQ (em ce))(CX:Sb C kd BO)
 (h:Gd g L e scope gens em J=some (vs,Av)) (hv:cM kd vs=some v):At C n Y s (comprehension x scope AA pos BO (firstAsync gens) (firstIter gens AA)) Av (RV C v):=fun A Q E R K=>by
 rw[Xw h];obtain ⟨t,i,A8,as,r,rfl⟩:=Qk h;refine Xs L' W I X hx AL GB CX h R none fun An Ab Cj Cf D F m G hD hF FS DM I3 M Ac=>?_;refine ⟨m,DM,fun h' sb=>?_⟩;have BN:=G.inv.free hD;exact K _ _ _ (fH G hD hF I3 M sb) ((nG (C:=C.wo (F::C.off)) ⟨BN.1.1,fun m=>(wk.mp m).elim (fun q=>FS q.symm) BN.1.2⟩ BN.2.2 Ac hv).gen (mu sb))
theorem Pa (L':Ce g L n)(W:Wd C g)(I:Bh C Y J s)(X:Ba C Y e AA)(hx:Dz x=true)(AL:clausesOf x=gens)(GB:∀D ce AQ,Os C n x kd D ce AQ (em ce))(CX:Sb C kd BO)
 (h:Gd g L e scope gens em J=some (vs,Ab)) (hv:cM kd vs=some v){nm:O7}{q:Pos} (h2:Dj e nm v Ab=some Av) :
 At C n Y s (comprehension x scope AA pos BO (firstAsync gens) (firstIter gens AA) (some (assign (.Name nm q) AA))) Av (fun Z Z Z=>True):=fun A Q E R K=>by
 rw[Xw h];obtain ⟨t,i,A8,as,r,rfl⟩:=Qk h;refine Xs L' W I X hx AL GB CX h R _ fun An μ₁' Cj Cf D F m G hD hF FS DM I3 M Ac=>?_;have BN:=G.inv.free hD;have rv:=nG (C:=C.wo (F::C.off)) ⟨BN.1.1,fun m=>(wk.mp m).elim (fun q=>FS q.symm) BN.1.2⟩ BN.2.2 Ac hv;have hDl:∀b∈[D],∃o,Cf.heap.get? b=some o:=fun b m=>by rw[wl.mp m];exact Ac.live
 have hDn:∀b∈[D],b∉An:=fun b m=>by rw[wl.mp m];exact BN.1.1
 show PD _ A (standAt q >>= fun Z=>bindName AA nm (.ref D)) _ E Cf;refine Aa (wpAny_standAt (wpAny_bindName ?_));refine Gr (C:=C.wo (F::C.off)) I3 (((X.go G).mvx M).wo _) rv h2 A _ E R fun Bl bI Z G2 Z=>?_;refine ⟨m,?_,fun h' sb=>?_⟩
 ·obtain ⟨o,es,ep,z,r⟩:=DM;exact ⟨o,es,ep,G2.mv.keep F o (I3.offs F (.head _)).1 z,r⟩
 ·exact K _ _ _ (fH G hD hF G2.inv (M.trans G2.mv.x hDn hDl) sb) trivial
end
end
def Uv:O6->Bool
 |.SetComp ..=>false
 |_=>true
theorem cV (L':Ce g L n)(W:Wd C g)(I:Bh C Y J s)(X:Ba C Y e AA){x:O6}{v:V}(hs:Uv x=true)(h:Jy g L e x J=some (v,Av)):At C n Y s (eval x AA) Av (RV C v):=by
 induction x using O6.casesOn with
 |ListComp AW gens scope pos=>
  refine oC2 h fun vs Nu h1 h=>?_;cases h;exact Rf L' W I X (x:=.ListComp AW gens scope pos) rfl rfl (fun D ce AQ=>Yc L' W) Si h1 rfl
 |DictComp ke ve gens scope pos=>
  refine oC2 h fun vs Nu h1 h=>oC1 h fun l hl h=>?_;cases h;exact Rf L' W I X (kd:=.dict) (x:=.DictComp ke ve gens scope pos) rfl rfl (fun D ce AQ=>Yz L' W) Sm h1 (by unfold cM;dsimp only;rw[hl])
 |SetComp=>exact ft hs
 |_=>exact nn h
theorem bS (L':Ce g L n)(W:Wd C g)(I:Bh C Y J s)(X:Ba C Y e AA){x:O6}{v:V}(hs:Uv x=true)(h:Jy g L e x J=some (v,Ab)){nm:O7}{q:Pos}(h2:Dj e nm v Ab=some Av) :
 At C n Y s (evalThenUse x AA (assign (.Name nm q) AA)) Av (fun Z Z Z=>True):=by
 induction x using O6.casesOn with
 |ListComp AW gens scope pos=>
  refine oC2 h fun vs Nu h1 h=>?_;cases h;exact fun A Q E R K=>Aa (Pa L' W I X (x:=.ListComp AW gens scope pos) (pos:=firstIterPos gens pos) rfl rfl (fun D ce AQ=>Yc L' W) Si h1 rfl h2 A _ E R fun Bx s' Z G Z=>Ag (K _ _ _ G trivial))
 |DictComp ke ve gens scope pos=>
  refine oC2 h fun vs Nu h1 h=>oC1 h fun l hl h=>?_;cases h;exact fun A Q E R K=>Aa (Pa L' W I X (kd:=.dict) (x:=.DictComp ke ve gens scope pos) (pos:=firstIterPos gens pos) rfl rfl (fun D ce AQ=>Yz L' W) Sm h1 (by unfold cM;dsimp only;rw[hl]) h2 A _ E R fun Bx s' Z G Z=>Ag (K _ _ _ G trivial))
 |SetComp=>exact ft hs
 |_=>exact nn h
theorem Vv {x:O6}{nm:O7}{q:Pos}{line:Nat}:∃b,swapsWith x (some (.Name nm q)) line AA=pure b:=by
 induction x using O6.casesOn with
 |_=>exact ⟨_,rfl⟩
theorem jE (L':Ce g L n)(W:Wd C g)(I:Bh C Y J s)(X:Ba C Y e AA){nm:O7}{q p:Pos}{x:O6}{v:V}(hs:Uv x=true)(h1:Jy g L e x J=some (v,Ab))(h2:Dj e nm v Ab=some Av) :
 At C n Y s (exec (.Assign [.Name nm q] x p) AA) Av (RF C .next):=fun A Q E R K=>by
 obtain ⟨b,hb⟩:=Vv (AA:=AA) (x:=x) (nm:=nm) (q:=q) (line:=p.line);cases b with
 |false=>exact wpAny_Assign_Name (cV L' W I X hs h1 A _ E R fun An Ao x Ay rx=>Gr Ay.inv (X.go Ay) rx h2 A _ E R fun Bl Be Z Bm Z=>K _ _ _ (Ay.trans Bm) rfl) hb
 |true=>
  rw[exec_Assign_Name_used nm q x p hb];exact Aa (wpAny_standAt (Aa (bS L' W I X hs h1 h2 A _ E R fun An Ao Z Ay Z=>Ag (K _ _ _ Ay rfl))))
def km:Const->Option V
 |.none=>some .none
 |.bool b=>some (.bool b)
 |.int i=>some (Bi i)
 |.str s=>some (.str s)
 |_=>none
set_option tactic.hygienic true in
theorem dM (I:Bh C Y J s){c:Const}{q:Nat}{p:Pos}{v:V}(h:km c=some v):At C n Y s (eval (.Constant c q p) AA) J (RV C v):=by
 induction c using Const.casesOn with
 |none=>cases h;exact fun A Q E R K=>wpAny_Constant_none (K _ _ _ (.refl I) rfl)
 |bool=>cases h;exact fun A Q E R K=>wpAny_Constant_bool (K _ _ _ (.refl I) rfl)
 |int=>
  cases h;exact fun A Q E R K=>wpAny_Constant_int (K _ _ _ (.tok I _) ⟨⟨_,rfl⟩,fun q=>by unfold Ep at q;exact xm q⟩)
 |str=>cases h;exact fun A Q E R K=>wpAny_Constant_str (K _ _ _ (.tok I _) ⟨_,rfl⟩)
 |_=>exact nn h
theorem Nt {An Fy:List O5}{Bk De:Aj}{Cj Cf:OZ}(I0:Bh C An Ab Cj)(G:Ck C An Cj Fy Bk Cf)(hc:cut Bk Ab.length=some De) :
 Ck C An Cj An De Cf∧∀(d:Nat) (v:V) (x:OY) (v':V),By Bk Ab.length d v=some v'->Bz C Fy Cf.heap v x->Bz C An Cf.heap v' x:=by
 have I3:=G.inv;obtain ⟨t,rfl⟩:=G.mv.ext;have ht:(An++t).take Ab.length=An:=by rw[← I0.len];exact List.take_left ..
 have DJ:∀a∈t,a∉An:=fun a m q=>(zd.mp I3.nd).2.2 a q a m rfl;have fresh:∀a∈t,Cj.heap.get? a=none:=fun a m=>(G.mv.fresh a (yd _ m)).elim (fun q=>absurd q (DJ a m)) id;have h0:∀a∈t,C.h0.get? a=none:=fun a m=>by
  cases q:C.h0.get? a with
  |none=>rfl
  |some o=>have:=I0.base a o (DJ a m) q;rw[fresh a m] at this;cases this
 refine ⟨⟨?_,⟨[],(xx _).symm⟩,fun Z m=>.inl m,fun b o hb e=>G.mv.keep b o hb e⟩,fun d v x v' hv r=>?_⟩
 ·have:=I3.cut (k:=Ab.length) (AC:=C.off) I0.ntLe hc (fun a m=>by
   rw[show (An++t).drop Ab.length=t by rw[← I0.len];exact List.drop_left ..] at m;exact h0 a m) (fun a Z q=>q) (fun a m=>by
   rw[ht];obtain ⟨x,y,z⟩:=I3.offs a m;exact ⟨fun w=>x (xp _ w),y,z⟩)
  rw[ht] at this;exact this
 ·have:=Zb (k:=Ab.length) (AC:=C.off) I3 (fun a Z q=>q) (fun i a o e1 e2=>by
   have:=fun m=>(I3.offs a m).1 (xt e1);cases o<;>first|exact this|trivial) d v x v' hv r
  rw[ht] at this;exact this
def Ld (C:Cx) (Y:List O5) (h:O9):List (O7×V)->List (O7×OY)->Prop
 |[],bs=>bs=[]
 |(x,v)::r,bs=>∃w DD,bs=(x,w)::DD∧Bz C Y h v w∧Ld C Y h r DD
theorem Ld.mv (m:Mv Y Bx h h'){l:List (O7×V)}:∀{bs:List (O7×OY)},Ld C Y h l bs->Ld C Bx h' l bs:=by
 induction l with
 |nil=>intro bs r;exact r
 |cons p l ih=>
  intro bs R;obtain ⟨w,DD,q,r1,r2⟩:=R;exact ⟨w,DD,q,r1.mv m,ih r2⟩
theorem hV {A:O8}{E:OY->OZ->Prop}(hh:Dq A n)(f:O7×OY->PUnit->Sem (ForInStep PUnit))(hf:∀x v u,f (x,v) u=(do storeName AA x v;pure (.yield PUnit.unit))) :
 ∀{l:List (O7×V)}{bs:List (O7×OY)}{Y:List O5}{J Av:Aj}{s:OZ}{Q:PUnit->OZ->Prop},Bh C Y J s->Ba C Y e AA->Ld C Y s.heap l bs->Em e l J=some Av ->
  (∀Bx s',Ck C Y s Bx Av s'->Q PUnit.unit s')->PD C.md A (forIn bs PUnit.unit f) Q E s:=fun {l}=>by
 induction l with
 |nil=>
  intro bs Y J Av s Q I X r h K;cases r;cases h;rw[List.forIn_nil];exact Ag (K _ _ (.refl I))
 |cons p l ih=>
  intro bs Y J Av s Q I X r h K;obtain ⟨x,v⟩:=p;obtain ⟨w,DD,rfl,r1,r2⟩:=r;refine oC1 (show oe1 (Dj e x v J) none (Em e l)=some Av from h) fun Nu h1 h2=>?_;rw[List.forIn_cons,hf];refine Aa (Aa (Gr I X r1 h1 A _ E hh fun An Ao Z G Z=>Ag ?_));exact ih G.inv (X.go G) (r2.mv G.mv) h2 fun Bl Be G2=>K _ _ (G.trans G2)
theorem Bh.tabAt (I:Bh C Y J s){i:Nat}{P:O5}(e:C.tabs[i]?=some P):Y[i]?=some P:=by
 obtain ⟨t,q⟩:=I.tb;rw[q,yu (wv.mp e).1];exact e
theorem Ku {A:O8}{E:OY->OZ->Prop}{Q:Env->OZ->Prop}(R:Dq A n)(I:Bh C Y J s){scope:Scope}(ok:okScope scope=true){cl:List (O7×Nat)}{cs:List (O7×O5)}(r:Cd Y cl cs){qual:O7}{func:Option O5}{code:OY}{tab:Option (Nat×O7)}{muts:List O7}
 (hl:∀i q,tab=some (i,q)->qual++"<lambda>" = q∧∃c P,code = .ref c∧C.tabs[i]?=some P∧CodeHd C.h0 c P)
 {l:List (O7×V)}{bs:List (O7×OY)} (rb:Ld C Y s.heap l bs) (h:Em { scope:=scope,f:=J.length,cells:=(Fu scope.names cl (J++[.fr []])).1,tab:=tab,muts:=muts } l (Fu scope.names cl (J++[.fr []])).2=some Av)
 (K:∀Bx s' AQ,Ck C Y s Bx Av s'->Ba C Bx { scope:=scope,f:=J.length,cells:=(Fu scope.names cl (J++[.fr []])).1,tab:=tab,muts:=muts } AQ->AQ.frame=some AQ.locals->AQ.qual=qual->AQ.func=func->AQ.code=code->Q AQ s') :
 PD C.md A (newFunctionEnv scope mainGlobals cs bs qual func code none builtinsNs) Q E s:=by
 have G:=I.newFrame "frame";refine Aa (wpAny_alloc ?_);refine Aa (cD (C:=C) _ (fun name kind cells=>rfl) scope.names cl cs _ _ _ _ G.inv (r.ext fun i a e=>G.mv.get e) fun Bx s' B9 G' r'=>?_);have G2:=G.trans G';have X:Ba C Bx { scope:=scope,f:=J.length,cells:=(Fu scope.names cl (J++[.fr []])).1,tab:=tab,muts:=muts }
  { scope,locals:=s.heap.objs.size,globals:=mainGlobals,cells:=B9,qual,func,code,frame:=some s.heap.objs.size,builtins:=builtinsNs }:=
  ⟨rfl,ok,G'.mv.get (by rw[← I.len];exact Rt ..),rfl,rfl,r',fun i q z=>(by obtain ⟨a,c,P,b1,b2,b3⟩:=hl i q z;exact ⟨a,c,P,b1,G2.inv.tabAt b2,b3⟩)⟩
 refine Aa (hV R _ (fun x v u=>rfl) G2.inv X (rb.mv G2.mv) h fun Bl Be G3=>?_);exact Ag (K Bl Be _ (G2.trans G3) (X.go G3) rfl rfl rfl rfl)
section
variable {Bk De:Aj}
theorem kg (L':Ce g L n)(W:Wd C g)(I:Bh C Y J s){A:O8}{R:Result->OZ->Prop}(Rm:∀AA,Dq (A.deeper AA) n)(Ri:Dq A.in1 n)(hd:A.depth<recursionLimit){a:O5}{args:Args}{o:Obj}{fd:FuncData}{body:List PC}(ho:s.heap.get? a=some o)
 (hf:o.data = .func fd) (ok:okScope fd.scope=true) (BF:fd.body = .stmts body) (JC:s.heap.CodeRec fd.code fd.qualname) (AL:fd.closure=[]) (MH:fd.globals=mainGlobals) (K9:fd.builtins=builtinsNs)
 {bs:List (O7×OY)}{l:List (O7×V)}{f:Fl}{v':V}{d:Nat}{tab:Option (Nat×O7)}{muts:List O7} (hl:∀i q,tab=some (i,q)->fd.qualname++".<locals>."++"<lambda>" = q∧∃c P,fd.code = .ref c∧C.tabs[i]?=some P∧CodeHd C.h0 c P)
 (hb:∀(Q:List (O7×OY)->OZ->Prop) E,Q bs s->PD C.md A.in1 (bindArgs fd args) Q E s) (rb:Ld C Y s.heap l bs)
 (h1:Em { scope:=fd.scope,f:=J.length,cells:=(Fu fd.scope.names [] (J++[.fr []])).1,tab:=tab,muts:=muts } l (Fu fd.scope.names [] (J++[.fr []])).2=some Ab)
 (h2:Dm L { scope:=fd.scope,f:=J.length,cells:=(Fu fd.scope.names [] (J++[.fr []])).1,tab:=tab,muts:=muts } body Ab=some (f,Ai))
 (h3:By Ai J.length d (uz f)=some v') (h4:cut Ai J.length=some Av)
 (K:∀s' x,Ck C Y s Y Av s'->Bz C Y s'.heap v' x->R (.ok (.ret x)) s'):codeAny C.md A (.call (.ref a) args) R s:=by
 obtain ⟨o1,o2,o3,o4,o5⟩:=Cn ok;refine codeAny_call_function hd ho hf o4 o5 BF JC (hb _ _ ?_);rw[AL,MH,K9];refine Ku Ri I ok Cd.nil hl rb h1 fun Pr s1 AQ G X Z Z Z Z=>⟨G.inv.noLimit W,codeAny_func ?_⟩;refine Rg L' W G.inv X h2 _ _ _ (Rm AQ) fun bH s2 fl G2 C8=>?_;have G3:=G.trans G2;obtain ⟨G4,fz⟩:=Nt I G3 h4;refine K s2 _ G4 (fz d _ _ _ h3 ?_);cases f with
 |ret v=>obtain ⟨x,rfl,rx⟩:=C8;exact rx
 |next=>obtain rfl:=C8;exact rfl
 |brk=>obtain rfl:=C8;exact rfl
 |cont=>obtain rfl:=C8;exact rfl
end
section
variable {Bk De:Aj}
theorem js (L':Ce g L n)(W:Wd C g)(I:Bh C Y J s){A:O8}{R:Result->OZ->Prop}(Rm:∀AA,Dq (A.deeper AA) n)(Ri:Dq A.in1 n)(hd:A.depth<recursionLimit){a:O5}{args:Args}{o:Obj}{fd:FuncData}{body:O6}{cl:List (O7×Nat)}{v:V}(ho:s.heap.get? a=some o)
 (hf:o.data = .func fd) (ok:okScope fd.scope=true) (BF:fd.body = .expr body) (JC:s.heap.CodeRec fd.code fd.qualname) (AL:Cd Y cl fd.closure) (MH:fd.globals=mainGlobals) (K9:fd.builtins=builtinsNs)
 {bs:List (O7×OY)}{l:List (O7×V)}{v':V}{d:Nat} (hb:∀(Q:List (O7×OY)->OZ->Prop) E,Q bs s->PD C.md A.in1 (bindArgs fd args) Q E s) (rb:Ld C Y s.heap l bs)
 (h1:Em { scope:=fd.scope,f:=J.length,cells:=(Fu fd.scope.names cl (J++[.fr []])).1 } l (Fu fd.scope.names cl (J++[.fr []])).2=some Ab)
 (h2:L.ev { scope:=fd.scope,f:=J.length,cells:=(Fu fd.scope.names cl (J++[.fr []])).1 } body Ab=some (v,Ai))
 (h3:By Ai J.length d v=some v') (h4:cut Ai J.length=some Av)
 (K:∀s' x,Ck C Y s Y Av s'->Bz C Y s'.heap v' x->R (.ok (.ret x)) s'):codeAny C.md A (.call (.ref a) args) R s:=by
 obtain ⟨o1,o2,o3,o4,o5⟩:=Cn ok;refine kla_callFunE hd ho hf o4 o5 BF JC (hb _ _ ?_);rw[MH,K9];refine Ku (tab:=none) (muts:=[]) Ri I ok AL (fun Z Z z=>by cases z) rb h1 fun Pr s1 AQ G X Z Z Z Z=>⟨G.inv.noLimit W,kla_codeExpr ?_⟩;refine L'.ev W G.inv X h2 _ _ _ (Rm AQ) fun bH s2 fl G2 C8=>?_;have G3:=G.trans G2;obtain ⟨G4,fz⟩:=Nt I G3 h4;exact K s2 _ G4 (fz d _ _ _ h3 C8)
end
theorem fW:∀{xs:List O7}{vs:List OY},xs.Nodup->xs.length=vs.length->xs.filterMap (fun n=>((xs.zip vs).lookup n).map (n,·))=xs.zip vs:=by
 suffices H:∀(xs:List O7) (vs:List OY) (pre:List (O7×OY)),(∀x∈xs,pre.lookup x=none)->xs.Nodup->xs.length=vs.length->xs.filterMap (fun n=>((pre++xs.zip vs).lookup n).map (n,·))=xs.zip vs from
  fun {xs vs} d l=>H xs vs [] (fun Z Z=>rfl) d l
 intro xs
 induction xs with
 |nil=>intros;rfl
 |cons x xs ih=>
  intro vs pre hp d l;cases vs with
  |nil=>cases l
  |cons v vs=>
   have hx:(pre++(x,v)::xs.zip vs).lookup x=some v:=by
    rw[List.lookup_append,hp x (.head _)];simp[List.lookup_cons]
   rw[Aab,List.filterMap_cons,hx];have:=ih vs (pre++[(x,v)]) (fun y hy=>by
    rw[List.lookup_append,hp y (.tail _ hy)];have:(y==x)=false:=by
     rw[beq_eq_false_iff_ne];intro q;exact (yq.mp d).1 (q ▸ hy)
    simp[List.lookup_cons,this]) (yq.mp d).2 (xi l)
   rw[xj] at this;exact congrArg _ this
theorem hJ:∀{l:List O7},Wj l=true->l.Nodup:=by
 intro X
 induction X with
 |nil=>
  intro Z;exact List.nodup_nil
 |cons x r ih=>
  intro h;unfold Wj at h;rw[wm,zh] at h;refine yq.mpr ⟨fun m=>?_,ih h.2⟩;have:=zu.mpr m;rw[h.1] at this;cases this
theorem Yw:∀{xs:List O7}{vs:List OY},xs.length=vs.length->∀x∈xs,((xs.zip vs).lookup x).isNone=false
 |y::xs,v::vs,l,x,m=>by
  rw[Aab,y6];cases q:x==y with
  |true=>rfl
  |false=>
   rcases wk.mp m with e|m
   ·rw[e,beq_self_eq_true] at q;cases q
   ·exact Yw (xi l) x m
theorem Ta {a:Arguments}{n:Nat}(h:Iy a n=true):a.args.length=n∧a.posonlyargs=[]∧a.vararg=none∧a.kwonlyargs=[]∧a.kwarg=none∧(Gq a).Nodup:=by
 unfold Iy at h;simp only[Bool.and_eq_true,beq_iff_eq,List.isEmpty_iff,Option.isNone_iff_eq_none] at h;obtain ⟨⟨⟨⟨⟨h1,h2⟩,h3⟩,h4⟩,h5⟩,h6⟩:=h;exact ⟨h1,h2,h3,h4,h5,hJ h6⟩
theorem forZ {α β γ:Type}{l:List α}{i:β}{f:α->β->Sem (ForInStep β)}{g:β->Sem γ}{x:Sem γ}(h:l=[])(k:g i=x):(forIn l i f >>= g)=x:=by
 subst h;exact k
theorem Pk {fd:FuncData}{vs:List OY}(hp:Iy fd.params vs.length=true)(hd:fd.defaults = .none):bindArgs fd ⟨vs,[]⟩=pure ((Gq fd.params).zip vs):=by
 obtain ⟨nm,qn,pr,bd,sc,gb,cl,df,kdf,r1,r2,r3,r4,r5⟩:=fd;obtain ⟨po,ar,va,ko,kds,kw2,dfs⟩:=pr;obtain ⟨h1,h2,h3,h4,h5,h6⟩:=Ta hp;cases hd;cases h2;cases h3;cases h4;cases h5;clear hp;have hl:(ar.map (·.arg)).length=vs.length:=(wn ..).trans h1;have e:∀k,(List.filter (fun n=>(List.lookup n ((ar.map (·.arg)).zip vs)).isNone) ((ar.map (·.arg)).take k))=[]:=fun k=>List.filter_eq_nil_iff.mpr fun x m q=>ft ((Yw hl x (zn m)).symm.trans q);refine (if_neg fun q=>Nat.ne_of_gt (of_decide_eq_true (xh.mp q).1:(ar.map (·.arg)).length<vs.length) hl.symm).trans ((if_neg fun q=>ft ((congrArg (fun l=>!(List.isEmpty l)) (e _)).symm.trans q)).trans (forZ ((congrArg (List.zip _) List.drop_nil).trans List.zip_nil_right) ?_));exact congrArg (pure (f:=Sem)) ((congrArg (List.filterMap fun n=>(List.lookup n ((ar.map (·.arg)).zip vs)).map (n,·)) (xx (ar.map (·.arg)))).trans (fW (xs:=ar.map (·.arg)) (show (ar.map (·.arg)).Nodup from h6) hl))
section
variable {fd:FuncData}{T kd:O5}{o2:Obj}{m:O7->Option OY}{t:Tok}
def tF (t:Tok) (vs:List OY):Option (List (O7×OY)):=match vs with
 |[a,x]=>some [("a",a),("x",x),("lo",.int 0 t),("hi",.none)]
 |[a,x,lo]=>some [("a",a),("x",x),("lo",lo),("hi",.none)]
 |[a,x,lo,hi]=>some [("a",a),("x",x),("lo",lo),("hi",hi)]
 |_=>none
def mf (kw:List (O7×OY)):Option OY:=match kw with
 |[]=>some .none
 |[(k,v)]=>if k==("key":O7) then some v else none
 |_=>none
theorem iB {kw:List (O7×OY)}{kv:OY}(h:mf kw=some kv):(kw=[]∧kv = .none)∨kw=[(("key":O7),kv)]:=by
 induction kw with
 |nil=>cases h;exact .inl ⟨rfl,rfl⟩
 |cons p r=>
  induction r with
  |nil=>
   refine itE (show (if p.1==("key":O7) then some p.2 else none)=some kv from h) (fun hk h=>?_) fun Z=>nn;cases h;exact .inr (congrArg (fun x=>[(x,p.2)]) (beq_iff_eq.mp hk))
  |cons=>exact nn h
theorem pq {M:Model}{A:O8}{E:OY->OZ->Prop}{β:Type}{items:Array OY}{k:Option (Array OY)->Sem β}{Q:β->OZ->Prop}(hT:s.heap.get? T=some o2)(ho:o2.data = .seq items n)(h:PD M A (k (some items)) Q E s):PD M A (seqItems? (.ref T) >>= k) Q E s:=Aa (wpAny_seqItems hT ho h)
theorem nbK {M:Model}{A:O8}{E:OY->OZ->Prop}{α β γ:Type}{nm:O7}{x:Option OY}{k1:Option OY->Sem α}{k2:α->Sem β}{k3:β->Sem γ}{a:α}{b:β}{Q:γ->OZ->Prop}(hn:s.heap.Ns kd m)(hm:m nm=x)(h1:k1 x=pure a)(h2:k2 a=pure b)(h:PD M A (k3 b) Q E s) :
 PD M A (((nsGet kd nm >>= k1) >>= k2) >>= k3) Q E s:=by
 refine Aa (Aa (Aa (wpAny_nsGet hn ?_)));rw[hm,h1];refine Ag ?_;rw[h2];exact Ag h
theorem dR {l:List Arg}{a:O7}{r:List O7}(h:l.map (·.arg)=a::r):∃x y q,l=⟨a,x,y⟩::q∧q.map (·.arg)=r:=by
 cases l with
 |nil=>cases h
 |cons z q=>obtain ⟨_,x,y⟩:=z;cases h;exact ⟨x,y,q,rfl,rfl⟩
theorem jk {l:List Arg}(h:l.map (·.arg)=[]):l=[]:=List.map_eq_nil_iff.mp h
theorem map4 {l:List Arg}{a b c d:O7}(h:l.map (·.arg)=[a,b,c,d]):∃x1 y1 x2 y2 x3 y3 x4 y4,l=[⟨a,x1,y1⟩,⟨b,x2,y2⟩,⟨c,x3,y3⟩,⟨d,x4,y4⟩]:=
 let ⟨x1,y1,_,e1,h⟩:=dR h
 let ⟨x2,y2,_,e2,h⟩:=dR h
 let ⟨x3,y3,_,e3,h⟩:=dR h
 let ⟨x4,y4,_,e4,h⟩:=dR h
 ⟨x1,y1,x2,y2,x3,y3,x4,y4,by rw[e1,e2,e3,e4,jk h]⟩
theorem map1 {l:List Arg}{a:O7}(h:l.map (·.arg)=[a]):∃x1 y1,l=[⟨a,x1,y1⟩]:=
 let ⟨x1,y1,_,e1,h⟩:=dR h
 ⟨x1,y1,by rw[e1,jk h]⟩
theorem eX {vs:List OY}{l:List (O7×OY)}(h:tF t vs=some l):(∃a x,vs=[a,x]∧l=[(("a":O7),a),(("x":O7),x),(("lo":O7),.int 0 t),(("hi":O7),.none)])∨(∃a x lo,vs=[a,x,lo]∧l=[(("a":O7),a),(("x":O7),x),(("lo":O7),lo),(("hi":O7),.none)])∨∃a x lo hi,vs=[a,x,lo,hi]∧l=[(("a":O7),a),(("x":O7),x),(("lo":O7),lo),(("hi":O7),hi)]:=by
 cases vs with
 |nil=>exact nn h
 |cons a r=>cases r with
  |nil=>exact nn h
  |cons x r=>cases r with
   |nil=>cases h;exact .inl ⟨a,x,rfl,rfl⟩
   |cons lo r=>cases r with
    |nil=>cases h;exact .inr (.inl ⟨a,x,lo,rfl,rfl⟩)
    |cons hi r=>cases r with
     |nil=>cases h;exact .inr (.inr ⟨a,x,lo,hi,rfl,rfl⟩)
     |cons _ _=>exact nn h
theorem vF {vs:List OY}{kw:List (O7×OY)}{l:List (O7×OY)}{kv:OY}(hp:Zz fd.params=true)(hd:fd.defaults = .ref T)(hT:s.heap.get? T=some o2)(ho:o2.data = .seq #[.int 0 t,.none] n)
 (hk:fd.kwdefaults = .ref kd) (hn:s.heap.Ns kd m) (hm:m ("key":O7)=some .none) (h1:tF t vs=some l) (h2:mf kw=some kv):BindsTo s fd ⟨vs,kw⟩ (l++[(("key":O7),kv)]):=by
 obtain ⟨nm,qn,pr,bd,sc,gb,cl,df,kdf,r1,r2,r3,r4,r5⟩:=fd;obtain ⟨po,ar,va,ko,kds,kw2,dfs⟩:=pr;unfold Zz at hp;simp only[Bool.and_eq_true,beq_iff_eq,List.isEmpty_iff,Option.isNone_iff_eq_none] at hp;obtain ⟨⟨⟨⟨p1,p2⟩,p3⟩,p4⟩,p5⟩:=hp;cases p1;cases p2;cases p3;cases hd;cases hk;obtain ⟨x1,y1,x2,y2,x3,y3,x4,y4,rfl⟩:=map4 p4;obtain ⟨x5,y5,rfl⟩:=map1 p5;clear p4 p5;intro M A E Q q;rcases eX h1 with ⟨a,x,rfl,rfl⟩|⟨a,x,lo,rfl,rfl⟩|⟨a,x,lo,hi,rfl,rfl⟩<;>rcases iB h2 with ⟨rfl,rfl⟩|rfl
 ·exact pq hT ho (nbK hn hm rfl rfl (Ag q))
 ·exact pq hT ho (Ag q)
 ·exact pq hT ho (nbK hn hm rfl rfl (Ag q))
 ·exact pq hT ho (Ag q)
 ·exact pq hT ho (nbK hn hm rfl rfl (Ag q))
 ·exact pq hT ho (Ag q)
end
theorem Dq.deeper {A:O8}{n:Nat}(r:Dq A (n+1))(AA:Env):Dq (A.deeper AA) n:=⟨r.hd,aRm (k:=1) r.dp (by decide),aRm (k:=3) r.un (by decide)⟩
section
variable {Bk De:Aj}
theorem Ky {M:Model}{a:O5}{o:Obj}{fd:FuncData}(e:h.get? a=some o)(d:o.data = .func fd):∃k,(k=Keeper.frame∨k=Keeper.machine∨k=Keeper.boundFrame)∧Looks M h (keeperOf (.ref a)) k:=by
 obtain ⟨oc,od,dt,sl⟩:=o;obtain rfl:=d;exact keeps_F h ⟨_,_,_,_,e⟩
theorem rR {M:Model}{a N:O5}{mN:O7->Option OY}(X:ClsAt h a N mN):∃k,(k=Keeper.frame∨k=Keeper.machine∨k=Keeper.boundFrame)∧Looks M h (keeperOf (.ref a)) k:=by
 obtain ⟨nm,q,bs,sn,sub,AI,dd,k0,k1,k2,k3,k5,hC⟩:=X.obj;refine ⟨.machine,.inr (.inl rfl),(Looks.ld (part:=none) hC).andThen ?_⟩;have t:Looks M h (specialOf (.ref a) "__call__") (some (.builtin "type.__call__")):=by
  refine ((Looks.ld hC).andThen .now:Looks M h (typeOf (.ref a)) (.type "type")).andThen ?_;rw[tc_lookup];exact .now
 exact t.andThen .now
theorem Wd.defAt (W:Wd C g)(I:Bh C Y J s){a:O5}{d:Ek}{o:Obj}{fd:FuncData}(D:Xo C a d o fd):s.heap.get? a=some o:=
 I.old W D.ob fun q=>by have:=D.dat;rw[q] at this;cases this
theorem lN.at (W:Wd C g)(I:Bh C Y J s){N:O5}{mN:O7->Option OY}{fI:O5}{oI:Obj}{fd:FuncData}(K:lN C g N mN fI oI fd):ClsAt s.heap C.cls N mN:=by
 obtain ⟨⟨nm,q,bs,sn,sub,AI,dd,k0,k1,k2,k3,k5,hC⟩,ns⟩:=K.cls;exact ⟨⟨nm,q,bs,sn,sub,AI,dd,k0,k1,k2,k3,k5,I.old W hC (fun q=>by cases q)⟩,I.ns W ns⟩
theorem du (W:Wd C g)(I:Bh C Y J s){f:V}{args:List V}{AJ:List (O7×V)}{r:V×Aj}{vf:OY}(h:Qx g L f args AJ J=some r)(rf:Bz C Y s.heap f vf) :
 ∃k,(k=Keeper.frame∨k=Keeper.machine∨k=Keeper.boundFrame)∧Looks C.md s.heap (keeperOf vf) k:=by
 induction f using V.casesOn with
 |fn a=>
  obtain ⟨rfl,-⟩:=rf;refine itE (show (if a==g.cls then gM args AJ J else aI g L a args AJ J)=_ from h) (fun hc Z=>?_) fun hc h=>oC1 h fun d hd Z=>?_
  ·obtain ⟨N,mN,fI,oI,fd,K⟩:=W.klass;rw[beq_iff_eq.mp hc,W.cls];exact rR (K.at W I)
  ·obtain ⟨o,fd,D⟩:=W.defs _ _ hd;exact Ky (W.defAt I D) D.dat
 |bi=>obtain rfl:=rf;exact ⟨.machine,.inr (.inl rfl),.now⟩
 |ty=>obtain rfl:=rf;exact ⟨.machine,.inr (.inl rfl),.now⟩
 |clo=>
  obtain ⟨a,rfl,⟨_,fd,e,_⟩⟩:=rf;exact Ky e rfl
 |_=>exact nn h
theorem eR {xs:List O7}:∀{vs:List V}{ws:List OY},Bv C Y h vs ws->Ld C Y h (xs.zip vs) (xs.zip ws):=by
 induction xs with
 |nil=>intro vs ws Z;rw[List.zip_nil_left,List.zip_nil_left];exact rfl
 |cons x xs ih=>
  intro vs ws R
  induction vs with
  |nil=>rw[R,List.zip_nil_right,List.zip_nil_right];exact rfl
  |cons v vs=>
   obtain ⟨w,ws',q,r1,r2⟩:=R;rw[q,Aab,Aab];exact ⟨w,_,rfl,r1,ih r2⟩
theorem ms (L':Ce g L n)(W:Wd C g)(I:Bh C Y J s){a:Arguments}{body:O6}{scope:Scope}{cells:List (O7×Nat)}{args:List V}{vf:OY}{AR:List OY}{v:V}(h:xM L a body scope cells args J=some (v,Av))
 (rf:Bz C Y s.heap (.clo a body scope cells) vf) (ra:Bv C Y s.heap args AR):At C (n+1) Y s (call vf AR []) Av (RV C v):=by
 intro A Q E R K;refine itE h (fun hc h=>oC1 h fun Su h1 h=>oC2 h fun v4 vz h2 h=>oC1 h fun v' h3 h=>oC1 h fun μ5 h4 h=>?_) fun Z=>nn;simp only[Bool.and_eq_true] at hc;obtain ⟨⟨hp,MU⟩,ok⟩:=hc;cases h;obtain ⟨ad,rfl,⟨nr,fd,e,r1,r2,r3,r4,r5,r6,r7,r8,c,oc,vs,t,q1,q2,q3,q4⟩⟩:=rf;refine wpAny_call (js (C:=C) (d:=6) L' W I (fun AA=>R.deeper AA) R.in1 R.depth e rfl (by rw[r3];exact ok) r2 ⟨c,oc,vs,t,q1,q3,q4.1,q4.2⟩ r8 r4 r5 (bs:=(Gq a).zip AR) (l:=(Gq a).zip args)
  (fun Q E q=>by
   rw[Pk (by rw[r1,(ra.length)];exact hp) r6,r1];exact Ag q) (eR ra) (by rw[r3];exact h1) (by rw[r3];exact h2) h3 h4 fun s' x G rx=>K _ _ _ G rx)
end
section
variable {Bk De:Aj}{s':OZ}
theorem Rb {a:Aj}:∀{b:Aj},Fn a b=true->a=b∧∀(i:Nat)(o:Cv),b[i]?=some o->∃q,o = .tab q:=by
 induction a with
 |nil=>
  intro b h;cases b with
  |nil=>exact ⟨rfl,fun i o e=>by rw[List.getElem?_nil] at e;exact nn e⟩
  |cons=>exact ft h
 |cons p r ih=>
  intro b h
  induction p using Cv.casesOn with
  |tab p=>
   cases b with
   |nil=>exact ft h
   |cons q t=>
    induction q using Cv.casesOn with
    |tab q=>
     have h:=xh.mp h;obtain rfl:=beq_iff_eq.mp h.1;obtain ⟨rfl,k⟩:=ih h.2;refine ⟨rfl,fun i o e=>?_⟩;cases i with
     |zero=>exact ⟨p,(wx e).symm⟩
     |succ i=>exact k i o e
    |_=>exact ft h
  |_=>cases b<;>exact ft h
theorem Sh {a b:Aj}(h:Fn a b=true):a=b:=(Rb h).1
theorem aJ {a b:Aj}{i:Nat}{o:Cv}(h:Fn a b=true)(e:b[i]?=some o):∃q,o = .tab q:=(Rb h).2 i o e
abbrev Wo (C:Cx) (Y:List O5):List O5:=C.off++Y.drop C.tabs.length
abbrev zQ (C:Cx) (Y:List O5):List O5:=Y.take C.tabs.length
theorem cW {a:O5}(x:a∉Y)(y:a∉C.off):a∉Wo C Y:=fun m=>(xk.mp m).elim y fun q=>x (List.mem_of_mem_drop q)
theorem Zd {a:O5}(x:a∈Y):a∈zQ C Y∨a∈Y.drop C.tabs.length:=xk.mp (by rw[zo];exact x)
theorem Tw {a:O5}(x:a∉zQ C Y)(y:a∉Wo C Y):a∉Y∧a∉C.off:=
 ⟨fun m=>(Zd (C:=C) m).elim x fun q=>y (yd _ q),fun m=>y (xp _ m)⟩
theorem Bh.apartB (I:Bh C Y J s){a:O5}(m:a∈Y.drop C.tabs.length):a∉zQ C Y∧a∈Y∧C.h0.get? a=none:=by
 have nd:=I.nd;rw[← zo C.tabs.length Y] at nd;have h1:a∉zQ C Y:=fun q=>(zd.mp nd).2.2 a q a m rfl;refine ⟨h1,List.mem_of_mem_drop m,(I.fns a (List.mem_of_mem_drop m)).elim id fun q=>?_⟩;obtain ⟨t,e⟩:=I.tb;rw[zQ,e,List.take_left] at h1;exact absurd q h1
theorem il {a:O5}{q:O7}{off AC:List O5}(x:∀a,a∉Y->a∉off->a∉Bx∧a∉AC)(r:Gy (C.wo off) Y h a (.tab q)):Gy (C.wo AC) Bx h a (.tab q):=by
 obtain ⟨ps,e,t,k⟩:=r;refine ⟨ps,e,t,fun pos cv z=>?_⟩;obtain ⟨c,o,vs,t,q1,q2,q3,q4⟩:=k pos cv z;exact ⟨c,o,vs,t,q1,x c q2.1 q2.2,q3,q4⟩
theorem Bh.rebase (I:Bh C Y J s)(ht:Fn Ab (J.take C.tabs.length)=true):Bh (C.wo (Wo C Y)) (zQ C Y) (J.take C.tabs.length) s where
 len:=by rw[yo,yo,I.len]
 nd:=List.Sublist.nodup (List.take_sublist ..) I.nd
 base:=fun b o hb e=>by
  by_cases q:b∈Y
  ·rcases Zd (C:=C) q with m|m
   ·exact absurd m hb
   ·have:=(I.apartB m).2.2;rw[show C.h0.get? b=some o from e] at this;cases this
  ·exact I.base b o q e
 fns:=fun a m=>I.fns a (zn m)
 objs:=fun i a o e1 e2=>by
  obtain ⟨q,rfl⟩:=aJ ht e2;have hi:i<C.tabs.length:=by
   have:=(wv.mp e1).1;rw[yo] at this;exact xd this (yz _ _)
  rw[zl hi] at e1 e2;exact il (C:=C) (off:=C.off) (AC:=Wo C Y) (fun a h1 h2=>⟨fun m=>h1 (zn m),cW h1 h2⟩) (I.objs i a _ e1 e2)
 os:=I.os
 gens:=I.gens
 big:=I.big
 offs:=fun a m=>by
  rcases xk.mp m with q|q
  ·obtain ⟨x,y,z⟩:=I.offs a q;exact ⟨fun w=>x (zn w),y,z⟩
  ·obtain ⟨x,y,z⟩:=I.apartB q;exact ⟨x,z,I.at y⟩
 tb:=⟨[],by
  obtain ⟨t,e⟩:=I.tb;show Y.take C.tabs.length=C.tabs++[];rw[xx,e,List.take_left]⟩
theorem Bh.unbase (I:Bh C Y J s)(G:Ck (C.wo (Wo C Y)) (zQ C Y) s (zQ C Y) (J.take C.tabs.length) s'):Ck C Y s Y J s':=by
 have M:Mv Y Y s.heap s'.heap:=⟨⟨[],(xx _).symm⟩,fun Z m=>.inl m,fun b o hb e=>G.mv.keep b o (fun m=>hb (zn m)) e⟩;refine ⟨⟨I.len,I.nd,fun b o hb e=>G.inv.base b o (fun m=>hb (zn m)) e,I.fns,fun i a o e1 e2=>?_,G.inv.os,G.inv.gens,I.big,fun a m=>?_,I.tb⟩,M⟩
 ·rcases ye i C.tabs.length with hi|hi
  ·have f1:(zQ C Y)[i]?=some a:=Py hi e1;have f2:(J.take C.tabs.length)[i]?=some o:=by rw[zl hi];exact e2
   have z:=G.inv.objs i a o f1 f2;have z0:=I.objs i a o e1 e2;cases o with
   |tab q=>exact il (C:=C) (off:=Wo C Y) (AC:=C.off) (fun a h1 h2=>Tw h1 h2) z
   |fr m=>
    obtain ⟨t,et⟩:=I.tb;obtain ⟨f,ns,k⟩:=z;exact ⟨f,ns,fun x=>by
     have:=k x;revert this;cases m.lookup x<;>cases f x<;>intro w<;>first|exact w|exact w.gen (AC:=C.off) ⟨fun a o n e=>⟨Tw n.1 n.2,e⟩,fun i a e=>by
      have hi:i<C.tabs.length:=by
       have:=(wv.mp e).1;rw[yo] at this;exact xd this (yz _ _)
      rw[zl hi] at e;exact e⟩⟩
   |_=>exact Gy.gen (C:=C.wo (Wo C Y)) (AC:=C.off) (Bx:=Y) (h':=s'.heap) ⟨fun a o n e=>⟨Tw n.1 n.2,e⟩,fun i a e=>by
     have hi:i<C.tabs.length:=by
      have:=(wv.mp e).1;rw[yo] at this;exact xd this (yz _ _)
     rw[zl hi] at e;exact e⟩ rfl z
  ·have hm:a∈Y.drop C.tabs.length:=by
    have:(Y.drop C.tabs.length)[i-C.tabs.length]?=some a:=by rw[List.getElem?_drop,Nat.add_sub_cancel' hi];exact e1
    exact xt this
   have hb:=(I.apartB hm).1;obtain ⟨ob,EE⟩:=I.at (xt e1);exact (I.objs i a o e1 e2).mv M ((G.mv.keep a ob hb EE).trans EE.symm)
 ·obtain ⟨x,y,o,z⟩:=I.offs a m;exact ⟨x,y,G.inv.offGet a (xp _ m)⟩
theorem mi:Kp (Wo C Y) C.off (zQ C Y) Y h h:=⟨fun a o n e=>⟨Tw n.1 n.2,e⟩,fun i a e=>by
 have hi:i<C.tabs.length:=by
  have:=(wv.mp e).1;rw[yo] at this;exact xd this (yz _ _)
 rw[zl hi] at e;exact e⟩
theorem Ld.cut {AC:List O5}(ho:∀a,a∉Y->a∉C.off->a∉AC){l:List (O7×V)}:∀{bs:List (O7×OY)},Bg k l=true->Ld C Y h l bs->Ld (C.wo AC) (Y.take k) h l bs:=by
 induction l with
 |nil=>intro bs Z r;exact r
 |cons p l ih=>
  intro bs c R;obtain ⟨w,DD,q,r1,r2⟩:=R;rw[Gu,wm] at c;exact ⟨w,DD,q,r1.cut ho c.1,ih c.2 r2⟩
end
section
variable {Bk De:Aj}{s':OZ}
theorem Bh.codeRec (I:Bh C Y J s)(W:Wd C g){cd:OY}{q:O7}(x:C.h0.CodeRec cd q):s.heap.CodeRec cd q:=by
 obtain ⟨c,o,vs,t,q1,q2,q3,q4⟩:=x;refine ⟨c,o,vs,t,q1,I.old W q2 (fun z=>?_),q3,q4⟩;have q3:=z ▸ q3;cases q3;simp at q4
theorem kQ (L':Ce g L n)(W:Wd C g)(I:Bh C Y J s){a:O5}{d:Ek}{o:Obj}{fd:FuncData}(D:Xo C a d o fd){A:O8}{R:Result->OZ->Prop}(Rm:Dq A (n+1)){args:Args}{bs:List (O7×OY)}{l:List (O7×V)}{v:V}
 (hb:BindsTo s fd args bs) (rb:Ld C Y s.heap l bs) (h:Kd L d l J=some (v,Av)) (K:∀s' x,Ck C Y s Y Av s'->Bz C Y s'.heap v x->R (.ok (.ret x)) s'):codeAny C.md A (.call (.ref a) args) R s:=by
 unfold Kd at h;split at h
 ·cases h
 ·rename_i ok;simp only[Bool.not_eq_true',Bool.not_eq_false] at ok;dsimp only at h;split at h
  ·rename_i Su h1;split at h
   ·rename_i f vz h2;split at h
    ·rename_i v' h3;split at h
     ·rename_i μ5 h4;cases h;have hs:=D.scope;refine kg (C:=C) (d:=6) (tab:=d.tab) (muts:=d.muts) (f:=f) (bs:=bs) (l:=l) L' W I (fun AA=>Rm.deeper AA) Rm.in1 Rm.depth (W.defAt I D) D.dat (by rw[hs];exact ok) D.body (I.codeRec W D.code) D.clos D.gl D.bl D.tab
       (fun Q E q=>hb _ _ _ _ q) rb (by rw[hs];exact h1) (by rw[hs];exact h2) h3 h4 K
     ·cases h
    ·cases h
   ·cases h
  ·cases h
theorem vB {args:List V}{AR:List OY}{l:List (O7×V)}{t:Tok}(h:u6 args=some l)(r:Bv C Y h' args AR):∃bs,tF t AR=some bs∧Ld C Y h' l bs:=by
 cases args with
 |nil=>exact nn h
 |cons a args=>cases args with
  |nil=>exact nn h
  |cons b args=>
   obtain ⟨a,_,rfl,ra,b,_,rfl,rb,r⟩:=r;cases args with
   |nil=>cases h;cases r;exact ⟨_,rfl,a,_,rfl,ra,b,_,rfl,rb,_,_,rfl,Ng _ _,_,_,rfl,rfl,rfl⟩
   |cons c args=>
    obtain ⟨c,_,rfl,rc,r⟩:=r;cases args with
    |nil=>cases h;cases r;exact ⟨_,rfl,a,_,rfl,ra,b,_,rfl,rb,c,_,rfl,rc,_,_,rfl,rfl,rfl⟩
    |cons d args=>
     obtain ⟨d,_,rfl,rd,r⟩:=r;cases args with
     |nil=>cases h;cases r;exact ⟨_,rfl,a,_,rfl,ra,b,_,rfl,rb,c,_,rfl,rc,d,_,rfl,rd,rfl⟩
     |cons=>exact nn h
theorem Ld.append {l:List (O7×V)}:∀{l':List (O7×V)}{bs DD:List (O7×OY)},Ld C Y h l bs->Ld C Y h l' DD->Ld C Y h (l++l') (bs++DD):=by
 induction l with
 |nil=>intro l' bs DD e r;rw[e];exact r
 |cons p l ih=>
  intro l' bs DD R x;obtain ⟨w,DD,e,r,q⟩:=R;rw[e];exact ⟨w,_,rfl,r,ih q x⟩
theorem Pv (W:Wd C g)(I:Bh C Y J s){a:O5}{d:Ek}{o:Obj}{fd:FuncData}(D:Xo C a d o fd){args:List V}{AR:List OY}{AJ:List (O7×V)}{vkw:List OY}{l:List (O7×V)}(h:Hr d args AJ=some l)
 (ra:Bv C Y s.heap args AR) (rk:Bv C Y s.heap (AJ.map (·.2)) vkw):∃bs,BindsTo s fd ⟨AR,(AJ.map (·.1)).zip vkw⟩ bs∧Ld C Y s.heap l bs:=by
 refine itE h (fun ho h=>itE h (fun hp h=>oC1 h fun l0 h0 h=>oC1 h fun kv hk h=>?_) fun Z=>nn) fun ho h=>Uo h fun NN h=>itE h (fun hp h=>?_) fun Z=>nn
 ·cases h;obtain ⟨T,o2,m,kd,mk,t,d1,d2,d3,d4,d5,d6⟩:=D.opt ho;obtain ⟨bs,EM,rb⟩:=vB (t:=t) h0 ra;have B:=fun {kw kv}=>vF (kw:=kw) (kv:=kv) (by rw[D.params];exact hp) d1 (I.old W d2 (fun z=>by rw[z] at d3;cases d3)) d3 d4 (I.ns W d5) d6 EM;cases AJ with
  |nil=>cases hk;cases rk;exact ⟨_,B rfl,rb.append (Mine.e2 _ _ ⟨rfl,rfl,rfl⟩)⟩
  |cons p r=>cases r with
   |nil=>
    obtain ⟨k,v⟩:=p;refine itE (show (if k==("key":O7) then some v else none)=_ from hk) (fun GX hk=>?_) fun Z=>nn;cases hk;rw[beq_iff_eq] at GX;rw[GX];obtain ⟨w,_,rfl,E3,rfl⟩:=rk;exact ⟨_,B (by unfold mf;rfl),rb.append (Mine.e2 _ _ ⟨rfl,E3,rfl⟩)⟩
   |cons=>exact nn hk
 ·cases h;have rk:=NN ▸ rk;cases rk;rw[NN];have hl:=ra.length;refine ⟨_,BindsTo.of_eq (Pk (by rw[D.params,hl];exact hp) (D.noopt (by simpa using ho)).1),?_⟩;rw[D.params];exact eR ra
theorem vu (L':Ce g L n)(W:Wd C g)(I:Bh C Y J s){a:O5}{d:Ek}(hd:g.D a=some d){l:List (O7×V)}{args:List V}{AR:List OY}{AJ:List (O7×V)}{vkw:List OY}{v:V}(hb:Hr d args AJ=some l)
 (h:(if Bg g.nt l then oe2 (Kd L d l (J.take g.nt)) none fun v Ab=>if Fn Ab (J.take g.nt) then some (v,J) else none
  else Kd L d l J)=some (v,Av)) (ra:Bv C Y s.heap args AR) (rk:Bv C Y s.heap (AJ.map (·.2)) vkw):At C (n+1) Y s (call (.ref a) AR ((AJ.map (·.1)).zip vkw)) Av (RV C v):=by
 intro A Q E Rm K;obtain ⟨o,fd,D⟩:=W.defs _ _ hd;obtain ⟨bs,EM,rb⟩:=Pv W I D hb ra rk;rw[W.nt] at h;split at h
 ·rename_i hc;split at h
  ·rename_i v1 Nu h1;split at h
   ·rename_i ht;cases h;have D':Xo (C.wo (Wo C Y)) a d o fd:=⟨D.ob,D.dat,D.fcls,D.params,D.body,D.scope,D.gl,D.bl,D.clos,D.code,D.opt,D.noopt,D.tab⟩;have IB:=I.rebase ht;obtain rfl:=Sh ht;refine wpAny_call (kQ (C:=C.wo (Wo C Y)) L' (W.off _) IB D' Rm EM (rb.cut (AC:=Wo C Y) (fun Z x y=>cW x y) hc) h1 fun s' x G rx=>?_);have z:=I.unbase G;exact K _ _ _ z (rx.gen (AC:=C.off) (mi (C:=C)))
   ·cases h
  ·cases h
 ·exact wpAny_call (kQ L' W I D Rm EM rb h fun s' x G rx=>K _ _ _ G rx)
end
theorem Og:typeLookup (.type "object") ("comp_select_list":O7)=pure none:=by rw[typeLookup_type,builtinLookup_eq_fast];kernel_rfl
theorem Qu:typeLookup (.type "object") ("compare":O7)=pure none:=by rw[typeLookup_type,builtinLookup_eq_fast];kernel_rfl
section
variable {Bk De:Aj}{s':OZ}
theorem kW {x:V}{v:OY}(r:Bz C Y h (.inst x) v):∃a val,v = .ref a∧h.Inst a C.cls (lQ val)∧Bz C Y h x val:=by
 obtain ⟨a,d,o,od,val,rfl,_,_,ea,ed,⟨c1,c2,c3,c4⟩,i,r⟩:=r;exact ⟨a,val,rfl,⟨o,ea,c1,c2,.inr ⟨d,c3,c4,i h ed⟩⟩,r⟩
theorem ey (W:Wd C g)(I:Bh C Y J s){x:V}{v:OY}(r:Bz C Y s.heap (.inst x) v)(hx:aE x=true):At C n Y s (getAttr v ("comp_select_list":O7) true) J (RV C x):=by
 intro A Q E R K;obtain ⟨a,val,rfl,Ix,rx⟩:=kW r;obtain ⟨N,mN,fI,oI,fd,X⟩:=W.klass;obtain ⟨⟨nm,q,bs,sn,sub,AI,dd,k0,k1,k2,k3,k5,hC⟩,hN⟩:=X.at W I;have hh:handedOut val=pure val:=by
  induction x using V.casesOn with
  |tup=>obtain ⟨b,_,_,rfl,_⟩:=rx;rfl
  |lst=>obtain ⟨b,_,_,rfl,_⟩:=rx;rfl
  |ref=>obtain ⟨b,rfl,_⟩:=rx;rfl
  |_=>exact ft hx
 obtain ⟨hp,gs,dr,tk,os⟩:=s;exact load_attr hC hN X.ga X.csl Og Ix (by unfold lQ;rw[if_pos rfl]) hh (K _ _ _ (.tok I _) rx)
theorem dw (L':Ce g L n)(W:Wd C g)(I:Bh C Y J s)(X:Ba C Y e AA){o:O6}{p:Pos}{x:V}(hs:noSuper o=true)(h0:L.ev e o J=some (.inst x,Ab))(hx:aE x=true) :
 At C n Y s (eval (.Attribute o ("comp_select_list":O7) p) AA) Ab (RV C x):=by
 intro A Q E R K;rw[arm_eval_Attribute,Ip hs];refine Aa (L'.ev W I X h0 A _ E R fun An Ao vo Ay ro=>?_);refine Aa (wpAny_standAt (Aa (wpAny_holding (ey W Ay.inv ro hx A _ E R fun Bl Be v Bm rv=>?_))));exact Aa (wpAny_letTemporaryGo (Ag (K _ _ _ (Ay.trans Bm) rv)))
theorem qU (L':Ce g L n)(W:Wd C g)(I:Bh C Y J s)(X:Ba C Y e AA){f:O5}{o:Obj}{fd:FuncData}(ho:∀{Y J s},Bh C Y J s->s.heap.get? f=some o)(hd:o.data = .func fd){first:List OY}{args:List O6}{p q:Pos}{vs:List V}{R₂:List O5->O9->OY->Prop}
 (h1:Kb L e args J=some (vs,Ab)) (k:∀An Ao xs,Ck C Y s An Ab Ao->Bv C An Ao.heap vs xs->At C n An Ao (call (.ref f) (first++xs)) Av R₂) :
 At C n Y s (callWith q (.ref f) first (backTo p (starEach args AA)) []) Av R₂:=by
 intro A Q E R K;refine callWith_of (P:=fun h=>h.get? f=some o) (by rw[Hi h1];rfl) (fun Z e=>Ky e hd) ?_;have fin:∀(An:List O5) (Ao:OZ) (xs:List OY),Ck C Y s An Ab Ao->Bv C An Ao.heap vs xs->PD C.md A (evalAll (([]:List (Option O7×Sem OY)).map (·.2)))
  (fun ys Be=>Be.heap.get? f=some o∧PD C.md A (call (.ref f) (first++xs) ((([]:List (Option O7×Sem OY)).filterMap (·.1)).zip ys)) Q E Be) E Ao:=fun An Ao xs Ay rs=>
  wpAny_evalAll_nil ⟨ho Ay.inv,k An Ao xs Ay rs A Q E R fun Bl Be x Bm hx=>K _ _ _ (Ay.trans Bm) hx⟩
 cases args with
 |nil=>
  cases h1;exact evalArgs_kw_nil rfl (fin _ _ _ (.refl I) rfl)
 |cons x r=>
  have hx:noStar x=true:=by
   split at h1
   ·cases h1
   ·rename_i BM;simpa using BM
  have e1:backTo p (starEach (x::r) AA)=(false,eval x AA)::backTo p (starEach r AA):=by rw[Ef hx];rfl
  have z:=Lk L' W (p:=p) I X h1 A _ E R fun An Ao xs Ay rs=>fin An Ao xs Ay rs;rw[e1] at z ⊢;exact evalArgs_kw rfl z
theorem iX (L':Ce g L n)(W:Wd C g)(I:Bh C Y J s)(X:Ba C Y e AA){o:O6}{ap p:Pos}{args:List O6}{x v:V}{vs:List V}
 (hg:(ap.endLine==p.line&&noSuper o&&Nat.blt args.length 29)=true) (h0:L.ev e o J=some (.inst x,Ab)) (h2:Kb L e args Ab=some (vs,Ai)) (h3:L.call (.fn g.cmp) (.inst x::vs) [] Ai=some (v,Av)) :
 At C n Y s (eval (.Call (.Attribute o ("compare":O7) ap) args [] p) AA) Av (RV C v):=by
 intro A Q E R k;simp only[Bool.and_eq_true] at hg;obtain ⟨N,mN,fI,oI,fdI,OX⟩:=W.klass;obtain ⟨d,hd⟩:=OX.cmpD;obtain ⟨oc,fc,D⟩:=W.defs _ _ hd;rw[arm_eval_Call,Ip hg.1.2];refine Aa (L'.ev W I X h0 A _ E R fun An Ao vo Ay ro=>?_);refine Aa (wpAny_standAt ?_);have HS:methodCallForm (args.length+([]:List Keyword).length) (backTo p (starEach args AA)) (backToKw p (keywordEach [] AA))=true:=by
  have:=Hi (AA:=AA) (p:=p) h2;unfold methodCallForm;simp only[Bool.and_eq_true,decide_eq_true_eq];refine ⟨⟨?_,rfl⟩,?_⟩
  ·rw[List.all_eq_not_any_not];simp only[Bool.not_not];rw[this];rfl
  ·have:=xm hg.2;show args.length+0+(if (backToKw p (keywordEach [] AA)).isEmpty then 0 else 1)<30;have e:(backToKw p (keywordEach [] AA)).isEmpty=true:=rfl;rw[e,if_pos rfl]
   lia
 have A9:methodCallPos true o AA ap p=pure p:=by unfold methodCallPos;simp[hg.1.1]
 unfold methodCall;rw[HS];obtain ⟨a,val,rfl,Ix,rx⟩:=kW ro;obtain ⟨⟨nm,q,bs,sn,sub,AI,dd,k0,k1,k2,k3,k5,hC⟩,hN⟩:=OX.at W Ay.inv;have fin:=qU L' W Ay.inv (X.go Ay) (f:=g.cmp) (fun I=>W.defAt I D) D.dat (first:=[.ref a]) (p:=p) (q:=p) (R₂:=RV C v) h2 (fun Bl Be xs Bm rs=>by
  exact L'.call W Bm.inv h3 (⟨rfl,xl D.ob⟩) (show Bv C Bl Be.heap (.inst x::vs) (.ref a::xs) from (Mine.e2 (.ref a) xs ⟨rfl,ro.mv Bm.mv,rs⟩)) (vkw:=[]) rfl) A Q E R fun Bl Be x Bm rx=>k _ _ _ (Ay.trans Bm) rx
 obtain ⟨hp,gs,dr,tk,os⟩:=Ao;refine Aa (wpAny_holding (method_of hC hN OX.ga OX.gh OX.cmp (W.defAt Ay.inv D) D.fcls Qu Ix (by unfold lQ;rw[if_neg (by rfl')]) ?_));exact Aa (wpAny_of_eq A9 fin)
end
theorem gU:Wj ([("self":O7),("comp_select_list":O7)])=true:=by decide +kernel
theorem be:(("self":O7)==("comp_select_list":O7))=false:=by decide +kernel
theorem sJ {a b:OY}:List.lookup ("comp_select_list":O7) [(("self":O7),a),(("comp_select_list":O7),b)].reverse=some b:=by
 show List.lookup ("comp_select_list":O7) [(("comp_select_list":O7),b),(("self":O7),a)]=some b;rw[y6,beq_self_eq_true]
theorem qS {a b:OY}:List.lookup ("self":O7) [(("self":O7),a),(("comp_select_list":O7),b)].reverse=some a:=by
 show List.lookup ("self":O7) [(("comp_select_list":O7),b),(("self":O7),a)]=some a;rw[y6,be,y6,beq_self_eq_true]
section
variable {Bk De:Aj}{s':OZ}
theorem zY (W:Wd C g)(I:Bh C Y J s){x:V}{vx:OY}(rx:Bz C Y s.heap x vx):At C (n+1) Y s (call (.ref C.cls) [vx] []) J (RV C (.inst x)):=by
 intro A Q E R K;obtain ⟨N,mN,fI,oI,fd,OX⟩:=W.klass;obtain ⟨⟨nm,q,bs,sn,sub,AI,dd,k0,k1,k2,k3,k5,hC⟩,hN⟩:=(OX.at W I);have N5:=I.old W OX.ob (fun z=>by have:=OX.dat;rw[z] at this;cases this);have HH:=I.noLimit W;obtain ⟨p1,p2,II⟩:=OX.params;obtain ⟨q1,q2,q3,q4,BF⟩:=OX.body;obtain ⟨ok,l1,l2,nc⟩:=OX.scope;obtain ⟨o1,o2,o3,o4,o5⟩:=Cn ok;have hd:=R.dp;obtain ⟨hp,gs,dr,tk,os⟩:=s;refine wpAny_call_obj_init F.objNew hC hN OX.init N5 OX.fcls fun h' xa dx M=>?_;have HM:bindArgs fd ⟨[.ref xa,vx],[]⟩=pure [(("self":O7),.ref xa),(("comp_select_list":O7),vx)]:=by
  rw[Pk (by rw[II];exact gU) OX.dflt.1,II];rfl
 refine wpAny_call (codeAny_call_def (fd:=fd) (binds:=[(("self":O7),.ref xa),(("comp_select_list":O7),vx)]) (by show A.depth+1<recursionLimit;show _<1000;lia) (M.keeps _ _ N5) OX.dat
  (Mine.w12 _ (HH.choose_spec.1.keeps M.keeps) HH.choose_spec.2) ((I.codeRec W OX.code).keeps M.keeps) BF (BindsTo.of_eq HM)
  (fun y hy q=>by have:=xo.mp nc y hy;rw[q] at this;revert this;decide) (fun y hy=>?_) (fun Hj DM hk=>?_) o4 o5 o1)
 ·rcases wk.mp hy with rfl|hy
  ·exact l1
  ·rw[wl.mp hy];exact l2
 ·have HQ:∀b o,hp.get? b=some o->Hj.get? b=some o:=fun b o z=>hk b o (M.keeps b o z);have I1:=M.inst.keeps hk;have e1:(callEnv fd h'.objs.size fI).scope.kind = .function:=o1;refine wpAny_execs_cons (plainObj_wpAny_Assign_Attribute ?_);refine wpAny_Name (wpAny_loadName_local e1 l2 DM (v:=vx) sJ ?_) (by rfl');refine wpAny_Name (wpAny_loadName_local e1 l1 DM (v:=.ref xa) qS ?_) (by rfl');refine store_attr PySem.F.store_object (HQ _ _ hC) (hN.keeps HQ) OX.sa OX.csl Og (fun z=>by have:=M.newX;rw[z,hC] at this;cases this) I1 (fun D1 LK I' FP IJ=>?_) Within.nil (by decide);refine wpAny_execs_nil ⟨rfl,?_⟩;obtain ⟨w3,fR,c₀,d₀,r₀⟩:=I1;obtain ⟨L4,w4,c₁,NP,_,jp⟩:=IJ w3 fR;have GO:w3.dict=some dx:=by
   obtain ⟨om,em,-⟩:=M.inst;have:=hk _ _ em;rw[fR] at this;cases this;exact M.dict _ em
  obtain ⟨o₂,pk,KL,LD,pl⟩:=I';have pk:=w4 ▸ pk;cases (pk);rcases pl with ⟨hn0,_⟩|⟨d',GC,AX,GL⟩
  ·rw[jp dx GO] at hn0;cases hn0
  ·have HO:=jp dx GO;rw[HO] at GC;cases (GC);have keep:∀b o,hp.get? b=some o->D1.get? b=some o:=fun b o z=>FP b o (fun q=>by rw[q,M.newX] at z;cases z) (fun o₃ d₃ w5 w6 q=>by
    rw[fR] at w5;cases w5;rw[GO] at w6;cases w6;rw[q,M.newD] at z;cases z) (HQ b o z)
   have G:=I.ext keep LK;obtain ⟨od,es,ep,eod,r3⟩:=GL;exact K Y _ _ G ⟨xa,dx,L4,od,vx,rfl,(I.free M.newX).1,(I.free M.newD).1,w4,eod,⟨KL,LD,HO,AX⟩,fun hh ehh=>(Mine.e2 od es (Mine.w12 ep ehh r3)),rx.mv G.mv⟩
end
section
variable {Bk De:Aj}{s':OZ}
theorem CodeHd.now (I:Bh C Y J s)(W:Wd C g){c P:O5}(x:CodeHd C.h0 c P):CodeHd s.heap c P:=by
 obtain ⟨o,vs,MP,tf,IQ,tg,inF,J5,tt,ho,hc,r⟩:=x;exact ⟨o,vs,MP,tf,IQ,tg,inF,J5,tt,I.old W ho (fun q=>by rw[q] at hc;cases hc),hc,r⟩
theorem Po {pos:Pos}{cv c:OY}{a b:Int}:∀(l:List OY),TriplesOk l->codeAmong pos (l++[rawInt a,rawInt b,c])=some cv->codeAmong pos l=some cv∨cv=c:=by
 intro l hl
 fun_induction TriplesOk l with
 |case1=>
  intro h;simp only[List.nil_append,codeAmong,rawInt] at h;split at h
  ·cases h;exact .inr rfl
  ·cases h
 |case2 x t y u z AM ih=>
  intro h;simp only[List.cons_append,codeAmong] at h ⊢;split at h
  ·rename_i hc;rw[if_pos hc];exact .inl h
  ·rename_i hc;rw[if_neg hc];exact ih hl h
 |case3 l h1 h2=>exact hl.elim
theorem rA (W:Wd C g)(I:Bh C Y J s)(X:Ba C Y e AA){args:Arguments}{body:O6}{scope:Scope}{p:Pos}{i:Nat}{q:O7}{cl:List (O7×Nat)}(hd:args.defaults=[])(hk:args.kw_defaults=[])(ht:e.tab=some (i,q))(hm:J[i]?=some (.tab q))
 (AL:Fz e scope.names []=some cl):At C n Y s (eval (.Lambda args body scope p) AA) J (RV C (.clo args body scope cl)):=by
 intro A Q E R K;obtain ⟨hq,c,P,FF,hP,hCH⟩:=X.lam i q ht;obtain ⟨mg,mb,hg,hb,⟨bm,ob,b1,b2,b3,b4,b5,b6,b7⟩,_⟩:=W.ns;obtain ⟨ps,eP,JZ,Kf⟩:=I.objs i P _ hP hm;obtain ⟨clos,FI,NT⟩:=Ut X.ce AL;have L2:=I.ns W hg;have hC:=CodeHd.now I W hCH;have HK:=I.old W b4 (fun z=>by rw[z] at b5;cases b5);have hgP:mainGlobals≠P:=fun z=>by
  obtain ⟨o,es,ep,e1,d1,_⟩:=L2;rw[z,eP] at e1;cases e1;cases d1
 have hB:s.heap.BuiltinsAt mg P:=⟨bm,ob,b1,b2,b3,(fun z=>by rw[z,eP] at HK;cases HK;cases b5),HK,b5,b6,b7⟩;rw[arm_eval_Lambda,defaultsOf_eq,hd,hk];show PD C.md A (do let dv ← evalAll [];let kdv ← holding dv (evalAllOpt []);makeFunction "<lambda>" (AA.qual++"<lambda>") args (.expr body) scope AA dv kdv [] p p.line) Q E s;refine Aa (Ag (Aa (wpAny_holding (Ag ?_))));rw[hq];cases hf:codeAmong p ps.toList with
 |some cv=>
  refine kla_makeFunctionHit FI X.gl L2 FF hC eP JZ hf hB fun IE h' tk kk BX=>?_;obtain ⟨c',o',BB,t',rfl,LO,CB,GC,DL⟩:=Kf p cv hf;have CS:∀b o,s.heap.get? b=some o->(h'.push { cls:=.type "function",data:=.func (kla_fn "<lambda>" q args body scope clos ((mg "__name__").getD .none) (.ref c') IE) }).get? b=some o:=fun b o z=>ww _ (kk b o z);have BN:s.heap.get? h'.objs.size=none:=by
   cases z:s.heap.get? h'.objs.size with
   |none=>rfl
   |some o=>have:=kk _ _ z;rw[Co] at this;cases this
  exact K Y _ _ (I.ext CS tk) (Mine.w12 _ rfl ⟨(I.free BN).1,_,xc _ rfl,rfl,rfl,rfl,rfl,rfl,rfl,rfl,NT,c',o',BB,t',rfl,LO,CS _ _ CB,GC,DL⟩)
 |none=>
  refine kla_makeFunction FI X.gl L2 FF hC eP JZ hf hgP hB fun c' IE h' tk hx DG AZ L5 htb=>?_;have CS:∀b o,b≠P->s.heap.get? b=some o->(h'.push (kla_obj "<lambda>" q args body scope clos ((mg "__name__").getD .none) c' IE)).get? b=some o:=fun b o nb z=>ww _ (hx b o nb z);obtain ⟨c2,o',BB,t',E2,CB,GC,DL⟩:=L5;cases E2;have FK:∀{x:O5},s.heap.objs.size≤x->s.heap.get? x=none:=fun {x} hx=>Jf hx;have fc:=I.free (FK DG);have K8:=I.update (ao:=.tab q) hP (h':=h'.push (kla_obj "<lambda>" q args body scope clos ((mg "__name__").getD .none) c' IE)) CS fun M=>by
   refine ⟨_,ww _ htb,?_,fun pos cv I4=>?_⟩
   ·rw[Array.toList_append];exact TriplesOk_snoc _ _ _ _ JZ
   ·rw[Array.toList_append] at I4;rcases Po _ JZ I4 with z|z
    ·obtain ⟨c3,o3,vs3,t3,q1,q2,q3,q4⟩:=Kf pos cv z;exact ⟨c3,o3,vs3,t3,q1,q2,CS _ _ (fun w=>q2.1 (by rw[w];exact (xt hP))) q3,q4⟩
    ·exact ⟨c',o',BB,t',z,fc.1,ww _ CB,GC,DL⟩
  have D2:J.set i (.tab q)=J:=by
   apply List.ext_getElem?
   intro j;rw[List.getElem?_set];split
   ·rename_i AO;subst AO;rw[hm,if_pos (wv.mp hm).1]
   ·rfl
  rw[D2] at K8;have hG:Ck C Y s Y J { s with heap:=h'.push (kla_obj "<lambda>" q args body scope clos ((mg "__name__").getD .none) c' IE),toks:=tk }:=⟨K8.inv.tok tk,K8.mv⟩;exact K Y _ _ hG (Mine.w12 _ rfl ⟨(I.free (FK (wp DG (yn AZ)))).1,_,xc _ rfl,rfl,rfl,rfl,rfl,rfl,rfl,rfl,NT,c',o',BB,t',rfl,fc.1,ww _ CB,GC,DL⟩)
end
section
variable {prog:Program}{w:World}{A:O8}{E:OY->OZ->Prop}{a:O5}{o:Obj}{l:List Int}
abbrev Ea (led:Bool):Obj:={ cls:=.type "set",dict:=none,data:=.set #[] 0 (.fresh 0 0 led) }
abbrev Xr (w:World):Bool:=!w.params.followText "set-order"
theorem Sq {led:Bool}(hl:led=Xr w):Gg prog w (Ea led) [] where
 ex:=⟨rfl,rfl,rfl⟩
 dat:=⟨#[],0,_,rfl,fun e m=>by simp at m,by simp,by decide,rfl,List.Pairwise.nil,by
  show led=true∨_;rw[hl];unfold Xr;cases w.params.followText "set-order"<;>simp⟩
 srt:=List.Pairwise.nil
theorem rG {Q:OY->OZ->Prop}(h:Q (.ref s.heap.objs.size) { s with heap:=s.heap.push (Ea (Xr w)) }):PD (model prog w) A (newSet (.type "set")) Q E s:=by
 unfold newSet setsByText;refine Aa (Aa (wpAny_askSetting (Ag ?_)));dsimp only;simp only[newObj];exact Aa (wpAny_alloc (Ag h))
theorem qX (v:OY){Q₁:OY->OZ->Prop}(h:Q₁ (.ref s.heap.objs.size) { s with heap:=s.heap.push (Ea (Xr w)) }) :
 codeAny (model prog w) A (.call (.builtin "set.__new__") ⟨[.type "set",v],[]⟩) (wants Q₁ E) s:=by
 refine codeAny_of_tree ?_;show PD _ A.in1 (do checkBuiltinCall "set.__new__" ⟨[.type "set",v],[]⟩;again (.builtin "set.__new__" ⟨[.type "set",v],[]⟩)) _ _ s;refine Aa (wpAny_of_eq (F.newCall_set_1 v) (Ag ⟨plainId_quiet F.plain_set_new _,codeAny_builtin F.entry_set_new ?_⟩));rw[O8.under_plainId F.plain_set_new _];unfold Builtin.«set.__new__» Builtin.Frozenset.newClass;have EP:=sub_set_self;obtain ⟨hp,g,d,tk,os⟩:=s;dsimp only
 wp_walk
 refine wpAny_askSetting (Ag ?_);dsimp only;simp only[newObj];refine Aa (wpAny_alloc (Ag ?_));exact Ag h
def Lh (val:Nat->Int):Nat->List Int
 |0=>[]
 |i+1=>Ch (val i) (Lh val i)
theorem Vk {i:Int}:∀(l:List Int),(Ch i l).length≤l.length+1:=by
 intro X
 induction X with
 |nil=>
  exact wu _
 |cons j r ih=>
  rw[Ji];split
  ·exact z7 (ih)
  ·split
   ·exact wu _
   ·exact yh _
theorem jF (val:Nat->Int):∀i,(Lh val i).length≤i:=by
 intro X
 induction X with
 |zero=>
  exact wu _
 |succ i ih=>
  exact wp (Vk _) (z7 (ih))
end
section
variable {prog:Program}{w:World}{A:O8}{R:Result->OZ->Prop}{I:O5}{fp wr:List O5}{G:Array GenState->Array GenState->Prop}{P:Nat->OY->Prop}{St:Nat->OZ->Prop}
theorem cT (W:WalksS prog w A.in1 I fp wr G n P St)(S:O5)(E6:S∉fp)
 (val:Nat->Int) (EO:∀i v,P i v->∃t,v = .int (val i) t) (hb:n+1<scanBound) :
 ∀(k i:Nat) (s:OZ) (o:Obj),n-i=k->i≤n->St i s->s.heap.get? S=some o->Gg prog w o (Lh val i) ->
  (∀s' o',Moved (S::wr) G s s'->s'.heap.get? S=some o'->Gg prog w o' (Lh val n)->R (.ok (.ret .none)) s') ->
  codeAny (model prog w) A (.builtin "set.update.loop" ⟨[.ref S,.ref I],[]⟩) R s:=by
 have JF:S∉wr:=fun h=>E6 (W.sub _ h);have EP:∀b∈wr,b∈S::wr:=fun b hb=>List.mem_cons_of_mem _ hb;intro k
 induction k with
 |zero=>
  intro i s o hk hi BM ho hS hR;have BI:i=n:=ym hi (Nat.le_of_sub_eq_zero hk);subst BI;refine codeAny_builtin F.entry_set_update_loop ?_;show PD _ A.in1 (pyNext (.ref I) >>= _) _ _ s;refine Aa (W.done s _ _ BM fun s' hm=>?_);show PD _ A.in1 (ret OY.none) _ _ s';exact Ag (hR s' o (hm.mono EP) (hm.heap S _ JF ho) hS)
 |succ k ih=>
  intro i s o hk hi BM ho hS hR;have AZ:i<n:=aK1 hk;refine codeAny_builtin F.entry_set_update_loop ?_;show PD _ A.in1 (pyNext (.ref I) >>= _) _ _ s;refine Aa (W.item i s _ _ AZ BM fun v s' hP C0 hm=>?_);obtain ⟨t,rfl⟩:=EO i v hP;have BP:=hm.heap S _ JF ho;show PD _ A.in1 (holding [OY.int (val i) t] (setAdd S (.int (val i) t)) >>= _) _ _ s';refine Aa (wpAny_holding ?_);have BY:(Lh val i).length+1<scanBound:=by have:=jF val i;lia
  refine Ys BP hS BY fun h' o2 b MY HY EQ=>?_;refine Ag ⟨plainId_quiet F.plain_set_update_loop _,ih (i+1) _ o2 (aK2 hk) AZ (W.frame _ s' _ _ C0 (yh _) fun b hb o e=>?_) HY EQ fun DQ o'' MG KP MJ=>?_⟩
  ·rw[MY.2 b (fun h:b=S=>E6 (by rw[← h];exact hb))];exact e
  ·refine hR DQ o'' (Moved.trans W.gtrans ((hm.mono EP).then_heap (yh _) fun b o hb e=>?_) MG) KP MJ;rw[MY.2 b (fun h:b=S=>hb (by rw[h];exact List.mem_cons_self))];exact e
end
section
variable {prog:Program}{w:World}{A:O8}{E:OY->OZ->Prop}{a:O5}{o:Obj}{l:List Int}
theorem sE {i:Int}{u:Tok}{Q:OY->OZ->Prop}(ho:s.heap.get? a=some o)(hS:Gg prog w o l)(BY:l.length+1<scanBound)
 (h:∀h' o',O9.SameBut a s.heap h'->h'.get? a=some o'->Gg prog w o' (Ch i l)->Q .none { s with heap:=h',toks:=s.toks+1 }):PD (model prog w) A (call (.builtin "set.add") [.ref a,.int i u]) Q E s:=by
 refine wpAny_call_entry F.slot_set_add ⟨o,ho,hS.ex.1⟩ F.entry_set_add ?_ (F.args_set_add_2 _ _);unfold Builtin.«set.add» Builtin.Frozenset.oneOther;simp only[List.isEmpty_nil,bind_assoc];unfold Builtin.Frozenset.addrOf;refine Aa (Ag ?_)
 try dsimp only
 refine Aa (Ag ?_)
 try dsimp only
 refine Aa ?_;refine Ys ho hS BY fun h' o' b x1 x2 x3=>?_;show PD _ _ (ret OY.none) _ _ _;exact Ag ⟨_,rfl,h h' o' x1 x2 x3⟩
set_option maxHeartbeats 0 in
theorem gF {l:O5}{items:Array OY}{ns:List Int}{Q:OY->OZ->Prop}
 (hh:A.handled=none) (hl:s.heap.IsList l items) (hi:PyProof.Rows.IntsAre items.toList ns) (hb:items.size+1<scanBound)
 (h:∀(h':O9) (tk:Nat) o',h'.get? s.heap.objs.size=some o'->Gg prog w o' (Lh (fun i=>ns.getD i 0) items.size) ->
  (∀b o,b<s.heap.objs.size->s.heap.get? b=some o->h'.get? b=some o)->Q (.ref s.heap.objs.size) { s with heap:=h',toks:=tk }) :
 PD (model prog w) A (call (.type "set") [.ref l]) Q E s:=by
 obtain ⟨c,tl,hmro⟩:=F.called_set.mro;have MR:=F.called_set.made;have EP:=F.called_set.sub;refine wpAny_call (codeAny_of_tree ?_);show PD _ _ (callAny (.type "set") _) _ _ _;refine Ag ⟨Code.quiet_builtin _ (by rfl'),codeAny_builtin F.entry_type_call ?_⟩;rw[O8.under_plain (weight_type_call_type "set" [.ref l] []) rfl];have h1:=F.called_set.notType;have h2:=F.called_set.canCreate;have hct:=F.typeCall_set_1 (.ref l)
 repeat (any_goals (first|assumption|wp_step))
 refine codeAny_mono (qX (.ref l) (E:=E) (Q₁:=fun obj Ao=>∃led:Bool,led=Xr w∧obj = .ref s.heap.objs.size∧Ao={ s with heap:=s.heap.push (Ea led) }) ⟨_,rfl,rfl,rfl⟩) fun r Ao hr=>?_;cases r with
 |error e=>exact hr
 |ok fl=>
  cases fl with
  |ret obj=>
   obtain ⟨led,L3,rfl,rfl⟩:=hr;have hS:(s.heap.push (Ea led)).get? s.heap.objs.size=some (Ea led):=xc _ rfl;have hT:OZ.TypeIs { s with heap:=s.heap.push (Ea led) } (.ref s.heap.objs.size) "set":=⟨_,hS,rfl⟩;have hli:=F.called_set.init.lookup;have hbi:=F.called_set.init.bind (.ref s.heap.objs.size)
   repeat (any_goals (first|assumption|wp_step))
   refine codeAny_mono (codeAny_call_builtin (R:=wants (fun r Be=>r = .none∧∃h' tk o',Be={ s with heap:=h',toks:=tk }∧h'.get? s.heap.objs.size=some o'∧Gg prog w o' (Lh (fun i=>ns.getD i 0) items.size) ∧
    (∀b o,b<s.heap.objs.size->s.heap.get? b=some o->h'.get? b=some o)) E) F.called_set.init.plain F.entry_set_init (check_set_init_1 hT ?_)) fun pl Be zJ=>?_
   ·obtain ⟨ol,N3,AL,nl,N9⟩:=hl;obtain ⟨ocls,H3,NK,FU⟩:=ol;simp only at AL N9;subst AL;subst N9;have LX:(s.heap.push (Ea led)).get? l=some { cls:=.type "list",dict:=H3,data:=.seq items nl,slots:=FU }:=ww _ N3;have hsls:=F.sub_list_set;have hslf:=F.sub_list_frozenset;have AX:(OY.type "list"==OY.type "dict")=false:=by decide
    have GK:(s.heap.push (Ea led)).IsList l items:=⟨_,LX,rfl,nl,rfl⟩;unfold Builtin.«set.__init__» noKeywords Builtin.Frozenset.updateFrom;generalize hPI:pyIter=PI
    wp_walk
    subst hPI;refine wpAny_pyIter_list GK ?_;refine Aa (wpAny_runValue ?_);have M4:l<s.heap.objs.size:=xl N3;have hh3:A.in1.in1.in1.handled=none:=by simp[hh]
    have ML:l≠(s.heap.push (Ea led)).objs.size:=by
     rw[zm];exact ya (zi M4)
    have E6:s.heap.objs.size∉[(s.heap.push (Ea led)).objs.size,l]:=by
     rw[zm];simp only[List.mem_cons,List.mem_singleton,List.not_mem_nil,or_false,not_or];exact ⟨ya (z5 _),Nat.ne_of_gt M4⟩
    have EO:∀(i:Nat) (v:OY),items[i]?=some v->∃t,v = .int ((fun i=>ns.getD i 0) i) t:=fun i v hv=>
     PyProof.Rows.IntsAre.int_at hi i v (by rw[xy];exact hv)
    have LR:((s.heap.push (Ea led)).push { cls:=.type "list_iterator",data:=.fields #[.ref l,.int 0 0] }).get? s.heap.objs.size=some (Ea led):=ww _ hS;refine cT ((Walks.list hh3 _ l ML items).toS) s.heap.objs.size
     E6 (fun i=>ns.getD i 0) EO hb (items.size-0) 0 _ (Ea led) rfl (wz _)
     ⟨⟨_,xc _ rfl,rfl,rfl⟩,(GK.push _)⟩ LR (Sq L3) ?hR
    case hR=>
     intro s' o' hm BP CI;obtain ⟨h',g',d',LK,os'⟩:=s';have eg:g'=s.gens:=hm.gens;have ed:d'=s.drawn:=hm.drawn;have eo:os'=s.os:=hm.os;subst eg;subst ed;subst eo;show PD _ _ _ _ _ _;refine Ag ?_;show PD _ _ (ret OY.none) _ _ _;refine Ag ⟨rfl,h',LK,o',rfl,BP,CI,fun b o hb e=>?_⟩;have DP:b≠(s.heap.push (Ea led)).objs.size:=by
      rw[zm];exact ya (zi hb)
     exact hm.heap b o (by simp only[List.mem_cons,List.mem_singleton,List.not_mem_nil,or_false,not_or];exact ⟨(ya hb),DP⟩) (ww _ (ww _ e))
   ·cases pl with
    |error e=>exact zJ
    |ok w7=>
     cases w7 with
     |ret r=>
      obtain ⟨rfl,h',tk,o',rfl,BP,CI,FM⟩:=zJ
      repeat (any_goals (first|assumption|wp_step))
      exact h _ _ _ BP CI FM
     |_=>exact zJ.elim
  |_=>exact hr.elim
end
theorem Sl:∀(q:List Int)(k:Nat),k≤q.length->Lh (fun i=>q.getD i 0) k=(q.take k).foldl (fun s i=>Ch i s) []
 |q,0,_=>by rw[List.take_zero];rfl
 |q,k+1,h=>by
  show Ch _ (Lh _ k)=_;rw[Sl q k (by lia),List.take_succ,z8];have:q[k]?=some (q.getD k 0):=by
   rw[x7 (by lia)];simp[List.getD_eq_getElem?_getD];rw[x7 (by lia)]
   rfl
  rw[this]
  rfl
section
variable {Bk De:Aj}{s':OZ}
theorem v8 (I:Bh C Y J s){m:String}{args:List V}{AR:List OY}{v:V}(ra:Bv C Y s.heap args AR)(e:tyV m args J=some (v,Av)):At C n Y s (call (.type m) AR []) Av (RV C v):=by
 intro A Q E R K;refine Nk e fun u hu e=>?_;rw[hu] at ra;obtain ⟨x,_,rfl,rx,rfl⟩:=ra;refine itE e (fun hn e=>?_) fun Z e=>itE e (fun hn e=>oC1 e fun l hl e=>itE e (fun hz e=>?_) fun Z=>nn) fun Z e=>itE e (fun hn e=>oC1 e fun l hl e=>itE e (fun hz e=>?_) fun Z=>nn) fun Z e=>itE e (fun hn e=>oC1 e fun l hl e=>itE e (fun hz e=>oC1 e fun q hq e=>?_) fun Z=>nn) fun Z=>nn
 ·rw[beq_iff_eq.mp hn]
  induction u using V.casesOn with
  |bool b=>
   cases e;obtain rfl:=rx;exact call_int_bool (K _ _ _ (.tok I _) ⟨⟨_,rfl⟩,fun Z=>by cases b<;>decide⟩)
  |_=>exact nn e
 ·rw[beq_iff_eq.mp hn];cases e;obtain ⟨a,vs,c,rfl,gp,rl⟩:=Db I hl rx;have hs:=rl.length;rw[xq] at hs;refine call_tuple_list (Ll gp) (fun h' kk=>?_) (by rw[hs];exact Dh hz);have CS:∀b o,s.heap.get? b=some o->(h'.push { cls:=.type "tuple",data:=.seq vs }).get? b=some o:=fun b o z=>ww _ (kk b o z);have G:=I.ext CS s.toks;exact K _ _ _ G (Mine.e2 _ vs (Mine.w14 0 rfl ((I.free (rJ kk (Co _))).1) (xc _ rfl) (rl.mv G.mv)))
 ·rw[beq_iff_eq.mp hn];cases e;obtain ⟨a,vs,c,rfl,gp,rl⟩:=Db I hl rx;have hs:=rl.length;rw[xq] at hs;refine call_list_seq a (T:="list") (.inl rfl) gp rfl rfl (fun h' c' kk hg=>?_) (by rw[hs];exact Dh hz);exact K _ _ _ (I.alloc (a:=s.heap.objs.size) (h':=h') (tk:=s.toks) (ao:=.lst l) kk (Co _) fun M Z=>(Mine.e2 vs c' ⟨hg,rl.mv M⟩)) (Mine.w12 _ rfl (I.len ▸ Rt ..))
 ·rw[beq_iff_eq.mp hn];cases e;obtain ⟨a,vs,c,rfl,gp,rl⟩:=Db I hl rx;have hs:=rl.length;have hs:=xq ▸ hs;have CT:=Yg hq;have GP:=xm hz;refine gF R.hd (Ll gp) (Hf hq rl) (by unfold scanBound;lia) fun h' tk o' BP hS kk=>?_;refine K _ _ _ (I.ext (fun b o z=>kk b o (xl z) z) tk) (Mine.e2 _ o' ⟨rfl,I.new_off,BP,?_⟩);rw[Sl _ _ (by lia),hs,← CT,List.take_length] at hS;exact hS
end
theorem oQ {α β:Type}{f:α->Option β}{x:α}{y:β}(hx:f x=some y):∀{l:List α}{q:List β},Ec f l=some q->Ec f (l++[x])=some (q++[y]):=fun {l}=>by
 induction l with
 |nil=>intro q h;cases h;exact Fa hx rfl
 |cons z l ih=>exact fun h=>Ei h fun w ws h1 h2 e=>by rw[e];exact Fa h1 (ih h2)
theorem iN {l:List V}{q:List Int}{k:Int}{sm:Bool}(h:Fk l=some q):Fk (l++[.int k sm])=some (q++[k]):=oQ (f:=p0) rfl h
theorem wI:∀(q:List Int)(a:List Int),(q.foldl (fun s i=>Ch i s) a).length≤a.length+q.length:=by
 intro X
 induction X with
 |nil=>
  intro a;exact wu _
 |cons i q ih=>
  intro a;have h1:=ih (Ch i a);have h2:=Vk (i:=i) a;show (q.foldl (fun s i=>Ch i s) (Ch i a)).length≤a.length+(q.length+1);exact wp h1 (wp (Nat.add_le_add_right h2 _) (yr (Nat.succ_add ..)))
section
variable {Bk De:Aj}{s':OZ}
theorem fL (L':Ce g L n)(W:Wd C g){AW:O6}{gens:List PA}{sc:Scope}{p:Pos}{D:O5}{ce:As}:Os C n (.SetComp AW gens sc p) .set D ce AA (eI L AW ce):=by
 intro off Y J Av s AD BA I X hD hA h A Q E R K;refine oC2 h fun v Nu h1 h=>Ps h fun i sm ha h=>itE h (fun hz h=>?_) fun Z=>nn;cases h;show PD C.md A (eval AW AA) _ E s;refine L'.ev (C:=C.wo off) (W.off _) I (X.wo _) h1 A _ E R fun Pr s1 x g1 rx=>?_;obtain ⟨q,o,hq,ho,hS⟩:Fi (C.wo off) Pr s1.heap D .set AD:=hA.gen (AC:=off) (Bx:=Pr) (h':=s1.heap) g1.mv.kp fun o z=>g1.mv.keep D o (I.offs D hD).1 z;rw[ha] at rx;obtain ⟨⟨t,rfl⟩,-⟩:=rx;have GP:=xm hz;have hql:=Yg hq;have C8:=wI q [];refine sE (prog:=C.prog) (w:=C.w) ho hS (xe (z7 (wp C8 (wp (yr ((Nat.zero_add _).trans hql)) GP))) (show 1000+1<4096 by decide)) fun h' o' sb BP CI=>?_;have kk:∀b o,b≠D->s1.heap.get? b=some o->h'.get? b=some o:=fun b o hb e=>(sb.2 b hb).trans e;refine K Pr _ (g1.inv.onlyD hD kk ⟨_,BP⟩) (g1.mv.x.trans (fq kk) (fun b m=>by rw[wl.mp m];exact (g1.inv.offs D hD).1) (fun b m=>by rw[wl.mp m];exact ⟨_,ho⟩)) ⟨q++[i],o',(by rw[ha];exact iN hq),BP,?_⟩;rw[z8];exact CI
theorem Wi:Sb C .set (newSet (.type "set")):=⟨Ea (Xr C.w),rfl,fun off Y h D z=>⟨[],_,rfl,z,Sq rfl⟩,fun A E Q s k=>rG k⟩
set_option tactic.hygienic true in
theorem Nh (L':Ce g L n)(W:Wd C g)(I:Bh C Y J s)(X:Ba C Y e AA){x:O6}{v:V}(h:Jy g L e x J=some (v,Av)):At C n Y s (eval x AA) Av (RV C v):=by
 by_cases hs:Uv x=true
 ·exact cV L' W I X hs h
 ·cases x<;>first|exact absurd rfl hs|skip
  rename_i AW gens scope pos;unfold Jy at h;dsimp only at h;split at h
  ·rename_i vs Nu h1;split at h
   ·rename_i q hq;cases h;exact Rf L' W I X (kd:=.set) (x:=.SetComp AW gens scope pos) rfl rfl (fun D ce AQ=>fL L' W) Wi h1 (by unfold cM;dsimp only;rw[hq])
   ·cases h
  ·cases h
theorem yU (L':Ce g L n)(W:Wd C g){op:BoolOp}{p:Pos}:∀{es:List O6}{Y:List O5}{J Av:Aj}{s:OZ}{v:V},Bh C Y J s->Ba C Y e AA->fG L e op es J=some (v,Av) ->
 At C n Y s (boolOp p op (evalEach es AA)) Av (RV C v):=fun {es}=>by
 induction es with
 |nil=>intro _ _ _ _ _ _ _ h;exact nn h
 |cons x r ih=>
  intro Y J Av s v I X h;cases r with
  |nil=>exact L'.ev W I X h
  |cons y r=>
   intro A Q E R K;refine oC2 (show oe2 (L.ev e x J) none (fun v Ab=>oe1 (On Ab v) none fun b=>we op b (some (v,Ab)) (fG L e op (y::r) Ab))=some (v,Av) from h) fun v1 Nu h1 h=>oC1 h fun b hb h=>?_;refine Aa (L'.ev W I X h1 A _ E R fun Pr s1 vx g1 rx=>Aa (wpAny_standAt (Aa (wpAny_holding (bY g1.inv rx hb A _ E R fun bH s2 c g2 hc=>?_)))));subst hc;have E5:=g1.trans g2;have again:fG L e op (y::r) Nu=some (v,Av)->PD C.md A (boolOp p op (evalEach (y::r) AA)) Q E s2:=fun h=>
    ih g2.inv (X.go E5) h A Q E R fun Td s3 x g3 rx=>K _ _ _ (E5.trans g3) rx
   cases op with
   |And=>cases c with
    |true=>exact again h
    |false=>cases h;exact Ag (K _ _ _ E5 (rx.mv g2.mv))
   |Or=>cases c with
    |true=>cases h;exact Ag (K _ _ _ E5 (rx.mv g2.mv))
    |false=>exact again h
end
theorem Oz {α:Type}:∀{l:List α}{i:Nat}{x:α},l[i]?=some x->(x::l.eraseIdx i).Perm l
 |[],i,x,h=>by simp at h
 |y::l,0,x,h=>by cases h;exact .refl _
 |y::l,i+1,x,h=>by
  have:=Oz (l:=l) (i:=i) (x:=x) (by simpa using h);exact (List.Perm.swap y x _).trans (this.cons y)
theorem Yy {α:Type}{l:List α}{i:Nat}(h:i<l.length):(l.eraseIdx i).length+1=l.length:=by
 rw[List.length_eraseIdx,if_pos h];exact Nat.sub_add_cancel (xe (wz _) h)
section
variable {M:Model}{A:O8}{E:OY->OZ->Prop}
theorem bC {Hx:Source}{n:Nat}{Q:Nat->OZ->Prop}(hn:n≠0)(h:∀i dr,i<n->Q i { s with drawn:=dr }):PD M A (choose Hx n) Q E s:=
 fun Γ p hΓ=>⟨hn,h _ _ (Nat.mod_lt _ (Nat.pos_of_ne_zero hn))⟩
theorem aK {α:Type}:∀(n:Nat)(xs:List α)(s:OZ)(Q:List α->OZ->Prop),xs.length=n->(∀ys dr,ys.Perm xs->Q ys { s with drawn:=dr })->PD M A (drawOrder n xs) Q E s:=by
 intro n
 induction n with
 |zero=>
  intro xs s Q hl h;obtain rfl:=List.length_eq_zero_iff.mp hl;exact Ag (h [] s.drawn (.refl _))
 |succ n IH=>
  intro xs s Q hl h;cases xs with
  |nil=>cases hl
  |cons x xs=>
   refine Aa (bC (by simp) fun i dr hi=>?_);rw[x7 hi];have hg:=x7 hi;have BW:=Yy hi;refine Aa (IH _ _ _ (by rw[hl] at BW;lia) fun ys dr' hp=>Ag ?_);exact h _ _ ((hp.cons _).trans (Oz hg))
end
theorem dX {α:Type}{next:Nat->Nat}:∀(BR k:Nat)(Xj:List α)(out:Array α),Xj.length=BR->(pickOrder.go next BR k Xj out).toList.Perm (out.toList++Xj):=by
 intro X
 induction X with
 |zero=>
  intro k Xj out h;have:Xj=[]:=List.length_eq_zero_iff.mp h;subst this;show out.toList.Perm (out.toList++[]);simp
 |succ BR ih=>
  intro k Xj out h;unfold pickOrder.go;have AZ:next k % Xj.length<Xj.length:=Nat.mod_lt _ (by lia)
  rw[x7 AZ];have BW:=Yy AZ;refine (ih (k+1) _ _ (by lia)).trans ?_;rw[Array.toList_push,xj];exact (List.Perm.append_left _ (Oz (x7 AZ)))
theorem qW {α:Type}(next:Nat->Nat)(xs:Array α):(pickOrder next xs).toList.Perm xs.toList:=by
 have:=dX (next:=next) xs.size 0 xs.toList #[] (by simp);unfold pickOrder;simpa using this
theorem Vm:entryFor table "set.__iter__" = some Builtin.«frozenset.__iter__»:=
 entryFor_alias (id':="frozenset.__iter__") (by kernel_rfl) rfl (by rfl') (by kernel_rfl)
theorem Fp:Slot "set_iterator" "__next__" "set_iterator.__next__":=
 .of (owner:="set_iterator") (n:="__next__") (by rw[typeLookup_type,builtinLookup_eq_fast];kernel_rfl) (by rfl') (by rfl') (by rfl')
  (by first|exact .inl (by rfl')|exact .inr (by rfl')) (by rw[isSubtype_type];kernel_rfl)
theorem Ma:entryFor table "set_iterator.__next__" = some Builtin.«set_iterator.__next__»:=entryFor_of_tree (by kernel_rfl)
theorem Mh (a:OY):argsOk "set_iterator.__next__" ⟨[a],[]⟩:=by unfold argsOk;kernel_rfl
def rU (w:World) (h:O9) (it a:O5) (es:Array (Int×OY)) (ep:Nat) (t:SetTable) (vs:List OY) (i:Nat):Prop:=
 ∃first,h.get? it=some { cls:=.type "set_iterator",data:=.fields #[first,rawInt i,.ref a,rawInt es.size,rawInt ep] } ∧
  ((w.params.followText "set-order" = true∧first=rawInt 0∧vs=(pickOrder (w.params.setOrder a ep) es).toList.map (·.2)) ∨
   (w.params.followText "set-order" = false∧(!t.plain&&decide (es.size>1))=true∧∃(T:O5) (ps:List Nat) (n:Nat),first = .ref T∧T≠it∧h.get? T=some { cls:=.type "tuple",data:=.seq (ps.map fun (p:Nat)=>rawInt p).toArray n }∧(∀p∈ps,p<es.size)∧vs=ps.map fun p=>(es.toList.getD p default).2) ∨
   (w.params.followText "set-order" = false∧(!t.plain&&decide (es.size>1))=false∧∃slot:Nat,first=rawInt slot∧SetTable.below t.place slot=i∧vs=es.toList.map (·.2)))
theorem rU.keep {w:World}{h h':O9}{it a:O5}{es:Array (Int×OY)}{ep:Nat}{t:SetTable}{vs:List OY}{i:Nat}(x:rU w h it a es ep t vs i)(k:∀b o,h.get? b=some o->h'.get? b=some o):rU w h' it a es ep t vs i:=by
 obtain ⟨first,e,m⟩:=x;refine ⟨first,k _ _ e,m.imp id (.imp (fun m=>?_) id)⟩;obtain ⟨a,b,T,ps,n,c,d,f,g⟩:=m;exact ⟨a,b,T,ps,n,c,d,k _ _ f,g⟩
section
variable {prog:Program}{w:World}{A:O8}{E:OY->OZ->Prop}{a:O5}{o:Obj}{l:List Int}{es:Array (Int×OY)}{ep:Nat}{t:SetTable}
theorem gB {xs:Array Nat}(hr:Du xs):SetTable.below xs 0=0:=by
 obtain ⟨h1,h2,h3⟩:=Pz hr 0;rcases Nat.eq_zero_or_pos (SetTable.below xs 0) with q|q
 ·exact q
 ·have AZ:0<xs.toList.length:=by simp;ac_rfl
  have:=h2 0 _ q (x7 AZ)
  lia
theorem vZ {Q:OY->OZ->Prop}(ho:s.heap.get? a=some o)(CR:o.ExactSet)(hd:o.data = .set es ep t)(hf:t.fits es.size=true)(hr:Du t.place)(hz:es.size<scanBound)
 (h:∀it vs h' dr,(∀b o,s.heap.get? b=some o->h'.get? b=some o)->s.heap.get? it=none->vs.Perm (es.toList.map (·.2))->rU w h' it a es ep t vs 0->Q (.ref it) { s with heap:=h',drawn:=dr }) :
 PD (model prog w) A (pyIter (.ref a)) Q E s:=by
 have hT:s.TypeIs (.ref a) "set":=(Mine.w12 o ho CR.1);refine wpAny_pyIter_slot hT F.slot_set_iter (wpAny_call_entry F.slot_set_iter hT Vm ?_ (F.args_set_iter_1 _));unfold Builtin.«frozenset.__iter__» Builtin.Frozenset.slot0 slotArgs;simp only[List.isEmpty_nil,Bool.not_true,Bool.false_eq_true,↓reduceIte,bind_assoc,List.length_nil,bne_self_eq_false];refine Aa (Ag ?_)
 try dsimp only
 refine Aa (Ag ?_);refine Aa (Aa (wpAny_setEntries_of ho hd hf (Ag ?_)));refine Aa (Aa (wpAny_setState_of ho hd hf ?_));refine Aa (Aa (wpAny_askSetting (Ag ?_)));refine Ag ?_;show PD _ _ (if (!w.params.followText "set-order"&&(!t.plain&&decide (es.size>1)))=true then _ else _) _ E s;have fin:∀(first:OY) (Ao:OZ) (vs:List OY),(∀b o,s.heap.get? b=some o->Ao.heap.get? b=some o)->Ao.gens=s.gens->Ao.os=s.os->Ao.toks=s.toks->vs.Perm (es.toList.map (·.2)) ->
  (∀it h',(∀b o,Ao.heap.get? b=some o->h'.get? b=some o)->h'.get? it=some { cls:=.type "set_iterator",data:=.fields #[first,rawInt (0:Nat),.ref a,rawInt es.size,rawInt ep] }->Ao.heap.get? it=none->rU w h' it a es ep t vs 0) ->
  PD (model prog w) A.in1 (do
   let x ← setEpoch a
   let y ← newFields "set_iterator" [first,rawInt 0,OY.ref a,rawInt ↑es.size,rawInt ↑x]
   ret y) (fun fin s'=>∃v,fin=Fin.done (Flow.ret v)∧∃T' r,s'.TypeIs v T'∧typeLookup (OY.type T') (PE "__next__")=pure (some r)∧Q v s') E Ao:=by
  intro first Ao vs k hg KR htk hp hS
  refine Aa (wpAny_setEpoch_of (k _ _ ho) hd hf ?_);refine Aa (wpAny_newObj_type (Ag ⟨_,rfl,"set_iterator",_,(Mine.w12 _ (xc _ rfl) rfl),Fp.lookup,?_⟩));obtain ⟨FL,g1,d1,t1,o1⟩:=Ao;subst hg;subst KR;subst htk;refine h _ vs _ _ (fun b o z=>ww _ (k b o z)) ?_ hp (hS _ _ (fun b o z=>ww _ z) (xc _ rfl) (Co _));cases z:s.heap.get? FL.objs.size with
  |none=>rfl
  |some ob=>have:=k _ _ z;rw[Co] at this;cases this
 split
 ·rename_i hc;rw[wm,zh] at hc;refine Aa (aK es.size (PF es.size) s _ (by simp) fun ys dr hp=>?_);refine Aa (wpAny_newTuple ?_ (by rw[wn,hp.length_eq];simp;exact fits_of_scanBound hz));refine fin _ { s with heap:=_,drawn:=dr } (ys.map fun p=>(es.toList.getD p default).2) (fun b o z=>ww _ z) rfl rfl rfl ?_ fun it h' k e hn=>?_
  ·have h1:=hp.map fun p=>(es.toList.getD p default).2;refine h1.trans ?_;refine List.Perm.of_eq ?_
   apply List.ext_getElem
   ·simp
   ·intro i h1 h2;simp at h1;simp[List.getD_eq_getElem?_getD,h1]
  ·refine ⟨_,e,.inr (.inl ⟨hc.1,hc.2,s.heap.objs.size,ys,0,rfl,?_,k _ _ (xc _ rfl),(fun p m=>wq.mp (hp.mem_iff.mp m)),rfl⟩)⟩;intro q;rw[← q,xc _ rfl] at hn;cases hn
 ·rename_i hc;refine Aa (Ag ?_);cases htx:w.params.followText "set-order" with
  |true=>
   exact fin _ s _ (fun Z Z z=>z) rfl rfl rfl ((qW _ es).map _) fun it h' k e hn=>(Mine.w12 _ e (.inl ⟨htx,rfl,rfl⟩))
  |false=>
   have hdr:(!t.plain&&decide (es.size>1))=false:=by
    rw[htx] at hc;simpa using hc
   exact fin _ s _ (fun Z Z z=>z) rfl rfl rfl (.refl _) fun it h' k e hn=>(Mine.w12 _ e (.inr (.inr ⟨htx,hdr,0,rfl,gB hr,rfl⟩)))
theorem Il {it:O5}{c:OY}{vs:Array OY}{j:Nat}{x:OY}{Q:Unit->OZ->Prop}(hi:s.heap.get? it=some { cls:=c,data:=.fields vs })(hj:j<vs.size)
 (h:∀h',O9.SameBut it s.heap h'->h'.get? it=some { cls:=c,data:=.fields (vs.setIfInBounds j x) }->Q () { s with heap:=h' }):PD (model prog w) A (setField (.ref it) j x) Q E s:=
 wpAny_setField hi rfl hj (h _ (zx ..) (zw _ hi rfl))
theorem Ly {i slot:Nat}{vs:List OY}{Q:Option (OY×Nat)->OZ->Prop}(ho:s.heap.get? a=some o)(hd:o.data = .set es ep t)(hf:t.fits es.size=true)(hr:Du t.place)
 (hl:t.led=true∨w.params.followText "set-order" = true)
 (m:(w.params.followText "set-order" = true∧vs=(pickOrder (w.params.setOrder a ep) es).toList.map (·.2)) ∨
  (w.params.followText "set-order" = false∧(!t.plain&&decide (es.size>1))=false∧SetTable.below t.place slot=i∧vs=es.toList.map (·.2)))
 (h1:∀x next,vs[i]?=some x->(w.params.followText "set-order" = true->next=slot)->(w.params.followText "set-order" = false->SetTable.below t.place next=i+1)->Q (some (x,next)) s)
 (h2:vs[i]?=none->Q none s):PD (model prog w) A (setNext a slot i ep) Q E s:=by
 unfold setNext;refine Aa (wpAny_setState_of ho hd hf ?_);dsimp only;unfold setsByText;refine Aa (Aa (wpAny_askSetting (Ag ?_)));rcases m with ⟨ht,hv⟩|⟨ht,hp,hb,hv⟩
 ·rw[if_pos (show ({ program:=(model prog w).prog,params:=(model prog w).w.params }:Setting).params.followText "set-order" = true from ht),if_neg (by simp)];unfold setWalk;refine Aa (Aa (wpAny_setState_of ho hd hf ?_));dsimp only;refine Aa (Aa (wpAny_askSetting (Ag ?_)));rw[if_pos (show ({ program:=(model prog w).prog,params:=(model prog w).w.params }:Setting).params.followText "set-order" = true from ht)];refine Aa (wpAny_askSetting (Ag ?_));refine Ag ?_;show Q (Option.map (fun e=>(e.2,slot)) (pickOrder (w.params.setOrder a ep) es)[i]?) s;rw[← xy];cases z:(pickOrder (w.params.setOrder a ep) es).toList[i]? with
  |none=>exact h2 (by rw[hv,x6,z];rfl)
  |some y=>exact h1 _ _ (by rw[hv,x6,z];rfl) (fun Z=>rfl) (fun q=>by rw[ht] at q;cases q)
 ·rw[if_neg (show ¬({ program:=(model prog w).prog,params:=(model prog w).w.params }:Setting).params.followText "set-order" = true from by show ¬w.params.followText "set-order" = true;rw[ht];simp)];show PD _ _ (if (!t.plain&&decide (es.size>1))=true then _ else _) _ E s;rw[hp,if_neg (by simp)];show PD _ _ ((if (!t.led && !es.isEmpty)=true then unsupported "set:maker-not-led" else pure ()) >>= _) _ E s;rw[show t.led=true from hl.elim id fun q=>by rw[ht] at q;cases q];refine Aa ?_;rw[if_neg (by simp)];refine Ag (Ag ?_);have BX:t.place.size=es.size:=by
   simp only[SetTable.fits,Bool.and_eq_true,beq_iff_eq,decide_eq_true_eq] at hf;exact hf.1
  rw[hb];cases z:es[i]? with
  |none=>
   refine h2 ?_;rw[hv,x6,xy,z];rfl
  |some y=>
   obtain ⟨AZ,-⟩:=Array.getElem?_eq_some_iff.mp z;have hlp:i<t.place.size:=BX.symm ▸ AZ;have JH:t.place[i]?=some (t.place[i]'hlp):=Aaa _;rw[JH];refine h1 _ _ (by rw[hv,x6,xy,z];rfl) (fun q=>by rw[ht] at q;cases q) fun Z=>?_;have JI:t.place.toList[i]?=some (t.place[i]'hlp):=by rw[xy];exact JH
   obtain ⟨b1,b2,b3⟩:=Pz hr (t.place[i]'hlp+1);rcases Nat.lt_trichotomy (SetTable.below t.place (t.place[i]'hlp+1)) (i+1) with q|q|q
   ·exact absurd (b3 i _ (y8 q) JI) (Nat.not_succ_le_self _)
   ·exact q
   ·have IG:i+1<t.place.toList.length:=by simp;ac_rfl
    have u:=b2 (i+1) _ q (x7 IG);have u2:=Kw hr (z5 i) JI (x7 IG);exact absurd u (xz.mpr u2)
theorem sR {it:O5}{vs:List OY}{i:Nat}{x:OY}{Q:Option OY->OZ->Prop}(ho:s.heap.get? a=some o)(hd:o.data = .set es ep t)(hf:t.fits es.size=true)(hr:Du t.place)(hl:t.led=true∨w.params.followText "set-order" = true)
 (S:rU w s.heap it a es ep t vs i) (hx:vs[i]?=some x) (h:∀h',O9.SameBut it s.heap h'->rU w h' it a es ep t vs (i+1)->Q (some x) { s with heap:=h' }):PD (model prog w) A (pyNext (.ref it)) Q E s:=by
 obtain ⟨first,hit,GI⟩:=S;have hT:s.TypeIs (.ref it) "set_iterator":=(Mine.w12 _ hit rfl);refine Aa (wpAny_attempt (wpAny_callSpecial?_slot (name:=PE "__next__") hT Fp
  (wpAny_call_entry Fp hT Ma ?_ (Mh _))))
 show PD _ _ (fieldsOf (.ref it) >>= _) _ _ s;refine Aa (wpAny_fieldsOf hit rfl ?_);refine Aa (wpAny_setEntries_of ho hd hf ?_);rw[if_neg (by simp)];dsimp only[Int.toNat_natCast];rcases GI with ⟨ht,rfl,hv⟩|⟨ht,hp,T,ps,n,rfl,hTi,hTo,hps,hv⟩|⟨ht,hp,slot,rfl,hb,hv⟩
 ·refine Aa (Ly (slot:=(0:Int).toNat) ho hd hf hr hl (.inl ⟨ht,hv⟩) (fun y next hy e1 Z=>?_) fun hn=>by rw[hx] at hn;cases hn);rw[hx] at hy;cases hy;refine Aa (Il hit (by simp) fun h1 DO g1=>?_);refine Aa (Il g1 (by simp) fun h2 IW g2=>?_);refine Ag (Mine.w12 _ rfl (Ag (h h2 (DO.trans IW) (Mine.w12 _ g2 (.inl ⟨ht,by rw[e1 ht];rfl,hv⟩)))))
 ·refine Aa (wpAny_seqItems hTo rfl ?_);dsimp only;rw[hv,x6] at hx;cases z:ps[i]? with
  |none=>rw[z] at hx;cases hx
  |some p=>
   rw[z] at hx;cases hx;rw[List.getElem?_toArray,x6,z];refine Aa (Aa (wpAny_setState_of ho hd hf ?_));dsimp only;rw[if_neg (by simp)];dsimp only[Int.toNat_natCast];have AZ:=hps p (xt z);rw[Aaa AZ];refine Ag ?_;refine Aa (Il hit (by simp) fun h1 DO g1=>?_);refine Ag (Mine.w12 _ rfl (Ag ?_));rw[← (show (es.toList.getD p default).2=(es.toList.get ⟨p,AZ⟩).2 from by simp[List.getD_eq_getElem?_getD,AZ])];exact h h1 DO (Mine.w12 _ g1 (.inr (.inl ⟨ht,hp,T,ps,n,rfl,hTi,(DO.2 _ hTi).trans hTo,hps,hv⟩)))
 ·refine Aa (Ly (slot:=((slot:Nat):Int).toNat) ho hd hf hr hl (.inr ⟨ht,hp,hb,hv⟩) (fun y next hy Z e1=>?_) fun hn=>by rw[hx] at hn;cases hn);rw[hx] at hy;cases hy;refine Aa (Il hit (by simp) fun h1 DO g1=>?_);refine Aa (Il g1 (by simp) fun h2 IW g2=>?_);refine Ag (Mine.w12 _ rfl (Ag (h h2 (DO.trans IW) (Mine.w12 _ g2 (.inr (.inr ⟨ht,hp,next,rfl,e1 ht,hv⟩))))))
end
section
variable {prog:Program}{w:World}{A:O8}{E:OY->OZ->Prop}{a:O5}{o:Obj}{l:List Int}{es:Array (Int×OY)}{ep:Nat}{t:SetTable}
theorem rU.upd {h h':O9}{it S:O5}{xs:Array OY}{c:Nat}{vs:List OY}{i:Nat}(x:rU w h it a es ep t vs i)(hS:h.get? S=some (seqObj "list" xs c))(k:∀b o,b≠S->h.get? b=some o->h'.get? b=some o):rU w h' it a es ep t vs i:=by
 have K:∀{b o},h.get? b=some o->o.cls≠.type "list"->h'.get? b=some o:=fun e n=>k _ _ (fun q=>n (by rw[q,hS] at e;exact congrArg Obj.cls (wx e).symm)) e;obtain ⟨first,e,m⟩:=x;refine ⟨first,K e (fun q=>absurd (OY.type.inj q) (by decide)),m.imp id (.imp (fun m=>?_) id)⟩;obtain ⟨a,b,T,ps,n,c,d,f,g⟩:=m;exact ⟨a,b,T,ps,n,c,d,K f (fun q=>absurd (OY.type.inj q) (by decide)),g⟩
theorem c7 {it:O5}{vs:List OY}{i:Nat}{Q:Option OY->OZ->Prop}(hh:A.handled=none)(ho:s.heap.get? a=some o)(hd:o.data = .set es ep t)(hf:t.fits es.size=true)(hr:Du t.place)(hl:t.led=true∨w.params.followText "set-order" = true)
 (S:rU w s.heap it a es ep t vs i) (hx:vs[i]?=none) (h:∀h',O9.ExtBut it s.heap h'->Q none { s with heap:=h' }):PD (model prog w) A (pyNext (.ref it)) Q E s:=by
 obtain ⟨first,hit,GI⟩:=S;have hT:s.TypeIs (.ref it) "set_iterator":=(Mine.w12 _ hit rfl);have CF:∀(h1:O9),O9.SameBut it s.heap h1->∀(P:Fin->OZ->Prop),PD (model prog w) A.in1 (do raiseNew (← newExc (.type "StopIteration") [])) P (fun e s'=>
  PD (model prog w) A
   (do
    if (← isInstance e (OY.type "StopIteration"))=true then pure none else throw e)
   Q E s') { s with heap:=h1 }:=by
  intro h1 sb P;refine Aa ?_;refine Aa (wpAny_newObj_type ?_ (by size_fits));refine Aa (m:=firstArgMember _ _) (wpAny_of_eq (a:=OY.none) (by first|rfl|(simp only[firstArgMember];rfl)) ?_);refine wpAny_newObj_type ?_ (by size_fits);dsimp only[raiseNew];refine Aa (wpAny_handled ?_);rw[show A.in1.handled=none from hh];refine Aa (Ag (wpAny_throw ?_));refine Aa (wpAny_isInstance (T:="StopIteration") (b:=true) (Mine.w12 _ (xc _ rfl) rfl) isSubtype_stop ?_);exact Ag (h _ ((sb.extBut.push _).push _))
 refine Aa (wpAny_attempt (wpAny_callSpecial?_slot (name:=PE "__next__") hT Fp
  (wpAny_call_entry Fp hT Ma ?_ (Mh _))))
 show PD _ _ (fieldsOf (.ref it) >>= _) _ _ s;refine Aa (wpAny_fieldsOf hit rfl ?_);refine Aa (wpAny_setEntries_of ho hd hf ?_);rw[if_neg (by simp)];dsimp only[Int.toNat_natCast];rcases GI with ⟨ht,rfl,hv⟩|⟨ht,hp,T,ps,n,rfl,hTi,hTo,hps,hv⟩|⟨ht,hp,slot,rfl,hb,hv⟩
 ·refine Aa (Ly (slot:=(0:Int).toNat) ho hd hf hr hl (.inl ⟨ht,hv⟩) (fun y next hy e1 Z=>by rw[hx] at hy;cases hy) fun hn=>?_);refine Aa (Il hit (by simp) fun h1 DO g1=>?_);exact CF h1 DO _
 ·refine Aa (wpAny_seqItems hTo rfl ?_);dsimp only;rw[hv,x6] at hx;cases z:ps[i]? with
  |some p=>rw[z] at hx;cases hx
  |none=>
   rw[List.getElem?_toArray,x6,z];refine Aa (Il hit (by simp) fun h1 DO g1=>?_);refine Aa (Il g1 (by simp) fun h2 IW g2=>?_);exact CF h2 (DO.trans IW) _
 ·refine Aa (Ly (slot:=((slot:Nat):Int).toNat) ho hd hf hr hl (.inr ⟨ht,hp,hb,hv⟩) (fun y next hy Z e1=>by rw[hx] at hy;cases hy) fun hn=>?_);refine Aa (Il hit (by simp) fun h1 DO g1=>?_);exact CF h1 DO _
theorem jM {R:Result->OZ->Prop}(hh:A.handled=none)(hd:o.data = .set es ep t)(hf:t.fits es.size=true)(hr:Du t.place)(hl:t.led=true∨w.params.followText "set-order" = true){it S:O5}{vs:List OY}(JL:OY)(BX:vs.length≤sizeLine) :
 ∀(k:Nat) (s:OZ) (c:Nat),k≤vs.length->s.heap.get? a=some o->s.heap.get? S=some (seqObj "list" (vs.take (vs.length-k)).toArray c)->rU w s.heap it a es ep t vs (vs.length-k) ->
 (∀h' c',(∀b ob,b≠it->b≠S->s.heap.get? b=some ob->h'.get? b=some ob)->h'.get? S=some (seqObj "list" vs.toArray c')->R (.ok (.ret JL)) { s with heap:=h' }) ->
 codeAny (model prog w) A (.builtin "list.extend.loop" ⟨[.ref S,.ref it,JL],[]⟩) R s:=by
 intro X
 induction X with
 |zero=>
  intro s c hk ho hS x h;refine codeAny_builtin F.entry_extend_loop ?_;show PD _ A.in1 (pyNext (.ref it) >>= _) _ _ s;refine Aa (c7 hh ho hd hf hr hl x (by simp) fun h' sb=>?_);refine Ag (h h' c (fun b ob q1 q2 e=>sb b ob q1 e) ?_);rw[Nat.sub_zero,List.take_length] at hS;exact sb _ _ (fun q=>by obtain ⟨_,e,_⟩:=x;rw[← q,hS] at e;exact absurd (OY.type.inj (congrArg Obj.cls (wx e))) (by decide)) hS
 |succ k ih=>
  intro s c hk ho hS x h;refine codeAny_builtin F.entry_extend_loop ?_;show PD _ A.in1 (pyNext (.ref it) >>= _) _ _ s;have AX:S≠it:=fun q=>by obtain ⟨_,e,_⟩:=x;rw[← q,hS] at e;exact absurd (OY.type.inj (congrArg Obj.cls (wx e))) (by decide)
  have hai:a≠it:=fun q=>by obtain ⟨_,e,_⟩:=x;rw[← q,ho] at e;cases e;cases hd
  have haS:a≠S:=fun q=>by rw[q,hS] at ho;cases ho;cases hd
  have hi:vs.length-(k+1)<vs.length:=Nat.sub_lt (xd (Nat.succ_pos _) hk) (Nat.succ_pos _);refine Aa (sR ho hd hf hr hl x (x7 hi) fun h' sb x'=>?_);have CI:h'.get? S=some (seqObj "list" (vs.take (vs.length-(k+1))).toArray c):=(sb.2 _ AX).trans hS;have AT:vs.length-(k+1)+1=vs.length-k:=Nat.sub_add_cancel (Nat.sub_pos_of_lt hk);refine Aa (wpAny_updateSeq CI rfl (Ag ⟨plainId_quiet F.plain_extend_loop _,?_⟩) (by show (vs.take _).toArray.size≤_;simp;lia) (by show ((vs.take _).toArray.push _).size≤_;simp;lia));rw[AT] at x';obtain ⟨c2,EQ⟩:∃c2,(h'.update S (Obj.mapSeq fun x=>x.push vs[vs.length-(k+1)])).get? S=some (seqObj "list" (vs.take (vs.length-k)).toArray c2):=by
   have:(vs.take (vs.length-(k+1))).toArray.push vs[vs.length-(k+1)]=(vs.take (vs.length-k)).toArray:=by
    rw[← AT,x7 hi];simp
   have g:=get?_update_seq CI fun x=>x.push vs[vs.length-(k+1)];rw[this] at g;exact ⟨_,g⟩
  exact ih { s with heap:=h'.update S (Obj.mapSeq fun x=>x.push vs[vs.length-(k+1)]) } c2 (by lia) ((yk _ _ haS.symm).trans ((sb.2 _ hai).trans ho)) EQ (x'.upd CI fun b ob q e=>(yk _ _ (Ne.symm q)).trans e) fun h2 c' kk e=>
   h h2 c' (fun b ob q1 q2 e=>kk b ob q1 q2 ((yk _ _ (Ne.symm q2)).trans ((sb.2 _ q1).trans e))) e
set_option tactic.hygienic true in
set_option backward.match.sparseCases true in
theorem dB {Q:List OY->OZ->Prop}(hh:A.handled=none)(ho:s.heap.get? a=some o)(CR:o.ExactSet)(hd:o.data = .set es ep t)(hf:t.fits es.size=true)(hr:Du t.place)(hz:es.size<scanBound)
 (hl:t.led=true∨w.params.followText "set-order" = true)
 (h:∀(vs:List OY) h' dr,(∀b o,s.heap.get? b=some o->h'.get? b=some o)->vs.Perm (es.toList.map (·.2))->Q vs { s with heap:=h',drawn:=dr }):PD (model prog w) A (collect (.ref a)) Q E s:=by
 refine Aa (wpAny_runValue (codeAny_builtin entry_proto_collect' ?_));show PD _ _ (do again (.builtin "list.__iadd__" ⟨[← newList [],.ref a],[]⟩)) _ _ s;refine Aa (wpAny_newList (Ag ⟨Code.quiet_builtin _ (by rfl'),codeAny_builtin entry_list_iadd' ?_⟩));show PD _ _ (Builtin.List.listExtendWith (.ref s.heap.objs.size) (.ref a) (.ref s.heap.objs.size)) _ _ { s with heap:=s.heap.push (seqObj "list" #[] 0) };have BP:(s.heap.push (seqObj "list" #[] 0)).get? a=some o:=ww _ ho;have AX:s.heap.objs.size≠a:=fun q=>yy _ (Nat.lt_of_lt_of_eq (xl ho) q);refine Aa (wpAny_typeOf (T:="set") (Mine.w12 o BP CR.1) ?_);rw[if_neg (by simp[Builtin.List.listSameRef,AX])];refine Aa (vZ BP CR hd hf hr hz fun it vs h1 dr k1 hn hp x=>?_);refine Aa (wpAny_holding ?_);have J1:({ s with heap:=h1,drawn:=dr }:OZ).TypeIs (.ref a) "set":=(Mine.w12 o (k1 _ _ BP) CR.1);refine Aa (wpAny_specialOf J1 F.slot_set_len.lookup ?_);generalize JE:("set.__len__":String)=id0
 wp_delta
 rw[show splitId id0=some ("set","__len__") from by subst JE;decide +kernel];subst JE;refine Aa (wpAny_isInstance (T:="set") (b:=true) J1 (by rw[isSubtype_type];kernel_rfl) ?_);refine Aa (wpAny_typeOf J1 ?_);refine Ag ?_;have HQ:∀b ob,s.heap.get? b=some ob->h1.get? b=some ob:=fun b ob e=>k1 _ _ (ww _ e);have FA:=k1 _ _ (xc _ rfl);show PD _ _ (rule "list.extend.makes-room" >>= fun Z=>Builtin.List.listTouch (.ref s.heap.objs.size) >>= fun Z=>
  again (.builtin "list.extend.loop" ⟨[.ref s.heap.objs.size,.ref it,.ref s.heap.objs.size],[]⟩)) _ _ _
 refine Aa (wpAny_rule ?_);refine Aa ?_;show PD _ _ (updateSeq s.heap.objs.size (·.push .none) >>= fun Z=>updateSeq s.heap.objs.size (·.pop)) _ _ _;refine Aa (wpAny_updateSeq FA rfl ?_ (wz _) (by show (1:Nat)≤_;lia));have EQ:=get?_update_seq FA (·.push OY.none);refine wpAny_updateSeq EQ rfl ?_ (by show (1:Nat)≤_;rw[sizeLine_eq];lia) (wz _);obtain ⟨c3,GW⟩:∃c3,((h1.update s.heap.objs.size (Obj.mapSeq (·.push OY.none))).update s.heap.objs.size (Obj.mapSeq (·.pop))).get? s.heap.objs.size=some (seqObj "list" #[] c3):=⟨_,get?_update_seq EQ (·.pop)⟩;have wc:∀b ob,b≠s.heap.objs.size->h1.get? b=some ob->((h1.update s.heap.objs.size (Obj.mapSeq (·.push OY.none))).update s.heap.objs.size (Obj.mapSeq (·.pop))).get? b=some ob:=
  fun b ob hb e=>(yk _ _ (Ne.symm hb)).trans ((yk _ _ (Ne.symm hb)).trans e)
 refine Ag ⟨plainId_quiet F.plain_extend_loop _,jM hh hd hf hr hl _ (show vs.length≤sizeLine from by rw[(show vs.length=es.size from by rw[hp.length_eq];simp)];exact fits_of_scanBound hz) vs.length _ c3 (wu _) (wc _ _ AX.symm (k1 _ _ BP)) ?_ ?_ fun h2 c' kk e=>?_⟩
 ·rw[Nat.sub_self];exact GW
 ·rw[Nat.sub_self];exact x.upd FA wc
 ·show PD (model prog w) A (do
   let o ← load s.heap.objs.size
   match o.data with
   |.seq xs _=>pure xs.toList
   |_=>unsupported "internal:collect") Q E _
  refine Aa (wpAny_load e ?_);refine Ag (h vs h2 dr (fun b ob q=>?_) hp);have hb:b≠s.heap.objs.size:=fun z=>by have:=xl q;exact yy _ (by rw[← z] at this;exact this)
  exact kk _ _ (fun z=>by rw[z] at q;have:=ww (seqObj "list" #[] 0) q;rw[hn] at this;cases this) hb (wc _ _ hb (HQ _ _ q))
theorem yL:∀{l l':List Int},l.Perm l'->l.Pairwise (·≤·)->l'.Pairwise (·≤·)->l=l':=
 fun p h1 h2=>p.eq_of_pairwise (fun a b Z Z x y=>Int.le_antisymm x y) h1 h2
theorem iV {Q:OY->OZ->Prop}(hh:A.handled=none)(ho:s.heap.get? a=some o)(hS:Gg prog w o l)(KW:l.length<64)
 (h:∀(L:O5) h' dr (vs:Array OY) n,(∀b o,s.heap.get? b=some o->h'.get? b=some o)->s.heap.get? L=none->h'.get? L=some (seqObj "list" vs n)->IntsAre vs.toList l->Q (.ref L) { s with heap:=h',drawn:=dr }) :
 PD (model prog w) A (call (.builtin "sorted") [.ref a]) Q E s:=by
 obtain ⟨es,ep,t,hd,he,hp,hz,hf,hr,hl⟩:=hS.dat;refine Calls.call_function_entry kind_sorted plain_sorted entry_sorted (args_sorted1 _) ?_;refine Aa (m:=checkCount "sorted" 1 1 _) (Ag ?_);refine Aa (dB hh ho hS.ex hd hf hr hz hl fun vs h1 dr k1 OK=>?_);have hI:IntsAre vs (vs.map numOf):=intsAre_map vs fun v m=>by
  have m2:=OK.mem_iff.mp m;obtain ⟨e,me,rfl⟩:=xr.mp m2;obtain ⟨k,u,rfl⟩:=he e me;exact ⟨k,u,rfl⟩
 have N8:(vs.map numOf).Perm l:=by
  refine (OK.map numOf).trans (List.Perm.trans (List.Perm.of_eq ?_) hp);rw[z6];refine Aag fun e me=>?_;obtain ⟨k,u,rfl⟩:=he e me
  rfl
 have AV:vs.length<64:=by
  have:=N8.length_eq;rw[wn] at this
  lia
 refine Aa (wpAny_newList ?_ (by rw[sizeLine_eq];lia));have hL:=xc h1 (o:=seqObj "list" vs.toArray 0) rfl;have hLn:s.heap.get? h1.objs.size=none:=by
  cases z:s.heap.get? h1.objs.size with
  |none=>rfl
  |some ob=>exact absurd (xl (k1 _ _ z)) (yy _)
 refine Aa (wpAny_holding (wpAny_call_entry slot_list_sort ⟨_,hL,rfl⟩ entry_list_sort (list_sort_tree hL hI AV fun out ns' a1 a2 a3=>⟨_,rfl,?_⟩) (args_list_sort _)));obtain ⟨e,DH⟩:=sortedHeap_at (out:=out) hL;refine Ag ⟨_,rfl,?_⟩;have hn:ns'=l:=yL (a2.trans N8) a3 (hS.srt.imp yp);refine h _ _ dr out e (fun b ob q=>?_) hLn DH (hn ▸ a1);have q1:=k1 _ _ q;have AZ:=xl q1;exact (sortedHeap_old (ya AZ) (by rw[size_push'];exact zi AZ)).trans (ww _ q1)
end
def GG (xs:Array Keyed) (i:Nat):Int:=match xs[i]? with
 |some p=>numOf p.2
 |none=>0
theorem Mg {xs ys:Array Keyed}{i j:Nat}(h:xs[i]?=ys[j]?):GG xs i=GG ys j:=by unfold GG;rw[h]
def Up (xs:Array Keyed) (m:Nat):Prop:=∀i j,i<j->j<xs.size->(j<m->K xs i≤K xs j)∧(K xs i=K xs j->GG xs i<GG xs j)
def Dn (xs:Array Keyed) (m q:Nat):Prop:=∀i j,i<j->j<xs.size ->
 (j<m->K xs j≤K xs i∧(i<q->q≤j->K xs j<K xs i)∧(q≤i->K xs i=K xs j))∧(K xs i=K xs j->(i<q∧j<m->GG xs j<GG xs i)∧(¬(i<q∧j<m)->GG xs i<GG xs j))
theorem Up.mono {xs:Array Keyed}{m m':Nat}(h:Up xs m)(k:m'≤m):Up xs m':=fun i j a b=>⟨fun c=>(h i j a b).1 (by ac_rfl),(h i j a b).2⟩
theorem Up.one {xs:Array Keyed}{m:Nat}(h:Up xs m):Up xs 1:=fun i j a b=>⟨fun c=>by lia,(h i j a b).2⟩
theorem Up.next {xs:Array Keyed}{m:Nat}(h:Up xs m)(hm:1≤m)(hs:m<xs.size)(hk:K xs (m-1)≤K xs m):Up xs (m+1):=fun i j a b=>⟨fun c=>by
 rcases ye j m with q|q
 ·exact (h i j a b).1 q
 ·have:j=m:=by lia
  subst this;rcases ye i (j-1) with r|r
  ·exact z4 ((h i (j-1) r (by lia)).1 (by lia)) hk
  ·have:i=j-1:=by lia
   rw[this];exact hk,(h i j a b).2⟩
theorem Nj {xs:Array Keyed}{i j:Nat}(hj:j≤xs.size)(k:Nat) :
 GG (mirror xs i j ((j-i) / 2)) k=if i≤k∧k<j then GG xs (i+j-1-k) else GG xs k:=by
 have e:=getElem?_mirror_all (i:=i) hj k;split
 ·rename_i h;rw[if_pos h] at e;exact Mg e
 ·rename_i h;rw[if_neg h] at e;exact Mg e
theorem Yr {xs:Array Keyed}{Hx d:Nat}(hs:Hx<xs.size)(hd:d≤Hx)(k:Nat) :
 GG (bubble xs Hx d) k=if k=Hx-d then GG xs Hx else if Hx-d<k∧k≤Hx then GG xs (k-1) else GG xs k:=by
 have e:=getElem?_bubble hs d hd k;split
 ·rename_i h;rw[if_pos h] at e;exact Mg e
 ·rename_i h;rw[if_neg h] at e;split
  ·rename_i h2;rw[if_pos h2] at e;exact Mg e
  ·rename_i h2;rw[if_neg h2] at e;exact Mg e
theorem Dn.turn {xs:Array Keyed}{m q:Nat}(h:Dn xs m q)(hq:q≤m)(hm:m≤xs.size):Dn (mirror xs q m ((m-q) / 2)) m m:=by
 intro i j AO hj;rw[mirror_size] at hj;rw[K_mirror hm,K_mirror hm,Nj hm,Nj hm];by_cases h1:q≤i∧i<m
 ·rw[if_pos h1,if_pos h1];by_cases h2:q≤j∧j<m
  ·rw[if_pos h2,if_pos h2];have:=h (q+m-1-j) (q+m-1-i) (aN1 AO h2.2) (xd (aN2 h1.1 h1.2) hm);have e:=(this.1 (aN2 h1.1 h1.2)).2.2 (aN3 h2.2);exact ⟨fun Z=>⟨Int.le_of_eq e,fun Z z=>absurd h2.2 (xz.mpr z),fun z=>absurd h1.2 (xz.mpr z)⟩,fun Z=>⟨fun Z=>(this.2 e).2 fun c=>xz.mpr (aN3 h2.2) c.1,absurd ⟨h1.2,h2.2⟩⟩⟩
  ·rw[if_neg h2,if_neg h2];have ET:¬j<m:=fun z=>h2 ⟨yn (xe h1.1 AO),z⟩;have:=h (q+m-1-i) j (xd (aN2 h1.1 h1.2) (zf ET)) hj;exact ⟨fun z=>absurd z ET,fun e=>⟨fun c=>absurd c.2 ET,fun Z=>(this.2 e).2 fun c=>ET c.2⟩⟩
 ·rw[if_neg h1,if_neg h1];by_cases h2:q≤j∧j<m
  ·rw[if_pos h2,if_pos h2];have IY:i<q:=zj fun z=>h1 ⟨z,yb AO h2.2⟩;have:=h i (q+m-1-j) (xd IY (aN3 h2.2)) (xd (aN2 h2.1 h2.2) hm);have e:=(this.1 (aN2 h2.1 h2.2)).2.1 IY (aN3 h2.2);exact ⟨fun Z=>⟨yp e,fun Z z=>absurd h2.2 (xz.mpr z),fun z=>absurd (yb AO h2.2) (xz.mpr z)⟩,fun z=>absurd z (Int.ne_of_gt e)⟩
  ·rw[if_neg h2,if_neg h2];have:=h i j AO hj;exact ⟨fun c=>⟨(this.1 c).1,fun Z z=>absurd c (xz.mpr z),fun z=>absurd (yb AO c) (xz.mpr z)⟩,fun e=>⟨fun c=>(this.2 e).1 ⟨zj fun z=>h1 ⟨z,c.1⟩,c.2⟩,fun c=>(this.2 e).2 fun d=>c ⟨yb AO d.2,d.2⟩⟩⟩
theorem Dn.up {xs:Array Keyed}{m:Nat}(h:Dn xs m m)(hm:m≤xs.size):Up (mirror xs 0 m ((m-0) / 2)) m:=by
 intro i j AO hj;rw[mirror_size] at hj;rw[K_mirror hm,K_mirror hm,Nj hm,Nj hm];by_cases h2:0≤j∧j<m
 ·have h1:0≤i∧i<m:=⟨wz _,yb AO h2.2⟩;rw[if_pos h1,if_pos h2,if_pos h1,if_pos h2];have:=h (0+m-1-j) (0+m-1-i) (aN1 AO h2.2) (xd (aN2 h1.1 h1.2) hm);exact ⟨fun Z=>(this.1 (aN2 h1.1 h1.2)).1,fun e=>(this.2 e.symm).1 ⟨aN2 h2.1 h2.2,aN2 h1.1 h1.2⟩⟩
 ·rw[if_neg h2,if_neg h2];have ET:¬j<m:=fun z=>h2 ⟨wz _,z⟩;refine ⟨fun c=>absurd c ET,fun e=>?_⟩;by_cases h1:0≤i∧i<m
  ·rw[if_pos h1] at e ⊢;exact ((h _ j (xd (aN2 h1.1 h1.2) (zf ET)) hj).2 e).2 fun d=>ET d.2
  ·rw[if_neg h1] at e ⊢;exact ((h _ j AO hj).2 e).2 fun d=>ET d.2
theorem Dn.less {xs:Array Keyed}{m:Nat}(h:Dn xs m m)(hm:m<xs.size)(hk:m=0∨K xs m<K xs (m-1)):Dn xs (m+1) m:=fun i j AO hj=>by
 have:=h i j AO hj;have GD:j=m->K xs j<K xs i:=fun e=>by
  subst e;have hk:=hk.resolve_left (Nat.ne_of_gt (xe (wz _) AO));rcases ye i (j-1) with r|r
  ·exact Int.lt_of_lt_of_le hk ((h i (j-1) r (xe (yw ..) hm)).1 (Nat.sub_lt (xe (wz _) AO) Nat.one_pos)).1
  ·rw[ym (Aah AO) r];exact hk
 refine ⟨fun c=>?_,fun e=>⟨fun c=>?_,fun c=>(this.2 e).2 fun d=>c ⟨d.1,zi d.2⟩⟩⟩
 ·rcases ye j m with q|q
  ·exact ⟨(this.1 q).1,fun Z z=>absurd q (xz.mpr z),fun z=>absurd (yb AO q) (xz.mpr z)⟩
  ·have q:=GD (ym (y8 c) q);exact ⟨yp q,fun Z Z=>q,fun z=>absurd (xd AO (y8 c)) (xz.mpr z)⟩
 ·rcases ye j m with q|q
  ·exact (this.2 e).1 ⟨c.1,q⟩
  ·exact absurd e (Int.ne_of_gt (GD (ym (y8 c.2) q)))
theorem Dn.same {xs:Array Keyed}{m q:Nat}(h:Dn xs m q)(hq:q<m)(hm:m<xs.size)(hk:K xs m=K xs (m-1)):Dn xs (m+1) q:=fun i j AO hj=>by
 have:=h i j AO hj;have GD:j=m->K xs j≤K xs i∧(i<q->K xs j<K xs i)∧(q≤i->K xs i=K xs j):=fun e=>by
  subst e;rw[hk];rcases ye i (j-1) with r|r
  ·have t:=(h i (j-1) r (xe (yw ..) hm)).1 (Nat.sub_one_lt_of_lt hq);exact ⟨t.1,fun a=>t.2.1 a (Aah hq),t.2.2⟩
  ·rw[ym (Aah AO) r];exact ⟨z9 _,fun a=>absurd a (xz.mpr (Aah hq)),fun Z=>rfl⟩
 rcases ye j m with r|r
 ·exact ⟨fun Z=>this.1 r,fun e=>⟨fun c=>(this.2 e).1 ⟨c.1,r⟩,fun c=>(this.2 e).2 fun d=>c ⟨d.1,zi d.2⟩⟩⟩
 ·refine ⟨fun c=>?_,fun e=>⟨fun c=>?_,fun c=>(this.2 e).2 fun d=>c ⟨d.1,zi d.2⟩⟩⟩
  ·have l:=GD (ym (y8 c) r);exact ⟨l.1,fun a Z=>l.2.1 a,l.2.2⟩
  ·exact absurd e (Int.ne_of_gt ((GD (ym (y8 c.2) r)).2.1 c.1))
theorem Up.fall {xs:Array Keyed}{n:Nat}(h:Up xs n)(hn:n<xs.size)(h1:1≤n)(ha:∀k,k<n->K xs k=K xs (n-1)):Dn xs n 0:=fun i j AO hj=>by
 have:=h i j AO hj;refine ⟨fun c=>?_,fun e=>⟨fun c=>by lia,fun Z=>this.2 e⟩⟩;rw[ha i (by grind),ha j c];exact ⟨by bv_omega,fun a=>by bv_omega,fun Z=>rfl⟩
section
variable {prog:Program}{w:World}{A:O8}{E:OY->OZ->Prop}{AK:Array Keyed}
theorem yR {st:SortSt}{a A7:Nat}{Q:AscSt->SortSt->Prop}(h0:IntKeys AK)(hn:A7≤AK.size)(ha:1≤a)(OB:a≤A7)(hB:SBase AK st)(hs:Up (arrOf st) a)
 (h:∀n,a≤n->n≤A7->Up (arrOf st) n->(n=A7∨K (arrOf st) n<K (arrOf st) (n-1))->Q (none,n) st):wpS (model prog w) A E s (ascLoop a A7) Q st:=by
 refine wpS_forRange (I:=fun x c AN=>AN=st∧c=(none,x)∧Up (arrOf st) x) (fun x c AN GH N2=>?_) (fun c AN=>?_) ⟨rfl,rfl,hs⟩
 ·rintro ⟨rfl,rfl,BJ⟩;refine wpS_bind (wpS_ltK hB h0 (by ac_rfl) (by lia) ?_);by_cases hl:K (arrOf AN) x<K (arrOf AN) (x-1)
  ·rw[decide_eq_true hl];exact wpS_pure (h x GH (by lia) BJ (.inr hl))
  ·rw[decide_eq_false hl];exact wpS_pure ⟨rfl,rfl,BJ.next (by ac_rfl) (by rw[hB.size];ac_rfl) (by lia)⟩
 ·rintro ⟨rfl,rfl,BJ⟩;rw[Nat.max_eq_right OB] at BJ ⊢;exact h A7 OB (wu _) BJ (.inl rfl)
theorem mP {st:SortSt}{n A7:Nat}{Q:Option Nat->SortSt->Prop}(h0:IntKeys AK)(hn:A7≤AK.size)(h1:1≤n)(EJ:n≤A7)(hB:SBase AK st)(hs:Dn (arrOf st) n n)
 (h:∀m AN,SBase AK AN->1≤m->m≤A7->Up (arrOf AN) m->Q (some m) AN):wpS (model prog w) A E s (tail3 n A7) Q st:=by
 have BQ:SBase AK (setArr st (mirror (arrOf st) 0 n ((n-0) / 2))):=hB.setArr (mirror_perm _ _ _ _);exact wpS_bind (wpS_reverse (wpS_bind (yR h0 hn h1 EJ BQ (hs.up (by rw[hB.size];ac_rfl)) fun m a b c Z=>wpS_pure (h m _ BQ (by ac_rfl) b c))))
theorem fk {st:SortSt}{n A7:Nat}{Q:DescSt->SortSt->Prop}(h0:IntKeys AK)(hn:A7≤AK.size)(h1:1≤n)(EJ:n≤A7)(hB:SBase AK st)(hs:Dn (arrOf st) n (n-1))
 (h:∀m CG AN,SBase AK AN->n≤m->m≤A7->CG+1≤m->Dn (arrOf AN) m (m-(CG+1))->Q (none,m,CG) AN):wpS (model prog w) A E s (descLoop n A7) Q st:=by
 refine wpS_forRange (I:=fun x c AN=>∃CG,c=(none,x,CG)∧SBase AK AN∧CG+1≤x∧Dn (arrOf AN) x (x-(CG+1))) (fun x c AN GH N2=>?_) (fun c AN=>?_) (Mine.w14 0 rfl hB h1 hs)
 ·rintro ⟨CG,rfl,BQ,hq,BJ⟩;have BX:=BQ.size;dsimp only;refine wpS_bind (wpS_ltK BQ h0 (by ac_rfl) (by lia) ?_);by_cases hl:K (arrOf AN) x<K (arrOf AN) (x-1)
  ·rw[decide_eq_true hl];dsimp only[if_true];have t:=(BJ.turn (yw ..) (by lia));by_cases hneq:CG>0
   ·rw[if_pos hneq];refine wpS_bind (wpS_reverse (wpS_pure (Mine.w14 0 rfl (BQ.setArr (mirror_perm _ _ _ _)) (by lia) ?_)));refine t.less (by rw[mirror_size];lia) (.inr ?_);rw[K_mirror (by lia),K_mirror (by lia),if_neg (fun z=>yy _ z.2),if_pos (c:=x-(CG+1)≤x-1∧x-1<x) ⟨Nat.sub_le_sub_left (Nat.le_add_left ..) x,Nat.sub_one_lt_of_le (xd (show 0<n from h1) GH) (wu _)⟩];have:=((BJ (x-(CG+1)) (x-1) (Nat.sub_lt_sub_left (xd (Nat.succ_lt_succ hneq) hq) (Nat.succ_lt_succ hneq)) (by lia)).1 (by lia)).2.2 (wu _);rw[Nat.add_sub_assoc (wp h1 GH),Nat.add_sub_cancel,this];exact hl
   ·rw[if_neg hneq];have hz:CG=0:=Nat.le_zero.mp (xz.mp hneq);subst hz;have t:=(show (x-(x-(0+1))) / 2=0 from congrArg (· / 2) (Nat.sub_sub_self (wp h1 GH))) ▸ t;exact wpS_pure (Mine.w14 0 rfl BQ (by lia) (Dn.less (show Dn (arrOf AN) x x from t) (by lia) (.inr hl)))
  ·rw[decide_eq_false hl];dsimp only[Bool.false_eq_true,if_false];refine wpS_bind (wpS_ltK BQ h0 (by lia) (by ac_rfl) ?_);by_cases hg:K (arrOf AN) (x-1)<K (arrOf AN) x
   ·rw[decide_eq_true hg];exact wpS_pure (h x CG AN BQ GH (by lia) hq BJ)
   ·rw[decide_eq_false hg];refine wpS_pure (Mine.w14 (CG+1) rfl BQ (by lia) ?_);rw[Nat.add_sub_add_right];exact BJ.same (Nat.sub_lt (xd (show 0<n from h1) GH) (Nat.succ_pos _)) (BX ▸ xd N2 hn) (Int.le_antisymm (xw.mp hg) (xw.mp hl))
 ·rintro ⟨CG,rfl,BQ,hq,BJ⟩;rw[Nat.max_eq_right EJ] at hq BJ ⊢;exact h A7 CG AN BQ EJ (wu _) hq BJ
theorem So {st:SortSt}{n A7:Nat}{Q:Option Nat->SortSt->Prop}(h0:IntKeys AK)(hn:A7≤AK.size)(EJ:n+1≤A7)(hB:SBase AK st)(hs:Dn (arrOf st) (n+1) n)
 (h:∀m AN,SBase AK AN->1≤m->m≤A7->Up (arrOf AN) m->Q (some m) AN):wpS (model prog w) A E s (descPart n A7) Q st:=by
 refine wpS_bind (wpS_lift (wpAny_rule ⟨rfl,?_⟩));refine wpS_bind (fk h0 hn (by lia) EJ hB hs fun m CG AN BQ FJ D0 hq BJ=>?_);have BX:=BQ.size;have t:=BJ.turn (yw ..) (wp (wp D0 hn) (yr BX.symm));dsimp only;by_cases hneq:CG>0
 ·rw[if_pos hneq];exact wpS_bind (wpS_reverse (mP h0 hn (by lia) D0 (BQ.setArr (mirror_perm _ _ _ _)) t h))
 ·rw[if_neg hneq];have hz:CG=0:=by lia
  subst hz;rw[show (m-(m-(0+1))) / 2=0 from congrArg (· / 2) (Nat.sub_sub_self hq)] at t;exact mP h0 hn (by bv_omega) D0 BQ t h
theorem lp {st:SortSt}{A7:Nat}{Q:Option Nat->SortSt->Prop}(h0:IntKeys AK)(hn:A7≤AK.size)(h1:1≤A7)(hB:SBase AK st)(hs:Up (arrOf st) 1)
 (h:∀m AN,SBase AK AN->1≤m->m≤A7->Up (arrOf AN) m->Q (some m) AN):wpS (model prog w) A E s (countRun' 0 A7) Q st:=by
 rw[countRun0_eq];refine wpS_bind (yR h0 hn (wu 1) h1 hB hs fun n KF JO GR hor=>?_);have BX:=hB.size;by_cases EJ:n=A7
 ·rw[if_pos (by simpa using EJ)];exact wpS_pure (h n st hB KF JO GR)
 ·rw[if_neg (by simpa using EJ)];have AZ:=hor.resolve_left EJ;by_cases hgt:n>1
  ·rw[if_pos hgt];refine wpS_bind (wpS_ltK hB h0 (by lia) (by lia) ?_);by_cases hr:K (arrOf st) 0<K (arrOf st) (n-1)
   ·rw[decide_eq_true hr];exact wpS_pure (h n st hB KF JO GR)
   ·rw[decide_eq_false hr];simp only[Bool.false_eq_true,if_false];have BH:∀k,k<n->K (arrOf st) k=K (arrOf st) (n-1):=fun k hk=>by
     have a1:K (arrOf st) 0≤K (arrOf st) k:=by
      rcases Nat.eq_zero_or_pos k with z|z
      ·rw[z];lia
      ·exact (GR 0 k z (by lia)).1 hk
     have a2:K (arrOf st) k≤K (arrOf st) (n-1):=by
      rcases ye k (n-1) with z|z
      ·exact (GR k (n-1) z (by lia)).1 (by lia)
      ·rw[show k=n-1 by lia];lia
     lia
    have t:=(GR.fall (by lia) KF BH).turn (wz _) (by lia);refine wpS_bind (wpS_reverse (So h0 hn (by lia) (hB.setArr (mirror_perm _ _ _ _)) (t.less (by rw[mirror_size];lia) (.inr ?_)) h));rw[K_mirror_equal (by grind) fun k Z hk=>BH k hk,K_mirror_equal (by grind) fun k Z hk=>BH k hk];exact AZ
  ·rw[if_neg hgt];have:n=1:=by lia
   subst this;refine So h0 hn (by lia) hB (Dn.less (fun i j a b=>⟨fun c=>by lia,fun e=>⟨fun c=>by lia,fun Z=>(GR i j a b).2 e⟩⟩) (by lia) (.inr AZ)) h
theorem m4 {st:SortSt}{n ok:Nat}{Q:Bool->SortSt->Prop}(h0:IntKeys AK)(hn:n≤AK.size)(CY:ok≤n)(hB:SBase AK st)(hs:Up (arrOf st) ok)
 (h:∀AN,SBase AK AN->Up (arrOf AN) n->Q true AN):wpS (model prog w) A E s (binarySort' 0 n ok) Q st:=by
 rw[binarySort'_eq];simp only[Nat.zero_add];refine wpS_bind (wpS_mono (Q:=fun c AN=>c=(none,())∧SBase AK AN∧Up (arrOf AN) n) (wpS_forRange (I:=fun k c AN=>c=(none,())∧SBase AK AN∧Up (arrOf AN) (min k n)) (fun k c AN hak B1=>?_) (fun c AN=>?_) ⟨rfl,hB,?_⟩) ?_)
 ·rintro ⟨rfl,BQ,BJ⟩;rw[Nat.min_eq_left (by lia)] at BJ;have BX:=BQ.size;refine wpS_bind (wpS_mono (Q:=fun c BE=>BE=AN∧∃l r,c=(none,l,r)∧l≤k∧(∀i,i<l->K (arrOf AN) i≤K (arrOf AN) k)∧(∀i,l≤i->i<k->K (arrOf AN) k<K (arrOf AN) i))
   (wpS_forRange (I:=fun x c BE=>BE=AN∧∃l r,c=(none,l,r)∧l≤r∧r≤k∧r-l≤k-x∧(∀i,i<l->K (arrOf AN) i≤K (arrOf AN) k)∧(∀i,r≤i->i<k->K (arrOf AN) k<K (arrOf AN) i))
    (fun x c BE Z hxk=>?_) (fun c BE=>?_) ⟨rfl,0,k,rfl,wz _,wu _,wu _,fun i hi=>absurd hi (Nat.not_lt_zero _),fun i h1 h2=>absurd h2 (xz.mpr h1)⟩) ?_)
  ·rintro ⟨rfl,l,r,rfl,hlr,EG,hm,BC,hhi⟩;dsimp only;by_cases DG:l≥r
   ·rw[if_pos DG];have:l=r:=ym hlr DG;subst this;exact wpS_pure ⟨rfl,l,l,rfl,EG,BC,hhi⟩
   ·rw[if_neg DG];have N0:=xd (aM1 (zj DG)) EG;have JA:=yb N0 (xd B1 hn);refine wpS_bind (wpS_ltK BQ h0 (by ac_rfl) JA ?_);by_cases hl:K (arrOf BE) k<K (arrOf BE) ((l+r) / 2)
    ·rw[decide_eq_true hl];refine wpS_pure ⟨rfl,l,(l+r) / 2,rfl,aM2 hlr,wp (yn (aM1 (zj DG))) EG,aMa (zj DG) (wp hm (Nat.le_succ_of_pred_le (wu _))),BC,fun i h1 h2=>?_⟩;rcases Nat.eq_or_lt_of_le h1 with z|z
     ·rw[← z];exact hl
     ·exact Int.lt_of_lt_of_le hl ((BJ _ i z (BX ▸ yb h2 (xd B1 hn))).1 h2)
    ·rw[decide_eq_false hl];refine wpS_pure ⟨rfl,(l+r) / 2+1,r,rfl,aM1 (zj DG),EG,aMb (zj DG) (wp hm (Nat.le_succ_of_pred_le (wu _))),fun i h1=>?_,hhi⟩;rcases ye i ((l+r) / 2) with z|z
     ·exact z4 ((BJ i _ z (BX ▸ JA)).1 N0) (xw.mp hl)
     ·rw[ym (y8 h1) z];exact xw.mp hl
  ·rintro ⟨rfl,l,r,rfl,hlr,EG,hm,BC,hhi⟩;rw[Nat.max_eq_right (wz _),Nat.sub_self] at hm;have:l=r:=ym hlr (Nat.le_of_sub_eq_zero (Nat.le_zero.mp hm));subst this;exact ⟨rfl,l,l,rfl,EG,BC,hhi⟩
  ·rintro c BE ⟨rfl,l,r,rfl,CP,BC,hhi⟩;show wpS _ _ _ _ (do moveDown' k l;pure (ForInStep.yield (none,()))) _ _;rw[moveDown'_eq];refine wpS_bind (wpS_modify (wpS_pure ⟨rfl,BQ.setArr (bubble_perm _ _ _),?_⟩));rw[Nat.min_eq_left (by lia)];intro i j AO hj;have DR:j<(arrOf BE).size:=by
    have e:(bubble (arrOf BE) k (k-l)).size=(arrOf BE).size:=bubble_size _ _ _;rw[← e];exact hj
   show (_->K (bubble (arrOf BE) k (k-l)) i≤K (bubble (arrOf BE) k (k-l)) j)∧(K (bubble (arrOf BE) k (k-l)) i=K (bubble (arrOf BE) k (k-l)) j->GG (bubble (arrOf BE) k (k-l)) i<GG (bubble (arrOf BE) k (k-l)) j);have HJ:k<(arrOf BE).size:=by lia
   rw[K_bubble HJ (yw ..),K_bubble HJ (yw ..),Yr HJ (yw ..),Yr HJ (yw ..),Nat.sub_sub_self CP];by_cases i1:i=l
   ·have jl:¬j=l:=fun z=>ya AO (i1.trans z.symm);rw[if_pos i1,if_pos i1,if_neg jl,if_neg jl];by_cases j2:l<j∧j≤k
    ·rw[if_pos j2,if_pos j2];have:=hhi (j-1) (Aah j2.1) (Nat.sub_one_lt_of_le (xe (wz _) j2.1) j2.2);exact ⟨fun Z=>by lia,fun Z=>by lia⟩
    ·rw[if_neg j2,if_neg j2];exact ⟨fun z=>absurd ⟨i1 ▸ AO,y8 z⟩ j2,(BJ k j (zj fun z=>j2 ⟨i1 ▸ AO,z⟩) DR).2⟩
   ·rw[if_neg i1,if_neg i1];by_cases i2:l<i∧i≤k
    ·have jl:¬j=l:=fun z=>yy _ (yb i2.1 (z ▸ AO));rw[if_pos i2,if_pos i2,if_neg jl,if_neg jl];by_cases j2:l<j∧j≤k
     ·rw[if_pos j2,if_pos j2];have:=BJ (i-1) (j-1) (Nat.sub_lt_sub_right (Nat.succ_le_of_lt (xe (wz _) i2.1)) AO) (xe (yw ..) DR);exact ⟨fun Z=>this.1 (Nat.sub_one_lt_of_le (xe (wz _) j2.1) j2.2),this.2⟩
     ·rw[if_neg j2,if_neg j2];exact ⟨fun z=>absurd ⟨yb i2.1 AO,y8 z⟩ j2,(BJ (i-1) j (xe (yw ..) AO) DR).2⟩
    ·rw[if_neg i2,if_neg i2];by_cases j1:j=l
     ·rw[if_pos j1,if_pos j1];exact ⟨fun Z=>BC i (j1 ▸ AO),(BJ i k (xd (j1 ▸ AO) CP) HJ).2⟩
     ·rw[if_neg j1,if_neg j1];by_cases j2:l<j∧j≤k
      ·rw[if_pos j2,if_pos j2];have:=BJ i (j-1) (xd (Nat.lt_of_le_of_ne (zf fun z=>i2 ⟨z,wp (yn AO) j2.2⟩) i1) (Aah j2.1)) (xe (yw ..) DR);exact ⟨fun Z=>this.1 (Nat.sub_one_lt_of_le (xe (wz _) j2.1) j2.2),this.2⟩
      ·rw[if_neg j2,if_neg j2];have:=BJ i j AO DR;exact ⟨fun z=>this.1 (zj fun q=>(Nat.lt_or_eq_of_le q).elim (fun q=>absurd (y8 z) (Nat.not_le.mpr q)) fun q=>j2 ⟨Nat.lt_of_le_of_ne (q ▸ CP) (Ne.symm j1),yr q.symm⟩),this.2⟩
 ·rintro ⟨rfl,BQ,BJ⟩;refine ⟨rfl,BQ,BJ.mono (Nat.le_min.mpr ⟨Nat.le_max_right ..,wu _⟩)⟩
 ·rcases Nat.eq_zero_or_pos ok with z|z
  ·exact hs.one.mono (wp (yz ..) (by rw[z];exact wu 1))
  ·exact hs.mono (wp (yz ..) (yr (Nat.max_eq_left z)))
 ·rintro c AN ⟨rfl,BQ,BJ⟩;exact wpS_pure (h AN BQ BJ)
theorem zS {st:SortSt}{Q:Unit->SortSt->Prop}(h0:IntKeys AK)(hB:SBase AK st)(hs:Up (arrOf st) 1)(h2:2≤AK.size)(KW:AK.size<64)
 (h:∀AN,(arrOf AN).Perm AK->failedOf AN=none->Up (arrOf AN) AK.size->Q () AN):wpS (model prog w) A E s sortRuns' Q st:=by
 rw[sortRuns'_eq];refine wpS_bind (wpS_get ?_);have hmr:minRun' AK.size AK.size 0=AK.size:=by
  obtain ⟨f,hf⟩:∃f,AK.size=f+1:=⟨AK.size-1,by grind⟩;have:minRun' (f+1) AK.size 0=AK.size:=by rw[minRun'_succ,if_pos KW];rfl
  rwa [← hf] at this
 rw[hB.size];have done:∀AN:SortSt,SBase AK AN->Up (arrOf AN) AK.size->(arrOf (setPending AN ((pendingOf AN).push (0,AK.size,0)))).Perm AK∧failedOf (setPending AN ((pendingOf AN).push (0,AK.size,0)))=none ∧
  (pendingOf (setPending AN ((pendingOf AN).push (0,AK.size,0)))).size≤1∧Up (arrOf (setPending AN ((pendingOf AN).push (0,AK.size,0)))) AK.size:=fun AN b u=>
  ⟨b.perm,b.failed,by show ((pendingOf AN).push (0,AK.size,0)).size≤1;rw[b.pend];exact wu 1,u⟩
 refine wpS_bind (wpS_mono (Q:=fun c AN=>c=(none,AK.size)∧(arrOf AN).Perm AK∧failedOf AN=none∧(pendingOf AN).size≤1∧Up (arrOf AN) AK.size) (wpS_forRange
  (I:=fun x c AN=>(x=0∧c=(none,0)∧SBase AK AN∧Up (arrOf AN) 1)∨(1≤x∧c=(none,AK.size)∧(arrOf AN).Perm AK∧failedOf AN=none∧(pendingOf AN).size≤1∧Up (arrOf AN) AK.size))
  (fun x c AN Z hx=>?_) (fun c AN=>?_) (.inl ⟨rfl,rfl,hB,hs⟩)) ?_)
 ·rintro (⟨rfl,rfl,BQ,BJ⟩|⟨JR,rfl,hD⟩)
  ·skip
   rw[if_neg (by lia)];refine wpS_bind (lp h0 (wu _) (by assumption) BQ BJ fun m ND K6 FJ D0 EH=>?_);dsimp only;rw[hmr,Nat.sub_zero,Nat.min_self];by_cases AZ:m<AK.size
   ·rw[if_pos AZ];refine wpS_bind (wpS_lift (wpAny_rule ⟨rfl,?_⟩));refine wpS_bind (m4 h0 (wu _) D0 K6 EH fun M9 OC hs3=>?_);refine wpS_bind (wpS_get ?_);rw[show (pendingOf M9).back?=none by rw[OC.pend];rfl];exact wpS_bind (wpS_modify (wpS_pure (.inr ⟨by lia,congrArg (Prod.mk none) (Nat.zero_add _),done M9 OC hs3⟩)))
   ·rw[if_neg AZ];have hm:m=AK.size:=by lia
    subst hm;refine wpS_bind (wpS_get ?_);rw[show (pendingOf ND).back?=none by rw[K6.pend];rfl];exact wpS_bind (wpS_modify (wpS_pure (.inr ⟨by lia,congrArg (Prod.mk none) (Nat.zero_add _),done ND K6 EH⟩)))
  ·skip
   rw[if_pos (wu _)];exact wpS_pure ⟨rfl,hD⟩
 ·rintro (⟨hx,_,_⟩|⟨_,hc,hD⟩)
  ·lia
  ·exact ⟨hc,hD⟩
 ·rintro c AN ⟨rfl,hD⟩;refine wpS_bind (wpS_mono (wpS_forRange (I:=fun Z c BE=>BE=AN∧c=(none,())) (Q:=fun c BE=>BE=AN∧c=(none,())) ?_ (fun Z Z hh=>hh) ⟨rfl,rfl⟩) ?_)
  ·rintro x c BE _ _ ⟨rfl,rfl⟩;refine wpS_bind (wpS_get ?_);rw[if_pos hD.2.2.1];exact wpS_pure ⟨rfl,rfl⟩
  ·rintro c BE ⟨rfl,rfl⟩;exact wpS_pure (h _ hD.1 hD.2.1 hD.2.2.2)
end
def Kg (p q:Int×Int):Prop:=p.1<q.1∨(p.1=q.1∧p.2<q.2)
theorem Kg.asymm {p q:Int×Int}(h:Kg p q)(h':Kg q p):False:=
 h.elim (fun a=>h'.elim (fun b=>Int.lt_irrefl _ (Int.lt_trans a b)) fun b=>Int.ne_of_gt a b.1) fun a=>h'.elim (fun b=>Int.ne_of_gt b a.1) fun b=>Int.lt_irrefl _ (Int.lt_trans a.2 b.2)
theorem zU {l l':List (Int×Int)}(p:l.Perm l')(h1:l.Pairwise Kg)(h2:l'.Pairwise Kg):l=l':=
 p.eq_of_pairwise (fun a b Z Z x y=>(x.asymm y).elim) h1 h2
theorem Nm {k x:Int}:∀{l:List (Int×Int)},(Mm k x l).Perm ((k,x)::l)
 |[]=>.refl _
 |(k',x')::r=>by
  rw[Wp];split
  ·exact .refl _
  ·exact (Nm.cons _).trans (.swap ..)
theorem xJ {k x:Int}:∀{l:List (Int×Int)},l.Pairwise Kg->(∀p∈l,p.2<x)->(Mm k x l).Pairwise Kg:=by
 intro X
 induction X with
 |nil=>
  intro Z Z;exact List.pairwise_singleton ..
 |cons X r ih=>
  obtain ⟨k',x'⟩:=X;intro h hx;have h':=yf.mp h;rw[Wp];split
  ·rename_i hk;refine yf.mpr ⟨fun p m=>?_,h⟩;rcases wk.mp m with q|q
   ·rw[q];exact .inl hk
   ·have:=h'.1 p q;unfold Kg at this ⊢;exact .inl (this.elim (Int.lt_trans hk) fun z=>z.1 ▸ hk)
  ·rename_i hk;refine yf.mpr ⟨fun p m=>?_,ih h'.2 fun p m=>hx p (.tail _ m)⟩;rcases wk.mp (Nm.mem_iff.mp m) with q|q
   ·rw[q];have:=hx (k',x') (.head _);unfold Kg;exact (Int.lt_or_eq_of_le (xw.mp hk)).imp id fun z=>⟨z,this⟩
   ·exact h'.1 p q
theorem tJ (lo:Int):∀(ks:List Int)(i:Nat)(AD:List (Int×Int)),AD.Pairwise Kg->(∀p∈AD,p.2<lo+i) ->
 (((ks.zip (List.range' i ks.length)).foldl (fun AD p=>Mm p.1 (lo+p.2) AD) AD).Pairwise Kg∧((ks.zip (List.range' i ks.length)).foldl (fun AD p=>Mm p.1 (lo+p.2) AD) AD).Perm (AD++(ks.zip (List.range' i ks.length)).map fun p=>(p.1,lo+(p.2:Int)))):=by
 intro X
 induction X with
 |nil=>
  intro i AD h hx;exact ⟨h,by simp⟩
 |cons k ks ih=>
  intro i AD h hx;rw[x9,List.range'_succ,Aab,zk,x8];obtain ⟨a,b⟩:=ih (i+1) (Mm k (lo+i) AD) (xJ h hx) fun p m=>by
   rcases wk.mp (Nm.mem_iff.mp m) with q|q
   ·rw[q];dsimp only;lia
   ·have:=hx p q;lia
  refine ⟨a,b.trans ?_⟩;refine (Nm.append_right _).trans ?_;rw[yi];exact List.perm_middle.symm
def Vx (lo:Int) (ks:List Int) (c:Nat):List (Int×Int):=(ks.zip (PF c)).foldl (fun AD p=>Mm p.1 (lo+p.2) AD) []
theorem pN {keys:Array OY}{vs:List OY}{ks:List Int}{lo:Int}{c:Nat}(hk:IntsAre keys.toList ks)(hv:IntsAre vs ((PF c).map fun (i:Nat)=>lo+(i:Int)))(hl:ks.length=c){xs:Array Keyed}(hp:xs.Perm (keys.zip vs.toArray))(hs:Up xs xs.size) :
 IntsAre (xs.map (·.2)).toList ((Vx lo ks c).map (·.2)):=by
 have hx:xs.toList.Perm (keys.toList.zip vs):=by rw[← ksk_zip];exact Array.perm_iff_toList_perm.mp hp
 have h1:(xs.toList.map (fun p:Keyed=>(numOf p.1,numOf p.2))).Perm ((ks.zip (PF c)).map fun p=>(p.1,lo+(p.2:Int))):=by
  have e2:(keys.toList.zip vs).map (fun p:Keyed=>(numOf p.1,numOf p.2))=(ks.zip (PF c)).map fun p=>(p.1,lo+(p.2:Int)):=by
   have:(keys.toList.zip vs).map (fun p:Keyed=>(numOf p.1,numOf p.2))=(keys.toList.map numOf).zip (vs.map numOf):=by rw[List.zip_map];rfl
   rw[this,hk.nums,hv.nums,List.zip_map_right]
   rfl
  rw[← e2];exact hx.map _
 have h3:(xs.toList.map (fun p:Keyed=>(numOf p.1,numOf p.2))).Pairwise Kg:=by
  rw[Aaj];intro i j hi hj AO;have AT:i<xs.size:=by simpa using hi
  have DR:j<xs.size:=by simpa using hj
  have q:=hs i j AO DR;have g:∀{i:Nat} (h:i<xs.size),GG xs i=numOf xs[i].2:=fun h=>by unfold GG;rw[getElem?_pos xs _ h]
  rw[K_eq AT,K_eq DR,g AT,g DR] at q;have q1:=q.1 DR;have q2:=q.2;simp only[List.getElem_map,Array.getElem_toList];unfold Kg;exact (Int.lt_or_eq_of_le q1).imp id fun z=>⟨z,q2 z⟩
 obtain ⟨f1,f2⟩:=tJ lo ks 0 [] .nil (fun p m=>by cases m);rw[hl,← List.range_eq_range'] at f2;rw[hl,← List.range_eq_range'] at f1;have e:=zU (h1.trans f2.symm) h3 f1;have hI:IntsAre (xs.map (·.2)).toList ((xs.map (·.2)).toList.map numOf):=intsAre_map _ fun v m=>by
  rw[Array.toList_map] at m;obtain ⟨p,mp,rfl⟩:=xr.mp m;exact hv.all _ (List.of_mem_zip (hx.mem_iff.mp mp)).2
 have e3:(xs.map (·.2)).toList.map numOf=(Vx lo ks c).map (·.2):=by
  unfold Vx;rw[← e,Array.toList_map,z6,z6]
  rfl
 rw[← e3];exact hI
theorem sO {keys:Array OY}{vs:List OY}{ks:List Int}{lo:Int}{c:Nat}(hk:IntsAre keys.toList ks)(hv:IntsAre vs ((PF c).map fun (i:Nat)=>lo+(i:Int))):Up (keys.zip vs.toArray) 1:=fun i j AO hj=>by
 refine ⟨fun q=>absurd (xd AO (y8 q)) (Nat.not_lt_zero _),fun Z=>?_⟩;have g:∀{i:Nat} (h:i<(keys.zip vs.toArray).size),GG (keys.zip vs.toArray) i=lo+(i:Int):=fun {i} h=>by
  unfold GG;rw[getElem?_pos (keys.zip vs.toArray) i h];have hi:i<vs.length:=by rw[Array.size_zip] at h;exact xd h (Nat.min_le_right ..)
  have:((keys.zip vs.toArray)[i]).2=vs[i]:=by simp
  dsimp only;rw[this];have e:=hv.nums;have hl:=hv.length;have:(vs.map numOf)[i]?=some (lo+(i:Int)):=by
   rw[e,x6,List.getElem?_range (by rw[wn,yx] at hl;lia)];rfl
  rw[x6,x7 hi] at this;exact wx this
 rw[g (yb AO hj),g hj];exact Int.add_lt_add_left (yg.mpr AO) lo
section
variable {prog:Program}{w:World}{A:O8}{E:OY->OZ->Prop}
set_option tactic.hygienic true in
set_option backward.match.sparseCases true in
theorem eU {Q:List OY->OZ->Prop}{r:O5}{a b:Int}{t u v:Tok}{c:Nat}(hh:A.handled=none)(hr:IsRange s.heap r a b 1 t u v)(CW:Builtin.Range.small a b 1=true)
 (hn:Builtin.Range.rangeSize a b 1=c) (AV:c≤2 ^ 24)
 (h:∀(vs:List OY) h' tk,(∀b o,s.heap.get? b=some o->h'.get? b=some o)->IntsAre vs ((PF c).map fun (i:Nat)=>a+(i:Int))->Q vs { s with heap:=h',toks:=tk }):PD (model prog w) A (collect (.ref r)) Q E s:=by
 refine Aa (wpAny_runValue (codeAny_builtin entry_proto_collect' ?_));show PD _ _ (do again (.builtin "list.__iadd__" ⟨[← newList [],.ref r],[]⟩)) _ _ s;refine Aa (wpAny_newList (Ag ⟨Code.quiet_builtin _ (by rfl'),codeAny_builtin entry_list_iadd' ?_⟩));rw[O8.under_plainId F.plain_list_iadd _];show PD _ _ (Builtin.List.listExtendWith (.ref s.heap.objs.size) (.ref r) (.ref s.heap.objs.size)) _ _ _;refine wpAny_extend_range (R:=fun JL s'=>match JL with
  |.ok (.ret v)=>PD (model prog w) A (match v with
   |.ref a=>do
    let o ← load a
    match o.data with
    |.seq xs _=>pure xs.toList
    |_=>unsupported "internal:collect"
   |_=>unsupported "internal:collect") Q E s'
  |.ok _=>False
  |.error e=>E e s') (s:={ s with heap:=s.heap.push (seqObj "list" #[] 0) }) (A:=A) hh (ww _ hr) CW hn AV s.heap.objs.size _ 0 (xc _ rfl) fun h' tk BA c' hk CI DX=>?_
 show PD (model prog w) A (do
  let o ← load s.heap.objs.size
  match o.data with
  |.seq xs _=>pure xs.toList
  |_=>unsupported "internal:collect") Q E _
 refine Aa (wpAny_load CI ?_);refine Ag (h _ _ _ (fun b o e=>hk b o (ya (xl e)) (ww _ e)) ?_);have BH:∀v∈BA.toList,∃n t,v = .int n t:=fun v m=>by
  obtain ⟨i,hi⟩:=yj m;rw[xy] at hi;obtain ⟨t,e⟩:=DX.2 i v hi;exact ⟨_,t,e⟩
 have e:BA.toList.map numOf=(PF c).map fun (i:Nat)=>a+(i:Int):=by
  apply List.ext_getElem?
  intro i;rw[x6,x6,xy];rcases ye i c with q|q
  ·have hi:BA[i]?=some (BA[i]'(by rw[DX.1];exact q)):=Aaa _;obtain ⟨t,e⟩:=DX.2 i _ hi;rw[hi,e,List.getElem?_range q];show some (a+(i:Int)*1)=some (a+(i:Int));rw[Int.mul_one]
  ·rw[Array.getElem?_eq_none (by rw[DX.1];exact q),List.getElem?_eq_none (by rw[yx];exact q)]
   rfl
 rw[← e];exact intsAre_map _ BH
theorem el {a kS:O5}{keys:Array OY}{vs:List OY}{ks:List Int}{lo:Int}{c e e1:Nat}{P:PySem.Fin->OZ->Prop}(nk:s.heap.get? kS=some (seqObj "list" keys e))(na:s.heap.get? a=some (seqObj "list" #[] e1))(OI:kS≠a)
 (hk:IntsAre keys.toList ks) (hv:IntsAre vs ((PF c).map fun (i:Nat)=>lo+(i:Int))) (hl:ks.length=c) (KW:c<64)
 (h:∀h' out c2,(∀b o,b≠kS->b≠a->s.heap.get? b=some o->h'.get? b=some o)->(∃o,h'.get? kS=some o)->h'.get? a=some (seqObj "list" out c2)->IntsAre out.toList ((Vx lo ks c).map (·.2))->P (.done (.ret .none)) { s with heap:=h' }) :
 PD (model prog w) A (ksk_end a false vs.toArray e1 (.ref kS) keys) P E s:=by
 have NG:vs.length=c:=by have:=hv.length;simpa using this
 have BX:keys.size=vs.length:=by
  have h1:=hk.length;rw[xq] at h1
  lia
 have JN:(keys.zip vs.toArray).size=vs.length:=by rw[Array.size_zip,BX,List.size_toArray,Nat.min_self]
 have tail:∀st:SortSt,(arrOf st).Perm (keys.zip vs.toArray)->Up (arrOf st) (arrOf st).size->failedOf st=none->PD (model prog w) A (ksk_tail a false e1 (.ref kS) st) P E s:=by
  intro st hp hs C8;have s1:=zx s.heap kS (Obj.mapSeq fun Z=>(#[]:Array OY));have J4:(s.heap.update kS (Obj.mapSeq fun Z=>(#[]:Array OY))).get? a=some (seqObj "list" #[] e1):=(s1.2 a OI.symm).trans na;have s2:=zx (s.heap.update kS (Obj.mapSeq fun Z=>(#[]:Array OY))) a (Obj.mapSeq fun Z=>(arrOf st).map (·.2))
  try dsimp only
  refine Aa (listUpdate_at nk rfl ?_ (by rw[BX,sizeLine_eq];lia) (wz _));refine Aa (wpAny_letGo ?_);refine Aa (seqEpoch_at J4 rfl ?_);refine Aa (listUpdate_at J4 rfl ?_ (wz _) (by
   show ((arrOf st).map (·.2)).size≤_;rw[Array.size_map,(show (arrOf st).size=vs.length from by rw[hp.size_eq,JN]),sizeLine_eq];lia))
  rw[C8];simp only[bne_self_eq_false,Bool.false_eq_true,if_false];have DN:=get?_update_seq nk fun Z=>(#[]:Array OY);have ha2:=get?_update_seq J4 fun Z=>(arrOf st).map (·.2);generalize FH:(s.heap.update kS (Obj.mapSeq fun Z=>(#[]:Array OY)))=g1 at *
  generalize GM:(g1.update a (Obj.mapSeq fun Z=>(arrOf st).map (·.2)))=g2 at *
  have o:=pN hk hv hl hp hs;generalize (arrOf st).map (·.2)=out at *
  exact Ag (h g2 out _ (fun b o q1 q2 z=>(s2.2 b q2).trans ((s1.2 b q1).trans z)) ⟨_,(s2.2 kS OI).trans DN⟩ ha2 o)
 unfold ksk_end
 try dsimp only
 by_cases h2:vs.toArray.size<2
 ·rw[if_pos h2,if_pos h2];refine Aa (Ag ?_);refine Aa (Ag ?_);refine tail (SortSt.mk' general' (keys.zip vs.toArray) #[] 7 none) (Array.Perm.refl _) (fun i j AO hj=>?_) rfl;rw[JN] at (hj);rw[List.size_toArray] at h2;exact absurd (xd AO (y8 (xd hj (y8 h2)))) (Nat.not_lt_zero _)
 ·rw[if_neg h2,if_neg h2];rw[List.size_toArray] at h2;rw[ksk_kind hk (by rw[BX];lia)];refine Aa (Ag ?_);refine Aa (wpAny_mono (zS (AK:=keys.zip vs.toArray) (st:=SortSt.mk' oneType' (keys.zip vs.toArray) #[] 7 none)
   (Q:=fun Z AN=>(arrOf AN).Perm (keys.zip vs.toArray)∧failedOf AN=none∧Up (arrOf AN) (keys.zip vs.toArray).size)
   (ksk_intKeys hk) ⟨Array.Perm.refl _,rfl,rfl,rfl⟩ (sO hk hv) (by rw[JN];lia) (by rw[JN];lia) fun AN a1 a2 a3=>⟨a1,a2,a3⟩) ?_ fun Z Z e=>e)
  rintro ⟨⟨⟩,AN⟩ s' ⟨rfl,hp,hf,hs⟩;exact tail AN hp (by rw[hp.size_eq];exact hs) hf
end
section
variable {Bk De:Aj}{s':OZ}
set_option tactic.hygienic true in
theorem qF (L':Ce g L n)(W:Wd C g){off:List O5}{kS:O5}(EK:kS∈off){f:V}{vf:OY}{lo:Int}{body:OY->PUnit->Sem (ForInStep PUnit)}{A:O8}{E:OY->OZ->Prop}(R:Dq A n)
 (hb:∀x (Q:ForInStep PUnit->OZ->Prop) (s:OZ),PD C.md A (call vf [x]) (fun k s'=>PD C.md A (Builtin.List.listUpdate (.ref kS) (·.push k)) (fun Z DQ=>Q (.yield ⟨⟩) DQ) E s') (fun Z Z=>False) s->PD C.md A (body x ⟨⟩) Q E s) :
 ∀(c k:Nat) (vs:List OY) (Y:List O5) (J Av:Aj) (s:OZ) (kA:Array OY) (e0:Nat) (kz ks:List Int) (Q:PUnit->OZ->Prop),vs.length=c->(∀(j:Nat) v,vs[j]?=some v->∃t,v = .int (lo+((k+j:Nat):Int)) t) ->
  Bh (C.wo off) Y J s->Bz (C.wo off) Y s.heap f vf->s.heap.get? kS=some (seqObj "list" kA e0)->IntsAre kA.toList kz->kA.size+c≤100->Jp L f lo J c k=some (ks,Av) ->
  (∀Bx s' JJ e',Bh (C.wo off) Bx Av s'->Qo [kS] Y Bx s.heap s'.heap->s'.heap.get? kS=some (seqObj "list" JJ e')->IntsAre JJ.toList (kz++ks)->Q ⟨⟩ s') ->
  PD C.md A (forIn vs PUnit.unit body) Q E s:=
 fun c=>by
 induction c with
 |zero=>
  intro k vs Y J Av s kA e0 kz ks Q hl hv I rf hg hk hz h K;have:vs=[]:=List.length_eq_zero_iff.mp hl;subst this;cases h;exact Ag (K Y s kA e0 I Mv.refl.x hg (by rw[xx];exact hk))
 |succ c ih=>
  intro k vs Y J Av s kA e0 kz ks Q hl hv I rf hg hk hz h K;cases vs with
  |nil=>cases hl
  |cons x r=>
   refine oC2 (Um.symm.trans h) fun y0 Ab h1 h=>Ps h fun y sm hy h=>oC2 h fun q Ai h2 h=>?_;cases h;obtain ⟨t,ex⟩:=hv 0 x rfl;subst ex;rw[List.forIn_cons];have rx:Bv (C.wo off) Y s.heap [Bi (lo+(k:Int))] [.int (lo+(k:Int)) t]:=⟨_,[],rfl,⟨⟨t,rfl⟩,fun z=>xm z⟩,rfl⟩;refine Aa (hb _ _ _ (L'.call (C:=C.wo off) (vkw:=[]) (W.off _) I h1 rf rx rfl A _ _ R fun Pr s1 v g1 rv=>?_));rw[hy] at rv;obtain ⟨⟨u,rfl⟩,-⟩:=rv;have FH:=g1.mv.keep kS _ (I.offs kS EK).1 hg;refine listUpdate_at FH rfl ?_ (by rw[sizeLine_eq];lia) (by show (kA.push _).size≤_;rw[Array.size_push,sizeLine_eq];lia);have GM:=get?_update_seq FH (·.push (OY.int y u));have kk:∀b o,b≠kS->s1.heap.get? b=some o->(s1.heap.update kS (Obj.mapSeq (·.push (OY.int y u)))).get? b=some o:=fun b o hb e=>(yk _ _ (Ne.symm hb)).trans e;have I2:Bh (C.wo off) Pr Ab { s1 with heap:=s1.heap.update kS (Obj.mapSeq (·.push (OY.int y u))) }:=g1.inv.onlyD EK kk ⟨_,GM⟩;have JY:=(rf.mv g1.mv).gen (AC:=off) (kpD (Y:=Pr) (off:=off) EK kk);have M1:Qo [kS] Y Pr s.heap (s1.heap.update kS (Obj.mapSeq (·.push (OY.int y u)))):=g1.mv.x.trans (fq kk) (fun b m=>by rw[wl.mp m];exact (g1.inv.offs kS EK).1) (fun b m=>by rw[wl.mp m];exact ⟨_,FH⟩);show PD C.md A (forIn r PUnit.unit body) Q E _;refine ih (k+1) r Pr Ab _ _ _ _ (kz++[y]) q Q (by simpa using hl) (fun j v e=>?_) I2 JY GM (by rw[Array.toList_push];exact ksk_snoc hk) (by rw[Array.size_push];lia) h2 fun Bx s' JJ e' I3 M3 g3 k3=>?_
   ·have:=hv (j+1) v (by simpa using e);rw[show k+1+j=k+(j+1) by lia];exact this
   ·refine K Bx s' JJ e' I3 (M1.trans M3 (fun b m=>by rw[wl.mp m];exact (g1.inv.offs kS EK).1) (fun b m=>by rw[wl.mp m];exact ⟨_,GM⟩)) g3 ?_;rw[xj] at k3;exact k3
theorem fu {f:V}{vf:OY}(hf:Nq f=true)(r:Bz C Y h f vf):∃q,vf = .ref q:=by
 cases f<;>first|cases hf|skip
 ·exact ⟨_,r.1⟩
 ·obtain ⟨a,e,_⟩:=r;exact ⟨a,e⟩
theorem cU {vs:List OY}{l:List Int}(X:IntsAre vs l):Bv C Y h (l.map fun i=>Bi i) vs:=by
 induction X with
 |nil=>exact rfl
 |cons i t r ih=>exact ⟨_,_,rfl,⟨⟨t,rfl⟩,fun z=>xm z⟩,ih⟩
theorem sX {f:V}{lo:Int}:∀{c k:Nat}{J Av:Aj}{ks:List Int},Jp L f lo J c k=some (ks,Av)->ks.length=c:=fun {c}=>by
 induction c with
 |zero=>intro _ _ _ _ h;cases h;rfl
 |succ c ih=>
  intro k J Av ks h;exact oC2 (Um.symm.trans h) fun y0 Ab h1 h=>Ps h fun y sm hy h=>oC2 h fun q Ai h2 h=>by
   cases h;rw[x9,ih h2]
theorem sQ (L':Ce g L n)(W:Wd C g)(I:Bh C Y J s){f:V}{vf:OY}{r:O5}{lo b:Int}{t u v:Tok}{c:Nat}{ks:List Int}(hr:IsRange s.heap r lo b 1 t u v)(CW:Builtin.Range.small lo b 1=true)
 (hn:Builtin.Range.rangeSize lo b 1=c) (hc:c≤60) (rf:Bz C Y s.heap f vf) (hf:Nq f=true) (h:Jp L f lo J c 0=some (ks,Av)) :
 At C (n+1) Y s (call (.builtin "sorted") [.ref r] [(PE "key",vf)]) Av (RV C (.lst ((Vx lo ks c).map fun p=>Bi p.2))):=by
 intro A Q E R K;obtain ⟨q,rfl⟩:=fu hf rf;have R2:Dq A.in1.in1 n:=⟨R.hd,by have:=R.dp;show A.depth+_≤_;lia,by have:=R.un;show A.units+1+1+_≤_;lia⟩;refine call_function_entry_kw kind_sorted plain_sorted entry_sorted (ksk_s1 _ _) ?_;refine Aa (m:=checkCount "sorted" 1 1 _) (Ag ?_);refine Aa (eU R.hd hr CW hn (by lia) fun vs h1 tk k1 hv=>?_);have NG:vs.length=c:=by have:=hv.length;simpa using this
 refine Aa (wpAny_newList ?_ (by rw[sizeLine_eq];lia));have hL:=xc h1 (o:=seqObj "list" vs.toArray 0) rfl;have N6:∀b o,s.heap.get? b=some o->b<h1.objs.size:=fun b o e=>xl (k1 b o e);refine Aa (wpAny_holding (wpAny_call_entry_kw slot_list_sort (Mine.w12 _ hL rfl) entry_list_sort ?_ (ksk_l1 _ _)));rw[ksk_t1];obtain ⟨e1,JB⟩:∃e1,((h1.push (seqObj "list" vs.toArray 0)).update h1.objs.size (Obj.mapSeq fun Z=>(#[]:Array OY))).get? h1.objs.size=some (seqObj "list" #[] e1):=⟨_,get?_update_seq hL fun Z=>#[]⟩;refine Aa (listItems_at hL rfl ?_);refine Aa (listUpdate_at hL rfl ?_ (by rw[List.size_toArray,sizeLine_eq];lia) (wz _));refine Aa (seqEpoch_at JB rfl ?_);refine Aa (wpAny_newTuple ?_ (by show vs.length≤_;rw[sizeLine_eq];lia));refine Aa (wpAny_newList ?_ (wz _));refine wpAny_holding ?_;have DN:(((h1.push (seqObj "list" vs.toArray 0)).update h1.objs.size (Obj.mapSeq fun Z=>(#[]:Array OY))).push (seqObj "tuple" vs.toArray 0)).objs.size=h1.objs.size+2:=by rw[size_push',O9.size_update,size_push']
 have EK:=xc (((h1.push (seqObj "list" vs.toArray 0)).update h1.objs.size (Obj.mapSeq fun Z=>(#[]:Array OY))).push (seqObj "tuple" vs.toArray 0)) (o:=seqObj "list" (#[]:Array OY) 0) rfl;rw[DN] at EK;have MN:((((h1.push (seqObj "list" vs.toArray 0)).update h1.objs.size (Obj.mapSeq fun Z=>(#[]:Array OY))).push (seqObj "tuple" vs.toArray 0)).push (seqObj "list" (#[]:Array OY) 0)).get? h1.objs.size=some (seqObj "list" #[] e1):=ww _ (ww _ JB);have kk:∀b o,s.heap.get? b=some o->((((h1.push (seqObj "list" vs.toArray 0)).update h1.objs.size (Obj.mapSeq fun Z=>(#[]:Array OY))).push (seqObj "tuple" vs.toArray 0)).push (seqObj "list" (#[]:Array OY) 0)).get? b=some o:=fun b o e=>
  ww _ (ww _ ((yk _ _ (Nat.ne_of_gt (N6 b o e))).trans (ww _ (k1 b o e))))
 show PD _ _ (ksk_rest h1.objs.size (.ref q) false vs.toArray e1 (.ref (((h1.push (seqObj "list" vs.toArray 0)).update h1.objs.size (Obj.mapSeq fun Z=>(#[]:Array OY))).push (seqObj "tuple" vs.toArray 0)).objs.size)) _ _ _;rw[DN];generalize ((((h1.push (seqObj "list" vs.toArray 0)).update h1.objs.size (Obj.mapSeq fun Z=>(#[]:Array OY))).push (seqObj "tuple" vs.toArray 0)).push (seqObj "list" (#[]:Array OY) 0))=h5 at EK MN kk ⊢;have fr:∀x∈[h1.objs.size+2,h1.objs.size],s.heap.get? x=none:=fun x m=>by
  cases z:s.heap.get? x with
  |none=>rfl
  |some o=>
   have hx:@LT.lt Nat _ x h1.objs.size:=N6 x o z;rcases wk.mp m with m|m
   ·rw[m] at hx;lia
   ·rw[wl.mp m] at hx;lia
 have I5:Bh (C.wo ([h1.objs.size+2,h1.objs.size]++C.off)) Y J { s with heap:=h5,toks:=tk }:=I.enter kk fun x m=>⟨fr x m,by
  rcases wk.mp m with m|m
  ·rw[m];exact ⟨_,EK⟩
  ·rw[wl.mp m];exact ⟨_,MN⟩⟩
 refine Aa (wpAny_rule ?_);rw[List.forIn_toArray];refine Aa (qF (s:={ s with heap:=h5,toks:=tk }) L' W (off:=[h1.objs.size+2,h1.objs.size]++C.off) (kS:=h1.objs.size+2) (.head _) R2 (fun x Q' s' hx=>?_) c 0 vs Y J Av #[] 0 [] ks _ NG (fun j v e=>?_) I5 (rf.gen (Kp.enter kk fr)) EK .nil (by show 0+c≤100;lia) h fun Td s3 kA e3 I3 M3 g3 k3=>?_)
 ·refine Aa (wpAny_attempt (wpAny_mono hx (fun k DQ hk=>?_) fun Z Z hF=>hF.elim));exact Aa (wpAny_mono hk (fun Z Z z=>Ag z) fun Z Z z=>z)
 ·have:=hv.nums;have e2:(vs.map numOf)[j]?=some (numOf v):=by rw[x6,e];rfl
  rw[this,x6] at e2;obtain ⟨m,t',rfl⟩:=hv.all v (xt e);rw[List.getElem?_range (show j<c from by have:=(wv.mp e).1;lia)] at e2;have e3:lo+(j:Int)=m:=wx e2;exact ⟨t',by rw[← e3,Nat.zero_add]⟩
 ·have AX:h1.objs.size+2≠h1.objs.size:=by lia
  try dsimp only
  refine Aa (listItems_at g3 rfl ?_);refine el g3 (M3.keep _ _ ((I5.offs h1.objs.size (.tail _ (.head _))).1) (fun m=>AX (wl.mp m).symm) MN) AX k3 hv ?_ (by lia) fun h6 out c2 k6 kS6 a6 o6=>(Mine.w12 _ rfl ?_)
  ·exact sX h
  refine Ag (Mine.w12 _ rfl ?_);have nk:∀b o,s.heap.get? b=some o->b≠h1.objs.size+2∧b≠h1.objs.size:=fun b o z=>⟨fun y=>(by rw[y,fr _ (.head _)] at z;cases z),fun y=>(by rw[y,fr _ (.tail _ (.head _))] at z;cases z)⟩;refine K Td _ _ ⟨I3.leave (fun b o hb z=>k6 b o (fun y=>hb (by rw[y];exact .head _)) (fun y=>hb (by rw[y];exact .tail _ (.head _))) z) (I.apart fr),M3.ext,fun b m=>(M3.fresh b m).imp id fun z=>?_,fun b o hb z=>?_⟩ ?_
  ·cases y:s.heap.get? b with
   |none=>rfl
   |some o=>rw[kk b o y] at z;cases z
  ·exact k6 b o (nk b o z).1 (nk b o z).2 (M3.keep b o hb (fun m=>(nk b o z).1 (wl.mp m)) (kk b o z))
  ·refine ⟨h1.objs.size,out,c2,rfl,⟨(I3.offs h1.objs.size (.tail _ (.head _))).1,I.offNew (fr _ (.tail _ (.head _)))⟩,a6,?_⟩;have:=cU (C:=C) (Y:=Td) (h:=h6) o6;rw[z6] at this;exact this
end
section
variable {Bk De:Aj}{s':OZ}
theorem Ck.dr (G:Ck C Y s Bx Av s')(d:Drawn):Ck C Y s Bx Av { s' with drawn:=d }:=
 ⟨⟨G.inv.len,G.inv.nd,G.inv.base,G.inv.fns,G.inv.objs,G.inv.os,G.inv.gens,G.inv.big,G.inv.offs,G.inv.tb⟩,G.mv⟩
theorem dH {f:V}(h:Dv f=true):f = .bi "sorted":=by
 induction f using V.casesOn with
 |bi id=>exact congrArg V.bi (beq_iff_eq.mp h)
 |_=>exact ft h
theorem dm {vs:List V}{l:List Int}(h:nz vs=some l):vs=[.set l]:=by
 cases vs with
 |nil=>exact nn h
 |cons v r=>
  cases r with
  |cons _ _=>exact nn h
  |nil=>
   induction v using V.casesOn with
   |set q=>exact congrArg (fun q=>[V.set q]) (wx h)
   |_=>exact nn h
theorem fv {sr:Gh}{lo:Int}{c:Nat}(h:nu sr=some (lo,c)):sr = .rng lo c:=by
 induction sr using Gh.casesOn with
 |rng a b=>cases h;rfl
 |_=>exact nn h
theorem rE {args:List O6}{n:O7}{as:List O6}(h:iL args=some (n,as)):∃q p,args=[.Call (.Name n q) as [] p]:=by
 cases args with
 |nil=>exact nn h
 |cons a r=>
  cases r with
  |cons _ _=>exact nn h
  |nil=>
   induction a using O6.casesOn with
   |Call f NU AJ p=>
    cases AJ with
    |cons _ _=>exact nn h
    |nil=>
     induction f using O6.casesOn with
     |Name m q=>cases h;exact ⟨q,p,rfl⟩
     |_=>exact nn h
   |_=>exact nn h
theorem ah {ks:List (O7×V)}{f:V}(h:ml ks=some f):ks=[(("key":O7),f)]∧Nq f=true:=by
 cases ks with
 |nil=>exact nn h
 |cons k r=>
  cases r with
  |cons _ _=>exact nn h
  |nil=>
   obtain ⟨a,b⟩:=k;have h:(if a==("key":O7)&&Nq b then some b else none)=some f:=h;split at h
   ·have hk:=xh.mp ‹_›;cases h;exact ⟨by rw[beq_iff_eq.mp hk.1],hk.2⟩
   ·exact nn h
theorem xS (L':Ce g L n)(W:Wd C g)(I:Bh C Y J s)(X:Ba C Y e AA){q p:Pos}{args:List O6}{v:V}(h:yS g L e args [] J=some (v,Av)):At C (n+1) Y s (callWith q (.builtin "sorted") [] (backTo p (starEach args AA)) []) Av (RV C v):=by
 refine oC2 h fun vs Ab h1 h=>oC1 h fun l hl h=>?_;split at h
 ·rename_i hz;cases h;obtain rfl:=dm hl;intro A Q E R K;refine mU L' W I X (first:=[]) (R₂:=RV C (.lst (l.map Bi))) h1 (fun Bl Be xs Bm rs A' Q' E' R' K'=>?_) A Q E R.pred K;obtain ⟨x,_,rfl,⟨a,o,rfl,IV,ho,hS⟩,rfl⟩:=rs;refine iV R'.hd ho hS (xm hz) fun Lr h' dr vs m kk hn hg hI=>?_;exact K' _ _ _ ((Bm.inv.ext kk Be.toks).dr dr) ⟨Lr,vs,m,rfl,(Bm.inv.free hn).1,hg,cU hI⟩
 ·exact nn h
theorem xK (L':Ce g L n)(W:Wd C g)(I:Bh C Y J s)(X:Ba C Y e AA){q p:Pos}{args:List O6}{AJ:List Keyword}{v:V}(h:uM g L e args AJ J=some (v,Av)):At C (n+1) Y s (callWith q (.builtin "sorted") [] (backTo p (starEach args AA)) (backToKw p (keywordEach AJ AA))) Av (RV C v):=by
 refine oC2 h fun rn as ha h=>oC1 h fun m hm h=>oC1 hm fun v0 hv hm=>?_;split at h
 ·obtain rfl:=beq_iff_eq.mp ‹_›;rw[Xq hm] at hv;refine oC2 h fun vs Ab h1 h=>oC1 h fun sr hq h=>oC2 h fun lo c hs h=>?_;obtain rfl:=fv hs;split at h
  ·rename_i hc;refine oC2 h fun ks Ai h2 h=>oC1 h fun f hf h=>oC2 h fun kk' Bk h3 h=>?_;cases h;obtain ⟨rfl,hfa⟩:=ah hf;obtain ⟨rp,ap,rfl⟩:=rE ha;intro A Q E R K;obtain ⟨k1,k2,k3⟩:=Ni (AA:=AA) (p:=p) h2;have e1:backTo p (starEach [.Call (.Name rn rp) as [] ap] AA)=(false,eval (.Call (.Name rn rp) as [] ap) AA)::backTo p (starEach [] AA):=by rw[Ef rfl];rfl
   refine callWith_of (P:=fun Z=>True) (by rw[e1,k1];rfl) (fun Z Z=>(Mine.w12 .machine (.inr (.inl rfl)) (Looks.of_pure rfl))) ?_;have z:PD C.md A (spliced (backTo p (starEach [.Call (.Name rn rp) as [] ap] AA))) (fun vs Be=>PD C.md A (evalAll ((backToKw p (keywordEach AJ AA)).map (·.2)))
    (fun ks Cf=>True∧PD C.md A (call (.builtin "sorted") ([]++vs) (((backToKw p (keywordEach AJ AA)).filterMap (·.1)).zip ks)) Q E Cf) E Be) E s:=by
    refine wpAny_items_cons (kZ L' W I X hv h1 R.pred fun Bl Be xs Bm rs=>cN hq rs fun h' tk r a b t u w kk hn hr l1 l2 LG=>wpAny_items_nil ?_) (Ef rfl)
    injection LG with ea LG
    subst ea;have OS:∀a∈[r],Be.heap.get? a=none:=fun a m=>by rw[wl.mp m];exact hn
    have I2:Bh (C.wo ([r]++C.off)) Bl Ab { Be with heap:=h',toks:=tk }:=Bm.inv.enter kk fun a m=>⟨OS a m,by rw[wl.mp m];exact ⟨_,hr⟩⟩;refine xN (C:=C.wo ([r]++C.off)) L' (W.off _) I2 ((X.go Bm).wo _) h2 A _ E R.pred fun Fy Cf ys Ft ry=>⟨trivial,?_⟩;obtain ⟨vf,_,rfl,rf,rfl⟩:=ry;rw[k3];obtain ⟨o1,-,o3⟩:=eG l1 l2;rw[← LG] at o3;refine sQ (C:=C.wo ([r]++C.off)) L' (W.off _) Ft.inv (Ft.mv.keep r _ (I2.offs r (.head _)).1 hr) o1 o3 (xm hc) rf hfa h3 A Q E R fun jm bI x zG rx=>?_;exact K _ _ _ (Bm.trans (Ck.under (t₃:=bI.toks) kk OS (Ft.trans zG) (fun b o Z e=>e) Bm.inv.offGet)) (Bz.gen (C:=C.wo ([r]++C.off)) (AC:=C.off) (Kp.leave (nw:=[r]) fun b o Z e=>e) rx)
   exact evalArgs_kw k2 z
  ·exact nn h
 ·exact nn h
theorem tQ (L':Ce g L n)(W:Wd C g)(I:Bh C Y J s)(X:Ba C Y e AA){nm:O7}{q p:Pos}{args:List O6}{AJ:List Keyword}{f v:V}(h0:Dc g e nm J=some f)(hf:Dv f=true)
 (h:yS g L e args AJ J=some (v,Av)):At C (n+1) Y s (eval (.Call (.Name nm q) args AJ p) AA) Av (RV C v):=by
 obtain rfl:=dH hf;intro A Q E R K;refine wpAny_Call_Name_kw (Ti W I X h0 A _ E R.pred fun An Ao vf Ay rf=>?_);subst rf;cases AJ with
 |nil=>exact xS L' W Ay.inv (X.go Ay) h A Q E R fun Bl Be x Bm rx=>K _ _ _ (Ay.trans Bm) rx
 |cons kw kr=>exact xK L' W Ay.inv (X.go Ay) h A Q E R fun Bl Be x Bm rx=>K _ _ _ (Ay.trans Bm) rx
end
section
variable {Bk De:Aj}{s':OZ}
theorem cQ {v x:V}(h:lL v=some x):v = .inst x:=by
 induction v using V.casesOn with
 |inst y=>exact congrArg V.inst (wx h)
 |_=>exact nn h
theorem rH {b:Bool}(h:¬(!b)=true):b=true:=by
 cases b with
 |true=>rfl
 |false=>exact absurd rfl h
theorem li (I:Bh C Y J s){c:Const}{kc:Nat}{pc:Pos}{v:V}(h:nK c J=some (v,Av)):At C n Y s (eval (.Constant c kc pc) AA) Av (RV C v):=by
 cases c<;>first|exact nn h|exact dM (v:=_) I rfl|(cases h;exact dM I rfl)
theorem cmp1 (L':Ce g L n)(W:Wd C g)(I:Bh C Y J s)(X:Ba C Y e AA){l:O6}{ED:List CmpOp}{rs:List O6}{p:Pos}{v:V}(h:j8 L e l ED rs J=some (v,Av)):At C n Y s (eval (.Compare l ED rs p) AA) Av (RV C v):=by
 refine Nk h fun op ho h=>Nk h fun r hr h=>itE h (fun Z=>nn) fun hs h=>oC2 h fun a Ab h1 h=>oC2 h fun b Ai h2 h=>oC1 h fun c h3 h=>?_;cases h;rw[ho,hr];exact og L' W I X (rH hs) h1 h2 h3
theorem tup1 (L':Ce g L n)(W:Wd C g)(I:Bh C Y J s)(X:Ba C Y e AA){es:List O6}{k:Nat}{p:Pos}{v:V}(h:tL L e es J=some (v,Av)):At C n Y s (eval (.Tuple es k p) AA) Av (RV C v):=by
 refine itE h (fun Z=>nn) fun hz h=>?_
 ·exact oC2 h fun vs Ab h1 h=>by cases h;exact sV L' W I X (rH hz) h1
theorem lst1 (L':Ce g L n)(W:Wd C g)(I:Bh C Y J s)(X:Ba C Y e AA){es:List O6}{p:Pos}{v:V}(h:rX L e es J=some (v,Av)):At C n Y s (eval (.List es p) AA) Av (RV C v):=by
 refine itE h (fun Z=>nn) fun hz h=>?_
 ·exact oC2 h fun vs Ab h1 h=>by cases h;exact gf L' W I X (rH hz) h1
theorem dic1 (L':Ce g L n)(W:Wd C g)(I:Bh C Y J s)(X:Ba C Y e AA){ks:List (Option O6)}{vs:List O6}{p:Pos}{v:V}(h:uH L e ks vs J=some (v,Av)):At C n Y s (eval (.Dict ks vs p) AA) Av (RV C v):=by
 refine itE h (fun hz h=>?_) fun Z=>nn
 ·exact oC2 h fun l Ab h1 h=>oC1 h fun ps h2 h=>by cases h;exact ei L' W I X hz h1 h2
theorem lam1 (W:Wd C g)(I:Bh C Y J s)(X:Ba C Y e AA){args:Arguments}{body:O6}{scope:Scope}{p:Pos}{v:V}(h:jb e args body scope J=some (v,Av)):At C n Y s (eval (.Lambda args body scope p) AA) Av (RV C v):=by
 refine itE h (fun hd h=>?_) fun Z=>nn
 ·rw[wm,List.isEmpty_iff,List.isEmpty_iff] at hd;refine oC2 h fun i q ht h1=>oC1 h1 fun q' hm h2=>?_;refine itE h2 (fun hq h2=>?_) fun Z=>nn;rw[beq_iff_eq.mp hq] at hm;exact oC1 h2 fun cl AL h3=>by cases h3;exact rA W I X hd.1 hd.2 ht (zA hm) AL
theorem sub1 (L':Ce g L n)(W:Wd C g)(I:Bh C Y J s)(X:Ba C Y e AA){o i:O6}{p:Pos}{v:V}(h:nA L e o i J=some (v,Av)):At C n Y s (eval (.Subscript o i p) AA) Av (RV C v):=by
 cases hi:Gb i with
 |true=>
  induction i using O6.casesOn with
  |Slice a b st q=>cases st with
   |some _=>exact nn h
   |none=>
    exact oC2 h fun ov Ab h1 h=>oC2 h fun av Ai h2 h=>oC2 h fun bv Bk h3 h=>oC1 h fun v h4 h=>by cases h;exact sH L' W I X h1 h2 h3 h4
  |_=>exact ft hi
 |false=>
  have h:gK L e o i J=some (v,Av):=by
   induction i using O6.casesOn with
   |Slice a b st q=>exact tf hi
   |_=>exact h
  exact oC2 h fun ov Ab h1 h=>oC2 h fun iv Ai h2 h=>oC1 h fun v h3 h=>by cases h;exact lh L' W I X hi h1 h2 h3
theorem att1 (L':Ce g L n)(W:Wd C g)(I:Bh C Y J s)(X:Ba C Y e AA){o:O6}{nm:O7}{p:Pos}{v:V}(h:uV L e o nm J=some (v,Av)):At C n Y s (eval (.Attribute o nm p) AA) Av (RV C v):=by
 refine itE h (fun Z=>nn) fun hs h=>?_
 ·refine oC2 h fun ov Ab h1 h=>oC1 h fun x hx h=>?_;rw[cQ hx] at h1;refine itE h (fun hc h=>?_) fun Z=>nn
  ·have hc:=xh.mp hc;cases h;obtain rfl:=beq_iff_eq.mp hc.1;exact dw L' W I X (rH hs) h1 hc.2
theorem qg (L':Ce g L n)(W:Wd C g)(I:Bh C Y J s)(X:Ba C Y e AA){o:O6}{nm:O7}{ap p:Pos}{args:List O6}{v:V}(h:Zx g L e o nm ap args p J=some (v,Av)):At C n Y s (eval (.Call (.Attribute o nm ap) args [] p) AA) Av (RV C v):=by
 refine itE h (fun Z=>nn) fun hg h=>?_
 ·have hg:=rH hg;refine oC2 h fun ov Ab h1 h=>oS1 h (fun id JE h=>oC2 h fun vs Ai h2 h=>gt L' W I X hg h1 JE h2 h) fun Z h4=>oC1 h4 fun x hx h5=>?_;split at h5
  ·refine oC2 h5 fun vs Ai h2 h6=>?_;have hn:=beq_iff_eq.mp ‹(nm==("compare":O7))=true›;subst hn;rw[cQ hx] at h1 h6;exact iX L' W I X hg h1 h2 h6
  ·exact nn h5
theorem sy (L':Ce g L n)(W:Wd C g)(I:Bh C Y J s)(X:Ba C Y e AA){nm:O7}{q p:Pos}{args:List O6}{AJ:List Keyword}{v:V}(h:Wt g L e nm args AJ J=some (v,Av)):At C (n+1) Y s (eval (.Call (.Name nm q) args AJ p) AA) Av (RV C v):=
 oC1 h fun f h0 h=>by
  split at h
  ·exact tQ L' W I X h0 ‹_› h
  ·exact oC2 h fun vs Ab h1 h=>oC2 h fun ks Ai h2 h=>(ae L' W I X h0 h1 h2 h).le
theorem pT (L':Ce g L n)(W:Wd C g)(I:Bh C Y J s)(X:Ba C Y e AA){x:O6}{v:V}(h:gD g L e x J=some (v,Av)):At C (n+1) Y s (eval x AA) Av (RV C v):=by
 induction x using O6.casesOn with
 |Constant c kc pc=>exact (li I h).le
 |Name nm pn=>
  exact oC1 h fun v h1 h=>by cases h;exact (Ti W I X h1).le
 |BinOp l op r p=>
  exact oC2 h fun a Ab h1 h=>oC2 h fun b Ai h2 h=>(mx L' W I X h1 h2 h).le
 |UnaryOp op y p=>
  exact oC2 h fun a Ab h1 h=>oC1 h fun b h2 h=>by cases h;exact (ta L' W I X h1 h2).le
 |Compare l ED rs p=>exact (cmp1 L' W I X h).le
 |BoolOp op vs p=>rw[arm_eval_BoolOp];exact (yU L' W I X h).le
 |IfExp t a b p=>
  exact oC2 h fun c Ab h1 h=>(xR L' W I X h1 h).le
 |Tuple es k p=>exact (tup1 L' W I X h).le
 |List es p=>exact (lst1 L' W I X h).le
 |Dict ks vs p=>exact (dic1 L' W I X h).le
 |ListComp AW gens scope q=>exact (Nh L' W I X (x:=.ListComp AW gens scope q) h).le
 |SetComp AW gens scope q=>exact (Nh L' W I X (x:=.SetComp AW gens scope q) h).le
 |DictComp kk vv gens scope q=>exact (Nh L' W I X (x:=.DictComp kk vv gens scope q) h).le
 |Lambda args body scope p=>exact (lam1 W I X h).le
 |Subscript o i p=>exact (sub1 L' W I X h).le
 |Attribute o nm p=>exact (att1 L' W I X h).le
 |Call f args AJ p=>
  induction f using O6.casesOn with
  |Name nm q=>exact sy L' W I X h
  |Attribute o nm ap=>cases AJ with
   |nil=>exact (qg L' W I X h).le
   |cons _ _=>exact nn h
  |_=>exact nn h
 |_=>exact nn h
end
section
variable {Bk De:Aj}{s':OZ}
set_option tactic.hygienic true in
theorem cY (L':Ce g L n)(W:Wd C g)(I:Bh C Y J s)(X:Ba C Y e AA){nm:O7}{q p:Pos}{x:O6}{v:V}(h1:Jy g L e x J=some (v,Ab))(h2:Dj e nm v Ab=some Av) :
 At C n Y s (exec (.Assign [.Name nm q] x p) AA) Av (RF C .next):=by
 by_cases hs:Uv x=true
 ·exact jE L' W I X hs h1 h2
 ·cases x<;>first|exact absurd rfl hs|skip
  rename_i AW gens scope pos;have st:At C n Y s (evalThenUse (.SetComp AW gens scope pos) AA (assign (.Name nm q) AA)) Av (fun Z Z Z=>True):=by
   unfold Jy at h1;dsimp only at h1;split at h1
   ·rename_i vs Nu B0;split at h1
    ·rename_i q' hq;cases h1;exact fun A Q E R K=>Aa (Pa L' W I X (kd:=.set) (x:=.SetComp AW gens scope pos) (pos:=firstIterPos gens pos) rfl rfl (fun D ce AQ=>fL L' W) Wi B0 (by unfold cM;dsimp only;rw[hq]) h2 A _ E R fun Bx s' Z G Z=>Ag (K _ _ _ G trivial))
    ·cases h1
   ·cases h1
  intro A Q E R K;obtain ⟨b,hb⟩:=Vv (AA:=AA) (x:=.SetComp AW gens scope pos) (nm:=nm) (q:=q) (line:=p.line);cases b with
  |false=>exact wpAny_Assign_Name (Nh L' W I X h1 A _ E R fun An Ao x Ay rx=>Gr Ay.inv (X.go Ay) rx h2 A _ E R fun Bl Be Z Bm Z=>K _ _ _ (Ay.trans Bm) rfl) hb
  |true=>
   rw[exec_Assign_Name_used nm q _ p hb];exact Aa (wpAny_standAt (Aa (st A _ E R fun An Ao Z Ay Z=>Ag (K _ _ _ Ay rfl))))
theorem wY {b:Bool}(h:¬b=true):b=false:=by
 cases b with
 |false=>rfl
 |true=>exact absurd rfl h
theorem ux (L':Ce g L n)(W:Wd C g)(I:Bh C Y J s)(X:Ba C Y e AA){nm:O7}{q p:Pos}{x:O6}{f:Fl}(h:aQ g L e nm x J=some (f,Av)):At C n Y s (exec (.Assign [.Name nm q] x p) AA) Av (RF C f):=
 oC2 h fun v Ab h1 h=>oC1 h fun Ai h2 h=>by
  cases h;split at h1
  ·exact cY L' W I X h1 h2
  ·exact jO L' W I X (wY ‹_›) h1 h2
theorem vk (L':Ce g L n)(W:Wd C g)(I:Bh C Y J s)(X:Ba C Y e AA){o i x:O6}{q p:Pos}{f:Fl}(h:jS L e o i x J=some (f,Av)):At C n Y s (exec (.Assign [.Subscript o i q] x p) AA) Av (RF C f):=by
 refine itE h (fun Z=>nn) fun hc h=>?_
 ·have hc:=Bool.or_eq_false_iff.mp (wY hc);exact oC2 h fun v Ab h1 h=>oC2 h fun ov Ai h2 h=>oC2 h fun iv Bk h3 h=>oC1 h fun De h4 h=>by cases h;exact qD L' W I X hc.1 h1 h2 h3 h4
theorem vg (L':Ce g L n)(W:Wd C g)(I:Bh C Y J s)(X:Ba C Y e AA){ts:List O6}{k:Nat}{x:O6}{q p:Pos}{f:Fl}(h:aU L e ts x J=some (f,Av)):At C n Y s (exec (.Assign [.Tuple ts k q] x p) AA) Av (RF C f):=by
 refine itE h (fun Z=>nn) fun hc h=>?_
 ·have hc:=wY hc;refine oC2 h fun v Ab h1 h=>oC1 h fun l hv h=>oC1 h fun sw hs h=>?_;have h1:=(Qi hv) ▸ h1;cases sw with
  |none=>
   refine itE h (fun hl h=>?_) fun Z=>nn
   ·exact oC1 h fun Ai h2 h=>by cases h;exact pE L' W I X hc h1 hs (beq_iff_eq.mp hl) h2
  |some names=>
   refine itE h (fun hl h=>?_) fun Z=>nn
   ·exact oC1 h fun Ai h2 h=>by cases h;exact jQ L' W I X hc h1 hs (beq_iff_eq.mp hl) h2
theorem qj (L':Ce g L n)(W:Wd C g)(I:Bh C Y J s)(X:Ba C Y e AA){nm:O7}{q p:Pos}{x:O6}{f:Fl}(h:jK g L e nm x J=some (f,Av)):At C n Y s (exec (.AugAssign (.Name nm q) .Add x p) AA) Av (RF C f):=
 oC1 h fun va h1 h=>Ps h fun a pa ha h=>oC2 h fun vb Ab h2 h=>Ps h fun b pb hb h=>oC1 h fun Ai h3 h=>by
  cases h;rw[ha] at h1;rw[hb] at h2;exact iA L' W I X h1 h2 h3
theorem vr (L':Ce g L n)(W:Wd C g)(I:Bh C Y J s)(X:Ba C Y e AA){o i x:O6}{q p:Pos}{f:Fl}(h:iK L e o i x J=some (f,Av)):At C n Y s (exec (.AugAssign (.Subscript o i q) .Add x p) AA) Av (RF C f):=by
 refine itE h (fun Z=>nn) fun hs h=>?_
 ·exact oC2 h fun ov Ab h1 h=>oC2 h fun iv Ai h2 h=>oC1 h fun va h3 h=>Ps h fun a pa ha h=>oC2 h fun vb Bk h4 h=>Ps h fun b pb hb h=>oC1 h fun De h5 h=>by
   cases h;rw[ha] at h3;rw[hb] at h4;exact pV L' W I X (wY hs) h1 h2 h3 h4 h5
theorem qI (L':Ce g L n)(W:Wd C g)(I:Bh C Y J s)(X:Ba C Y e AA){x:PC}{f:Fl}(h:iM g L e x J=some (f,Av)):At C n Y s (exec x AA) Av (RF C f):=by
 induction x using PC.casesOn with
 |Expr x p=>
  refine itE h (fun Z=>nn) fun hc h=>?_
  ·refine oC2 h fun v Ab h1 h=>oC1 h fun u hu h=>?_;cases h;rw[Wv hu] at h1;exact f9 L' W I X (wY hc) h1
 |Return x p=>
  cases x with
  |none=>cases h;exact fun A Q E R K=>wpAny_Return_none (K _ _ _ (.refl I) (Mine.w12 _ rfl rfl))
  |some x=>
   exact oC2 h fun v Ab h1 h=>by cases h;exact fun A Q E R K=>wpAny_Return_some (L'.ev W I X h1 A _ E R fun An Ao x Ay rx=>K _ _ _ Ay (Mine.w12 _ rfl rx))
 |Break p=>cases h;exact fun A Q E R K=>wpAny_Break (K _ _ _ (.refl I) rfl)
 |Continue p=>cases h;exact fun A Q E R K=>wpAny_Continue (K _ _ _ (.refl I) rfl)
 |Pass p=>cases h;exact fun A Q E R K=>wpAny_Pass (K _ _ _ (.refl I) rfl)
 |Assign ts x p=>
  cases ts with
  |nil=>exact nn h
  |cons t r=>cases r with
   |cons _ _=>exact nn h
   |nil=>induction t using O6.casesOn with
    |Name nm q=>exact ux L' W I X h
    |Subscript o i q=>exact vk L' W I X h
    |Tuple ts k q=>exact vg L' W I X h
    |_=>exact nn h
 |AugAssign t op x p=>
  induction op using Operator.casesOn with
  |Add=>induction t using O6.casesOn with
   |Name nm q=>exact qj L' W I X h
   |Subscript o i q=>exact vr L' W I X h
   |_=>exact nn h
  |_=>exact nn h
 |If t b o p=>
  exact oC2 h fun c Ab h1 h=>tz L' W I X h1 h
 |While t b o p=>cases o with
  |nil=>exact vO L' W I X h
  |cons _ _=>exact nn h
 |For t i b o p=>cases o with
  |cons _ _=>exact nn h
  |nil=>
   refine oC2 h fun sr Ab h1 h=>?_;split at h
   ·exact nn h
   ·exact p8 L' W I X h1 (rH ‹_›) h
 |_=>exact nn h
theorem eJ (L':Ce g L n)(W:Wd C g)(I:Bh C Y J s){f:V}{args:List V}{AJ:List (O7×V)}{v:V}{vf:OY}{AR vkw:List OY}(h:Qx g L f args AJ J=some (v,Av))
 (rf:Bz C Y s.heap f vf) (ra:Bv C Y s.heap args AR) (rk:Bv C Y s.heap (AJ.map (·.2)) vkw):At C (n+1) Y s (call vf AR ((AJ.map (·.1)).zip vkw)) Av (RV C v):=by
 induction f using V.casesOn with
 |fn a=>
  obtain ⟨rfl,-⟩:=rf;refine itE (show (if a==g.cls then gM args AJ J else aI g L a args AJ J)=_ from h) (fun hc h=>?_) fun hc h=>oC1 h fun d hd h=>oC1 h fun l hl h=>vu L' W I hd hl h ra rk;refine Nk h fun x ha h=>Uo h fun hk h=>?_;cases h;subst hk;subst ha;obtain ⟨x,_,rfl,rx,rfl⟩:=ra;rw[beq_iff_eq.mp hc,W.cls];exact zY W I rx
 |bi id=>
  obtain rfl:=rf;refine Uo h fun hk h=>oC1 h fun v' h1 h=>?_;cases h;subst hk;exact my I ra h1
 |ty m=>
  obtain rfl:=rf;refine Uo h fun hk h'=>?_;subst hk;exact v8 I ra h'
 |clo a b sc ce=>
  refine Uo h fun hk h'=>?_;subst hk;exact ms L' W I h' rf ra
 |_=>exact nn h
theorem Mu (g:Gl):∀n,Ce g (Aw g n) n:=by
 intro X
 induction X with
 |zero=>
  exact ⟨fun Z Z Z h=>(by cases h),fun Z Z Z h=>(by cases h),fun Z Z Z h=>(by cases h),fun Z Z h=>(by cases h),fun Z Z h=>(by cases h)⟩
 |succ n ih=>
  exact Ce.mk (fun W I X h=>pT ih W I X h) (fun W I X h=>(pJ ih W I X h).le) (fun W I X h=>(qI ih W I X h).le) (fun W I h rf=>du W I h rf) fun W I h rf ra rk=>eJ ih W I h rf ra rk
end
inductive Lit
 |i (n:Int)
 |n
 |x
inductive Vw
 |fn (cls:OY) (params:Arguments) (body:FuncBody) (scope:Scope) (gl:O5) (clos:List (O7×O5)) (dflt kwd code:OY) (bl:O5) (qual:O7)
 |co (ok:Bool) (q:O7) (P:Option O5)
 |sq (l:List Lit)
 |dc (ok:Bool) (l:List (Int×O7×Int))
 |cl (ok:Bool) (ns:O5)
 |tb
 |other
def lJ:OY->Lit
 |.int i _=>.i i
 |.none=>.n
 |_=>.x
def Vw.kd:Vw->Nat
 |.fn ..=>0
 |.co ..=>1
 |.sq _=>2
 |.dc ..=>3
 |.cl ..=>4
 |.tb=>5
 |.other=>6
def Rh:OY->Bool|.str ..=>true|_=>false
def Pe:OY->Bool|.int ..=>true|_=>false
def lI:OY->Bool|.bool _=>true|_=>false
def nZ:OY->Bool|.none=>true|_=>false
def yJ (n:String):OY->Bool|.type t=>t==n|_=>false
def nj:OY->Option O5|.ref P=>some P|_=>none
def Xx:Option OY->Option O5|some v=>nj v|none=>none
def Oi:OY->O7|.str s _=>s|_=>O7.empty
def bR:OY->Int|.int i _=>i|_=>0
theorem oS {v:OY}(h:Rh v=true):∃s t,v = .str s t:=by
 induction v using OY.casesOn with
 |str s t=>exact ⟨s,t,rfl⟩
 |_=>exact ft h
theorem Yp {v:OY}(h:Pe v=true):∃s t,v = .int s t:=by
 induction v using OY.casesOn with
 |int s t=>exact ⟨s,t,rfl⟩
 |_=>exact ft h
theorem iQ {v:OY}(h:lI v=true):∃b,v = .bool b:=by
 induction v using OY.casesOn with
 |bool b=>exact ⟨b,rfl⟩
 |_=>exact ft h
theorem Ws {v:OY}(h:nZ v=true):v = .none:=by
 induction v using OY.casesOn with
 |none=>rfl
 |_=>exact ft h
theorem Th {n:String}{v:OY}(h:yJ n v=true):v = .type n:=by
 induction v using OY.casesOn with
 |type t=>exact congrArg OY.type (beq_iff_eq.mp h)
 |_=>exact ft h
theorem Na {v:Option OY}{P:O5}(h:Xx v=some P):v=some (.ref P):=by
 cases v with
 |none=>exact nn h
 |some v=>
  induction v using OY.casesOn with
  |ref a=>exact congrArg (fun a=>some (OY.ref a)) (wx h)
  |_=>exact nn h
def aW (o:Obj) (vs:Array OY):Bool:=yJ "code" o.cls&&Rh (vs.getD 18 .none)&&Pe (vs.getD 7 .none)&&lI (vs.getD 9 .none)&&Pe (vs.getD 10 .none)
def mq (o:Obj):Bool:=yJ "dict" o.cls&&o.dict.isNone&&o.slots.isEmpty
def uF (v:Option OY):Bool:=match v with
 |some (.builtin i)=>i=="object.__new__"
 |_=>false
def jt (l:List (Option OY)):Bool:=l.length==6&&uF (l.getD 4 none)
def io (l:List OY) (a:O5):Bool:=l.length==2&&Xx (l[0]?)==some a&&yJ "object" (l.getD 1 .none)
def s8 (o:Obj) (c:ClassData) (a:O5):Bool:=yJ "type" o.cls&&io c.mro a&&c.hasDict && !c.abstract && !c.hasDel&&jt o.slots.toList
def db (o:Obj) (vs:Array OY) (v:OY):Vw:=match v with
 |.str q _=>.co (aW o vs) q (Xx (vs[11]?))
 |_=>.other
def Ua (o:Obj) (vs:Array OY):Vw:=if vs.isEmpty then (if nZ o.cls&&(o.dict.isNone&&o.slots.isEmpty) then .tb else .other) else oe1 (vs[1]?) .other (db o vs)
def jx (a:O5) (o:Obj) (d:Data):Vw:=match d with
 |.func fd=>.fn o.cls fd.params fd.body fd.scope fd.globals fd.closure fd.defaults fd.kwdefaults fd.code fd.builtins fd.qualname
 |.fields vs=>Ua o vs
 |.seq vs _=>.sq (vs.toList.map lJ)
 |.dict es _=>.dc (mq o&&es.toList.all fun e=>Rh e.key&&Pe e.val) (es.toList.map fun e=>(e.hash,Oi e.key,bR e.val))
 |.cls c=>.cl (s8 o c a) c.ns
 |_=>.other
def Mx (a:O5) (o:Obj):Vw:=jx a o o.data
theorem ik {o:Obj}{vs:Array OY}{v:OY}:(db o vs v).kd=1∨(db o vs v).kd=6:=by
 induction v using OY.casesOn with
 |str=>exact .inl rfl
 |_=>exact .inr rfl
theorem Zt {o:Obj}{vs:Array OY}{v:Vw}{G:Prop}(h:Ua o vs=v)(h1:v.kd≠1)(h5:v.kd≠5)(h6:v.kd≠6):G:=by
 refine absurd ?_ h6;unfold Ua at h;split at h
 ·split at h
  ·exact absurd (h ▸ rfl) h5
  ·exact h ▸ rfl
 ·refine oS1 h (fun x Z h=>?_) fun Z h=>h ▸ rfl;exact ik.elim (fun k=>absurd (h ▸ k) h1) fun k=>h ▸ k
def Jq (h:O9):List (O5×Vw)->Prop
 |[]=>True
 |(a,v)::r=>(∃o,h.get? a=some o∧Mx a o=v)∧Jq h r
theorem Jq.keeps {h h':O9}(k:∀b o,h.get? b=some o->h'.get? b=some o):∀{l:List (O5×Vw)},Jq h l->Jq h' l
 |[],_=>trivial
 |(a,v)::r,⟨⟨o,e,q⟩,x⟩=>⟨⟨o,k _ _ e,q⟩,Jq.keeps k x⟩
def wO (h:O9) (as:List O5):List (Option Vw):=as.map fun a=>(h.get? a).map (Mx a)
theorem Jq.of {h:O9}:∀{l:List (O5×Vw)},wO h (l.map (·.1))=l.map (fun p=>some p.2)->Jq h l
 |[],_=>trivial
 |(a,v)::r,e=>by
  have e1:(h.get? a).map (Mx a)=some v:=(List.cons.inj e).1;have e2:=(List.cons.inj e).2;cases q:h.get? a with
  |none=>rw[q] at e1;cases e1
  |some o=>rw[q] at e1;exact ⟨⟨o,q,wx e1⟩,Jq.of e2⟩
theorem Jq.mem {h:O9}{a:O5}{v:Vw}:∀{l:List (O5×Vw)},Jq h l->(a,v)∈l->∃o,h.get? a=some o∧Mx a o=v:=by
 intro l
 induction l with
 |nil=>intro _ m;exact absurd m y7
 |cons p r ih=>
  intro s m;obtain ⟨b,u⟩:=p;rcases wk.mp m with q|q
  ·injection q with q1 q2
   rw[q1,q2];exact s.1
  ·exact ih s.2 q
structure jU where
 a:O5
 c:O5
 P:O5
 d:Ek
 dflt:OY
 kwd:OY
 qual:O7
def jU.says (r:jU):List (O5×Vw):=[(r.a,.fn (.type "function") r.d.args (.stmts r.d.body) r.d.scope mainGlobals [] r.dflt r.kwd (.ref r.c) builtinsNs r.qual),(r.c,.co true r.qual (some r.P))]
def fnV:Vw->Option (OY×Arguments×FuncBody×Scope×O5×List (O7×O5)×OY×OY×OY×O5×O7)
 |.fn a b c d e f g h i j k=>some (a,b,c,d,e,f,g,h,i,j,k)
 |_=>none
theorem jh {a:O5}{o:Obj}{cls:OY}{params:Arguments}{body:FuncBody}{scope:Scope}{gl:O5}{clos:List (O7×O5)}{dflt kwd code:OY}{bl:O5}{qual:O7}(h:Mx a o = .fn cls params body scope gl clos dflt kwd code bl qual) :
 ∃fd,o.data = .func fd∧o.cls=cls∧fd.params=params∧fd.body=body∧fd.scope=scope∧fd.globals=gl∧fd.closure=clos∧fd.defaults=dflt∧fd.kwdefaults=kwd∧fd.code=code∧fd.builtins=bl∧fd.qualname=qual:=by
 have h:jx a o o.data=_:=h;generalize hd:o.data=D at h
 induction D using Data.casesOn with
 |func fd=>
  have k:=wx (congrArg fnV h);exact ⟨fd,rfl,congrArg (·.1) k,congrArg (·.2.1) k,congrArg (·.2.2.1) k,congrArg (·.2.2.2.1) k,congrArg (·.2.2.2.2.1) k,congrArg (·.2.2.2.2.2.1) k,congrArg (·.2.2.2.2.2.2.1) k,congrArg (·.2.2.2.2.2.2.2.1) k,congrArg (·.2.2.2.2.2.2.2.2.1) k,congrArg (·.2.2.2.2.2.2.2.2.2.1) k,congrArg (·.2.2.2.2.2.2.2.2.2.2) k⟩
 |fields vs=>exact Zt h nofun nofun nofun
 |_=>exact ft (congrArg (fun v:Vw=>Nat.beq v.kd 0) h)
theorem t4 {o:Obj}{vs:Array OY}{v:OY}{q:O7}{P:Option O5}(h:db o vs v = .co true q P):∃t,v = .str q t∧aW o vs=true∧P=Xx (vs[11]?):=by
 induction v using OY.casesOn with
 |str s t=>injection h with h1 h2 h3;exact ⟨t,by rw[h2],h1,h3.symm⟩
 |_=>exact ft (congrArg (fun v:Vw=>Nat.beq v.kd 1) h)
theorem u0 {a:O5}{o:Obj}{q:O7}{P:Option O5}(h:Mx a o = .co true q P):∃vs t,o.data = .fields vs∧vs[1]?=some (.str q t)∧aW o vs=true∧P=Xx (vs[11]?):=by
 have h:jx a o o.data=_:=h;generalize hd:o.data=D at h
 induction D using Data.casesOn with
 |fields vs=>
  have h:Ua o vs=_:=h;unfold Ua at h;split at h
  ·split at h<;>exact nomatch h
  ·refine oS1 h (fun x hx h=>?_) fun Z h=>nomatch h
   obtain ⟨t,rfl,h1,h2⟩:=t4 h;exact ⟨vs,t,rfl,hx,h1,h2⟩
 |_=>exact ft (congrArg (fun v:Vw=>Nat.beq v.kd 1) h)
theorem um {a:O5}{o:Obj}(h:Mx a o = .tb):o=Jz #[]:=by
 have h:jx a o o.data=_:=h;generalize hd:o.data=D at h
 induction D using Data.casesOn with
 |fields vs=>
  have h:Ua o vs=_:=h;unfold Ua at h;split at h
  ·rename_i he;split at h
   ·rename_i hz;have hz:=xh.mp hz;have hw:=xh.mp hz.2;obtain ⟨c,d,dt,sl⟩:=o;have h1:c = .none:=Ws hz.1;have h2:d=none:=zg.mp hw.1;have h3:sl = #[]:=Array.isEmpty_iff.mp hw.2;have h4:dt = .fields vs:=hd;rw[h1,h2,h3,h4,Array.isEmpty_iff.mp he]
    rfl
   ·exact nomatch h
  ·exact oS1 h (fun x Z h=>ik.elim (fun k=>absurd (h ▸ k) (by decide)) fun k=>absurd (h ▸ k) (by decide)) fun Z h=>nomatch h
 |_=>exact ft (congrArg (fun v:Vw=>Nat.beq v.kd 5) h)
theorem bA {o:Obj}{vs:Array OY}(h:aW o vs=true):o.cls = .type "code"∧(∃s t,vs.getD 18 .none = .str s t)∧(∃i t,vs.getD 7 .none = .int i t)∧(∃b,vs.getD 9 .none = .bool b)∧(∃i t,vs.getD 10 .none = .int i t):=by
 have h:=xh.mp h;have h1:=xh.mp h.1;have h2:=xh.mp h1.1;have h3:=xh.mp h2.1;exact ⟨Th h3.1,oS h3.2,Yp h2.2,iQ h1.2,Yp h.2⟩
theorem aY {h:O9}{c P:O5}{q:O7}{o:Obj}(ho:h.get? c=some o)(hv:Mx c o = .co true q (some P))(AX:c≠P):CodeHd h c P∧h.CodeRec (.ref c) q:=by
 obtain ⟨vs,t,hd,h1,CY,hP⟩:=u0 hv;obtain ⟨c1,⟨s,ts,c2⟩,⟨i,ti,c3⟩,⟨b,c4⟩,⟨j,tj,c5⟩⟩:=bA CY;have OU:vs[11]?=some (.ref P):=Na hP.symm;have g11:vs.getD 11 .none = .ref P:=by
  rw[Array.getD_eq_getD_getElem?,OU];rfl
 exact ⟨⟨o,vs,s,ts,i,ti,b,j,tj,ho,c1,hd,OU,g11,c2,c3,c4,c5,AX⟩,c,o,vs,t,rfl,ho,hd,h1⟩
section
set_option maxHeartbeats 0
abbrev P:Program:=pw_xh0038_03
def Xi (p:Program) (i:Nat) (opt:Bool) (tab:Option (Nat×O7)) (muts:List O7):Ek:=match p.main.body[i]? with
 |some (.FunctionDef _ a b _ _ _ sc _ _ _)=>⟨a,b,sc,opt,tab,muts⟩
 |_=>⟨{ posonlyargs:=[],args:=[],vararg:=none,kwonlyargs:=[],kw_defaults:=[],kwarg:=none,defaults:=[] },[],{ kind:=.module,names:=[],isGenerator:=false,isCoroutine:=false },false,none,[]⟩
def mOf (p:Program) (i j:Nat):Ek:=match p.main.body[i]? with
 |some (.ClassDef _ _ _ b _ _ _ _ _ _ _)=>(match b[j]? with
  |some (.FunctionDef _ a b _ _ _ sc _ _ _)=>⟨a,b,sc,false,none,[]⟩
  |_=>Xi p 0 false none [])
 |_=>Xi p 0 false none []
def vG:List (O7×Int):=[(PE "!",54),(PE "!=",28),(PE "%",24),(PE "%=",40),(PE "&",19),(PE "&=",41),(PE "(",7),(PE ")",8),(PE "*",16),(PE "**",35),(PE "**=",46),(PE "*=",38),(PE "+",14),(PE "+=",36),(PE ",",12),(PE "-",15),(PE "-=",37),(PE "->",51),(PE ".",23),(PE "...",52),(PE "/",17),(PE "//",47),(PE "//=",48),(PE "/=",39),(PE ":",11),(PE ":=",53),(PE ";",13),(PE "<",20),(PE "<<",33),(PE "<<=",44),(PE "<=",29),(PE "=",22),(PE "==",27),(PE ">",21),(PE ">=",30),(PE ">>",34),(PE ">>=",45),(PE "@",49),(PE "@=",50),(PE "[",9),(PE "]",10),(PE "^",32),(PE "^=",43),(PE "{",25),(PE "|",18),(PE "|=",42),(PE "}",26),(PE "~",31)]
def rows:List jU:=[
 ⟨23,22,18,Xi P 1 true (none) ([]),.ref 15,.ref 16,"insort_right"⟩,
  ⟨32,31,27,Xi P 2 true (none) ([]),.ref 24,.ref 25,"bisect_right"⟩,
   ⟨41,40,36,Xi P 3 true (none) ([]),.ref 33,.ref 34,"insort_left"⟩,
    ⟨50,49,45,Xi P 4 true (none) ([]),.ref 42,.ref 43,"bisect_left"⟩,
     ⟨85,84,80,Xi P 7 false (none) ([]),.none,.none,"add_func_stats"⟩,
      ⟨92,91,87,Xi P 8 false (none) (["new_callers"]),.none,.none,"add_callers"⟩,
       ⟨99,98,94,Xi P 9 false (none) ([]),.none,.none,"count_calls"⟩,
        ⟨109,108,104,Xi P 62 false (none) ([]),.none,.none,"ISTERMINAL"⟩,
         ⟨116,115,111,Xi P 63 false (none) ([]),.none,.none,"ISNONTERMINAL"⟩,
          ⟨123,122,118,Xi P 64 false (none) ([]),.none,.none,"ISEOF"⟩,
           ⟨130,129,125,Xi P 66 false (none) (["drawn"]),.none,.none,"_law_drawn"⟩,
            ⟨135,134,132,Xi P 67 false (none) (["places"]),.none,.none,"_law_read"⟩,
             ⟨142,141,137,Xi P 68 false (none) ([]),.none,.none,"_law_entry"⟩,
              ⟨147,146,144,Xi P 69 false (none) ([]),.none,.none,"_law_reached"⟩,
               ⟨152,151,149,Xi P 70 false (none) (["row"]),.none,.none,"_law_laid"⟩,
                ⟨159,158,154,Xi P 71 false (some (0,"_law_strongest.<locals>.<lambda>")) ([]),.none,.none,"_law_strongest"⟩,
                 ⟨164,163,161,Xi P 72 false (some (1,"_law_widest.<locals>.<lambda>")) (["taken","queue"]),.none,.none,"_law_widest"⟩,
                  ⟨169,168,166,Xi P 73 false (none) ([]),.none,.none,"_law_cuts"⟩,
                   ⟨174,173,171,Xi P 74 false (some (2,"law.<locals>.<lambda>")) (["up","down"]),.none,.none,"law"⟩,
                    ⟨71,70,66,mOf P 6 1,.none,.none,"TupleComp.compare"⟩]
def globs:List (O7×OY):=[("insort_right",.ref 23),("bisect_right",.ref 32),("insort_left",.ref 41),("bisect_left",.ref 50),("add_func_stats",.ref 85),("add_callers",.ref 92),("count_calls",.ref 99),("ISTERMINAL",.ref 109),("ISNONTERMINAL",.ref 116),("ISEOF",.ref 123),("_law_drawn",.ref 130),("_law_read",.ref 135),("_law_entry",.ref 142),("_law_reached",.ref 147),("_law_laid",.ref 152),("_law_strongest",.ref 159),("_law_widest",.ref 164),("_law_cuts",.ref 169),("law",.ref 174),("TupleComp",.ref 74),("EXACT_TOKEN_TYPES",.ref 100)]
def Iv:List O7:=["len","sum","max","min","ord","isinstance","sorted","int","tuple","list","set","range","enumerate","zip","str","ValueError"]
def Mb:Ek:=mOf P 6 0
def Lz (w:World):List (O5×Vw):=rows.flatMap jU.says ++
 [(64,.fn (.type "function") Mb.args (.stmts Mb.body) Mb.scope mainGlobals [] .none .none (.ref 63) builtinsNs "TupleComp.__init__"),(63,.co true "TupleComp.__init__" (some 59)),
  (15,.sq [.i 0,.n]),(24,.sq [.i 0,.n]),(33,.sq [.i 0,.n]),(42,.sq [.i 0,.n]),(154,.tb),(161,.tb),(171,.tb),(74,.cl true 73),
   (100,.dc true (vG.map fun p=>(hashStr w p.1,p.1,p.2)))]
def Rq:List O5:=[23,22,32,31,41,40,50,49,85,84,92,91,99,98,109,108,116,115,123,122,130,129,135,134,142,141,147,146,152,151,159,158,164,163,169,168,174,173,71,70,
 64,63,15,24,33,42,154,161,171,74,100]
def isI (i:Int):Option OY->Bool
 |some (.int j _)=>j==i
 |_=>false
def vP (s:OZ):Bool:=
 (globs.all fun p=>decide (s.heap.nsMap mainGlobals p.1=some p.2))&&isI 256 (s.heap.nsMap mainGlobals "NT_OFFSET")&&isI 0 (s.heap.nsMap mainGlobals "ENDMARKER") &&
 (Iv.all fun x=>(s.heap.nsMap mainGlobals x).isNone) &&
 s.heap.isNs 73&&decide (s.heap.nsMap 73 "compare" = some (.ref 71))&&decide (s.heap.nsMap 73 "__init__" = some (.ref 64)) &&
 (["__getattribute__","__getattr__","__setattr__","comp_select_list"]:List O7).all (fun x=>(s.heap.nsMap 73 x).isNone) &&
 (([16,25,34,43]:List O5).all fun k=>s.heap.isNs k&&decide (s.heap.nsMap k "key" = some .none))&&s.heap.isNs sysModules
theorem said:rw_xh0038_03.wellSaid=true:=by decide +kernel
def q:Program:=view P [P.main.body.length-1]
def loose:List O7:=(P.boundNames.filter fun n=>n != ("law":O7)).eraseDups
def Tb:DefRec×List (O7×O6):=match defOf q "law" with
 |some d=>d
 |none=>(⟨"",{ posonlyargs:=[],args:=[],vararg:=none,kwonlyargs:=[],kw_defaults:=[],kwarg:=none,defaults:=[] },[],{ kind:=.module,names:=[],isGenerator:=false,isCoroutine:=false },⟨0,0,0,0⟩⟩,[])
def Xt:OZ->Bool:=fun s=>xlAt q [] s&&recOk [] s&&vP s
def N:Nat:=4802
abbrev u1 (s:OZ):List (Option Vw):=wO s.heap Rq
abbrev val (w:World):List (Option Vw):=(Lz w).map fun p=>some p.2
theorem uj (w:World):(openEnds treeTable P (w.withFollow "special-get-raises" false) N).map (fun s=>(openSeen q loose (importedModules P.main.body) Xt true s,u1 s))=some (openGood q loose,val (w.withFollow "special-get-raises" false)):=by
 kernel_rfl
theorem uu (w:World):(openEnds treeTable P (w.withFollow "special-get-raises" true) N).map (fun s=>(openSeen q loose (importedModules P.main.body) Xt true s,u1 s))=some (openGood q loose,val (w.withFollow "special-get-raises" true)):=by
 kernel_rfl
theorem Xj:LeftO P q loose Xt u1 val N:=fun w=>byRow2 "special-get-raises" (P:=fun w=>(openEnds treeTable P w N).map (fun s=>(openSeen q loose (importedModules P.main.body) Xt true s,u1 s))=some (openGood q loose,val w)) uj uu w
theorem hdef:defOf q "law" = some Tb:=by kernel_rfl
theorem hp:P.theDef "law" = some (Tb.1.params,Tb.1.body,Tb.1.scope):=by kernel_rfl
theorem hk:kwWritten? Tb.1.params.kwonlyargs Tb.1.params.kw_defaults=some Tb.2:=by kernel_rfl
theorem ok:(chainsOk q&&opensWell P&&(frees rw_xh0038_03.row.toRowW&&rw_xh0038_03.row.within.isEmpty))=true:=by decide +kernel
theorem bare:P.bare:=⟨rfl,rfl,rfl,rfl,rfl,by decide +kernel⟩
theorem prom:rw_xh0038_03.row.toRowW.promised:=by w_witness2
end
def lY:List String:=["int","tuple","list","set","range","enumerate","zip","str","ValueError"]
def nM:List String:=["len","sum","max","min","ord","isinstance","sorted"]
def vL (x:O7):Option V:=oe1 (Xx (globs.lookup x)) (if x==("NT_OFFSET":O7) then some (Bi 256) else if x==("ENDMARKER":O7) then some (Bi 0) else
 oe1 (lY.find? fun (y:String)=>x==PE y) (oe1 (nM.find? fun (y:String)=>x==PE y) none fun y=>some (.bi y)) fun y=>some (.ty y)) fun a=>
 if x==("EXACT_TOKEN_TYPES":O7) then some (.dcs (vG.map fun p=>(p.1,Bi p.2))) else some (.fn a)
def Kc (a:O5):Option Ek:=(rows.find? fun r=>r.a==a).map (·.d)
def gl:Gl:={ G:=vL,cmp:=71,cls:=74,D:=Kc,nt:=3 }
abbrev cx (w:World) (h:O9) (os:OsState):Cx:={ prog:=P,w:=w,h0:=h,os:=os,cls:=74,tabs:=[154,161,171] }
structure Ih (mg:O7->Option OY)(h:O9):Prop where
 globs:∀p∈globs,mg p.1=some p.2
 nt:∃t,mg ("NT_OFFSET":O7)=some (.int 256 t)
 em:∃t,mg ("ENDMARKER":O7)=some (.int 0 t)
 bn:∀x∈Iv,mg x=none
 cls:∃mN,h.Ns 73 mN∧mN ("compare":O7)=some (.ref 71)∧mN ("__init__":O7)=some (.ref 64)∧mN ("__getattribute__":O7)=none∧mN ("__getattr__":O7)=none∧mN ("__setattr__":O7)=none∧mN ("comp_select_list":O7)=none
 kd:∀k∈([16,25,34,43]:List O5),∃m,h.Ns k m∧m ("key":O7)=some .none
 sm:∃o,h.get? sysModules=some o
theorem Ih.keeps {mg:O7->Option OY}{h h':O9}(x:Ih mg h)(k:∀b o,h.get? b=some o->h'.get? b=some o):Ih mg h':=
 ⟨x.globs,x.nt,x.em,x.bn,let ⟨mN,a,b⟩:=x.cls;⟨mN,a.keeps k,b⟩,fun j m=>let ⟨mm,a,b⟩:=x.kd j m;⟨mm,a.keeps k,b⟩,let ⟨o,e⟩:=x.sm;⟨o,k _ _ e⟩⟩
set_option tactic.hygienic true in
theorem tA {i:Int}{v:Option OY}(h:isI i v=true):∃t,v=some (.int i t):=by
 refine Option.rec ft (fun x h=>?_) v h
 induction x using OY.casesOn with
 |int j t=>exact ⟨t,by rw[beq_iff_eq.mp (show (j==i)=true from h)]⟩
 |_=>exact ft h
theorem hK (s:OZ)(h:vP s=true):Ih (s.heap.nsMap mainGlobals) s.heap:=by
 unfold vP at h;simp only[Bool.and_eq_true,decide_eq_true_eq] at h;obtain ⟨⟨⟨⟨⟨⟨⟨⟨⟨h1,h2⟩,h3⟩,h4⟩,h5⟩,h6⟩,h7⟩,h8⟩,h9⟩,h10⟩:=h;have J0:=xo.mp h8;have h9':=xo.mp h9;refine ⟨fun p m=>of_decide_eq_true (xo.mp h1 p m),tA h2,tA h3,fun x m=>zg.mp (xo.mp h4 x m),⟨_,O9.Ns.of_isNs h5,h6,h7,?_⟩,fun k m=>?_,let ⟨o,es,ep,e,_⟩:=O9.Ns.of_isNs h10;⟨o,e⟩⟩
 ·exact ⟨zg.mp (J0 _ (by decide)),zg.mp (J0 _ (by simp)),zg.mp (J0 _ (by simp)),zg.mp (J0 _ (by simp))⟩
 ·have:=h9' k m;rw[wm,decide_eq_true_eq] at this;exact ⟨_,O9.Ns.of_isNs this.1,this.2⟩
theorem rh {v:OY}{i:Int}(h:lJ v = .i i):∃t,v = .int i t:=by
 induction v using OY.casesOn with
 |int j t=>injection h with h;exact ⟨t,by rw[h]⟩
 |_=>exact nomatch h
theorem qa {v:OY}(h:lJ v = .n):v = .none:=by
 induction v using OY.casesOn with
 |none=>rfl
 |_=>exact nomatch h
theorem ui {a:O5}{o:Obj}{l:List Lit}(h:Mx a o = .sq l):∃vs n,o.data = .seq vs n∧vs.toList.map lJ=l:=by
 have h:jx a o o.data=_:=h;generalize hd:o.data=D at h
 induction D using Data.casesOn with
 |seq vs n=>injection h with h;exact ⟨vs,n,rfl,h⟩
 |fields vs=>exact Zt h nofun nofun nofun
 |_=>exact ft (congrArg (fun v:Vw=>Nat.beq v.kd 2) h)
theorem lr {h:O9}{T:O5}{o:Obj}(ho:h.get? T=some o)(hv:Mx T o = .sq [.i 0,.n]):∃o2 n t,h.get? T=some o2∧o2.data = .seq #[.int 0 t,.none] n:=by
 obtain ⟨⟨l⟩,n,hd,hl⟩:=ui hv;cases l with
 |nil=>exact nomatch hl
 |cons a l=>
  cases l with
  |nil=>exact nomatch (List.cons.inj hl).2
  |cons b l=>
   obtain ⟨h1,h2⟩:=List.cons.inj hl;obtain ⟨h2,h3⟩:=List.cons.inj h2;obtain ⟨t,rfl⟩:=rh h1;obtain rfl:=qa h2;obtain rfl:=List.map_eq_nil_iff.mp h3;exact ⟨o,n,t,ho,hd⟩
def uJ (r:jU):Bool:=(r.c != r.P)&&(if r.d.opt then oe1 (nj r.dflt) false fun T=>oe1 (nj r.kwd) false fun k=>([(15,16),(24,25),(33,34),(42,43)]:List (O5×O5)).contains (T,k) else nZ r.dflt&&nZ r.kwd) &&
 oe2 r.d.tab true fun i q=>q==r.qual++".<locals>."++"<lambda>"&&(([154,161,171]:List O5)[i]?==some r.P)
theorem oE:(rows.all uJ)=true:=by decide +kernel
theorem tC {w:World}{h:O9}(S:Jq h (Lz w)){r:jU}(m:r∈rows):(∃o,h.get? r.a=some o∧Mx r.a o = .fn (.type "function") r.d.args (.stmts r.d.body) r.d.scope mainGlobals [] r.dflt r.kwd (.ref r.c) builtinsNs r.qual) ∧
 ∃o,h.get? r.c=some o∧Mx r.c o = .co true r.qual (some r.P):=
 ⟨S.mem (xp _ (List.mem_flatMap.mpr ⟨r,m,.head _⟩)),S.mem (xp _ (List.mem_flatMap.mpr ⟨r,m,.tail _ (.head _)⟩))⟩
def qk (w:World):List (O5×Vw):=[(64,.fn (.type "function") Mb.args (.stmts Mb.body) Mb.scope mainGlobals [] .none .none (.ref 63) builtinsNs "TupleComp.__init__"),(63,.co true "TupleComp.__init__" (some 59)),
 (15,.sq [.i 0,.n]),(24,.sq [.i 0,.n]),(33,.sq [.i 0,.n]),(42,.sq [.i 0,.n]),(154,.tb),(161,.tb),(171,.tb),(74,.cl true 73),
  (100,.dc true (vG.map fun p=>(hashStr w p.1,p.1,p.2)))]
theorem Fj {w:World}{h:O9}(S:Jq h (Lz w)){a:O5}{v:Vw}(i:Nat)(m:(qk w)[i]?=some (a,v)):∃o,h.get? a=some o∧Mx a o=v:=S.mem (yd _ (xt m))
theorem dq {w:World}{h:O9}(S:Jq h (Lz w)){T k:O5}(m:(T,k)∈([(15,16),(24,25),(33,34),(42,43)]:List (O5×O5))):(∃o,h.get? T=some o∧Mx T o = .sq [.i 0,.n])∧k∈([16,25,34,43]:List O5):=by
 rcases wk.mp m with e|m
 ·cases e;exact ⟨Fj S 2 rfl,.head _⟩
 rcases wk.mp m with e|m
 ·cases e;exact ⟨Fj S 3 rfl,.tail _ (.head _)⟩
 rcases wk.mp m with e|m
 ·cases e;exact ⟨Fj S 4 rfl,.tail _ (.tail _ (.head _))⟩
 cases wl.mp m;exact ⟨Fj S 5 rfl,.tail _ (.tail _ (.tail _ (.head _)))⟩
set_option tactic.hygienic true in
theorem ul {w:World}{h:O9}{os:OsState}{mg:O7->Option OY}(S:Jq h (Lz w))(F:Ih mg h){r:jU}(m:r∈rows):∃o fd,Xo (cx w h os) r.a r.d o fd:=by
 obtain ⟨⟨o,ho,hv⟩,oc,KM,ID⟩:=tC S m;have CY:=xo.mp oE r m;unfold uJ at CY;simp only[Bool.and_eq_true,bne_iff_ne,ne_eq] at CY;obtain ⟨⟨AX,B7⟩,htab⟩:=CY;obtain ⟨fd,e0,e1,e2,e3,e4,e5,e6,e7,e8,e9,K3,JM⟩:=jh hv;obtain ⟨cH,cR⟩:=aY KM ID AX;refine ⟨o,fd,{ ob:=ho,dat:=e0,fcls:=e1,params:=e2,body:=e3,scope:=e4,gl:=e5,bl:=K3,clos:=e6,code:=by rw[e9,JM];exact cR,opt:=fun q=>?_,noopt:=fun q=>?_,tab:=fun i q hq=>?_ }⟩
 ·rw[if_pos q] at B7;refine oS1 B7 (fun T hT B7=>oS1 B7 (fun k hk B7=>?_) fun Z=>ft) fun Z=>ft
  ·have hT:r.dflt = .ref T:=Na (v:=some r.dflt) hT|> wx;have hk:r.kwd = .ref k:=Na (v:=some r.kwd) hk|> wx;obtain ⟨⟨oT,hoT,hvT⟩,mk⟩:=dq S (zu.mp B7);obtain ⟨o2,n,t,g1,g2⟩:=lr hoT hvT;obtain ⟨mm,g3,g4⟩:=F.kd k mk;exact ⟨T,o2,n,k,mm,t,by rw[e7,hT],g1,g2,by rw[e8,hk],g3,g4⟩
 ·rw[if_neg (by rw[q];decide)] at B7;rw[wm] at B7;exact ⟨by rw[e7,Ws B7.1],by rw[e8,Ws B7.2]⟩
 ·rw[hq,oA2] at htab;simp only[Bool.and_eq_true,beq_iff_eq] at htab;exact ⟨by rw[JM,htab.1],r.c,r.P,e9,htab.2,cH⟩
theorem oO {v:Option OY}(h:uF v=true):v=some (.builtin "object.__new__"):=by
 cases v with
 |none=>exact ft h
 |some v=>cases v with
  |builtin i=>exact congrArg (fun i=>some (OY.builtin i)) (beq_iff_eq.mp h)
  |_=>exact ft h
theorem bo {l:List (Option OY)}(h:jt l=true):∃k0 k1 k2 k3 k5,l=[k0,k1,k2,k3,some (.builtin "object.__new__"),k5]:=by
 unfold jt at h;rw[wm,beq_iff_eq] at h;obtain ⟨h1,h2⟩:=h;have h2:=oO h2;obtain ⟨k0,l,rfl⟩:=yt h1;obtain ⟨k1,l,rfl⟩:=yt (xi h1);obtain ⟨k2,l,rfl⟩:=yt (xi (xi h1));obtain ⟨k3,l,rfl⟩:=yt (xi (xi (xi h1)));obtain ⟨k4,l,rfl⟩:=yt (xi (xi (xi (xi h1))));obtain ⟨k5,l,rfl⟩:=yt (xi (xi (xi (xi (xi h1)))));obtain rfl:=Aak (xi (xi (xi (xi (xi (xi h1))))));exact ⟨k0,k1,k2,k3,k5,by rw[show k4=_ from h2]⟩
theorem yX {l:List OY}{a:O5}(h:io l a=true):l=[.ref a,.type "object"]:=by
 have h:=xh.mp h;have h1:=xh.mp h.1;have hl:=beq_iff_eq.mp h1.1;have h2:=Na (beq_iff_eq.mp h1.2);have h3:=Th h.2;obtain ⟨x,l,rfl⟩:=yt hl;obtain ⟨y,l,rfl⟩:=yt (xi hl);obtain rfl:=Aak (xi (xi hl));rw[show x=_ from wx h2,show y=_ from h3]
theorem ud {a N:O5}{o:Obj}(h:Mx a o = .cl true N):∃nm q bs sn sub AI dd k0 k1 k2 k3 k5,o=excClassObj nm q a N bs [.type "object"] true sn sub false AI dd k0 k1 k2 k3 k5 "object.__new__":=by
 have h:jx a o o.data=_:=h;generalize hd:o.data=D at h
 induction D using Data.casesOn with
 |cls c=>
  injection h with h1 h2
  have h1:=xh.mp h1;have h3:=xh.mp h1.1;have h4:=xh.mp h3.1;have h5:=xh.mp h4.1;have h6:=xh.mp h5.1;obtain ⟨oc,od,dt,sl⟩:=o;obtain ⟨nm,bs,mro,ns,qn,FN,sn,sub,ab,AI,L1⟩:=c;have e1:oc = .type "type":=Th h6.1;have e2:mro=[.ref a,.type "object"]:=yX h6.2;have e3:FN=true:=h5.2;have e4:ab=false:=Eq.mp (zh _) h4.2;have e5:L1=false:=Eq.mp (zh _) h3.2;have e6:ns=N:=h2;have e7:dt=_:=hd;obtain ⟨sl⟩:=sl;obtain ⟨k0,k1,k2,k3,k5,e8⟩:=bo h1.2;have e8:sl=_:=e8;exact ⟨nm,qn,bs,sn,sub,AI,od,k0,k1,k2,k3,k5,by rw[e1,e7,e2,e3,e4,e5,e6,e8]⟩
 |fields vs=>exact Zt h nofun nofun nofun
 |_=>exact ft (congrArg (fun v:Vw=>Nat.beq v.kd 4) h)
theorem fY:Mb.args={ posonlyargs:=[],args:=[{ arg:="self",annotation:=none,pos:=⟨57,17,57,21⟩ },{ arg:="comp_select_list",annotation:=none,pos:=⟨57,23,57,39⟩ }],vararg:=none,kwonlyargs:=[],kw_defaults:=[],kwarg:=none,defaults:=[] }:=by kernel_rfl
theorem gY:Mb.body=[.Assign [.Attribute (.Name "self" ⟨58,8,58,12⟩) "comp_select_list" ⟨58,8,58,29⟩] (.Name "comp_select_list" ⟨58,32,58,48⟩) ⟨58,8,58,48⟩]:=by kernel_rfl
theorem dC:(okScope Mb.scope&&decide (Mb.scope.names.lookup ("self":O7)=some .local)&&decide (Mb.scope.names.lookup ("comp_select_list":O7)=some .local)&&Mb.scope.names.all (fun x=>x.2 != .cell))=true:=by decide +kernel
theorem i3:∃d,gl.D gl.cmp=some d:=by
 have:(gl.D gl.cmp).isSome=true:=by decide +kernel
 exact Option.isSome_iff_exists.mp this
theorem v7 {w:World}{h:O9}{os:OsState}{mg:O7->Option OY}(S:Jq h (Lz w))(F:Ih mg h):∃N mN fI oI fd,lN (cx w h os) gl N mN fI oI fd:=by
 obtain ⟨mN,n1,n2,n3,n4,n5,n6,n7⟩:=F.cls;obtain ⟨oC,hC,vC⟩:=Fj S 9 rfl;obtain ⟨nm,q,bs,sn,sub,AI,dd,k0,k1,k2,k3,k5,rfl⟩:=ud vC;obtain ⟨oI,hI,vI⟩:=Fj S 0 rfl;obtain ⟨oc,hc,vc⟩:=Fj S 1 rfl;obtain ⟨fd,e0,e1,e2,e3,e4,e5,e6,e7,e8,e9,K3,JM⟩:=jh vI;obtain ⟨cH,cR⟩:=aY hc vc (by decide);have sc:=dC;simp only[Bool.and_eq_true,decide_eq_true_eq] at sc;obtain ⟨⟨⟨s1,s2⟩,s3⟩,s4⟩:=sc;exact ⟨73,mN,64,oI,fd,⟨⟨⟨nm,q,bs,sn,sub,AI,dd,k0,k1,k2,k3,k5,hC⟩,n1⟩,n2,i3,n3,n4,n5,n6,n7,hI,e0,e1,
  ⟨_,_,e2.trans fY⟩,⟨_,_,_,_,by rw[e3,gY]⟩,by rw[e4];exact ⟨s1,s2,s3,s4⟩,e5,K3,e6,⟨e7,e8⟩,by rw[e9,JM];exact cR⟩⟩
theorem te {a:O5}{o:Obj}{l:List (Int×O7×Int)}(h:Mx a o = .dc true l):∃es ep,o.data = .dict es ep∧o.ExactDict∧(∀e∈es.toList,Rh e.key=true∧Pe e.val=true)∧es.toList.map (fun e=>(e.hash,Oi e.key,bR e.val))=l:=by
 have h:jx a o o.data=_:=h;generalize hd:o.data=D at h
 induction D using Data.casesOn with
 |dict es ep=>
  injection h with h1 h2
  have h1:=xh.mp h1;have h3:=xh.mp h1.1;have h4:=xh.mp h3.1;exact ⟨es,ep,rfl,⟨Th h4.1,zg.mp h4.2,Array.isEmpty_iff.mp h3.2⟩,fun e m=>xh.mp (xo.mp h1.2 e m),h2⟩
 |fields vs=>exact Zt h nofun nofun nofun
 |_=>exact ft (congrArg (fun v:Vw=>Nat.beq v.kd 3) h)
theorem dh {w:World}{P:Program}{e:DictEntry}{p:O7×Int}(k1:Rh e.key=true)(k2:Pe e.val=true)(he:(e.hash,Oi e.key,bR e.val)=(hashStr w p.1,p.1,p.2)) :
 (strKind P w).is (Oi e.key) e.key=true∧Oi e.key=p.1∧e.hash=(strKind P w).hash p.1∧∃t,e.val = .int p.2 t:=by
 obtain ⟨eh,ek,ev⟩:=e;have a1:eh=hashStr w p.1:=congrArg Prod.fst he;have a2:Oi ek=p.1:=congrArg (fun x=>x.2.1) he;have a3:bR ev=p.2:=congrArg (fun x=>x.2.2) he;refine ⟨?_,a2,a1,?_⟩
 ·induction ek using OY.casesOn with
  |str ks kt=>
   show OY.isStrOf ks (.str ks kt)=true;simp[OY.isStrOf]
  |_=>exact ft k1
 ·induction ev using OY.casesOn with
  |int vi vt=>exact ⟨vt,congrArg (fun i=>OY.int i vt) a3⟩
  |_=>exact ft k2
theorem ac {C:Cx}{Y:List O5}{h:O9}{w:World}{es:List DictEntry}:∀{l:List (O7×Int)},(∀e∈es,Rh e.key=true∧Pe e.val=true)->es.map (fun e=>(e.hash,Oi e.key,bR e.val))=l.map (fun p=>(hashStr w p.1,p.1,p.2)) ->
 Pairs (strKind P w) es (es.map fun e=>(Oi e.key,e.val))∧Sx C Y h (l.map fun p=>(p.1,Bi p.2)) (es.map fun e=>(Oi e.key,e.val))∧(es.map fun e=>(Oi e.key,e.val)).map (·.1)=l.map (·.1)∧∀e∈es,∃k,(strKind P w).is k e.key=true∧e.hash=(strKind P w).hash k:=by
 induction es with
 |nil=>
  intro l _ e;obtain rfl:l=[]:=List.map_eq_nil_iff.mp e.symm;exact ⟨.nil,rfl,rfl,fun Z m=>absurd m y7⟩
 |cons e es ih=>
  intro l hk he;cases l with
  |nil=>cases he
  |cons p l=>
   obtain ⟨he1,LB⟩:=List.cons.inj he;obtain ⟨q1,q2,q3,q4⟩:=ih (fun e m=>hk e (.tail _ m)) LB;have kk:=hk e (.head _);obtain ⟨is,a2,a1,t,a3⟩:=dh (P:=P) kk.1 kk.2 he1;refine ⟨.cons is rfl q1,?_,?_,fun e' m=>?_⟩
   ·show ∃v BL,_=_∧_∧_;exact ⟨e.val,_,by rw[x8,a2],by rw[a3];exact Ng _ _,q2⟩
   ·rw[x8,x8,x8,q3,← a2]
   ·rcases wk.mp m with rfl|m
    ·exact ⟨_,is,a1.trans (congrArg _ a2.symm)⟩
    ·exact q4 e' m
theorem pX:(vG.map (·.1)).Nodup:=by
 have:decide ((vG.map (·.1)).Nodup)=true:=by decide +kernel
 exact of_decide_eq_true this
theorem gZ:(lY.all fun y=>decide (bootBuiltins (PE y)=some (.type y))&&decide (PE y∈Iv)&&decide (PE y≠"__name__"))=true:=by decide +kernel
theorem gJ:(nM.all fun y=>decide (bootBuiltins (PE y)=some (.builtin y))&&decide (PE y∈Iv)&&decide (PE y≠"__name__"))=true:=by decide +kernel
theorem xF:(globs.all fun p=>match p.2 with|.ref a=>Rq.contains a|_=>false)=true:=by decide +kernel
theorem Qt (w:World):(Lz w).map (·.1)=Rq:=by kernel_rfl
theorem Jq.live {h:O9}{a:O5}:∀{l:List (O5×Vw)},Jq h l->a∈l.map (·.1)->∃o,h.get? a=some o:=by
 intro l
 induction l with
 |nil=>intro _ m;exact absurd m y7
 |cons p r ih=>
  intro s m;obtain ⟨b,u⟩:=p;rcases wk.mp m with q|q
  ·have q:a=b:=q;rw[q];obtain ⟨o,e,_⟩:=s.1;exact ⟨o,e⟩
  ·exact ih s.2 q
theorem fK {l:List (O7×OY)}{x:O7}{v:OY}(h:l.lookup x=some v):(x,v)∈l:=by
 induction l with
 |nil=>exact nn h
 |cons p r ih=>
  obtain ⟨y,u⟩:=p;rw[y6] at h;cases q:x==y with
  |true=>rw[q] at h;cases h;rw[beq_iff_eq.mp q];exact .head _
  |false=>rw[q] at h;exact .tail _ (ih h)
set_option tactic.hygienic true in
theorem wd {w:World}{h:O9}{os:OsState}{mg mb:O7->Option OY}(S:Jq h (Lz w))(F:Ih mg h)(hg:h.Ns mainGlobals mg)(hb:h.Ns builtinsNs mb)(hl:h.NoLimit)(OG:∀x:O7,x≠"__name__"->mb x=bootBuiltins x)
 (hm:∃bm ob,mg "__builtins__" = some (.ref bm)∧bm≠builtinsNs∧h.get? bm=some ob∧ob.cls = .type "module"∧ob.dict=some builtinsNs∧ob.data = .plain):Wd (cx w h os) gl where
 nt:=rfl
 cls:=rfl
 klass:=v7 S F
 defs:=fun a d e=>by
  obtain ⟨r,hr,rfl⟩:=Option.map_eq_some_iff.mp e;rw[← (show r.a=a from by have:=List.find?_some hr;exact beq_iff_eq.mp this)];exact ul S F (List.mem_of_find?_eq_some hr)
 tabs:=fun t m=>by
  have:∃o,h.get? t=some o∧Mx t o = .tb:=by
   simp only[List.mem_cons,List.not_mem_nil,or_false] at m;rcases m with rfl|rfl|rfl
   ·exact Fj S 6 rfl
   ·exact Fj S 7 rfl
   ·exact Fj S 8 rfl
  obtain ⟨o,ho,hv⟩:=this;rw[um hv] at ho;exact ho
 nolimit:=hl
 ns:=by
  obtain ⟨bm,ob,b1,b2,b3,b4,b5,b6⟩:=hm;refine ⟨mg,mb,hg,hb,⟨bm,ob,b1,b2,fun q=>?_,b3,b4,b5,b6⟩,fun x v hx=>?_⟩
  ·obtain ⟨o,es,ep,e1,d1,_⟩:=hg;rw[q,e1] at b3;cases b3;rw[d1] at b6;cases b6
  ·have hx:vL x=some v:=hx;unfold vL at hx;refine oS1 hx (fun a CP hx=>?_) fun Z hx=>?_
   ·have CP:=Na CP;have DU:=fK CP;have I9:=F.globs _ DU;obtain ⟨o,ho⟩:=S.live (by rw[Qt];exact (zu.mp (xo.mp xF _ DU)));split at hx
    ·rename_i EL;rw[beq_iff_eq] at EL;subst EL;cases hx;have ha:a=100:=by
      cases CP;rfl
     subst ha;refine ⟨_,.inl I9,fun off Y J s I=>?_⟩;obtain ⟨od,IL,hvd⟩:=Fj S 10 rfl;obtain ⟨es,ep,d1,d2,d3,d4⟩:=te hvd;obtain ⟨q1,q2,q3,q4⟩:=ac (C:={ cx w h os with off:=off }) (Y:=Y) (h:=s.heap) d3 d4;have n1:(100:O5)∉Y:=fun m=>(I.fns _ m).elim (fun z=>by rw[show h.get? 100=none from z] at IL;cases IL) fun z=>by
      have z:(100:O5)∈([154,161,171]:List O5):=z;simp at z
     have n2:(100:O5)∉off:=fun m=>by
      rw[((I.offs _ m).2.1)] at IL;cases IL
     exact ⟨100,_,rfl,⟨n1,n2⟩,by decide,⟨od,es,ep,I.base _ _ n1 IL,d2,d1,fun e m=>q4 e (Array.mem_toList_iff.mpr m),q1,by rw[q3];exact pX⟩,q2⟩
    ·cases hx;exact ⟨_,.inl I9,fun off Y J s I=>⟨rfl,xl ho⟩⟩
   ·split at hx
    ·rename_i EL;rw[beq_iff_eq] at EL;rw[EL];cases hx;obtain ⟨t,e⟩:=F.nt;exact ⟨_,.inl e,fun off Y J s I=>Ng _ _⟩
    ·split at hx
     ·rename_i EL;rw[beq_iff_eq] at EL;rw[EL];cases hx;obtain ⟨t,e⟩:=F.em;exact ⟨_,.inl e,fun off Y J s I=>Ng _ _⟩
     ·refine oS1 hx (fun y hy hx=>?_) fun Z hx=>oC1 hx fun y hy hx=>?_
      ·cases hx;have IU:=List.find?_some hy;rw[beq_iff_eq] at IU;rw[IU];have:=xo.mp gZ _ (List.mem_of_find?_eq_some hy);simp only[Bool.and_eq_true,decide_eq_true_eq] at this;exact ⟨_,.inr ⟨F.bn _ this.1.2,by rw[OG _ this.2];exact this.1.1⟩,fun off Y J s I=>rfl⟩
      ·cases hx;have IU:=List.find?_some hy;rw[beq_iff_eq] at IU;rw[IU];have:=xo.mp gJ _ (List.mem_of_find?_eq_some hy);simp only[Bool.and_eq_true,decide_eq_true_eq] at this;exact ⟨_,.inr ⟨F.bn _ this.1.2,by rw[OG _ this.2];exact this.1.1⟩,fun off Y J s I=>rfl⟩
abbrev Bb:Aj:=[.tab ("_law_strongest.<locals>.<lambda>":O7),.tab ("_law_widest.<locals>.<lambda>":O7),.tab ("law.<locals>.<lambda>":O7)]
theorem inv0 {w:World}{s:OZ}{mg:O7->Option OY}(S:Jq s.heap (Lz w))(F:Ih mg s.heap)(W:Wd (cx w s.heap s.os) gl)(hg:s.gens = #[]):Bh (cx w s.heap s.os) [154,161,171] Bb s where
 len:=rfl
 nd:=by decide
 base:=fun b o Z e=>e
 fns:=fun a m=>.inr m
 objs:=fun i a o e1 e2=>by
  have tb:∀{a:O5}{q:O7},a∈([154,161,171]:List O5)->Gy (cx w s.heap s.os) [154,161,171] s.heap a (.tab q):=fun {a q} m=>⟨#[],W.tabs a m,trivial,fun pos cv z=>by cases z⟩;have hi:i<3:=(wv.mp e1).1;revert e1 e2;refine k3 hi ?_ ?_ ?_
  ·intro e1 e2;cases e1;cases e2;exact tb (.head _)
  ·intro e1 e2;cases e1;cases e2;exact tb (.tail _ (.head _))
  ·intro e1 e2;cases e1;cases e2;exact tb (.tail _ (.tail _ (.head _)))
 os:=rfl
 gens:=.of_eq hg
 big:=F.sm
 offs:=fun a m=>by cases m
 tb:=⟨[],rfl⟩
theorem sL {Pm:Params}{h:O9}{rec:WRecords}{x:WData}{v:OY}(r:Well Pm h v x):WShape.has rec x .int=true->∃i t,v = .int i t:=by
 cases r with
 |int i t=>exact fun Z=>⟨i,t,rfl⟩
 |_=>exact fun q=>ft q
set_option tactic.hygienic true in
theorem oU {Pm:Params}{h:O9}{C:Cx}{Y:List O5}{rec:WRecords}{xs:List WData}{vs:List OY}(hw:WellAll Pm h vs xs)(hx:∀x∈xs,WShape.has rec x .int=true):∃ns:List Int,Bv C Y h (ns.map fun i=>.int i false) vs∧ns.length=xs.length:=by
 induction xs generalizing vs with
 |nil=>cases hw;exact ⟨[],rfl,rfl⟩
 |cons x xs ih=>
  cases hw with
  |cons r rs=>
   obtain ⟨ns,h1,h2⟩:=ih rs fun y m=>hx y (.tail _ m);obtain ⟨i,t,rfl⟩:=sL r (hx x (.head _));exact ⟨i::ns,⟨_,_,rfl,⟨⟨t,rfl⟩,fun q=>by cases q⟩,h1⟩,by rw[x9,x9,h2]⟩
theorem qY {R:WRecords}{e:WShape}:∀{xs:List WData},WShape.hasItems R xs e=true->∀x∈xs,WShape.has R x e=true:=by
 intro X
 induction X with
 |nil=>
  intro Z Z m;cases m
 |cons x xs ih=>
  intro h y m;unfold WShape.hasItems at h;rw[wm] at h;rcases wk.mp m with rfl|m
  ·exact h.1
  ·exact ih h.2 y m
theorem gA {args:List WData}(h:rw_xh0038_03.row.toRowW.claim.pre args=true):∃xs,args=[.list xs]∧(∀x∈xs,WShape.has [] x .int=true)∧xs.length≤63:=by
 have h:(WShape.hasAll [] args [.list .int]&&(WTm.and (.not (.lt (.lit (.int 63)) (.len (.arg 0)))) (.lit (.bool true))).holds [] { args:=args })=true:=h;rw[wm] at h;obtain ⟨h1,h2⟩:=h;cases args with
 |nil=>exact ft h1
 |cons a r=>cases r with
  |cons _ _=>
   have h1:(WShape.has [] a (.list .int)&&false)=true:=h1;rw[Bool.and_false] at h1;exact ft h1
  |nil=>
   have h1:(WShape.has [] a (.list .int)&&true)=true:=h1;rw[Bool.and_true] at h1;cases a with
   |list xs=>
    have h1:(WShape.hasItems [] xs .int||false)=true:=h1;rw[Bool.or_false] at h1;refine ⟨xs,rfl,qY h1,?_⟩;have h2:(WTm.and (.not (.lit (.bool (decide ((63:Int)<(xs.length:Int)))))) (.lit (.bool true))).holds [] { args:=[.list xs] }=true:=h2;by_cases hc:(63:Int)<xs.length
    ·rw[decide_eq_true hc] at h2;exact ft h2
    ·lia
   |_=>exact ft h1
abbrev XPp (mg:O7->Option OY) (h:O9):Prop:=XL q [] mg h∧Ih mg h
theorem head (KC:WalkO q loose XPp (fun w h=>Jq h (Lz w)) rw_xh0038_03.row.toRowW Tb.1 Tb.2 fun f vs=>PySem.call f vs):rw_xh0038_03.Holds:=
 holds_law said fun k1=>holds_open (d:=Tb.1) (kwd:=Tb.2) (r:=rw_xh0038_03.row) (q:=q) (loose:=loose) (Xt:=Xt) (XP:=XPp) (Yf:=u1) (Ya:=val) (YP:=fun w h=>Jq h (Lz w)) Xj
  (fun w s e=>Jq.of (by rw[Qt];exact e)) (fun w h h' x k=>x.keeps k)
  (fun s e=>by
   unfold Xt at e;rw[wm,wm] at e;exact ⟨xl_of s e.1.1,hK s e.2⟩) (fun mg h h' x k=>⟨XL.keeps mg h h' x.1 k,x.2.keeps k⟩)
  hdef hp hk (fun s e=>by
   unfold Xt at e;rw[wm,wm] at e;exact recFacts_of e.1.2) rfl k1 ok bare prom KC
theorem oldK {w:World}{s s':OZ}{Av:Aj}{Bx:List O5}(S:Jq s.heap (Lz w))(W:Wd (cx w s.heap s.os) gl)(G:Ck (cx w s.heap s.os) [154,161,171] s Bx Av s')(hm:∀i:Nat,i<3->∃q,Av[i]?=some (.tab q)):OldK s.heap s'.heap:=by
 have key:∀a∈([154,161,171]:List O5),∃ps,s'.heap.get? a=some (Jz ps):=fun a m=>by
  obtain ⟨i,hi⟩:=yj m;have AZ:i<3:=by have:=(wv.mp hi).1;simpa using this
  obtain ⟨q,hq⟩:=hm i AZ;obtain ⟨ps,e,_⟩:=G.inv.objs i a _ (G.mv.get hi) hq;exact ⟨ps,e⟩
 have ct:∀a∈([154,161,171]:List O5),isCodeTable s.heap a:=fun a m=>by
  have:∃r∈rows,r.P=a:=by
   simp only[List.mem_cons,List.not_mem_nil,or_false] at m;have e1:(rows.any fun r=>r.P==154)=true:=by decide +kernel
   have e2:(rows.any fun r=>r.P==161)=true:=by decide +kernel
   have e3:(rows.any fun r=>r.P==171)=true:=by decide +kernel
   have go:∀{k:O5},(rows.any fun r=>r.P==k)=true->∃r∈rows,r.P=k:=fun e=>by
    obtain ⟨r,m,q⟩:=List.any_eq_true.mp e;exact ⟨r,m,beq_iff_eq.mp q⟩
   rcases m with rfl|rfl|rfl
   ·exact go e1
   ·exact go e2
   ·exact go e3
  obtain ⟨r,mr,rfl⟩:=this;obtain ⟨_,oc,KM,ID⟩:=tC S mr;have CY:=xo.mp oE r mr;unfold uJ at CY;simp only[Bool.and_eq_true,bne_iff_ne,ne_eq] at CY;exact (((aY KM ID CY.1.1).1).tab (W.tabs r.P m)).isCodeTable
 refine ⟨fun b o e=>?_,fun b o e=>?_⟩
 ·by_cases hb:b∈([154,161,171]:List O5)
  ·obtain ⟨ps,e'⟩:=key b hb;have:s.heap.get? b=some (Jz #[]):=W.tabs b hb;rw[this] at e;cases e;exact .inr (.inl ⟨ct b hb,rfl,#[],ps,rfl,by rw[e'];simp[Jz]⟩)
  ·exact .inl (G.mv.keep b o hb e)
 ·by_cases hb:b∈([154,161,171]:List O5)
  ·obtain ⟨ps,e'⟩:=key b hb;exact ⟨_,e'⟩
  ·exact ⟨o,G.mv.keep b o hb e⟩
theorem vS:Tb.1.name=("law":O7):=by kernel_rfl
set_option tactic.hygienic true in
theorem nf {α:Sort u}{b:Bool}{x y:α}(h:b=false):(if b=true then x else y)=y:=if_neg (h ▸ Bool.false_ne_true)
theorem gN {α:Sort u}{b:Bool}{x y:α}(h:b=true):(if (!b)=true then x else y)=y:=if_neg fun q=>by rw[h] at q;exact Bool.false_ne_true q
theorem El (g:Gl)(n:Nat):(Aw g (n+1)).ev=gD g (Aw g n):=rfl
theorem uC (g:Gl)(n:Nat):(Aw g (n+1)).ts=gI (Aw g n):=rfl
theorem Hd (g:Gl)(n:Nat):(Aw g (n+1)).ex=iM g (Aw g n):=rfl
theorem Gn (g:Gl)(n:Nat):(Aw g (n+1)).call=Qx g (Aw g n):=rfl
section
variable {Bk:Aj}{p q:Pos}
theorem Dy {x:O7}{m:List (O7×V)}{v:V}(hk:e.kind x=some .local)(hf:J[e.f]?=some (.fr m))(hl:m.lookup x=some v):Dc g e x J=some v:=by
 exact (congrArg (Ss g e x J) hk).trans ((oE1 (Zv hf)).trans hl)
theorem Az {x:O7}{v:V}(hk:e.kind x=some .globalImplicit)(hl:g.G x=some v):Dc g e x J=some v:=by
 exact (congrArg (Ss g e x J) hk).trans hl
theorem Es {x:O7}{i:Nat}{v:V}(hk:e.kind x=some .free)(hc:e.cells.lookup x=some i)(hm:J[i]?=some (.cell (some v))):Dc g e x J=some v:=by
 exact (congrArg (Ss g e x J) hk).trans ((oE1 hc).trans (oE1 (Vb hm)))
theorem Sc {x:O7}{i:Nat}{v:V}(hk:e.kind x=some .cell)(hc:e.cells.lookup x=some i)(hm:J[i]?=some (.cell (some v))):Dc g e x J=some v:=by
 exact (congrArg (Ss g e x J) hk).trans ((oE1 hc).trans (oE1 (Vb hm)))
theorem Dk {x:O7}{v:V}(h:Dc g e x J=some v):(Aw g (n+1)).ev e (.Name x p) J=some (v,J):=by
 rw[El];show t5 g e x J=_;exact oE1 h
theorem Aq {i:Int}{k:Nat}:(Aw g (n+1)).ev e (.Constant (.int i) k p) J=some (Bi i,J):=by rw[El];rfl
theorem Ds {k:Nat}:(Aw g (n+1)).ev e (.Constant .none k p) J=some (.none,J):=by rw[El];rfl
theorem Bw {l r:O6}{op:Operator}{a b v:V}(h1:(Aw g n).ev e l J=some (a,Ab))(h2:(Aw g n).ev e r Ab=some (b,Ai))(h3:Nz Ai op a b=some (v,Bk)):(Aw g (n+1)).ev e (.BinOp l op r p) J=some (v,Bk):=by
 rw[El];show iz (Aw g n) e l op r J=_;exact (oE2 h1).trans ((oE2 h2).trans h3)
theorem tD {L:Lv}{o i:O6}(hi:Gb i=false):nA L e o i J=gK L e o i J:=by
 induction i using O6.casesOn with
 |Slice=>exact tf hi
 |_=>rfl
theorem Bj {o i:O6}{ov iv v:V}(hi:Gb i=false)(h1:(Aw g n).ev e o J=some (ov,Ab))(h2:(Aw g n).ev e i Ab=some (iv,Ai))(h3:Eb Ai ov iv=some v):(Aw g (n+1)).ev e (.Subscript o i p) J=some (v,Ai):=by
 rw[El];show nA (Aw g n) e o i J=_;exact (tD hi).trans ((oE2 h1).trans ((oE2 h2).trans (oE1 h3)))
theorem Bd {l r:O6}{op:CmpOp}{a b:V}{c:Bool}(hs:noSet r=true)(h1:(Aw g n).ev e l J=some (a,Ab))(h2:(Aw g n).ev e r Ab=some (b,Ai))(h3:Dx Ai op a b=some c):(Aw g (n+1)).ts e (.Compare l [op] [r] p) J=some (c,Ai):=by
 rw[uC];exact (gN hs).trans ((oE2 h1).trans ((oE2 h2).trans (oE1 h3)))
theorem Ka {f:V}{nm:O7}{args:List O6}{AJ:List Keyword}{vs:List V}{ks:List (O7×V)}(h0:Dc g e nm J=some f)(hs:Dv f=false)(h1:Kb (Aw g n) e args J=some (vs,Ab))(h2:dG (Aw g n) e AJ Ab=some (ks,Ai)) :
 (Aw g (n+1)).ev e (.Call (.Name nm q) args AJ p) J=(Aw g n).call f vs ks Ai:=by
 rw[El];show Wt g (Aw g n) e nm args AJ J=_;exact (oE1 h0).trans ((nf hs).trans ((oE2 h1).trans (oE2 h2)))
theorem Cl {f:V}{nm:O7}{args:List O6}{AJ:List Keyword}{vs:List V}{ks:List (O7×V)}(hk:e.kind nm=some .globalImplicit)(hl:g.G nm=some f)(hs:Dv f=false)(h1:Kb (Aw g n) e args J=some (vs,Ab))(h2:dG (Aw g n) e AJ Ab=some (ks,Ai)) :
 (Aw g (n+1)).ev e (.Call (.Name nm q) args AJ p) J=(Aw g n).call f vs ks Ai:=Ka (Az hk hl) hs h1 h2
theorem Ad {x:O7}{m:List (O7×V)}{v:V}(hk:e.kind x=some .local)(hf:J[e.f]?=some (.fr m))(hl:m.lookup x=some v):(Aw g (n+1)).ev e (.Name x p) J=some (v,J):=Dk (Dy hk hf hl)
theorem Bc {x:O7}{i:Nat}{v:V}(hk:e.kind x=some .cell)(hc:e.cells.lookup x=some i)(hm:J[i]?=some (.cell (some v))):(Aw g (n+1)).ev e (.Name x p) J=some (v,J):=Dk (Sc hk hc hm)
theorem Al {L:Lv}:Kb L e [] J=some ([],J):=rfl
theorem Ae {L:Lv}{x:O6}{r:List O6}{v:V}{vs:List V}(hs:noStar x=true)(h1:L.ev e x J=some (v,Ab))(h2:Kb L e r Ab=some (vs,Ai)):Kb L e (x::r) J=some (v::vs,Ai):=by
 exact nS.trans ((gN hs).trans ((oE2 h1).trans (oE2 h2)))
theorem Bf {L:Lv}:dG L e [] J=some ([],J):=rfl
theorem Ho {L:Lv}{k:O7}{x:O6}{r:List Keyword}{v:V}{vs:List (O7×V)}(h1:L.ev e x J=some (v,Ab))(h2:dG L e r Ab=some (vs,Ai)):dG L e (⟨some k,x,p⟩::r) J=some ((k,v)::vs,Ai):=by
 exact vQ.trans ((oE2 h1).trans (oE2 h2))
theorem kX {ad:O5}{d:Ek}{args:List V}{AJ bs:List (O7×V)}{R:Option (V×Aj)}(hc:(ad==g.cls)=false)(hd:g.D ad=some d)(hb:Hr d args AJ=some bs)
 (k:(if Bg g.nt bs then oe2 (Kd (Aw g n) d bs (J.take g.nt)) none fun v Ab=>if Fn Ab (J.take g.nt) then some (v,J) else none else Kd (Aw g n) d bs J)=R):(Aw g (n+1)).call (.fn ad) args AJ J=R:=
 (congrFun (congrFun (congrFun (congrFun (Gn g n) _) _) _) _).trans ((if_neg (by rw[hc];decide)).trans ((oE1 hd).trans ((oE1 hb).trans k)))
theorem Ax {L:Lv}:Dm L e [] J=some (.next,J):=rfl
theorem Am {L:Lv}{s:PC}{r:List PC}(h:L.ex e s J=some (.next,Ab)):Dm L e (s::r) J=Dm L e r Ab:=kG.trans (oE2 h)
theorem Dr {L:Lv}{s:PC}{r:List PC}{z:Option (Fl×Aj)}(h:L.ex e s J=some (.next,Ab))(t:Dm L e r Ab=z):Dm L e (s::r) J=z:=(Am h).trans t
theorem Dg {L:Lv}{l:List PC}{s:PC}{z:Option (Fl×Aj)}(k:Nat)(hs:l[k]?=some s)(h:L.ex e s J=some (.next,Ab))(t:Dm L e (l.drop (k+1)) Ab=z):Dm L e (l.drop k) J=z:=by
 obtain ⟨h1,h2⟩:=wv.mp hs;rw[Aac h1,h2];exact Dr h t
theorem Cp {L:Lv}{s:PC}{r:List PC}{f:Fl}(h:L.ex e s J=some (f,Ab))(hf:f≠.next):Dm L e (s::r) J=some (f,Ab):=by
 refine kG.trans ((oE2 h).trans ?_);cases f<;>first|exact absurd rfl hf|rfl
theorem Cb {t:O6}{b o:List PC}{c:Bool}(h:(Aw g n).ts e t J=some (c,Ab)):(Aw g (n+1)).ex e (.If t b o p) J=Dm (Aw g n) e (if c then b else o) Ab:=by
 rw[Hd];show uq (Aw g n) e t b o J=_;exact oE2 h
theorem Mi {t:O6}{b:List PC}:(Aw g (n+1)).ex e (.While t b [] p) J=Lm ((Aw g n).ts e t) (Dm (Aw g n) e b) 64 J:=by rw[Hd];rfl
theorem Fb {x:O6}{v:V}(h:(Aw g n).ev e x J=some (v,Ab)):(Aw g (n+1)).ex e (.Return (some x) p) J=some (.ret v,Ab):=by
 rw[Hd];show j4 (Aw g n) e (some x) J=_;exact oE2 h
theorem Lo {x:O6}(hx:Dz x=false)(h:(Aw g n).ev e x J=some (.none,Ab)):(Aw g (n+1)).ex e (.Expr x p) J=some (.next,Ab):=by
 rw[Hd];show sM (Aw g n) e x J=_;exact (nf hx).trans ((oE2 h).trans rfl)
theorem Cz {x:O6}{nm:O7}{v:V}(hx:Dz x=false)(hm:e.muts.contains nm=false)(h:(Aw g n).ev e x J=some (v,Ab))(hs:Dj e nm v Ab=some Ai):(Aw g (n+1)).ex e (.Assign [.Name nm q] x p) J=some (.next,Ai):=by
 rw[Hd];show aQ g (Aw g n) e nm x J=_;have hE:(if Dz x then Jy g (Aw g n) e x J else ba (Aw g n) (e.muts.contains nm) e x J)=some (v,Ab):=(nf hx).trans ((show ba (Aw g n) (e.muts.contains nm) e x J=(Aw g n).ev e x J by rw[hm];rfl).trans h);exact (oE2 hE).trans (oE1 hs)
theorem Cc {x:O7}{m:List (O7×V)}{v:V}(hk:e.kind x=some .local)(hf:J[e.f]?=some (.fr m)):Dj e x v J=some (J.set e.f (.fr (put m x v))):=by
 exact (congrArg (Zp e x v J) hk).trans (oE1 (Zv hf))
end
theorem Af {J:Aj}{o:Cv}{r:List Cv}:(J++o::r)[J.length]?=some o:=by simp
theorem Dt {J:Aj}{o o':Cv}{r:List Cv}:(J++o::r).set J.length o'=J++o'::r:=by simp
theorem Qf {J:Aj}{i:Nat}{x:Cv}{r:List Cv}(h:J[i]?=some x):(J++r)[i]?=some x:=by
 have:=(wv.mp h).1;rw[yu this];exact h
theorem aC {CC:Aj->Option (Bool×Aj)}{body:Aj->Option (Fl×Aj)}{M:V->V->Option V->Aj}{c:Nat->Bool}{len:Nat}(hm:∀i j,i≤j->j<len->c j=true->c i=true)
 (ht:∀(lo hi:Nat) p q m,CC (M (.int lo p) (.int hi q) m)=some (decide (lo<hi),M (.int lo p) (.int hi q) m))
 (hb:∀(lo hi:Nat) p q m,lo<hi->hi≤len->∃m',body (M (.int lo p) (.int hi q) m)=some (.next,if c ((lo+hi) / 2) then M (.int (((lo+hi) / 2+1:Nat):Int) false) (.int hi q) m' else M (.int lo p) (.int (((lo+hi) / 2:Nat):Int) false) m')) :
 ∀(k f lo hi:Nat) (p q:Bool) (m:Option V),hi≤len->hi-lo<2 ^ k->k<f->∃(r:Nat) (p':Bool) (AT:V) (m':Option V),Lm CC body f (M (.int lo p) (.int hi q) m)=some (.next,M (.int r p') AT m') ∧
  lo≤r∧(lo≤hi->r≤hi)∧(∀i,lo≤i->i<r->c i=true)∧(∀i,r≤i->i<hi->c i=false):=by
 intro X
 induction X with
 |zero=>
  intro f lo hi p q m hl hk hf;obtain ⟨f,rfl⟩:∃f',f=f'+1:=⟨f-1,(Nat.sub_add_cancel (xe (wz _) hf)).symm⟩;have BC:¬lo<hi:=fun z=>absurd (Nat.sub_pos_of_lt z) (xz.mpr (y8 hk));refine ⟨lo,p,.int hi q,m,?_,wu _,id,fun i a b=>absurd b (xz.mpr a),fun i a b=>absurd (xe a b) BC⟩;exact Kq.trans ((oE2 (ht ..)).trans (by rw[decide_eq_false BC]))
 |succ k ih=>
  intro f lo hi p q m hl hk hf;obtain ⟨f,rfl⟩:∃f',f=f'+1:=⟨f-1,(Nat.sub_add_cancel (xe (wz _) hf)).symm⟩;by_cases BC:lo<hi
  ·obtain ⟨m',CJ⟩:=hb lo hi p q m BC hl;cases hc:c ((lo+hi) / 2) with
   |true=>
    rw[hc,if_pos rfl] at CJ;obtain ⟨r,p',AT,K5,e,e1,e2,e3,e4⟩:=ih f ((lo+hi) / 2+1) hi false q m' hl (aMd BC (Nat.lt_of_lt_of_eq hk Nat.pow_succ')) (Nat.lt_of_succ_lt_succ hf);have e2:=e2 (aM1 BC);refine ⟨r,p',AT,K5,?_,wp (Nat.le_succ_of_le (aM2 (yn BC))) e1,fun Z=>e2,fun i a b=>?_,e4⟩
    ·exact Kq.trans ((oE2 (ht ..)).trans (by rw[decide_eq_true BC];exact (oE2 CJ).trans e))
    ·rcases ye i ((lo+hi) / 2+1) with z|z
     ·exact hm i ((lo+hi) / 2) (y8 z) (xd (aM1 BC) hl) hc
     ·exact e3 i z b
   |false=>
    rw[hc] at CJ;rw[if_neg (by decide)] at CJ;obtain ⟨r,p',AT,K5,e,e1,e2,e3,e4⟩:=ih f lo ((lo+hi) / 2) p false m' (wp (yn (aM1 BC)) hl) (aMc BC (Nat.lt_of_lt_of_eq hk Nat.pow_succ')) (Nat.lt_of_succ_lt_succ hf);refine ⟨r,p',AT,K5,?_,e1,fun Z=>wp (e2 (aM2 Z)) (yn (aM1 BC)),e3,fun i a b=>?_⟩
    ·exact Kq.trans ((oE2 (ht ..)).trans (by rw[decide_eq_true BC];exact (oE2 CJ).trans e))
    ·rcases ye i ((lo+hi) / 2) with z|z
     ·exact e4 i a z
     ·cases hz:c i with
      |false=>rfl
      |true=>rw[hm ((lo+hi) / 2) i z (by ac_rfl) hz] at hc;cases hc
  ·refine ⟨lo,p,.int hi q,m,?_,wu _,fun z=>z,fun i a b=>absurd b (xz.mpr a),fun i a b=>absurd (xe a b) BC⟩;exact Kq.trans ((oE2 (ht ..)).trans (by rw[decide_eq_false BC]))
def Gi:Ek:=(Kc 50).get (by rfl')
def Gj:Ek:=(Kc 32).get (by rfl')
theorem Rs:gl.D 50=some Gi:=by kernel_rfl
theorem Ry:gl.D 32=some Gj:=by kernel_rfl
def bE (d:Ek) (f:Nat):As:={ scope:=d.scope,f:=f,cells:=[],tab:=d.tab,muts:=d.muts }
def bF (a x key lo hi:V) (m:Option V):List (O7×V):=([("a",a),("x",x),("lo",lo),("hi",hi),("key",key)]:List (O7×V))++m.toList.map fun v=>(("mid":O7),v)
def bM (J:Aj) (a x key lo hi:V) (m:Option V):Aj:=J++[.fr (bF a x key lo hi m)]
theorem Tl {a x key lo hi:V}{m:Option V}{v:V}:put (bF a x key lo hi m) ("mid":O7) v=bF a x key lo hi (some v):=by cases m<;>rfl
theorem Er {a x key lo hi v:V}:(bF a x key lo hi (some v)).lookup ("mid":O7)=some v:=rfl
theorem c8 {n i:Nat}(h:i<n)(hn:n<2 ^ 62):fy n (i:Int)=some i:=by
 unfold fy;have:Ep (i:Int)=true:=by
  exact xg (show i+1≤2 ^ 63 from wp h (wp (yn hn) (by decide)))
 rw[this,if_pos rfl];unfold seqIndex?;have h1:¬(i:Int)<0:=xw.mpr (zt _);have h2:(decide ((0:Int)≤(i:Int))&&decide ((i:Int)<(n:Int)))=true:=xh.mpr ⟨decide_eq_true (zt _),decide_eq_true (yg.mpr h)⟩;simp only[h1,if_false];rw[if_pos h2]
 rfl
theorem Ig {J:Aj}{a:V}{l:List V}{r:List Cv}(h:Bu J a=some l):Bu (J++r) a=some l:=by
 induction a using V.casesOn with
 |lst _=>exact h
 |ref i=>exact Lp (Qf (Qv h))
 |_=>exact nn h
theorem lE {J:Aj}{a:V}{l:List V}{r:List Cv}(h:Bu J a=some l):Kt (J++r) a=none:=by
 induction a using V.casesOn with
 |lst _=>rfl
 |ref i=>exact oE1 (f:=u7) (Qf (r:=r) (Qv h))
 |_=>exact nn h
theorem Ha {J:Aj}{a v:V}{l:List V}{i:Nat}{s:Bool}{r:List Cv}(ha:Bu J a=some l)(hl:l.length<2 ^ 62)(hi:l[i]?=some v):Eb (J++r) a (.int (i:Int) s)=some v:=by
 have hd:=lE (r:=r) ha;have hs:=Ig (r:=r) ha;have AT:=(wv.mp hi).1;have z:yA (J++r) a (i:Int)=some v:=by
  show oe1 (Kt (J++r) a) _ _=_;rw[hd];exact (oE1 hs).trans (show oH l (i:Int)=some v from (oE1 (c8 AT hl)).trans hi)
 induction a using V.casesOn with
 |tup=>exact nn ha
 |str=>exact nn ha
 |_=>exact z
def Pp:PC->List PC
 |.If _ b _ _=>b
 |_=>[]
def Zs:PC->List PC
 |.If _ _ o _=>o
 |_=>[]
def Gp:PC->O6
 |.While t _ _ _=>t
 |_=>.Constant .none 0 default
def Hb:PC->List PC
 |.While _ b _ _=>b
 |_=>[]
def Bs (l:List PC) (i:Nat):PC:=(l[i]?).getD (.Pass default)
section
variable {a x:V}{l:List V}{c:Nat->Bool}{lo hi:Nat}{p q:Bool}
theorem Jo {g:Gl}{n:Nat}{J:Aj}{a:V}{l:List V}(ha:Bu J a=some l)(hl:l.length≤1000000):(Aw g (n+1)).call (.bi "len") [a] [] J=some (.int (l.length:Int) true,J):=by
 have hd:Kt J a=none:=by
  have:=lE (r:=[]) ha;rwa [xx] at this
 have h:jd J a=some l.length:=by
  have:g7 J a=some l.length:=by unfold g7;rw[hd];exact oE1 ha
  induction a using V.casesOn with
  |tup=>exact nn ha
  |str=>exact nn ha
  |_=>exact this
 rw[Gn];exact oE1 (show rF J "len" a=_ from (if_pos rfl).trans ((oE1 h).trans (if_pos (xg hl))))
structure Dw (J:Aj):Prop where
 cl:Ci J.length J=true
 tabs:J.take 3=Bb
theorem Dw.base:Dw Bb:=⟨rfl,rfl⟩
theorem Jn {e:As}:∀(bs:List (O7×V))(m:List (O7×V)),(bs.all fun x=>e.kind x.1==some .local)=true->e.f=J.length ->
 Em e bs (J++[.fr m])=some (J++[.fr (bs.foldl (fun m x=>put m x.1 x.2) m)]):=by
 intro X
 induction X with
 |nil=>
  intro m Z Z;exact rfl
 |cons X r ih=>
  obtain ⟨y,v⟩:=X;intro m h hf;rw[List.all_cons,wm,beq_iff_eq] at h;rw[Yv,Cc h.1 (by rw[hf];exact Af)];rw[hf,Dt];exact ih _ h.2 hf
theorem Hk {L:Lv}{d:Ek}{bs:List (O7×V)}{Av:Aj}{r:List Cv}{f:Fl}{v:V}(hs:okScope d.scope=true)(hc:∀J,Fu d.scope.names [] J=([],J))(hk:(bs.all fun x=>(bE d J.length).kind x.1==some .local)=true)
 (he:Dm L (bE d J.length) d.body (J++[.fr (bs.foldl (fun m x=>put m x.1 x.2) [])])=some (f,Av++r)) (hl:Av.length=J.length) (hf:By (Av++r) J.length 6 (uz f)=some v) (hm:Ci J.length Av=true):Kd L d bs J=some (v,Av):=by
 unfold Kd;rw[gN hs];rw[hc];dsimp only;rw[show ({ scope:=d.scope,f:=J.length,cells:=[],tab:=d.tab,muts:=d.muts }:As)=bE d J.length from rfl,Jn bs [] hk rfl];dsimp only;rw[he];dsimp only;rw[hf];have ht:(Av++r).take J.length=Av:=by rw[← hl];simp
 unfold cut;rw[ht,hm]
 rfl
theorem Ah {k:Nat}{y:O7}{v:V}{r:List (O7×V)}:Bg k ((y,v)::r)=(Ar k v&&Bg k r):=rfl
theorem oN:Fn Bb Bb=true:=by decide +kernel
theorem eC (O:Dw J)(ha:Bu J a=some l)(hc:Ar 3 a=true):Bu Bb a=some l:=by
 induction a using V.casesOn with
 |lst _=>exact ha
 |ref i=>
  have h3:i<3:=xm hc;have:(J.take 3)[i]?=some (.lst l):=by rw[List.getElem?_take,if_pos h3];exact Qv ha
  rw[O.tabs] at this;exact Lp this
 |_=>exact nn ha
abbrev aT (a x lo hi key:V):List (O7×V):=[("a",a),("x",x),("lo",lo),("hi",hi),("key",key)]
end
section
variable {a x kv:V}{l:List V}{c:Nat->Bool}{lo hi:Nat}{p q:Bool}
def Ic (n:Nat) (J:Aj) (kv:V) (l:List V) (P:Nat->V->Prop):Prop:=∀i v,l[i]?=some v->∃w,P i w∧∀o,Cg (J.length+1) o=true->(Aw gl n).call kv [v] [] (J++[o])=some (w,J++[o])
theorem Qq {m:Option V}{b:V}{k:Nat}(ha:Ar k a=true)(hx:Ar k x=true)(hk:Ar k kv=true)(hm:∀v,m=some v->Ar k v=true){i j:Int}{s t:Bool}:Cg k (.fr (bF a x kv (.int i s) (.int j t) m))=true:=by
 have e:∀y v r,Bg k ((y,v)::r)=(Ar k v&&Bg k r):=fun Z Z Z=>rfl;have z:∀i s,Ar k (.int i s)=true:=fun Z Z=>by rfl
 cases m with
 |none=>
  show Bg k (("a",a)::("x",x)::("lo",_)::("hi",_)::("key",kv)::[])=true;rw[e,e,e,e,e,ha,hx,hk,z,z];rfl
 |some v=>
  show Bg k (("a",a)::("x",x)::("lo",_)::("hi",_)::("key",kv)::("mid",v)::[])=true;rw[e,e,e,e,e,e,ha,hx,hk,z,z,hm v rfl];rfl
def rK:PC:=Bs (Pp (Bs Gi.body 2)) 0
theorem vJ (n:Nat){m:Option V}(ha:Bu J a=some l)(hl:l.length<2 ^ 62)(hc:∀i v,l[i]?=some v->Mf v x=some (c i))(h1:lo<hi)(h2:hi≤l.length) :
 ∃m',Dm (Aw gl (n+12)) (bE Gi J.length) (Hb rK) (bM J a x .none (.int lo p) (.int hi q) m) =
  some (.next,if c ((lo+hi) / 2) then bM J a x .none (.int (((lo+hi) / 2+1:Nat):Int) false) (.int hi q) m' else bM J a x .none (.int lo p) (.int (((lo+hi) / 2:Nat):Int) false) m'):=by
 have hv:l[(lo+hi) / 2]?=some (l[(lo+hi) / 2]'(xd (aM1 h1) h2)):=x7 _;refine ⟨some (.int (((lo+hi) / 2:Nat):Int) false),?_⟩;have C1:Nz (bM J a x .none (.int lo p) (.int hi q) m) .FloorDiv (.int ((lo:Int)+hi) false) (Bi 2)=some ((.int (((lo+hi) / 2:Nat):Int) false),bM J a x .none (.int lo p) (.int hi q) m):=by
  show some (V.int (((lo:Int)+hi).fdiv 2) false,_)=_;rw[show ((lo:Int)+hi).fdiv 2=(((lo+hi) / 2:Nat):Int) by rw[zz _ (by decide)];rfl]
 refine (Am (Cz (p:=_) rfl rfl (Bw (Bw (Ad rfl Af rfl) (Ad rfl Af rfl) rfl) Aq C1) (Cc rfl Af))).trans ?_;have e1:(bM J a x .none (.int lo p) (.int hi q) m).set (bE Gi J.length).f (.fr (put (bF a x .none (.int lo p) (.int hi q) m) ("mid":O7) (.int (((lo+hi) / 2:Nat):Int) false)))=bM J a x .none (.int lo p) (.int hi q) (some (.int (((lo+hi) / 2:Nat):Int) false)):=by
  rw[Tl];exact Dt
 rw[e1];have hit:Eb (bM J a x .none (.int lo p) (.int hi q) (some (.int (((lo+hi) / 2:Nat):Int) false))) a (.int (((lo+hi) / 2:Nat):Int) false)=some l[(lo+hi) / 2]:=Ha ha hl hv;have AP:∀{cc:Bool},c ((lo+hi) / 2)=cc->Dx (bM J a x .none (.int lo p) (.int hi q) (some (.int (((lo+hi) / 2:Nat):Int) false))) .Lt l[(lo+hi) / 2] x=some (cc):=fun z=>by rw[← z];exact hc _ _ hv
 cases DC:c ((lo+hi) / 2) with
 |true=>
  rw[if_pos rfl];refine (Am ((Cb (Bd rfl (Bj rfl (Ad rfl Af rfl) (Ad rfl Af Er) hit) (Ad rfl Af rfl) (AP DC))).trans ((Am (Cz rfl rfl (Bw (Ad rfl Af Er) Aq rfl) (Cc rfl Af))).trans Ax))).trans ?_;exact congrArg some (congrArg (Prod.mk _) Dt)
 |false=>
  rw[if_neg (by simp)];refine (Am ((Cb (Bd rfl (Bj rfl (Ad rfl Af rfl) (Ad rfl Af Er) hit) (Ad rfl Af rfl) (AP DC))).trans ((Am (Cz rfl rfl (Ad rfl Af Er) (Cc rfl Af))).trans Ax))).trans ?_;exact congrArg some (congrArg (Prod.mk _) Dt)
theorem yB (n:Nat){m:Option V}:(Aw gl (n+12)).ts (bE Gi J.length) (Gp rK) (bM J a x .none (.int lo p) (.int hi q) m)=some (decide (lo<hi),bM J a x .none (.int lo p) (.int hi q) m):=by
 have h:Dx (bM J a x .none (.int lo p) (.int hi q) m) .Lt (.int lo p) (.int hi q)=some (decide (lo<hi)):=by
  show some (decide ((lo:Int)<hi))=_;rw[show decide ((lo:Int)<hi)=decide (lo<hi) from decide_eq_decide.mpr yg]
 exact Bd rfl (Ad rfl Af rfl) (Ad rfl Af rfl) h
theorem sB (n:Nat)(ha:Bu J a=some l)(hl:l.length<2 ^ 62)(hc:∀i v,l[i]?=some v->Mf v x=some (c i))(hm:∀i j,i≤j->j<l.length->c j=true->c i=true)(h2:hi≤l.length) :
 ∃(r:Nat) (p':Bool) (AT:V) (m':Option V),Dm (Aw gl (n+14)) (bE Gi J.length) Gi.body (bM J a x .none (.int lo p) (.int hi q) none)=some (.ret (.int r p'),bM J a x .none (.int r p') AT m') ∧
  lo≤r∧(lo≤hi->r≤hi)∧(∀i,lo≤i->i<r->c i=true)∧(∀i,r≤i->i<hi->c i=false):=by
 have ht:∀(lo hi:Nat) p q m,(Aw gl (n+12)).ts (bE Gi J.length) (Gp rK) (bM J a x .none (.int lo p) (.int hi q) m)=some (decide (lo<hi),bM J a x .none (.int lo p) (.int hi q) m):=fun lo hi p q m=>yB n;have hb:∀(lo hi:Nat) p q m,lo<hi->hi≤l.length->∃m',Dm (Aw gl (n+12)) (bE Gi J.length) (Hb rK) (bM J a x .none (.int lo p) (.int hi q) m) =
  some (.next,if c ((lo+hi) / 2) then bM J a x .none (.int (((lo+hi) / 2+1:Nat):Int) false) (.int hi q) m' else bM J a x .none (.int lo p) (.int (((lo+hi) / 2:Nat):Int) false) m'):=fun lo hi p q m h1 h2=>vJ n ha hl hc h1 h2
 generalize DF:(Aw gl (n+12)).ts (bE Gi J.length) (Gp rK)=T at ht;generalize hbb:Dm (Aw gl (n+12)) (bE Gi J.length) (Hb rK)=B at hb;have H:=aC (M:=fun lo hi m=>bM J a x .none lo hi m) hm ht hb 62 64 lo hi p q none h2 (xe (yw ..) (xe h2 hl)) (by decide);obtain ⟨r,p',AT,m',e,e1,e2,e3,e4⟩:=H;rw[← DF,← hbb] at e;refine ⟨r,p',AT,m',?_,e1,e2,e3,e4⟩;have BC:Dx (bM J a x .none (.int lo p) (.int hi q) none) .Lt (.int lo p) (Bi 0)=some false:=by
  show some (decide ((lo:Int)<0))=_;rw[decide_eq_false (xw.mpr (zt _))]
 refine (Am ((Cb (Bd rfl (Ad rfl Af rfl) Aq BC)).trans Ax)).trans ?_;refine (Am ((Cb (Bd rfl (Ad rfl Af rfl) Ds (c:=false) rfl)).trans Ax)).trans ?_;refine (Am ((Cb (Bd rfl (Ad rfl Af rfl) Ds (c:=true) rfl)).trans ((Am (Mi.trans e)).trans Ax))).trans ?_;exact Cp (Fb (Ad rfl Af rfl)) (by simp)
theorem dk (n:Nat)(ha:Bu J a=some l)(hl:l.length≤1000000)(hc:∀i v,l[i]?=some v->Mf v x=some (c i))(hm:∀i j,i≤j->j<l.length->c j=true->c i=true) :
 ∃(r:Nat) (p':Bool) (AT:V) (m':Option V),Dm (Aw gl (n+14)) (bE Gi J.length) Gi.body (bM J a x .none (.int lo p) .none none)=some (.ret (.int r p'),bM J a x .none (.int r p') AT m') ∧
  lo≤r∧(lo≤l.length->r≤l.length)∧(∀i,lo≤i->i<r->c i=true)∧(∀i,r≤i->i<l.length->c i=false):=by
 obtain ⟨r,p',AT,m',e,e1⟩:=sB (lo:=lo) (hi:=l.length) (p:=p) (q:=true) n ha (by omega) hc hm (wu _);refine ⟨r,p',AT,m',?_,e1⟩;have BC:∀hv m,Dx (bM J a x .none (.int lo p) hv m) .Lt (.int lo p) (Bi 0)=some false:=fun hv m=>by
  show some (decide ((lo:Int)<0))=_;rw[decide_eq_false (by omega)]
 have s0:∀hv r,Dm (Aw gl (n+14)) (bE Gi J.length) Gi.body (bM J a x .none (.int lo p) hv none)=r->Dm (Aw gl (n+14)) (bE Gi J.length) (Gi.body.drop 1) (bM J a x .none (.int lo p) hv none)=r:=fun hv r h=>
  (Am (s:=Bs Gi.body 0) ((Cb (Bd rfl (Ad rfl Af rfl) Aq (BC hv none))).trans Ax)).symm.trans h
 have s1:Dm (Aw gl (n+14)) (bE Gi J.length) (Gi.body.drop 2) (bM J a x .none (.int lo p) (.int (l.length:Int) true) none)=some (.ret (.int r p'),bM J a x .none (.int r p') AT m'):=
  (Am (s:=Bs Gi.body 1) ((Cb (Bd rfl (Ad rfl Af rfl) Ds (c:=false) rfl)).trans Ax)).symm.trans (s0 _ _ e)
 refine (Am ((Cb (Bd rfl (Ad rfl Af rfl) Aq (BC _ none))).trans Ax)).trans ?_;refine (Am ((Cb (Bd rfl (Ad rfl Af rfl) Ds (c:=true) rfl)).trans ((Am (Cz rfl rfl ((Cl rfl rfl rfl (Ae rfl (Ad rfl Af rfl) Al) Bf).trans (Jo (Ig ha) hl)) (Cc rfl Af))).trans Ax))).trans ?_;refine Eq.trans ?_ s1;exact congrArg (Dm (Aw gl (n+14)) (bE Gi J.length) (Gi.body.drop 2)) Dt
def oX:PC:=Bs (Zs (Bs Gi.body 2)) 0
theorem xZ (n:Nat){m:Option V}(ha:Bu J a=some l)(hl:l.length<2 ^ 62)(AU:Ic (n+9) J kv l (fun i w=>Mf w x=some (c i)))(BS:Dv kv=false)(AL:Ar (J.length+1) a=true∧Ar (J.length+1) x=true∧Ar (J.length+1) kv=true)(h1:lo<hi)(h2:hi≤l.length) :
 ∃m',Dm (Aw gl (n+12)) (bE Gi J.length) (Hb oX) (bM J a x kv (.int lo p) (.int hi q) m) =
  some (.next,if c ((lo+hi) / 2) then bM J a x kv (.int (((lo+hi) / 2+1:Nat):Int) false) (.int hi q) m' else bM J a x kv (.int lo p) (.int (((lo+hi) / 2:Nat):Int) false) m'):=by
 have hv:l[(lo+hi) / 2]?=some (l[(lo+hi) / 2]'(by omega)):=x7 _;refine ⟨some (.int (((lo+hi) / 2:Nat):Int) false),?_⟩;have C1:Nz (bM J a x kv (.int lo p) (.int hi q) m) .FloorDiv (.int ((lo:Int)+hi) false) (Bi 2)=some ((.int (((lo+hi) / 2:Nat):Int) false),bM J a x kv (.int lo p) (.int hi q) m):=by
  show some (V.int (((lo:Int)+hi).fdiv 2) false,_)=_;rw[show ((lo:Int)+hi).fdiv 2=(((lo+hi) / 2:Nat):Int) by rw[zz _ (by omega)];omega]
 refine (Am (Cz (p:=_) rfl rfl (Bw (Bw (Ad rfl Af rfl) (Ad rfl Af rfl) rfl) Aq C1) (Cc rfl Af))).trans ?_;have e1:(bM J a x kv (.int lo p) (.int hi q) m).set (bE Gi J.length).f (.fr (put (bF a x kv (.int lo p) (.int hi q) m) ("mid":O7) (.int (((lo+hi) / 2:Nat):Int) false)))=bM J a x kv (.int lo p) (.int hi q) (some (.int (((lo+hi) / 2:Nat):Int) false)):=by
  rw[Tl];exact Dt
 rw[e1];have hit:Eb (bM J a x kv (.int lo p) (.int hi q) (some (.int (((lo+hi) / 2:Nat):Int) false))) a (.int (((lo+hi) / 2:Nat):Int) false)=some l[(lo+hi) / 2]:=Ha ha hl hv;obtain ⟨w,L9,hw⟩:=AU _ _ hv;have AP:∀{cc:Bool},c ((lo+hi) / 2)=cc->Dx (bM J a x kv (.int lo p) (.int hi q) (some (.int (((lo+hi) / 2:Nat):Int) false))) .Lt w x=some (cc):=fun z=>by rw[← z];exact L9
 cases DC:c ((lo+hi) / 2) with
 |true=>
  rw[if_pos rfl];refine (Am ((Cb (Bd rfl ((Ka (Dy rfl Af rfl) BS (Ae rfl (Bj rfl (Ad rfl Af rfl) (Ad rfl Af Er) hit) Al) Bf).trans (hw _ (Qq (b:=x) AL.1 AL.2.1 AL.2.2 fun v e=>by cases e;rfl))) (Ad rfl Af rfl) (AP DC))).trans ((Am (Cz rfl rfl (Bw (Ad rfl Af Er) Aq rfl) (Cc rfl Af))).trans Ax))).trans ?_;exact congrArg some (congrArg (Prod.mk _) Dt)
 |false=>
  rw[if_neg (by simp)];refine (Am ((Cb (Bd rfl ((Ka (Dy rfl Af rfl) BS (Ae rfl (Bj rfl (Ad rfl Af rfl) (Ad rfl Af Er) hit) Al) Bf).trans (hw _ (Qq (b:=x) AL.1 AL.2.1 AL.2.2 fun v e=>by cases e;rfl))) (Ad rfl Af rfl) (AP DC))).trans ((Am (Cz rfl rfl (Ad rfl Af Er) (Cc rfl Af))).trans Ax))).trans ?_;exact congrArg some (congrArg (Prod.mk _) Dt)
theorem wR (n:Nat){m:Option V}:(Aw gl (n+12)).ts (bE Gi J.length) (Gp oX) (bM J a x kv (.int lo p) (.int hi q) m)=some (decide (lo<hi),bM J a x kv (.int lo p) (.int hi q) m):=by
 have h:Dx (bM J a x kv (.int lo p) (.int hi q) m) .Lt (.int lo p) (.int hi q)=some (decide (lo<hi)):=by
  show some (decide ((lo:Int)<hi))=_;rw[show decide ((lo:Int)<hi)=decide (lo<hi) from decide_eq_decide.mpr (by omega)]
 exact Bd rfl (Ad rfl Af rfl) (Ad rfl Af rfl) h
theorem xC (n:Nat)(ha:Bu J a=some l)(hl:l.length<2 ^ 62)(AU:Ic (n+9) J kv l (fun i w=>Mf w x=some (c i)))(BS:Dv kv=false)(AL:Ar (J.length+1) a=true∧Ar (J.length+1) x=true∧Ar (J.length+1) kv=true)(B1:wE kv .none=some false)(hm:∀i j,i≤j->j<l.length->c j=true->c i=true)(h2:hi≤l.length) :
 ∃(r:Nat) (p':Bool) (AT:V) (m':Option V),Dm (Aw gl (n+14)) (bE Gi J.length) Gi.body (bM J a x kv (.int lo p) (.int hi q) none)=some (.ret (.int r p'),bM J a x kv (.int r p') AT m') ∧
  lo≤r∧(lo≤hi->r≤hi)∧(∀i,lo≤i->i<r->c i=true)∧(∀i,r≤i->i<hi->c i=false):=by
 have ht:∀(lo hi:Nat) p q m,(Aw gl (n+12)).ts (bE Gi J.length) (Gp oX) (bM J a x kv (.int lo p) (.int hi q) m)=some (decide (lo<hi),bM J a x kv (.int lo p) (.int hi q) m):=fun lo hi p q m=>wR n;have hb:∀(lo hi:Nat) p q m,lo<hi->hi≤l.length->∃m',Dm (Aw gl (n+12)) (bE Gi J.length) (Hb oX) (bM J a x kv (.int lo p) (.int hi q) m) =
  some (.next,if c ((lo+hi) / 2) then bM J a x kv (.int (((lo+hi) / 2+1:Nat):Int) false) (.int hi q) m' else bM J a x kv (.int lo p) (.int (((lo+hi) / 2:Nat):Int) false) m'):=fun lo hi p q m h1 h2=>xZ n ha hl AU BS AL h1 h2
 generalize DF:(Aw gl (n+12)).ts (bE Gi J.length) (Gp oX)=T at ht;generalize hbb:Dm (Aw gl (n+12)) (bE Gi J.length) (Hb oX)=B at hb;have H:=aC (M:=fun lo hi m=>bM J a x kv lo hi m) hm ht hb 62 64 lo hi p q none h2 (by omega) (by omega);obtain ⟨r,p',AT,m',e,e1,e2,e3,e4⟩:=H;rw[← DF,← hbb] at e;refine ⟨r,p',AT,m',?_,e1,e2,e3,e4⟩;have BC:Dx (bM J a x kv (.int lo p) (.int hi q) none) .Lt (.int lo p) (Bi 0)=some false:=by
  show some (decide ((lo:Int)<0))=_;rw[decide_eq_false (by omega)]
 refine (Am ((Cb (Bd rfl (Ad rfl Af rfl) Aq BC)).trans Ax)).trans ?_;refine (Am ((Cb (Bd rfl (Ad rfl Af rfl) Ds (c:=false) rfl)).trans Ax)).trans ?_;refine (Am ((Cb (Bd rfl (Ad rfl Af rfl) Ds (c:=false) (show Dx _ .Is _ _=_ from B1))).trans ((Am (Mi.trans e)).trans Ax))).trans ?_;exact Cp (Fb (Ad rfl Af rfl)) (by simp)
theorem gw (n:Nat)(ha:Bu J a=some l)(hl:l.length≤1000000)(AU:Ic (n+9) J kv l (fun i w=>Mf w x=some (c i)))(BS:Dv kv=false)(AL:Ar (J.length+1) a=true∧Ar (J.length+1) x=true∧Ar (J.length+1) kv=true)(B1:wE kv .none=some false)(hm:∀i j,i≤j->j<l.length->c j=true->c i=true) :
 ∃(r:Nat) (p':Bool) (AT:V) (m':Option V),Dm (Aw gl (n+14)) (bE Gi J.length) Gi.body (bM J a x kv (.int lo p) .none none)=some (.ret (.int r p'),bM J a x kv (.int r p') AT m') ∧
  lo≤r∧(lo≤l.length->r≤l.length)∧(∀i,lo≤i->i<r->c i=true)∧(∀i,r≤i->i<l.length->c i=false):=by
 obtain ⟨r,p',AT,m',e,e1⟩:=xC (lo:=lo) (hi:=l.length) (p:=p) (q:=true) n ha (by omega) AU BS AL B1 hm (wu _);refine ⟨r,p',AT,m',?_,e1⟩;have BC:∀hv m,Dx (bM J a x kv (.int lo p) hv m) .Lt (.int lo p) (Bi 0)=some false:=fun hv m=>by
  show some (decide ((lo:Int)<0))=_;rw[decide_eq_false (by omega)]
 have s0:∀hv r,Dm (Aw gl (n+14)) (bE Gi J.length) Gi.body (bM J a x kv (.int lo p) hv none)=r->Dm (Aw gl (n+14)) (bE Gi J.length) (Gi.body.drop 1) (bM J a x kv (.int lo p) hv none)=r:=fun hv r h=>
  (Am (s:=Bs Gi.body 0) ((Cb (Bd rfl (Ad rfl Af rfl) Aq (BC hv none))).trans Ax)).symm.trans h
 have s1:Dm (Aw gl (n+14)) (bE Gi J.length) (Gi.body.drop 2) (bM J a x kv (.int lo p) (.int (l.length:Int) true) none)=some (.ret (.int r p'),bM J a x kv (.int r p') AT m'):=
  (Am (s:=Bs Gi.body 1) ((Cb (Bd rfl (Ad rfl Af rfl) Ds (c:=false) rfl)).trans Ax)).symm.trans (s0 _ _ e)
 refine (Am ((Cb (Bd rfl (Ad rfl Af rfl) Aq (BC _ none))).trans Ax)).trans ?_;refine (Am ((Cb (Bd rfl (Ad rfl Af rfl) Ds (c:=true) rfl)).trans ((Am (Cz rfl rfl ((Cl rfl rfl rfl (Ae rfl (Ad rfl Af rfl) Al) Bf).trans (Jo (Ig ha) hl)) (Cc rfl Af))).trans Ax))).trans ?_;refine Eq.trans ?_ s1;exact congrArg (Dm (Aw gl (n+14)) (bE Gi J.length) (Gi.body.drop 2)) Dt
def pB:PC:=Bs (Pp (Bs Gj.body 2)) 0
theorem tP (n:Nat){m:Option V}(ha:Bu J a=some l)(hl:l.length<2 ^ 62)(hc:∀i v,l[i]?=some v->Mf x v=some (!c i))(h1:lo<hi)(h2:hi≤l.length) :
 ∃m',Dm (Aw gl (n+12)) (bE Gj J.length) (Hb pB) (bM J a x .none (.int lo p) (.int hi q) m) =
  some (.next,if c ((lo+hi) / 2) then bM J a x .none (.int (((lo+hi) / 2+1:Nat):Int) false) (.int hi q) m' else bM J a x .none (.int lo p) (.int (((lo+hi) / 2:Nat):Int) false) m'):=by
 have hv:l[(lo+hi) / 2]?=some (l[(lo+hi) / 2]'(by omega)):=x7 _;refine ⟨some (.int (((lo+hi) / 2:Nat):Int) false),?_⟩;have C1:Nz (bM J a x .none (.int lo p) (.int hi q) m) .FloorDiv (.int ((lo:Int)+hi) false) (Bi 2)=some ((.int (((lo+hi) / 2:Nat):Int) false),bM J a x .none (.int lo p) (.int hi q) m):=by
  show some (V.int (((lo:Int)+hi).fdiv 2) false,_)=_;rw[show ((lo:Int)+hi).fdiv 2=(((lo+hi) / 2:Nat):Int) by rw[zz _ (by omega)];omega]
 refine (Am (Cz (p:=_) rfl rfl (Bw (Bw (Ad rfl Af rfl) (Ad rfl Af rfl) rfl) Aq C1) (Cc rfl Af))).trans ?_;have e1:(bM J a x .none (.int lo p) (.int hi q) m).set (bE Gj J.length).f (.fr (put (bF a x .none (.int lo p) (.int hi q) m) ("mid":O7) (.int (((lo+hi) / 2:Nat):Int) false)))=bM J a x .none (.int lo p) (.int hi q) (some (.int (((lo+hi) / 2:Nat):Int) false)):=by
  rw[Tl];exact Dt
 rw[e1];have hit:Eb (bM J a x .none (.int lo p) (.int hi q) (some (.int (((lo+hi) / 2:Nat):Int) false))) a (.int (((lo+hi) / 2:Nat):Int) false)=some l[(lo+hi) / 2]:=Ha ha hl hv;have AP:∀{cc:Bool},c ((lo+hi) / 2)=cc->Dx (bM J a x .none (.int lo p) (.int hi q) (some (.int (((lo+hi) / 2:Nat):Int) false))) .Lt x l[(lo+hi) / 2]=some (!cc):=fun z=>by rw[← z];exact hc _ _ hv
 cases DC:c ((lo+hi) / 2) with
 |true=>
  rw[if_pos rfl];refine (Am ((Cb (Bd rfl (Ad rfl Af rfl) (Bj rfl (Ad rfl Af rfl) (Ad rfl Af Er) hit) (AP DC))).trans ((Am (Cz rfl rfl (Bw (Ad rfl Af Er) Aq rfl) (Cc rfl Af))).trans Ax))).trans ?_;exact congrArg some (congrArg (Prod.mk _) Dt)
 |false=>
  rw[if_neg (by simp)];refine (Am ((Cb (Bd rfl (Ad rfl Af rfl) (Bj rfl (Ad rfl Af rfl) (Ad rfl Af Er) hit) (AP DC))).trans ((Am (Cz rfl rfl (Ad rfl Af Er) (Cc rfl Af))).trans Ax))).trans ?_;exact congrArg some (congrArg (Prod.mk _) Dt)
theorem wB (n:Nat){m:Option V}:(Aw gl (n+12)).ts (bE Gj J.length) (Gp pB) (bM J a x .none (.int lo p) (.int hi q) m)=some (decide (lo<hi),bM J a x .none (.int lo p) (.int hi q) m):=by
 have h:Dx (bM J a x .none (.int lo p) (.int hi q) m) .Lt (.int lo p) (.int hi q)=some (decide (lo<hi)):=by
  show some (decide ((lo:Int)<hi))=_;rw[show decide ((lo:Int)<hi)=decide (lo<hi) from decide_eq_decide.mpr (by omega)]
 exact Bd rfl (Ad rfl Af rfl) (Ad rfl Af rfl) h
theorem wH (n:Nat)(ha:Bu J a=some l)(hl:l.length<2 ^ 62)(hc:∀i v,l[i]?=some v->Mf x v=some (!c i))(hm:∀i j,i≤j->j<l.length->c j=true->c i=true)(h2:hi≤l.length) :
 ∃(r:Nat) (p':Bool) (AT:V) (m':Option V),Dm (Aw gl (n+14)) (bE Gj J.length) Gj.body (bM J a x .none (.int lo p) (.int hi q) none)=some (.ret (.int r p'),bM J a x .none (.int r p') AT m') ∧
  lo≤r∧(lo≤hi->r≤hi)∧(∀i,lo≤i->i<r->c i=true)∧(∀i,r≤i->i<hi->c i=false):=by
 have ht:∀(lo hi:Nat) p q m,(Aw gl (n+12)).ts (bE Gj J.length) (Gp pB) (bM J a x .none (.int lo p) (.int hi q) m)=some (decide (lo<hi),bM J a x .none (.int lo p) (.int hi q) m):=fun lo hi p q m=>wB n;have hb:∀(lo hi:Nat) p q m,lo<hi->hi≤l.length->∃m',Dm (Aw gl (n+12)) (bE Gj J.length) (Hb pB) (bM J a x .none (.int lo p) (.int hi q) m) =
  some (.next,if c ((lo+hi) / 2) then bM J a x .none (.int (((lo+hi) / 2+1:Nat):Int) false) (.int hi q) m' else bM J a x .none (.int lo p) (.int (((lo+hi) / 2:Nat):Int) false) m'):=fun lo hi p q m h1 h2=>tP n ha hl hc h1 h2
 generalize DF:(Aw gl (n+12)).ts (bE Gj J.length) (Gp pB)=T at ht;generalize hbb:Dm (Aw gl (n+12)) (bE Gj J.length) (Hb pB)=B at hb;have H:=aC (M:=fun lo hi m=>bM J a x .none lo hi m) hm ht hb 62 64 lo hi p q none h2 (by omega) (by omega);obtain ⟨r,p',AT,m',e,e1,e2,e3,e4⟩:=H;rw[← DF,← hbb] at e;refine ⟨r,p',AT,m',?_,e1,e2,e3,e4⟩;have BC:Dx (bM J a x .none (.int lo p) (.int hi q) none) .Lt (.int lo p) (Bi 0)=some false:=by
  show some (decide ((lo:Int)<0))=_;rw[decide_eq_false (by omega)]
 refine (Am ((Cb (Bd rfl (Ad rfl Af rfl) Aq BC)).trans Ax)).trans ?_;refine (Am ((Cb (Bd rfl (Ad rfl Af rfl) Ds (c:=false) rfl)).trans Ax)).trans ?_;refine (Am ((Cb (Bd rfl (Ad rfl Af rfl) Ds (c:=true) rfl)).trans ((Am (Mi.trans e)).trans Ax))).trans ?_;exact Cp (Fb (Ad rfl Af rfl)) (by simp)
theorem eu (n:Nat)(ha:Bu J a=some l)(hl:l.length≤1000000)(hc:∀i v,l[i]?=some v->Mf x v=some (!c i))(hm:∀i j,i≤j->j<l.length->c j=true->c i=true) :
 ∃(r:Nat) (p':Bool) (AT:V) (m':Option V),Dm (Aw gl (n+14)) (bE Gj J.length) Gj.body (bM J a x .none (.int lo p) .none none)=some (.ret (.int r p'),bM J a x .none (.int r p') AT m') ∧
  lo≤r∧(lo≤l.length->r≤l.length)∧(∀i,lo≤i->i<r->c i=true)∧(∀i,r≤i->i<l.length->c i=false):=by
 obtain ⟨r,p',AT,m',e,e1⟩:=wH (lo:=lo) (hi:=l.length) (p:=p) (q:=true) n ha (by omega) hc hm (wu _);refine ⟨r,p',AT,m',?_,e1⟩;have BC:∀hv m,Dx (bM J a x .none (.int lo p) hv m) .Lt (.int lo p) (Bi 0)=some false:=fun hv m=>by
  show some (decide ((lo:Int)<0))=_;rw[decide_eq_false (by omega)]
 have s0:∀hv r,Dm (Aw gl (n+14)) (bE Gj J.length) Gj.body (bM J a x .none (.int lo p) hv none)=r->Dm (Aw gl (n+14)) (bE Gj J.length) (Gj.body.drop 1) (bM J a x .none (.int lo p) hv none)=r:=fun hv r h=>
  (Am (s:=Bs Gj.body 0) ((Cb (Bd rfl (Ad rfl Af rfl) Aq (BC hv none))).trans Ax)).symm.trans h
 have s1:Dm (Aw gl (n+14)) (bE Gj J.length) (Gj.body.drop 2) (bM J a x .none (.int lo p) (.int (l.length:Int) true) none)=some (.ret (.int r p'),bM J a x .none (.int r p') AT m'):=
  (Am (s:=Bs Gj.body 1) ((Cb (Bd rfl (Ad rfl Af rfl) Ds (c:=false) rfl)).trans Ax)).symm.trans (s0 _ _ e)
 refine (Am ((Cb (Bd rfl (Ad rfl Af rfl) Aq (BC _ none))).trans Ax)).trans ?_;refine (Am ((Cb (Bd rfl (Ad rfl Af rfl) Ds (c:=true) rfl)).trans ((Am (Cz rfl rfl ((Cl rfl rfl rfl (Ae rfl (Ad rfl Af rfl) Al) Bf).trans (Jo (Ig ha) hl)) (Cc rfl Af))).trans Ax))).trans ?_;refine Eq.trans ?_ s1;exact congrArg (Dm (Aw gl (n+14)) (bE Gj J.length) (Gj.body.drop 2)) Dt
def rN:PC:=Bs (Zs (Bs Gj.body 2)) 0
theorem xD (n:Nat){m:Option V}(ha:Bu J a=some l)(hl:l.length<2 ^ 62)(AU:Ic (n+9) J kv l (fun i w=>Mf x w=some (!c i)))(BS:Dv kv=false)(AL:Ar (J.length+1) a=true∧Ar (J.length+1) x=true∧Ar (J.length+1) kv=true)(h1:lo<hi)(h2:hi≤l.length) :
 ∃m',Dm (Aw gl (n+12)) (bE Gj J.length) (Hb rN) (bM J a x kv (.int lo p) (.int hi q) m) =
  some (.next,if c ((lo+hi) / 2) then bM J a x kv (.int (((lo+hi) / 2+1:Nat):Int) false) (.int hi q) m' else bM J a x kv (.int lo p) (.int (((lo+hi) / 2:Nat):Int) false) m'):=by
 have hv:l[(lo+hi) / 2]?=some (l[(lo+hi) / 2]'(by omega)):=x7 _;refine ⟨some (.int (((lo+hi) / 2:Nat):Int) false),?_⟩;have C1:Nz (bM J a x kv (.int lo p) (.int hi q) m) .FloorDiv (.int ((lo:Int)+hi) false) (Bi 2)=some ((.int (((lo+hi) / 2:Nat):Int) false),bM J a x kv (.int lo p) (.int hi q) m):=by
  show some (V.int (((lo:Int)+hi).fdiv 2) false,_)=_;rw[show ((lo:Int)+hi).fdiv 2=(((lo+hi) / 2:Nat):Int) by rw[zz _ (by omega)];omega]
 refine (Am (Cz (p:=_) rfl rfl (Bw (Bw (Ad rfl Af rfl) (Ad rfl Af rfl) rfl) Aq C1) (Cc rfl Af))).trans ?_;have e1:(bM J a x kv (.int lo p) (.int hi q) m).set (bE Gj J.length).f (.fr (put (bF a x kv (.int lo p) (.int hi q) m) ("mid":O7) (.int (((lo+hi) / 2:Nat):Int) false)))=bM J a x kv (.int lo p) (.int hi q) (some (.int (((lo+hi) / 2:Nat):Int) false)):=by
  rw[Tl];exact Dt
 rw[e1];have hit:Eb (bM J a x kv (.int lo p) (.int hi q) (some (.int (((lo+hi) / 2:Nat):Int) false))) a (.int (((lo+hi) / 2:Nat):Int) false)=some l[(lo+hi) / 2]:=Ha ha hl hv;obtain ⟨w,L9,hw⟩:=AU _ _ hv;have AP:∀{cc:Bool},c ((lo+hi) / 2)=cc->Dx (bM J a x kv (.int lo p) (.int hi q) (some (.int (((lo+hi) / 2:Nat):Int) false))) .Lt x w=some (!cc):=fun z=>by rw[← z];exact L9
 cases DC:c ((lo+hi) / 2) with
 |true=>
  rw[if_pos rfl];refine (Am ((Cb (Bd rfl (Ad rfl Af rfl) ((Ka (Dy rfl Af rfl) BS (Ae rfl (Bj rfl (Ad rfl Af rfl) (Ad rfl Af Er) hit) Al) Bf).trans (hw _ (Qq (b:=x) AL.1 AL.2.1 AL.2.2 fun v e=>by cases e;rfl))) (AP DC))).trans ((Am (Cz rfl rfl (Bw (Ad rfl Af Er) Aq rfl) (Cc rfl Af))).trans Ax))).trans ?_;exact congrArg some (congrArg (Prod.mk _) Dt)
 |false=>
  rw[if_neg (by simp)];refine (Am ((Cb (Bd rfl (Ad rfl Af rfl) ((Ka (Dy rfl Af rfl) BS (Ae rfl (Bj rfl (Ad rfl Af rfl) (Ad rfl Af Er) hit) Al) Bf).trans (hw _ (Qq (b:=x) AL.1 AL.2.1 AL.2.2 fun v e=>by cases e;rfl))) (AP DC))).trans ((Am (Cz rfl rfl (Ad rfl Af Er) (Cc rfl Af))).trans Ax))).trans ?_;exact congrArg some (congrArg (Prod.mk _) Dt)
theorem xY (n:Nat){m:Option V}:(Aw gl (n+12)).ts (bE Gj J.length) (Gp rN) (bM J a x kv (.int lo p) (.int hi q) m)=some (decide (lo<hi),bM J a x kv (.int lo p) (.int hi q) m):=by
 have h:Dx (bM J a x kv (.int lo p) (.int hi q) m) .Lt (.int lo p) (.int hi q)=some (decide (lo<hi)):=by
  show some (decide ((lo:Int)<hi))=_;rw[show decide ((lo:Int)<hi)=decide (lo<hi) from decide_eq_decide.mpr (by omega)]
 exact Bd rfl (Ad rfl Af rfl) (Ad rfl Af rfl) h
theorem sD (n:Nat)(ha:Bu J a=some l)(hl:l.length<2 ^ 62)(AU:Ic (n+9) J kv l (fun i w=>Mf x w=some (!c i)))(BS:Dv kv=false)(AL:Ar (J.length+1) a=true∧Ar (J.length+1) x=true∧Ar (J.length+1) kv=true)(B1:wE kv .none=some false)(hm:∀i j,i≤j->j<l.length->c j=true->c i=true)(h2:hi≤l.length) :
 ∃(r:Nat) (p':Bool) (AT:V) (m':Option V),Dm (Aw gl (n+14)) (bE Gj J.length) Gj.body (bM J a x kv (.int lo p) (.int hi q) none)=some (.ret (.int r p'),bM J a x kv (.int r p') AT m') ∧
  lo≤r∧(lo≤hi->r≤hi)∧(∀i,lo≤i->i<r->c i=true)∧(∀i,r≤i->i<hi->c i=false):=by
 have ht:∀(lo hi:Nat) p q m,(Aw gl (n+12)).ts (bE Gj J.length) (Gp rN) (bM J a x kv (.int lo p) (.int hi q) m)=some (decide (lo<hi),bM J a x kv (.int lo p) (.int hi q) m):=fun lo hi p q m=>xY n;have hb:∀(lo hi:Nat) p q m,lo<hi->hi≤l.length->∃m',Dm (Aw gl (n+12)) (bE Gj J.length) (Hb rN) (bM J a x kv (.int lo p) (.int hi q) m) =
  some (.next,if c ((lo+hi) / 2) then bM J a x kv (.int (((lo+hi) / 2+1:Nat):Int) false) (.int hi q) m' else bM J a x kv (.int lo p) (.int (((lo+hi) / 2:Nat):Int) false) m'):=fun lo hi p q m h1 h2=>xD n ha hl AU BS AL h1 h2
 generalize DF:(Aw gl (n+12)).ts (bE Gj J.length) (Gp rN)=T at ht;generalize hbb:Dm (Aw gl (n+12)) (bE Gj J.length) (Hb rN)=B at hb;have H:=aC (M:=fun lo hi m=>bM J a x kv lo hi m) hm ht hb 62 64 lo hi p q none h2 (by omega) (by omega);obtain ⟨r,p',AT,m',e,e1,e2,e3,e4⟩:=H;rw[← DF,← hbb] at e;refine ⟨r,p',AT,m',?_,e1,e2,e3,e4⟩;have BC:Dx (bM J a x kv (.int lo p) (.int hi q) none) .Lt (.int lo p) (Bi 0)=some false:=by
  show some (decide ((lo:Int)<0))=_;rw[decide_eq_false (by omega)]
 refine (Am ((Cb (Bd rfl (Ad rfl Af rfl) Aq BC)).trans Ax)).trans ?_;refine (Am ((Cb (Bd rfl (Ad rfl Af rfl) Ds (c:=false) rfl)).trans Ax)).trans ?_;refine (Am ((Cb (Bd rfl (Ad rfl Af rfl) Ds (c:=false) (show Dx _ .Is _ _=_ from B1))).trans ((Am (Mi.trans e)).trans Ax))).trans ?_;exact Cp (Fb (Ad rfl Af rfl)) (by simp)
theorem i5 (n:Nat)(ha:Bu J a=some l)(hl:l.length≤1000000)(AU:Ic (n+9) J kv l (fun i w=>Mf x w=some (!c i)))(BS:Dv kv=false)(AL:Ar (J.length+1) a=true∧Ar (J.length+1) x=true∧Ar (J.length+1) kv=true)(B1:wE kv .none=some false)(hm:∀i j,i≤j->j<l.length->c j=true->c i=true) :
 ∃(r:Nat) (p':Bool) (AT:V) (m':Option V),Dm (Aw gl (n+14)) (bE Gj J.length) Gj.body (bM J a x kv (.int lo p) .none none)=some (.ret (.int r p'),bM J a x kv (.int r p') AT m') ∧
  lo≤r∧(lo≤l.length->r≤l.length)∧(∀i,lo≤i->i<r->c i=true)∧(∀i,r≤i->i<l.length->c i=false):=by
 obtain ⟨r,p',AT,m',e,e1⟩:=sD (lo:=lo) (hi:=l.length) (p:=p) (q:=true) n ha (by omega) AU BS AL B1 hm (wu _);refine ⟨r,p',AT,m',?_,e1⟩;have BC:∀hv m,Dx (bM J a x kv (.int lo p) hv m) .Lt (.int lo p) (Bi 0)=some false:=fun hv m=>by
  show some (decide ((lo:Int)<0))=_;rw[decide_eq_false (by omega)]
 have s0:∀hv r,Dm (Aw gl (n+14)) (bE Gj J.length) Gj.body (bM J a x kv (.int lo p) hv none)=r->Dm (Aw gl (n+14)) (bE Gj J.length) (Gj.body.drop 1) (bM J a x kv (.int lo p) hv none)=r:=fun hv r h=>
  (Am (s:=Bs Gj.body 0) ((Cb (Bd rfl (Ad rfl Af rfl) Aq (BC hv none))).trans Ax)).symm.trans h
 have s1:Dm (Aw gl (n+14)) (bE Gj J.length) (Gj.body.drop 2) (bM J a x kv (.int lo p) (.int (l.length:Int) true) none)=some (.ret (.int r p'),bM J a x kv (.int r p') AT m'):=
  (Am (s:=Bs Gj.body 1) ((Cb (Bd rfl (Ad rfl Af rfl) Ds (c:=false) rfl)).trans Ax)).symm.trans (s0 _ _ e)
 refine (Am ((Cb (Bd rfl (Ad rfl Af rfl) Aq (BC _ none))).trans Ax)).trans ?_;refine (Am ((Cb (Bd rfl (Ad rfl Af rfl) Ds (c:=true) rfl)).trans ((Am (Cz rfl rfl ((Cl rfl rfl rfl (Ae rfl (Ad rfl Af rfl) Al) Bf).trans (Jo (Ig ha) hl)) (Cc rfl Af))).trans Ax))).trans ?_;refine Eq.trans ?_ s1;exact congrArg (Dm (Aw gl (n+14)) (bE Gj J.length) (Gj.body.drop 2)) Dt
end
mutual
theorem Ct {j k:Nat}(h:j≤k):∀{v:V},Ar j v=true->Ar k v=true
 |.none,_|.bool _,_|.int _ _,_|.str _,_|.set _,_|.fn _,_|.bi _,_|.ty _,_|.opq,_=>by rfl
 |.ref i,c=>by
  exact xg (wp (xm c) h)
 |.tup l,c=>Jw (l:=l) h c
 |.lst l,c=>Jw (l:=l) h c
 |.dct l,c=>Mj (l:=l) h c
 |.dcs l,c=>Mo (l:=l) h c
 |.clo _ _ _ cells,c=>by
  refine xo.mpr ?_;have c:=xo.mp c;exact fun x m=>xg (wp (xm (c x m)) h)
 |.inst x,c=>Ct (v:=x) h c
theorem Jw {j k:Nat}(h:j≤k):∀{l:List V},Di j l=true->Di k l=true
 |[],_=>rfl
 |x::r,c=>by
  rw[Fw] at c ⊢;rw[wm] at c ⊢;exact ⟨Ct h c.1,Jw h c.2⟩
theorem Mj {j k:Nat}(h:j≤k):∀{l:List (Int×V)},Fe j l=true->Fe k l=true
 |[],_=>rfl
 |(_,x)::r,c=>by
  rw[xO] at c ⊢;rw[wm] at c ⊢;exact ⟨Ct h c.1,Mj h c.2⟩
theorem Mo {j k:Nat}(h:j≤k):∀{l:List (O7×V)},Bg j l=true->Bg k l=true
 |[],_=>rfl
 |(_,x)::r,c=>by
  rw[Gu] at c ⊢;rw[wm] at c ⊢;exact ⟨Ct h c.1,Mo h c.2⟩
end
theorem eD {j k:Nat}(h:j≤k):∀{o:Cv},Cg j o=true->Cg k o=true
 |.fr m,c=>by unfold Cg at c ⊢;exact Mo h c
 |.cell none,_=>by unfold Cg;rfl
 |.cell (some v),c=>by unfold Cg at c ⊢;exact Ct h c
 |.lst l,c=>by unfold Cg at c ⊢;exact Jw h c
 |.dct l,c=>by unfold Cg at c ⊢;exact Mj h c
 |.tab _,_=>by unfold Cg;rfl
theorem fM {j k:Nat}(h:j≤k):∀{J:Aj},Ci j J=true->Ci k J=true:=by
 intro X
 induction X with
 |nil=>
  intro Z
  rfl
 |cons o r ih=>
  intro c;rw[Ia] at c ⊢;rw[wm] at c ⊢;exact ⟨eD h c.1,ih c.2⟩
theorem jC {k:Nat}:∀{J r:Aj},Ci k (J++r)=(Ci k J&&Ci k r):=by
 intro X
 induction X with
 |nil=>
  intro r;rw[yv,Tx];simp
 |cons o J ih=>
  intro r;rw[yi,Ia,Ia,ih,Bool.and_assoc]
theorem Lg {k:Nat}{o:Cv}(ho:Cg k o=true):∀{J:Aj}{j:Nat},Ci k J=true->Ci k (J.set j o)=true
 |[],_,c=>c
 |x::J,0,c=>by
  rw[Ia,wm] at c;rw[List.set_cons_zero,Ia,wm];exact ⟨ho,c.2⟩
 |x::J,j+1,c=>by
  rw[Ia,wm] at c;rw[List.set_cons_succ,Ia,wm];exact ⟨c.1,Lg ho c.2⟩
theorem Dw.push {J:Aj}{o:Cv}(O:Dw J)(ho:Cg (J.length+1) o=true):Dw (J++[o]):=by
 have h3:3≤J.length:=by
  have:=congrArg List.length O.tabs;rw[yo] at this;have e:Bb.length=3:=rfl
  lia
 refine ⟨?_,?_⟩
 ·rw[xb,jC,wm];refine ⟨fM (yh _) O.cl,?_⟩;show Ci (J.length+1) [o]=true;rw[Ia,ho];rfl
 ·rw[List.take_append_of_le_length h3];exact O.tabs
theorem Et {n:Nat}{ad:O5}{d:Ek}{args:List V}{AJ bs:List (O7×V)}{J:Aj}(hd:gl.D ad=some d)(hc:(ad==gl.cls)=false)(hb:Hr d args AJ=some bs)(O:Dw J){v:V}{Av:Aj}
 (run:¬Bg 3 bs=true->Kd (Aw gl n) d bs J=some (v,Av)) (h:Bg 3 bs=true->Kd (Aw gl n) d bs Bb=some (v,Bb)∧Av=J):(Aw gl (n+1)).call (.fn ad) args AJ J=some (v,Av):=by
 refine kX hc hd hb ?_;by_cases AL:Bg 3 bs=true
 ·obtain ⟨h1,rfl⟩:=h AL;rw[if_pos (show Bg gl.nt bs=true from AL)];show (oe2 (Kd (Aw gl n) d bs (Av.take 3)) none fun v Ab=>if Fn Ab (Av.take 3) then some (v,Av) else none)=_;rw[O.tabs,h1];dsimp only;rw[if_pos oN]
 ·rw[if_neg (show ¬Bg gl.nt bs=true from AL)];exact run AL
section
variable {a x kv:V}{l:List V}{c:Nat->Bool}{lo hi:Nat}{p q:Bool}
theorem Vi (n:Nat){args:List V}{AJ:List (O7×V)}{hv:V}(O:Dw J)(ha:Bu J a=some l)(hl:l.length≤1000000)(hc:∀i v,l[i]?=some v->Mf v x=some (c i))(hm:∀i j,i≤j->j<l.length->c j=true->c i=true)
 (hb:Hr Gi args AJ=some (aT a x (.int lo p) hv .none)) (hh:(hv = .none∧hi=l.length)∨(hv = .int hi q∧hi≤l.length)) :
 ∃(r:Nat) (p':Bool),(Aw gl (n+15)).call (.fn 50) args AJ J=some (.int r p',J)∧lo≤r∧(lo≤hi->r≤hi)∧(∀i,lo≤i->i<r->c i=true)∧(∀i,r≤i->i<hi->c i=false):=by
 have base:∀J:Aj,Bu J a=some l->∃(r:Nat) (p':Bool) (AT:V) (m':Option V),Dm (Aw gl (n+14)) (bE Gi J.length) Gi.body (bM J a x .none (.int lo p) hv none)=some (.ret (.int r p'),bM J a x .none (.int r p') AT m')∧lo≤r∧(lo≤hi->r≤hi)∧(∀i,lo≤i->i<r->c i=true)∧(∀i,r≤i->i<hi->c i=false):=fun J ha=>by
  rcases hh with ⟨rfl,rfl⟩|⟨rfl,h2⟩
  ·exact dk n ha hl hc hm
  ·exact sB n ha (by lia) hc hm h2
 have fin:∀{J:Aj}{r:Nat}{p':Bool}{AT:V}{m':Option V},Ci J.length J=true->Dm (Aw gl (n+14)) (bE Gi J.length) Gi.body (bM J a x .none (.int lo p) hv none)=some (.ret (.int r p'),bM J a x .none (.int r p') AT m') ->
  Kd (Aw gl (n+14)) Gi (aT a x (.int lo p) hv .none) J=some (.int r p',J):=fun AL e=>Hk rfl (fun Z=>rfl) rfl e rfl rfl AL
 by_cases AL:Bg 3 (aT a x (.int lo p) hv .none)=true
 ·have KS:Ar 3 a=true:=by
   rw[Ah,wm] at AL;exact AL.1
  obtain ⟨r,p',AT,m',e,e1⟩:=base Bb (eC O ha KS);exact ⟨r,p',Et Rs rfl hb O (fun z=>absurd AL z) fun Z=>⟨fin rfl e,rfl⟩,e1⟩
 ·obtain ⟨r,p',AT,m',e,e1⟩:=base J ha;exact ⟨r,p',Et Rs rfl hb O (fun Z=>fin O.cl e) fun z=>absurd z AL,e1⟩
theorem bV (n:Nat){args:List V}{AJ:List (O7×V)}{hv:V}(O:Dw J)(ha:Bu J a=some l)(hl:l.length≤1000000)(AU:Ic (n+9) J kv l (fun i w=>Mf w x=some (c i)))(BS:Dv kv=false)(B1:wE kv .none=some false)(AL:Ar (J.length+1) a=true∧Ar (J.length+1) x=true∧Ar (J.length+1) kv=true)(GJ:Ar 3 kv=false)(hm:∀i j,i≤j->j<l.length->c j=true->c i=true)
 (hb:Hr Gi args AJ=some (aT a x (.int lo p) hv kv)) (hh:(hv = .none∧hi=l.length)∨(hv = .int hi q∧hi≤l.length)) :
 ∃(r:Nat) (p':Bool),(Aw gl (n+15)).call (.fn 50) args AJ J=some (.int r p',J)∧lo≤r∧(lo≤hi->r≤hi)∧(∀i,lo≤i->i<r->c i=true)∧(∀i,r≤i->i<hi->c i=false):=by
 have base:∃(r:Nat) (p':Bool) (AT:V) (m':Option V),Dm (Aw gl (n+14)) (bE Gi J.length) Gi.body (bM J a x kv (.int lo p) hv none)=some (.ret (.int r p'),bM J a x kv (.int r p') AT m')∧lo≤r∧(lo≤hi->r≤hi)∧(∀i,lo≤i->i<r->c i=true)∧(∀i,r≤i->i<hi->c i=false):=by
  rcases hh with ⟨rfl,rfl⟩|⟨rfl,h2⟩
  ·exact gw n ha hl AU BS AL B1 hm
  ·exact xC n ha (by lia) AU BS AL B1 hm h2
 have fin:∀{J:Aj}{r:Nat}{p':Bool}{AT:V}{m':Option V},Ci J.length J=true->Dm (Aw gl (n+14)) (bE Gi J.length) Gi.body (bM J a x kv (.int lo p) hv none)=some (.ret (.int r p'),bM J a x kv (.int r p') AT m') ->
  Kd (Aw gl (n+14)) Gi (aT a x (.int lo p) hv kv) J=some (.int r p',J):=fun AL e=>Hk rfl (fun Z=>rfl) rfl e rfl rfl AL
 have FZ:¬Bg 3 (aT a x (.int lo p) hv kv)=true:=fun z=>by
  rw[Ah,Ah,Ah,Ah,Ah,GJ] at z;simp at z
 obtain ⟨r,p',AT,m',e,e1⟩:=base;exact ⟨r,p',Et Rs rfl hb O (fun Z=>fin O.cl e) fun z=>absurd z FZ,e1⟩
theorem fD (n:Nat){args:List V}{AJ:List (O7×V)}{hv:V}(O:Dw J)(ha:Bu J a=some l)(hl:l.length≤1000000)(hc:∀i v,l[i]?=some v->Mf x v=some (!c i))(hm:∀i j,i≤j->j<l.length->c j=true->c i=true)
 (hb:Hr Gj args AJ=some (aT a x (.int lo p) hv .none)) (hh:(hv = .none∧hi=l.length)∨(hv = .int hi q∧hi≤l.length)) :
 ∃(r:Nat) (p':Bool),(Aw gl (n+15)).call (.fn 32) args AJ J=some (.int r p',J)∧lo≤r∧(lo≤hi->r≤hi)∧(∀i,lo≤i->i<r->c i=true)∧(∀i,r≤i->i<hi->c i=false):=by
 have base:∀J:Aj,Bu J a=some l->∃(r:Nat) (p':Bool) (AT:V) (m':Option V),Dm (Aw gl (n+14)) (bE Gj J.length) Gj.body (bM J a x .none (.int lo p) hv none)=some (.ret (.int r p'),bM J a x .none (.int r p') AT m')∧lo≤r∧(lo≤hi->r≤hi)∧(∀i,lo≤i->i<r->c i=true)∧(∀i,r≤i->i<hi->c i=false):=fun J ha=>by
  rcases hh with ⟨rfl,rfl⟩|⟨rfl,h2⟩
  ·exact eu n ha hl hc hm
  ·exact wH n ha (by lia) hc hm h2
 have fin:∀{J:Aj}{r:Nat}{p':Bool}{AT:V}{m':Option V},Ci J.length J=true->Dm (Aw gl (n+14)) (bE Gj J.length) Gj.body (bM J a x .none (.int lo p) hv none)=some (.ret (.int r p'),bM J a x .none (.int r p') AT m') ->
  Kd (Aw gl (n+14)) Gj (aT a x (.int lo p) hv .none) J=some (.int r p',J):=fun AL e=>Hk rfl (fun Z=>rfl) rfl e rfl rfl AL
 by_cases AL:Bg 3 (aT a x (.int lo p) hv .none)=true
 ·have KS:Ar 3 a=true:=by
   rw[Ah,wm] at AL;exact AL.1
  obtain ⟨r,p',AT,m',e,e1⟩:=base Bb (eC O ha KS);exact ⟨r,p',Et Ry rfl hb O (fun z=>absurd AL z) fun Z=>⟨fin rfl e,rfl⟩,e1⟩
 ·obtain ⟨r,p',AT,m',e,e1⟩:=base J ha;exact ⟨r,p',Et Ry rfl hb O (fun Z=>fin O.cl e) fun z=>absurd z AL,e1⟩
theorem cP (n:Nat){args:List V}{AJ:List (O7×V)}{hv:V}(O:Dw J)(ha:Bu J a=some l)(hl:l.length≤1000000)(AU:Ic (n+9) J kv l (fun i w=>Mf x w=some (!c i)))(BS:Dv kv=false)(B1:wE kv .none=some false)(AL:Ar (J.length+1) a=true∧Ar (J.length+1) x=true∧Ar (J.length+1) kv=true)(GJ:Ar 3 kv=false)(hm:∀i j,i≤j->j<l.length->c j=true->c i=true)
 (hb:Hr Gj args AJ=some (aT a x (.int lo p) hv kv)) (hh:(hv = .none∧hi=l.length)∨(hv = .int hi q∧hi≤l.length)) :
 ∃(r:Nat) (p':Bool),(Aw gl (n+15)).call (.fn 32) args AJ J=some (.int r p',J)∧lo≤r∧(lo≤hi->r≤hi)∧(∀i,lo≤i->i<r->c i=true)∧(∀i,r≤i->i<hi->c i=false):=by
 have base:∃(r:Nat) (p':Bool) (AT:V) (m':Option V),Dm (Aw gl (n+14)) (bE Gj J.length) Gj.body (bM J a x kv (.int lo p) hv none)=some (.ret (.int r p'),bM J a x kv (.int r p') AT m')∧lo≤r∧(lo≤hi->r≤hi)∧(∀i,lo≤i->i<r->c i=true)∧(∀i,r≤i->i<hi->c i=false):=by
  rcases hh with ⟨rfl,rfl⟩|⟨rfl,h2⟩
  ·exact i5 n ha hl AU BS AL B1 hm
  ·exact sD n ha (by lia) AU BS AL B1 hm h2
 have fin:∀{J:Aj}{r:Nat}{p':Bool}{AT:V}{m':Option V},Ci J.length J=true->Dm (Aw gl (n+14)) (bE Gj J.length) Gj.body (bM J a x kv (.int lo p) hv none)=some (.ret (.int r p'),bM J a x kv (.int r p') AT m') ->
  Kd (Aw gl (n+14)) Gj (aT a x (.int lo p) hv kv) J=some (.int r p',J):=fun AL e=>Hk rfl (fun Z=>rfl) rfl e rfl rfl AL
 have FZ:¬Bg 3 (aT a x (.int lo p) hv kv)=true:=fun z=>by
  rw[Ah,Ah,Ah,Ah,Ah,GJ] at z;simp at z
 obtain ⟨r,p',AT,m',e,e1⟩:=base;exact ⟨r,p',Et Ry rfl hb O (fun Z=>fin O.cl e) fun z=>absurd z FZ,e1⟩
end
def nL:Ek:=(Kc 23).get (by rfl')
def fo:Ek:=(Kc 41).get (by rfl')
theorem Zh:gl.D 23=some nL:=by kernel_rfl
theorem gQ:gl.D 41=some fo:=by kernel_rfl
theorem Lw {g:Gl}{n:Nat}{e:As}{J Ab Ai Bk:Aj}{p BD:Pos}{o:O6}{nm:O7}{args:List O6}{ov v:V}{id:String}{vs:List V}(hg:(BD.endLine==p.line&&noSuper o&&Nat.blt args.length 29)=true)(h1:(Aw g n).ev e o J=some (ov,Ab))
 (hi:Uc Ab ov nm=some id) (h2:Kb (Aw g n) e args Ab=some (vs,Ai)) (h3:jg id (ov::vs) Ai=some (v,Bk)):(Aw g (n+1)).ev e (.Call (.Attribute o nm BD) args [] p) J=some (v,Bk):=by
 rw[El];show Zx g (Aw g n) e o nm BD args p J=_;exact (gN hg).trans ((oE2 h1).trans ((oE1 hi).trans ((oE2 h2).trans h3)))
theorem My {J:Aj}{j:Nat}{l:List V}(h:J[j]?=some (.lst l)):Uc J (.ref j) ("insert":O7)=some "list.insert":=by
 have:Bu J (.ref j)=some l:=Lp h;exact (oE1 this).trans (if_pos (by rfl'))
theorem Rw {J:Aj}{j r:Nat}{l:List V}{x:V}{s:Bool}(h:J[j]?=some (.lst l))(hl:l.length≤1000000)(hr:r≤l.length):jg "list.insert" [.ref j,.int (r:Int) s,x] J=some (.none,J.set j (.lst (l.take r++x::l.drop r))):=by
 have h1:Va J (.ref j)=some (j,l):=by
  exact (oE1 (Lp h)).trans (if_pos (xg hl))
 have h2:Ep (r:Int)=true:=by
  exact xg (show r+1≤2 ^ 63 from wp (z7 (wp hr hl)) (by decide))
 have h3:Hu l.length (r:Int)=r:=by
  unfold Hu;rw[if_neg (by lia)];simp;lia
 show uv J "list.insert" (.ref j) (.int (r:Int) s) x=_;unfold uv;rw[if_pos (show (("list.insert":String)=="list.insert")=true from by decide +kernel)];refine (oE2 h1).trans ?_;show (if Ep (r:Int) then _ else none)=_;rw[if_pos h2,h3]
section
variable {x kv:V}{j:Nat}{l:List V}{c:Nat->Bool}
theorem Ui {k:Nat}:∀{a b:List V},Di k (a++b)=(Di k a&&Di k b):=by
 intro X
 induction X with
 |nil=>
  intro b;rw[yv,Gx];simp
 |cons x a ih=>
  intro b;rw[yi,Fw,Fw,ih,Bool.and_assoc]
theorem Pq {k r:Nat}{l:List V}{x:V}(h:Di k l=true)(hx:Ar k x=true):Di k (l.take r++x::l.drop r)=true:=by
 have e:=zo r l;rw[← e,Ui,wm] at h;rw[Ui,Fw,h.1,hx,h.2];rfl
theorem eM (n:Nat)(O:Dw J)(hj:J[j]?=some (.lst l))(h3:3≤j)(hl:l.length≤1000000)(hx:Ar J.length x=true){kx:V}(AU:∀o,Cg (J.length+1) o=true->Ic (n+11) (J++[o]) kv l (fun i w=>Mf w kx=some (c i))∧(Aw gl (n+16)).call kv [x] [] (J++[o])=some (kx,J++[o]))(BS:Dv kv=false)(B1:wE kv .none=some false)(H5:Ar J.length kv=true)(GJ:Ar 3 kv=false)(FT:Ar J.length kx=true)(hm:∀i j,i≤j->j<l.length->c j=true->c i=true) :
 ∃r:Nat,(Aw gl (n+21)).call (.fn 41) [.ref j,x] [(("key":O7),kv)] J=some (.none,J.set j (.lst (l.take r++x::l.drop r)))∧r≤l.length∧(∀i,i<r->c i=true)∧(∀i,r≤i->i<l.length->c i=false):=by
 have GU:j<J.length:=(wv.mp hj).1;have EA:Bu J (.ref j)=some l:=Lp hj;have F8:Ar (J.length+1) (.ref j)=true:=by exact xg (by lia)
 have BG:Cg (J.length+1) (.fr (bF (.ref j) x kv (.int (0:Nat) true) .none none))=true:=by
  have e:∀y v r,Bg (J.length+1) ((y,v)::r)=(Ar (J.length+1) v&&Bg (J.length+1) r):=fun Z Z Z=>rfl;show Bg (J.length+1) (("a",.ref j)::("x",x)::("lo",_)::("hi",.none)::("key",kv)::[])=true;rw[e,e,e,e,e,F8,Ct (yh _) hx,Ct (yh _) H5]
  rfl
 have O1:Dw (bM J (.ref j) x kv (.int (0:Nat) true) .none none):=O.push BG;obtain ⟨DI,DN⟩:=AU _ BG;have C4:(bM J (.ref j) x kv (.int (0:Nat) true) .none none).length=J.length+1:=by unfold bM;rw[xb];rfl
 obtain ⟨r,p',ec,-,e2,e3,e4⟩:=bV (lo:=0) (hi:=l.length) (p:=true) (q:=true) (x:=kx) (n+2) (args:=[.ref j,kx,.int (0:Nat) true,.none]) (AJ:=[(("key":O7),kv)]) (hv:=.none) O1 (Ig EA) hl DI BS B1
  ⟨Ct (by rw[C4];lia) F8,Ct (by rw[C4];lia) FT,Ct (by rw[C4];lia) H5⟩ GJ hm rfl (.inl ⟨rfl,rfl⟩)
 have hr:=e2 (wz _);refine ⟨r,?_,hr,fun i h=>e3 i (wz _) h,e4⟩;have D7:(bM J (.ref j) x kv (.int r p') .none none)[j]?=some (.lst l):=Qf hj;have s0:Dm (Aw gl (n+20)) (bE fo J.length) fo.body (bM J (.ref j) x kv (.int (0:Nat) true) .none none)=some (.next,(bM J (.ref j) x kv (.int r p') .none none).set j (.lst (l.take r++x::l.drop r))):=by
  refine (Am ((Cb (Bd rfl (Ad rfl Af rfl) Ds (c:=false) (show Dx _ .Is _ _=_ from B1))).trans ((Am (Cz rfl rfl ((Cl rfl rfl rfl (Ae rfl (Ad rfl Af rfl) (Ae rfl ((Ka (Dy rfl Af rfl) BS (Ae rfl (Ad rfl Af rfl) Al) Bf).trans DN) (Ae rfl (Ad rfl Af rfl) (Ae rfl (Ad rfl Af rfl) Al)))) (Ho (Ad rfl Af rfl) Bf)).trans ec) (Cc rfl Af))).trans Ax))).trans ?_;have em:(bM J (.ref j) x kv (.int (0:Nat) true) .none none).set (bE fo J.length).f (.fr (put (bF (.ref j) x kv (.int (0:Nat) true) .none none) ("lo":O7) (.int r p')))=bM J (.ref j) x kv (.int r p') .none none:=Dt;refine (congrArg (Dm (Aw gl (n+20)) (bE fo J.length) (fo.body.drop 1)) em).trans ?_;exact (Am (Lo rfl (Lw rfl (Ad rfl Af rfl) (My D7) (Ae rfl (Ad rfl Af rfl) (Ae rfl (Ad rfl Af rfl) Al)) (Rw D7 hl hr)))).trans Ax
 have s1:(bM J (.ref j) x kv (.int r p') .none none).set j (.lst (l.take r++x::l.drop r))=J.set j (.lst (l.take r++x::l.drop r))++[.fr (bF (.ref j) x kv (.int r p') .none none)]:=by
  unfold bM;rw[List.set_append_left _ _ GU]
 rw[s1] at s0;have AL:Ci J.length (J.set j (.lst (l.take r++x::l.drop r)))=true:=by
  refine Lg ?_ O.cl;have AL:=Jd O.cl hj;unfold Cg at AL ⊢;exact Pq AL hx
 refine Et (bs:=aT (.ref j) x (.int (0:Nat) true) .none kv) gQ rfl rfl O (fun Z=>Hk rfl (fun Z=>rfl) rfl s0 (by rw[List.length_set]) rfl AL) fun z=>?_;rw[Ah,wm] at z;have z1:=z.1;have:=xm (show Nat.ble (_+1) _=true from z1)
 bv_omega
theorem wT (n:Nat)(O:Dw J)(hj:J[j]?=some (.lst l))(h3:3≤j)(hl:l.length≤1000000)(hx:Ar J.length x=true)(hc:∀i v,l[i]?=some v->Mf x v=some (!c i))(hm:∀i j,i≤j->j<l.length->c j=true->c i=true) :
 ∃r:Nat,(Aw gl (n+21)).call (.fn 23) [.ref j,x] [] J=some (.none,J.set j (.lst (l.take r++x::l.drop r)))∧r≤l.length∧(∀i,i<r->c i=true)∧(∀i,r≤i->i<l.length->c i=false):=by
 have GU:j<J.length:=(wv.mp hj).1;have EA:Bu J (.ref j)=some l:=Lp hj;have F8:Ar (J.length+1) (.ref j)=true:=by exact xg (by lia)
 have BG:Cg (J.length+1) (.fr (bF (.ref j) x .none (.int (0:Nat) true) .none none))=true:=by
  have e:∀y v r,Bg (J.length+1) ((y,v)::r)=(Ar (J.length+1) v&&Bg (J.length+1) r):=fun Z Z Z=>rfl;show Bg (J.length+1) (("a",.ref j)::("x",x)::("lo",_)::("hi",.none)::("key",.none)::[])=true;rw[e,e,e,e,e,F8,Ct (yh _) hx]
  rfl
 have O1:Dw (bM J (.ref j) x .none (.int (0:Nat) true) .none none):=O.push BG;obtain ⟨r,p',ec,-,e2,e3,e4⟩:=fD (lo:=0) (hi:=l.length) (p:=true) (q:=true) (n+2) (args:=[.ref j,x,.int (0:Nat) true,.none]) (AJ:=[]) (hv:=.none) O1 (Ig EA) hl hc hm rfl (.inl ⟨rfl,rfl⟩);have hr:=e2 (wz _);refine ⟨r,?_,hr,fun i h=>e3 i (wz _) h,e4⟩;have D7:(bM J (.ref j) x .none (.int r p') .none none)[j]?=some (.lst l):=Qf hj;have s0:Dm (Aw gl (n+20)) (bE nL J.length) nL.body (bM J (.ref j) x .none (.int (0:Nat) true) .none none)=some (.next,(bM J (.ref j) x .none (.int r p') .none none).set j (.lst (l.take r++x::l.drop r))):=by
  refine (Am ((Cb (Bd rfl (Ad rfl Af rfl) Ds (c:=true) rfl)).trans ((Am (Cz rfl rfl ((Cl rfl rfl rfl (Ae rfl (Ad rfl Af rfl) (Ae rfl (Ad rfl Af rfl) (Ae rfl (Ad rfl Af rfl) (Ae rfl (Ad rfl Af rfl) Al)))) Bf).trans ec) (Cc rfl Af))).trans Ax))).trans ?_;have em:(bM J (.ref j) x .none (.int (0:Nat) true) .none none).set (bE nL J.length).f (.fr (put (bF (.ref j) x .none (.int (0:Nat) true) .none none) ("lo":O7) (.int r p')))=bM J (.ref j) x .none (.int r p') .none none:=Dt;refine (congrArg (Dm (Aw gl (n+20)) (bE nL J.length) (nL.body.drop 1)) em).trans ?_;exact (Am (Lo rfl (Lw rfl (Ad rfl Af rfl) (My D7) (Ae rfl (Ad rfl Af rfl) (Ae rfl (Ad rfl Af rfl) Al)) (Rw D7 hl hr)))).trans Ax
 have s1:(bM J (.ref j) x .none (.int r p') .none none).set j (.lst (l.take r++x::l.drop r))=J.set j (.lst (l.take r++x::l.drop r))++[.fr (bF (.ref j) x .none (.int r p') .none none)]:=by
  unfold bM;rw[List.set_append_left _ _ GU]
 rw[s1] at s0;have AL:Ci J.length (J.set j (.lst (l.take r++x::l.drop r)))=true:=by
  refine Lg ?_ O.cl;have AL:=Jd O.cl hj;unfold Cg at AL ⊢;exact Pq AL hx
 refine Et (bs:=aT (.ref j) x (.int (0:Nat) true) .none .none) Zh rfl rfl O (fun Z=>Hk rfl (fun Z=>rfl) rfl s0 (by rw[List.length_set]) rfl AL) fun z=>?_;rw[Ah,wm] at z;have z1:=z.1;have:=xm (show Nat.ble (_+1) _=true from z1)
 bv_omega
theorem wP (n:Nat)(O:Dw J)(hj:J[j]?=some (.lst l))(h3:3≤j)(hl:l.length≤1000000)(hx:Ar J.length x=true){kx:V}(AU:∀o,Cg (J.length+1) o=true->Ic (n+11) (J++[o]) kv l (fun i w=>Mf kx w=some (!c i))∧(Aw gl (n+16)).call kv [x] [] (J++[o])=some (kx,J++[o]))(BS:Dv kv=false)(B1:wE kv .none=some false)(H5:Ar J.length kv=true)(GJ:Ar 3 kv=false)(FT:Ar J.length kx=true)(hm:∀i j,i≤j->j<l.length->c j=true->c i=true) :
 ∃r:Nat,(Aw gl (n+21)).call (.fn 23) [.ref j,x] [(("key":O7),kv)] J=some (.none,J.set j (.lst (l.take r++x::l.drop r)))∧r≤l.length∧(∀i,i<r->c i=true)∧(∀i,r≤i->i<l.length->c i=false):=by
 have GU:j<J.length:=(wv.mp hj).1;have EA:Bu J (.ref j)=some l:=Lp hj;have F8:Ar (J.length+1) (.ref j)=true:=by exact xg (by lia)
 have BG:Cg (J.length+1) (.fr (bF (.ref j) x kv (.int (0:Nat) true) .none none))=true:=by
  have e:∀y v r,Bg (J.length+1) ((y,v)::r)=(Ar (J.length+1) v&&Bg (J.length+1) r):=fun Z Z Z=>rfl;show Bg (J.length+1) (("a",.ref j)::("x",x)::("lo",_)::("hi",.none)::("key",kv)::[])=true;rw[e,e,e,e,e,F8,Ct (yh _) hx,Ct (yh _) H5]
  rfl
 have O1:Dw (bM J (.ref j) x kv (.int (0:Nat) true) .none none):=O.push BG;obtain ⟨DI,DN⟩:=AU _ BG;have C4:(bM J (.ref j) x kv (.int (0:Nat) true) .none none).length=J.length+1:=by unfold bM;rw[xb];rfl
 obtain ⟨r,p',ec,-,e2,e3,e4⟩:=cP (lo:=0) (hi:=l.length) (p:=true) (q:=true) (x:=kx) (n+2) (args:=[.ref j,kx,.int (0:Nat) true,.none]) (AJ:=[(("key":O7),kv)]) (hv:=.none) O1 (Ig EA) hl DI BS B1
  ⟨Ct (by rw[C4];lia) F8,Ct (by rw[C4];lia) FT,Ct (by rw[C4];lia) H5⟩ GJ hm rfl (.inl ⟨rfl,rfl⟩)
 have hr:=e2 (wz _);refine ⟨r,?_,hr,fun i h=>e3 i (wz _) h,e4⟩;have D7:(bM J (.ref j) x kv (.int r p') .none none)[j]?=some (.lst l):=Qf hj;have s0:Dm (Aw gl (n+20)) (bE nL J.length) nL.body (bM J (.ref j) x kv (.int (0:Nat) true) .none none)=some (.next,(bM J (.ref j) x kv (.int r p') .none none).set j (.lst (l.take r++x::l.drop r))):=by
  refine (Am ((Cb (Bd rfl (Ad rfl Af rfl) Ds (c:=false) (show Dx _ .Is _ _=_ from B1))).trans ((Am (Cz rfl rfl ((Cl rfl rfl rfl (Ae rfl (Ad rfl Af rfl) (Ae rfl ((Ka (Dy rfl Af rfl) BS (Ae rfl (Ad rfl Af rfl) Al) Bf).trans DN) (Ae rfl (Ad rfl Af rfl) (Ae rfl (Ad rfl Af rfl) Al)))) (Ho (Ad rfl Af rfl) Bf)).trans ec) (Cc rfl Af))).trans Ax))).trans ?_;have em:(bM J (.ref j) x kv (.int (0:Nat) true) .none none).set (bE nL J.length).f (.fr (put (bF (.ref j) x kv (.int (0:Nat) true) .none none) ("lo":O7) (.int r p')))=bM J (.ref j) x kv (.int r p') .none none:=Dt;refine (congrArg (Dm (Aw gl (n+20)) (bE nL J.length) (nL.body.drop 1)) em).trans ?_;exact (Am (Lo rfl (Lw rfl (Ad rfl Af rfl) (My D7) (Ae rfl (Ad rfl Af rfl) (Ae rfl (Ad rfl Af rfl) Al)) (Rw D7 hl hr)))).trans Ax
 have s1:(bM J (.ref j) x kv (.int r p') .none none).set j (.lst (l.take r++x::l.drop r))=J.set j (.lst (l.take r++x::l.drop r))++[.fr (bF (.ref j) x kv (.int r p') .none none)]:=by
  unfold bM;rw[List.set_append_left _ _ GU]
 rw[s1] at s0;have AL:Ci J.length (J.set j (.lst (l.take r++x::l.drop r)))=true:=by
  refine Lg ?_ O.cl;have AL:=Jd O.cl hj;unfold Cg at AL ⊢;exact Pq AL hx
 refine Et (bs:=aT (.ref j) x (.int (0:Nat) true) .none kv) Zh rfl rfl O (fun Z=>Hk rfl (fun Z=>rfl) rfl s0 (by rw[List.length_set]) rfl AL) fun z=>?_;rw[Ah,wm] at z;have z1:=z.1;have:=xm (show Nat.ble (_+1) _=true from z1)
 bv_omega
end
section
section
variable {Bk:Aj}{p q:Pos}
theorem Hs {t i:O6}{b:List PC}{s:Gh}(hs:Hx g (Aw g n) e i J=some (s,Ab))(ht:okTgt s t=true):(Aw g (n+1)).ex e (.For t i b [] p) J=Mt (fun v J=>oe1 (Cy e t v J) none fun Ai=>Dm (Aw g n) e b Ai) s (Me Ab s+1) 0 Ab:=by
 rw[Hd];show vV g (Aw g n) e t i b J=_;exact (oE2 hs).trans (gN ht)
theorem Nd {body:V->Aj->Option (Fl×Aj)}{s:Gh}{c k:Nat}{v:V}(h1:Da J s k=some (some v))(h2:body v J=some (.next,Ab)):Mt body s (c+1) k J=Mt body s c (k+1) Ab:=Wy.trans ((oE1 h1).trans (oE2 h2))
theorem Qe {body:V->Aj->Option (Fl×Aj)}{s:Gh}{c k:Nat}(h1:Da J s k=some none):Mt body s (c+1) k J=some (.next,J):=Wy.trans (oE1 h1)
theorem dU {body:V->Aj->Option (Fl×Aj)}{s:Gh}{c k:Nat}{v r:V}(h1:Da J s k=some (some v))(h2:body v J=some (.ret r,Ab)):Mt body s (c+1) k J=some (.ret r,Ab):=Wy.trans ((oE1 h1).trans (oE2 h2))
end
theorem Au {e:As}{J:Aj}{x:O7}{m m':List (O7×V)}{r:List Cv}{v:V}(hk:e.kind x=some .local)(hf:e.f=J.length)(hp:put m x v=m'):Dj e x v (J ++ .fr m::r)=some (J ++ .fr m'::r):=by
 rw[Cc hk (by rw[hf];exact Af),hf,Dt,hp]
theorem Ap {e:As}{J Ab:Aj}{x:O7}{v:V}{p:Pos}(h:Dj e x v J=some Ab):Cy e (.Name x p) v J=some Ab:=h
theorem Fo {e:As}{J:Aj}{ts:List O6}{c:Nat}{p:Pos}{l:List V}{R:Option Aj}(hl:(ts.length==l.length)=true)(h:Jm e ts l J=R):Cy e (.Tuple ts c p) (.tup l) J=R:=(if_pos hl).trans h
theorem Br {e:As}{J Ab:Aj}{x:O7}{p:Pos}{ts:List O6}{v:V}{vs:List V}{R:Option Aj}(hs:noStar (.Name x p)=true)(h1:Cy e (.Name x p) v J=some Ab)(h2:Jm e ts vs Ab=R):Jm e (.Name x p::ts) (v::vs) J=R:=by
 exact (oE1 h1).trans h2
theorem Xu {g:Gl}{n:Nat}{e:As}{J Ab:Aj}{p:Pos}{op:UnaryOp}{y:O6}{a v:V}(h1:(Aw g n).ev e y J=some (a,Ab))(h2:wi op a=some v):(Aw g (n+1)).ev e (.UnaryOp op y p) J=some (v,Ab):=by
 rw[El];show qd (Aw g n) e op y J=_;exact (oE2 h1).trans (oE1 h2)
def nO:Ek:=(Kc 71).get (by rfl')
theorem lu:gl.D 71=some nO:=by kernel_rfl
def Bq:PC->List PC
 |.For _ _ b _ _=>b
 |_=>[]
def Ee:PC->O6
 |.For t _ _ _ _=>t
 |_=>.Constant .none 0 default
def yV:PC:=Bs nO.body 0
def aX (s l r:V) (t:List (O7×V)):List (O7×V):=([("self",s),("left",l),("right",r)]:List (O7×V))++t
def iw (i d l r:V):List (O7×V):=[("index",i),("direction",d),("l",l),("r",r)]
variable {s l r:V}
theorem zT (n:Nat){t:List (O7×V)}(ht:t=[]∨∃i d l r,t=iw i d l r){i d a b:Int}{x y z w:Bool}(hl:∀r,Eb (J++r) l (.int i x)=some (.int a z))(hr:∀s,Eb (J++s) r (.int i x)=some (.int b w)) :
 (oe1 (Cy (bE nO J.length) (Ee yV) (.tup [.int i x,.int d y]) (J++[.fr (aX s l r t)])) none fun Ai=>
  Dm (Aw gl (n+12)) (bE nO J.length) (Bq yV) Ai)=some (if a<b then .ret (.int (-d) y) else if a>b then .ret (.int d y) else .next,J++[.fr (aX s l r (iw (.int i x) (.int d y) (.int a z) (.int b w)))]):=by
 have main:∀t',put (put t ("index":O7) (.int i x)) ("direction":O7) (.int d y)=t'->put (put t' ("l":O7) (.int a z)) ("r":O7) (.int b w)=iw (.int i x) (.int d y) (.int a z) (.int b w)->t'.lookup ("index":O7)=some (.int i x) ->
  (put t' ("l":O7) (.int a z)).lookup ("index":O7)=some (.int i x) ->
  (oe1 (Cy (bE nO J.length) (Ee yV) (.tup [.int i x,.int d y]) (J++[.fr (aX s l r t)])) none fun Ai=>
   Dm (Aw gl (n+12)) (bE nO J.length) (Bq yV) Ai)=some (if a<b then .ret (.int (-d) y) else if a>b then .ret (.int d y) else .next,J++[.fr (aX s l r (iw (.int i x) (.int d y) (.int a z) (.int b w)))]):=by
  intro t' e1 e2 e3 e4;have hb:Cy (bE nO J.length) (Ee yV) (.tup [.int i x,.int d y]) (J++[.fr (aX s l r t)])=some (J++[.fr (aX s l r t')]):=by
   rw[← e1];exact Fo rfl (Br rfl (Ap (Au rfl rfl rfl)) (Br rfl (Ap (Au rfl rfl rfl)) rfl))
  rw[hb];refine (Am (Cz rfl rfl (Bj rfl (Ad rfl Af rfl) (Ad rfl Af (show (aX s l r t').lookup ("index":O7)=_ from e3)) (hl _)) (Au rfl rfl rfl))).trans ?_;refine (Am (Cz rfl rfl (Bj rfl (Ad rfl Af rfl) (Ad rfl Af (show (put (aX s l r t') ("l":O7) (.int a z)).lookup ("index":O7)=_ from e4)) (hr _)) (Au rfl rfl rfl))).trans ?_;have ef:put (put (aX s l r t') ("l":O7) (.int a z)) ("r":O7) (.int b w)=aX s l r (iw (.int i x) (.int d y) (.int a z) (.int b w)):=by rw[← e2];rfl
  refine (congrArg (fun m=>Dm (Aw gl (n+12)) (bE nO J.length) ((Bq yV).drop 2) (J++[.fr m])) ef).trans ?_;have c1:∀{cc:Bool},decide (a<b)=cc->Dx (J++[.fr (aX s l r (iw (.int i x) (.int d y) (.int a z) (.int b w)))]) .Lt (.int a z) (.int b w)=some cc:=fun q=>by rw[← q];rfl
  have c2:∀{cc:Bool},decide (a>b)=cc->Dx (J++[.fr (aX s l r (iw (.int i x) (.int d y) (.int a z) (.int b w)))]) .Gt (.int a z) (.int b w)=some cc:=fun q=>by rw[← q];rfl
  by_cases h1:a<b
  ·rw[if_pos h1];exact Cp ((Cb (Bd rfl (Ad rfl Af rfl) (Ad rfl Af rfl) (c1 (decide_eq_true h1)))).trans (Cp (Fb (Xu (Ad rfl Af rfl) rfl)) (by simp))) (by simp)
  ·rw[if_neg h1];refine (Am ((Cb (Bd rfl (Ad rfl Af rfl) (Ad rfl Af rfl) (c1 (decide_eq_false h1)))).trans Ax)).trans ?_;by_cases h2:a>b
   ·rw[if_pos h2];exact Cp ((Cb (Bd rfl (Ad rfl Af rfl) (Ad rfl Af rfl) (c2 (decide_eq_true h2)))).trans (Cp (Fb (Ad rfl Af rfl)) (by simp))) (by simp)
   ·rw[if_neg h2];exact (Am ((Cb (Bd rfl (Ad rfl Af rfl) (Ad rfl Af rfl) (c2 (decide_eq_false h2)))).trans Ax)).trans Ax
 rcases ht with rfl|⟨i',d',l',r',rfl⟩
 ·exact main _ rfl rfl rfl rfl
 ·exact main _ rfl rfl rfl rfl
structure Jt where
 i:Int
 x:Bool
 d:Int
 y:Bool
 a:Int
 z:Bool
 b:Int
 w:Bool
def Jt.v (t:Jt):V:=.tup [.int t.i t.x,.int t.d t.y]
def pI:List Jt->Option V
 |[]=>none
 |t::r=>if t.a<t.b then some (.int (-t.d) t.y) else if t.a>t.b then some (.int t.d t.y) else pI r
theorem yF:pI []=none:=rfl
theorem Ye {t:Jt}{r:List Jt}:pI (t::r)=if t.a<t.b then some (.int (-t.d) t.y) else if t.a>t.b then some (.int t.d t.y) else pI r:=rfl
abbrev tX (n:Nat) (J:Aj):V->Aj->Option (Fl×Aj):=fun v Av=>oe1 (Cy (bE nO J.length) (Ee yV) v Av) none fun Ai=>
 Dm (Aw gl (n+12)) (bE nO J.length) (Bq yV) Ai
theorem a0 (n:Nat):∀(AM pre:List Jt)(t:List (O7×V)),(t=[]∨∃i d l r,t=iw i d l r)->(∀q∈AM,(∀m,Eb (J++m) l (.int q.i q.x)=some (.int q.a q.z))∧∀m,Eb (J++m) r (.int q.i q.x)=some (.int q.b q.w)) ->
 ∃o,Mt (tX n J) (.seq (.lst ((pre++AM).map Jt.v))) (AM.length+1) pre.length (J++[.fr (aX s l r t)])=some (match pI AM with|some v=>.ret v|none=>.next,J++[o]):=by
 intro X
 induction X with
 |nil=>
  intro pre t ht h;have hn:Da (J++[.fr (aX s l r t)]) (.seq (.lst ((pre++[]).map Jt.v))) pre.length=some none:=by
   show some (((pre++[]).map Jt.v)[pre.length]?)=_;simp
  exact ⟨_,Qe hn⟩
 |cons q AM ih=>
  intro pre t ht h;obtain ⟨h1,h2⟩:=h q (.head _);have hn:Da (J++[.fr (aX s l r t)]) (.seq (.lst ((pre++q::AM).map Jt.v))) pre.length=some (some q.v):=by
   show some (((pre++q::AM).map Jt.v)[pre.length]?)=_;simp
  have turn:tX n J q.v (J++[.fr (aX s l r t)])=_:=zT n ht h1 h2;rw[Ye];by_cases c1:q.a<q.b
  ·rw[if_pos c1] at turn ⊢;exact ⟨_,dU hn turn⟩
  ·rw[if_neg c1] at turn ⊢;by_cases c2:q.a>q.b
   ·rw[if_pos c2] at turn ⊢;exact ⟨_,dU hn turn⟩
   ·rw[if_neg c2] at turn ⊢;obtain ⟨o,e⟩:=ih (pre++[q]) _ (.inr ⟨_,_,_,_,rfl⟩) fun q' m=>h q' (.tail _ m);refine ⟨o,(Nd hn turn).trans ?_⟩;rw[xj,xb] at e;exact e
theorem bb {g:Gl}{n:Nat}{e:As}{J Ab:Aj}{p:Pos}{o:O6}{nm:O7}{x:V}(hs:noSuper o=true)(h1:(Aw g n).ev e o J=some (.inst x,Ab))(h2:(nm==("comp_select_list":O7)&&aE x)=true):(Aw g (n+1)).ev e (.Attribute o nm p) J=some (x,Ab):=by
 rw[El];show uV (Aw g n) e o nm J=_;exact (gN hs).trans ((oE2 h1).trans ((oE1 (show lL (.inst x)=some x from rfl)).trans (if_pos h2)))
theorem wG {g:Gl}{L:Lv}{e:As}{J Ab:Aj}{p:Pos}{o:O6}{nm:O7}{v:V}{s:Gh}(h1:L.ev e (.Attribute o nm p) J=some (v,Ab))(h2:Sf Ab v=some s):Hx g L e (.Attribute o nm p) J=some (s,Ab):=by
 unfold Hx;dsimp only;unfold Wc;rw[h1];dsimp only;rw[h2]
theorem oB:∀{AH:List Jt}{v:V},pI AH=some v->∃d y,v = .int d y:=by
 intro X
 induction X with
 |nil=>
  intro Z h;cases h
 |cons t r ih=>
  intro v h;split at h
  ·cases h;exact ⟨_,_,rfl⟩
  ·split at h
   ·cases h;exact ⟨_,_,rfl⟩
   ·exact ih h
theorem cK (n:Nat){AH:List Jt}(O:Dw J)(h:∀q∈AH,(∀m,Eb m l (.int q.i q.x)=some (.int q.a q.z))∧∀m,Eb m r (.int q.i q.x)=some (.int q.b q.w)) :
 (Aw gl (n+14)).call (.fn 71) [.inst (.lst (AH.map Jt.v)),l,r] [] J=some ((pI AH).getD (.int 0 true),J):=by
 have run:∀J:Aj,Ci J.length J=true->Kd (Aw gl (n+13)) nO [(("self":O7),.inst (.lst (AH.map Jt.v))),(("left":O7),l),(("right":O7),r)] J=some ((pI AH).getD (.int 0 true),J):=by
  intro J AL;obtain ⟨o,e⟩:=a0 (s:=.inst (.lst (AH.map Jt.v))) (l:=l) (r:=r) (J:=J) n AH [] [] (.inl rfl) fun q m=>⟨fun Z=>(h q m).1 _,fun Z=>(h q m).2 _⟩;have hf:(Aw gl (n+13)).ex (bE nO J.length) yV (J++[.fr (aX (.inst (.lst (AH.map Jt.v))) l r [])])=some (match pI AH with|some v=>.ret v|none=>.next,J++[o]):=by
   refine (Hs (wG (bb rfl (Ad rfl Af rfl) rfl) rfl) rfl).trans ?_;have hz:Me (J++[.fr (aX (.inst (.lst (AH.map Jt.v))) l r [])]) (.seq (.lst (AH.map Jt.v)))=AH.length:=by
    show (AH.map Jt.v).length=_;rw[wn]
   rw[hz];exact e
  cases hv:pI AH with
  |some v=>
   rw[hv] at hf;obtain ⟨d,y,rfl⟩:=oB hv;exact Hk rfl (fun Z=>rfl) rfl (Cp (s:=yV) hf (by simp)) rfl rfl AL
  |none=>
   rw[hv] at hf;have he:Dm (Aw gl (n+13)) (bE nO J.length) nO.body (J++[.fr (aX (.inst (.lst (AH.map Jt.v))) l r [])])=some (.ret (.int 0 true),J++[o]):=(Dr (s:=yV) hf (Cp (Fb Aq) (by simp)));exact Hk rfl (fun Z=>rfl) rfl he rfl rfl AL
 exact Et lu rfl rfl O (fun Z=>run J O.cl) fun Z=>⟨run Bb rfl,rfl⟩
end
def lM:Ek:=(Kc 130).get (by rfl')
theorem o8:gl.D 130=some lM:=by kernel_rfl
def ut:List Int:=[740,403,265,37,2]
def Ze (l:List V):Prop:=l.length=5∧∀i,i<5->∃d s,l[i]?=some (.int d s)∧ut.getD i 0≤d
theorem Wa {n r:Nat}:clipAt n (r:Int)=min r n:=by
 unfold clipAt;rw[if_neg (xw.mpr (zt _))];rcases Nat.le_total r n with h|h
 ·rw[Nat.min_eq_left h,Int.min_eq_left (Int.ofNat_le.mpr h),Int.max_eq_right (zt _),zp]
 ·rw[Nat.min_eq_right h,Int.min_eq_right (Int.ofNat_le.mpr h),Int.max_eq_right (zt _),zp]
theorem iY:Ze [Bi 740,Bi 403,Bi 265,Bi 37,Bi 2]:=by
 refine ⟨rfl,fun i h=>?_⟩;exact k5 h (⟨_,_,rfl,by decide⟩) (⟨_,_,rfl,by decide⟩) (⟨_,_,rfl,by decide⟩) (⟨_,_,rfl,by decide⟩) (⟨_,_,rfl,by decide⟩)
theorem wF {l:List V}{i:Nat}{d x:Int}{s:Bool}(F:Ze l)(hi:i<5)(hd:l[i]?=some (.int d s))(hx:0≤x):Ze (l.set i (.int (d+x) false)):=by
 refine ⟨by rw[List.length_set];exact F.1,fun j hj=>?_⟩;obtain ⟨d',s',e,hb⟩:=F.2 j hj;by_cases h:i=j
 ·subst h;rw[hd] at e;cases e;exact ⟨d+x,false,by rw[List.getElem?_set_self (by rw[F.1];exact hi)],by lia⟩
 ·exact ⟨d',s',by rw[List.getElem?_set_ne h];exact e,hb⟩
theorem Uy {g:Gl}{n:Nat}{e:As}{J Ab Ai Bk De:Aj}{p q:Pos}{o i x:O6}{ov iv:V}{a b:Int}{s t:Bool}(hi:Gb i=false)(h1:(Aw g n).ev e o J=some (ov,Ab))(h2:(Aw g n).ev e i Ab=some (iv,Ai))(h3:Eb Ai ov iv=some (.int a s))
 (h4:(Aw g n).ev e x Ai=some (.int b t,Bk)) (h5:Ga ov iv (.int (a+b) false) Bk=some De):(Aw g (n+1)).ex e (.AugAssign (.Subscript o i q) .Add x p) J=some (.next,De):=by
 rw[Hd];show iK (Aw g n) e o i x J=_;exact (nf hi).trans ((oE2 h1).trans ((oE2 h2).trans ((oE1 h3).trans ((oE2 h4).trans (oE1 h5)))))
theorem dQ {J:Aj}{j i:Nat}{l:List V}{v:V}{s:Bool}(h:J[j]?=some (.lst l))(hi:i<l.length)(hl:l.length<2 ^ 62):Ga (.ref j) (.int (i:Int) s) v J=some (J.set j (.lst (l.set i v))):=by
 have h2:Ep (i:Int)=true:=by
  exact xg (show i+1≤2 ^ 63 from wp hi (wp (yn hl) (by decide)))
 refine (oE1 h).trans ?_;show (if (decide (0≤(i:Int))&&Ep i&&Nat.blt (i:Int).toNat l.length) then some (J.set j (.lst (l.set (i:Int).toNat v))) else none)=_;rw[if_pos (by
  rw[h2];simp only[Bool.and_true,Bool.and_eq_true,decide_eq_true_eq];exact ⟨by lia,xg (by rw[zp];exact hi)⟩)]
 simp
def bK (sc:V) (l:List V) (t:List (O7×V)):Aj:=Bb++[.fr (([("script",sc),("drawn",.ref 4)]:List (O7×V))++t),.lst l]
def i9 (i v:V):List (O7×V):=[("place",i),("number",v)]
def cj:PC:=Bs lM.body 1
theorem az (n:Nat){sc:V}{l:List V}{t:List (O7×V)}(ht:t=[]∨∃i v,t=i9 i v)(F:Ze l)(k:Nat)(hk:k<60)(z:Int)(w:Bool):∃l',Ze l' ∧
 (oe1 (Cy (bE lM 3) (Ee cj) (.tup [Bi k,.int z w]) (bK sc l t)) none fun Ai=>
  Dm (Aw gl (n+12)) (bE lM 3) (Bq cj) Ai)=some (.next,bK sc l' (i9 (Bi k) (.int z w))):=by
 have main:put (put t ("place":O7) (Bi k)) ("number":O7) (.int z w)=i9 (Bi k) (.int z w)->∃l',Ze l' ∧
  (oe1 (Cy (bE lM 3) (Ee cj) (.tup [Bi k,.int z w]) (bK sc l t)) none fun Ai=>
   Dm (Aw gl (n+12)) (bE lM 3) (Bq cj) Ai)=some (.next,bK sc l' (i9 (Bi k) (.int z w))):=by
  intro e1;have hb:Cy (bE lM 3) (Ee cj) (.tup [Bi k,.int z w]) (bK sc l t)=some (bK sc l (i9 (Bi k) (.int z w))):=by
   rw[← e1];exact Fo rfl (Br rfl (Ap (Au (J:=Bb) rfl rfl rfl)) (Br rfl (Ap (Au (J:=Bb) rfl rfl rfl)) rfl))
  rw[hb];have KA:k % 5<5:=Nat.mod_lt _ (by decide);obtain ⟨d,s,hd,-⟩:=F.2 _ KA;have EW:∀J,Nz J .Mod (Bi k) (Bi 5)=some (.int ((k % 5:Nat):Int) true,J):=fun J=>by
   show some (V.int ((k:Int).fmod 5) true,J)=_;rw[zq _ (by decide)]
   rfl
  have hit:Eb (bK sc l (i9 (Bi k) (.int z w))) (.ref 4) (.int ((k % 5:Nat):Int) true)=some (.int d s):=by
   have:=Ha (J:=bK sc l (i9 (Bi k) (.int z w))) (a:=.ref 4) (l:=l) (r:=[]) (s:=true) rfl (by rw[F.1];decide) hd;rwa [xx] at this
  refine ⟨_,wF (x:=z.fmod 1000000) F KA hd (by rw[zq _ (by decide)];exact Int.emod_nonneg _ (by decide)),?_⟩;refine (Am (Uy rfl (Ad rfl rfl rfl) (Bw (Ad rfl rfl rfl) Aq (EW _)) hit (Bw (Ad rfl rfl rfl) Aq rfl) (dQ (l:=l) rfl (by rw[F.1];exact KA) (by rw[F.1];decide)))).trans ?_
  rfl
 rcases ht with rfl|⟨i',v',rfl⟩
 ·exact main rfl
 ·exact main rfl
abbrev lx (n:Nat):V->Aj->Option (Fl×Aj):=fun v Av=>oe1 (Cy (bE lM 3) (Ee cj) v Av) none fun Ai=>
 Dm (Aw gl (n+12)) (bE lM 3) (Bq cj) Ai
theorem fg (n:Nat){sc:V}:∀(AM pre:List Int)(l:List V)(t:List (O7×V)),(t=[]∨∃i v,t=i9 i v)->Ze l->(pre++AM).length≤60 ->
 ∃l' t',Ze l'∧Mt (lx n) (.enum (.lst ((pre++AM).map fun i=>.int i false))) (AM.length+1) pre.length (bK sc l t)=some (.next,bK sc l' t'):=by
 intro X
 induction X with
 |nil=>
  intro pre l t ht F hl;have hn:Da (bK sc l t) (.enum (.lst ((pre++[]).map fun i=>.int i false))) pre.length=some none:=by
   show some ((((pre++[]).map fun i=>V.int i false)[pre.length]?).map fun x=>V.tup [Bi pre.length,x])=_;simp
  exact ⟨l,t,F,Qe hn⟩
 |cons z AM ih=>
  intro pre l t ht F hl;have hn:Da (bK sc l t) (.enum (.lst ((pre++z::AM).map fun i=>.int i false))) pre.length=some (some (.tup [Bi pre.length,.int z false])):=by
   show some ((((pre++z::AM).map fun i=>V.int i false)[pre.length]?).map fun x=>V.tup [Bi pre.length,x])=_;simp
  have hk:pre.length<60:=by rw[xb,x9] at hl;lia
  obtain ⟨l1,F1,turn⟩:=az n (sc:=sc) ht F pre.length hk z false;obtain ⟨l2,t2,F2,e⟩:=ih (pre++[z]) l1 _ (.inr ⟨_,_,rfl⟩) F1 (by rw[xj];exact hl);refine ⟨l2,t2,F2,(Nd hn turn).trans ?_⟩;rw[xj,xb] at e;exact e
theorem Kn {g:Gl}{n:Nat}{e:As}{J Ab Ai Bk:Aj}{p q:Pos}{o:O6}{a b:Option O6}{ov av bv v:V}(h1:(Aw g n).ev e o J=some (ov,Ab))(h2:ib (Aw g n) e a Ab=some (av,Ai))(h3:ib (Aw g n) e b Ai=some (bv,Bk))(h4:Ur Bk ov av bv=some v) :
 (Aw g (n+1)).ev e (.Subscript o (.Slice a b none q) p) J=some (v,Bk):=by
 rw[El];show j6 (Aw g n) e o a b none J=_;exact (oE2 h1).trans ((oE2 h2).trans ((oE2 h3).trans (oE1 h4)))
theorem Jh {L:Lv}{e:As}{J:Aj}{x:O6}{r:Option (V×Aj)}(h:L.ev e x J=r):ib L e (some x) J=r:=h
theorem Vn {g:Gl}{L:Lv}{e:As}{J Ab:Aj}{p q:Pos}{nm:O7}{args:List O6}{v:V}{l:List V}(h0:Dc g e nm J=some (.ty "enumerate"))(h1:Kb L e args J=some ([v],Ab))(h2:Bu Ab v=some l) :
 Hx g L e (.Call (.Name nm q) args [] p) J=some (.enum v,Ab):=by
 show oe1 (oe1 (Dc g e nm J) none Jk) _ _=_;refine (oE1 ((oE1 h0).trans (show Jk (.ty "enumerate")=some "enumerate" by decide +kernel))).trans ((oE2 h1).trans ?_);exact oE1 ((if_neg (by rfl')).trans ((if_pos (by rfl')).trans (oE1 h2)))
theorem Wf {k:Nat}:∀{ns:List Int},Di k (ns.map fun i=>V.int i false)=true:=by
 intro X
 induction X with
 |nil=>
  rw[yl,Gx]
 |cons x r ih=>
  rw[x8,Fw,ih];rfl
theorem len5 {l:List V}(h:l.length=5):∃a b c d e,l=[a,b,c,d,e]:=by
 obtain ⟨a,l,rfl⟩:=yt h;have h:=xi h;obtain ⟨b,l,rfl⟩:=yt h;have h:=xi h;obtain ⟨c,l,rfl⟩:=yt h;have h:=xi h;obtain ⟨d,l,rfl⟩:=yt h;have h:=xi h;obtain ⟨e,l,rfl⟩:=yt h;exact ⟨a,b,c,d,e,congrArg (fun l=>a::b::c::d::e::l) (Aak (xi h))⟩
theorem oR {l:List V}(F:Ze l):∃d0 d1 d2 d3 d4 s0 s1 s2 s3 s4,l=[.int d0 s0,.int d1 s1,.int d2 s2,.int d3 s3,.int d4 s4]∧740≤d0∧403≤d1∧265≤d2∧37≤d3∧2≤d4:=by
 obtain ⟨h,f⟩:=F;obtain ⟨a,b,c,d,e,hl⟩:=len5 h;rw[hl] at f ⊢;obtain ⟨d0,s0,e0,b0⟩:=f 0 (by decide);obtain ⟨d1,s1,e1,b1⟩:=f 1 (by decide);obtain ⟨d2,s2,e2,b2⟩:=f 2 (by decide);obtain ⟨d3,s3,e3,b3⟩:=f 3 (by decide);obtain ⟨d4,s4,e4,b4⟩:=f 4 (by decide);exact ⟨d0,d1,d2,d3,d4,s0,s1,s2,s3,s4,congr (congrArg List.cons (wx e0)) (congr (congrArg List.cons (wx e1)) (congr (congrArg List.cons (wx e2)) (congr (congrArg List.cons (wx e3)) (congr (congrArg List.cons (wx e4)) rfl)))),b0,b1,b2,b3,b4⟩
theorem iT (n:Nat)(J:Aj)(O:Dw J)(ns:List Int)(hl:ns.length≤63):∃d0 d1 d2 d3 d4 s0 s1 s2 s3 s4,(Aw gl (n+14)).call (.fn 130) [.lst (ns.map fun i=>.int i false)] [] J =
 some (.lst [.int d0 s0,.int d1 s1,.int d2 s2,.int d3 s3,.int d4 s4],J)∧740≤d0∧403≤d1∧265≤d2∧37≤d3∧2≤d4:=by
 have hz:(ns.take 60).length≤60:=by rw[yo];exact yz ..
 obtain ⟨l',t',F',e⟩:=fg n (sc:=.lst (ns.map fun i=>.int i false)) (ns.take 60) [] _ [] (.inl rfl) iY hz;obtain ⟨d0,d1,d2,d3,d4,s0,s1,s2,s3,s4,rfl,hb⟩:=oR F';refine ⟨d0,d1,d2,d3,d4,s0,s1,s2,s3,s4,?_,hb⟩;have h0:(Aw gl (n+13)).ex (bE lM 3) (Bs lM.body 0) (Bb++[.fr [("script",.lst (ns.map fun i=>.int i false))]])=some (.next,bK (.lst (ns.map fun i=>.int i false)) [Bi 740,Bi 403,Bi 265,Bi 37,Bi 2] []):=by kernel_rfl
 have GT:Ur (bK (.lst (ns.map fun i=>.int i false)) [Bi 740,Bi 403,Bi 265,Bi 37,Bi 2] []) (.lst (ns.map fun i=>.int i false)) .none (Bi 60)=some (.lst ((ns.take 60).map fun i=>.int i false)):=by
  show (if Nat.ble (ns.map fun i=>V.int i false).length 1000000 then some (V.lst (Pi (ns.map fun i=>V.int i false) none (some 60))) else none)=_;rw[if_pos (xg (by rw[wn];lia))];have:Pi (ns.map fun i=>V.int i false) none (some 60)=(ns.take 60).map fun i=>V.int i false:=by
   rw[List.map_take];show ((ns.map fun i=>V.int i false).drop 0).take (clipAt (ns.map fun i=>V.int i false).length 60-0)=_;rw[List.drop_zero,Nat.sub_zero];have hc:clipAt (ns.map fun i=>V.int i false).length 60=min 60 (ns.map fun i=>V.int i false).length:=Wa (r:=60);rw[hc];rcases Nat.le_total 60 (ns.map fun i=>V.int i false).length with z|z
   ·rw[Nat.min_eq_left z]
   ·rw[Nat.min_eq_right z,List.take_length,List.take_of_length_le z]
  rw[this]
 have h1:(Aw gl (n+13)).ex (bE lM 3) cj (bK (.lst (ns.map fun i=>.int i false)) [Bi 740,Bi 403,Bi 265,Bi 37,Bi 2] [])=some (.next,bK (.lst (ns.map fun i=>.int i false)) [.int d0 s0,.int d1 s1,.int d2 s2,.int d3 s3,.int d4 s4] t'):=by
  refine (Hs (Vn (Az rfl rfl) (Ae rfl (Kn (Ad rfl rfl rfl) rfl (Jh Aq) GT) Al) rfl) rfl).trans ?_;have hz:Me (bK (.lst (ns.map fun i=>.int i false)) [Bi 740,Bi 403,Bi 265,Bi 37,Bi 2] []) (.enum (.lst ((ns.take 60).map fun i=>.int i false)))=(ns.take 60).length:=by
   show ((ns.take 60).map fun i=>V.int i false).length=_;rw[wn]
  rw[hz];exact e
 have he:Dm (Aw gl (n+13)) (bE lM 3) lM.body (Bb++[.fr [("script",.lst (ns.map fun i=>.int i false))]])=some (.ret (.ref 4),bK (.lst (ns.map fun i=>.int i false)) [.int d0 s0,.int d1 s1,.int d2 s2,.int d3 s3,.int d4 s4] t'):=
  (Dr h0 ((Dr (s:=cj) h1 (Cp (Fb (Ad rfl rfl rfl)) (by simp)))))
 have FZ:Bg 3 [(("script":O7),.lst (ns.map fun i=>V.int i false))]=true:=by
  rw[Ah,wm];refine ⟨?_,rfl⟩;exact Wf
 exact Et (bs:=[(("script":O7),.lst (ns.map fun i=>V.int i false))]) o8 rfl rfl O (fun z=>absurd FZ z) fun Z=>⟨Hk (J:=Bb) (Av:=Bb) rfl (fun Z=>rfl) rfl he rfl rfl rfl,rfl⟩
theorem Np {f:V->Option V}:∀{l:List V},(∀v∈l,f v=some v)->Ec f l=some l:=by
 intro X
 induction X with
 |nil=>
  intro Z;exact rfl
 |cons v r ih=>
  intro h;exact Fa (h v (.head _)) (ih fun u m=>h u (.tail _ m))
section
variable {α:Type}{ι:α->V}
theorem Wl (A K:Nat){body:V->Aj->List V->Option (List V×Aj)}{s:Gh}{St:Aj->Prop}{l:List α}{f:α->List V}(hn:∀J k,St J->Da J s k=some (l.map ι)[k]?)
 (hb:∀J v AD,v∈l->St J->AD.length≤A+K*l.length->∃Av,St Av∧body (ι v) J AD=some (AD++f v,Av)) (hf:∀v∈l,(f v).length≤K) :
 ∀(AM pre:List α) (AD:List V) (J:Aj),l=pre++AM->St J->AD.length≤A+K*pre.length->∃Av,St Av∧Jv body s (AM.length+1) pre.length J AD=some (AD++AM.flatMap f,Av):=by
 intro X
 induction X with
 |nil=>
  intro pre AD J hl S ha;refine ⟨J,S,?_⟩;have h:(l.map ι)[pre.length]?=none:=by rw[hl];simp
  rw[Yl,hn J _ S,h];dsimp only;simp
 |cons v AM ih=>
  intro pre AD J hl S ha;have h:(l.map ι)[pre.length]?=some (ι v):=by rw[hl];simp
  have hm:v∈l:=by rw[hl];exact yd _ (.head _)
  have GV:pre.length≤l.length:=by rw[hl,xb];lia
  obtain ⟨Nu,S1,e1⟩:=hb J v AD hm S (wp ha (Nat.add_le_add_left (zy _ GV) _));obtain ⟨bD,S2,e2⟩:=ih (pre++[v]) (AD++f v) Nu (by rw[hl,xj];rfl) S1 (by
   have:=hf v hm;rw[xb,xb,List.length_singleton,Nat.mul_add,Nat.mul_one];exact wp (zr ha this) (yr (Nat.add_assoc ..)))
  refine ⟨bD,S2,?_⟩;rw[Yl,hn J _ S,h];dsimp only;rw[e1];rw[xb] at e2;rw[List.flatMap_cons,← xj];exact e2
variable {scope:Scope}{cl:List (O7×Nat)}
def Mp (l:List (O7×PB)):Bool:=l.all fun x=>!(x.2 == .cell)
theorem aR {cs:List (O7×Nat)}:∀{l:List (O7×PB)}{m:Aj},Mp l=true->Fu l cs m=(cs,m):=by
 intro X
 induction X with
 |nil=>
  intro m Z;exact rfl
 |cons X r ih=>
  obtain ⟨x,k⟩:=X;intro m h;unfold Mp at h;rw[List.all_cons,wm] at h;rw[Vg];have hk:(k==PB.cell)=false:=by simpa using h.1
  rw[hk];exact ih h.2
abbrev cE (e:As) (scope:Scope) (J:Aj) (cl:List (O7×Nat)):As:=As.mk (Jx e scope) J.length cl none []
def Pj (g:Gl) (L:Lv) (ce:As) (em:As->Aj->List V->Option (List V×Aj)) (t:O6) (A8:List O6) (r:List PA) (v:V) (m:Aj) (AD:List V):Option (List V×Aj):=oe1 (Cy ce t v m) none fun Ab=>
 match Qc L ce A8 Ab with
 |some (true,Ai)=>match r with
  |[]=>em ce Ai AD
  |⟨_,i,_,_⟩::_=>oe2 (Hx g L ce i Ai) none fun s' Bk=>Wg g L ce (em ce) r s' Bk AD
 |some (false,Ai)=>some (AD,Ai)
 |none=>none
theorem eS (K:Nat){cs:List (O7×Nat)}{M0:Aj}{em:As->Aj->List V->Option (List V×Aj)}{t i:O6}{A8:List O6}{r:List PA}{s:Gh}{l:List α}{f:α->List V}{St:Aj->Prop}
 (hs:Hx g L e i J=some (s,J)) (ht:(okTgt s t&&Fg s)=true) (hn:∀m k,St m->Da m s k=some (l.map ι)[k]?) (AV:Me M0 s=l.length)
 (hk:(okScope (Jx e scope)&&okScope scope&&Iq scope)=true) (hc:Fz e scope.names []=some cl) (hy:Fu scope.names cl (J++[.fr []])=(cs,M0))
 (hb:∀m v AD,v∈l->St m->AD.length≤K*l.length->∃m',St m'∧Pj g L (cE e scope J cs) em t A8 r (ι v) m AD=some (AD++f v,m'))
 (hf:∀v∈l,(f v).length≤K) (h0:St M0) (J8:∀m,St m->∃x,m[J.length]?=some (.fr x)∧m.take J.length=J)
 (B6:∀u∈l.flatMap f,∀m,By m J.length 6 u=some u) (hm:Ci J.length J=true) :
 Gd g L e scope (⟨t,i,A8,0⟩::r) em J=some (l.flatMap f,J):=by
 obtain ⟨Su,S3,e3⟩:=Wl (ι:=ι) 0 K (body:=Pj g L (cE e scope J cs) em t A8 r) (l:=l) (s:=s) (St:=St) (f:=f) (fun m k S=>hn m k S) (fun m v AD hv S ha=>hb m v AD hv S (by rwa [Nat.zero_add] at ha)) hf l [] [] M0 rfl h0 (wz _);rw[yv] at e3;have hz:Ec (By Su J.length 6) (l.flatMap f)=some (l.flatMap f):=Np fun u m=>B6 u m _;obtain ⟨x,hg,hte⟩:=J8 _ S3;unfold Gd;dsimp only;rw[hs];dsimp only;rw[if_pos hk,hc];dsimp only;rw[hy];dsimp only;rw[nP];rw[if_neg (show ¬(!(okTgt s t&&Fg s&&(0:Int)==0))=true from by rw[ht];decide)];rw[AV];generalize hq:Jv _ s _ 0 M0 []=z;have e4:z=some (l.flatMap f,Su):=hq.symm.trans e3;rw[e4];dsimp only;rw[Zv hg];rw[hz];unfold cut;rw[hte,hm]
 rfl
theorem bz (K:Nat){em:As->Aj->List V->Option (List V×Aj)}{t i:O6}{A8:List O6}{r:List PA}{s:Gh}{l:List α}{f:α->List V}{St:Aj->Prop}
 (hs:Hx g L e i J=some (s,J)) (ht:(okTgt s t&&Fg s)=true) (hn:∀m k,St m->Da m s k=some (l.map ι)[k]?) (AV:Me (J++[.fr []]) s=l.length)
 (hk:(okScope (Jx e scope)&&okScope scope&&Iq scope)=true) (hc:Fz e scope.names []=some cl) (hy:Mp scope.names=true)
 (hb:∀m v AD,v∈l->St m->AD.length≤K*l.length->∃m',St m'∧Pj g L (cE e scope J cl) em t A8 r (ι v) m AD=some (AD++f v,m'))
 (hf:∀v∈l,(f v).length≤K) (h0:St (J++[.fr []])) (J8:∀m,St m->∃x,m[J.length]?=some (.fr x)∧m.take J.length=J)
 (B6:∀u∈l.flatMap f,∀m,By m J.length 6 u=some u) (hm:Ci J.length J=true) :
 Gd g L e scope (⟨t,i,A8,0⟩::r) em J=some (l.flatMap f,J):=
 eS (ι:=ι) K hs ht hn AV hk hc (aR hy) hb hf h0 J8 B6 hm
def Qz (em:Aj->List V->Option (List V×Aj)) (J:Aj) (v:V):Prop:=∀AD:List V,AD.length≤1000->em J AD=some (AD++[v],J)
theorem Bo {AW:O6}{ce:As}{m:Aj}{v:V}(h:L.ev ce AW m=some (v,m)):Qz (Le L AW ce) m v:=fun AD ha=>(oE2 h).trans (if_pos (xg (by lia)))
theorem rC {AW:O6}{ce:As}{m:Aj}{k:Int}{b:Bool}(h:L.ev ce AW m=some (.int k b,m)):Qz (eI L AW ce) m (.int k b):=fun AD ha=>(oE2 h).trans (if_pos (xg ha))
theorem Vq {x y:O6}{ce:As}{m:Aj}{k:Int}{b:Bool}{v:V}(h1:L.ev ce x m=some (.int k b,m))(h2:L.ev ce y m=some (v,m)):Qz (Vr L x y ce) m (.tup [.int k b,v]):=fun AD ha=>(oE2 h1).trans ((oE2 h2).trans (if_pos (xg (by lia))))
theorem Yu {cs:List (O7×Nat)}{em:As->Aj->List V->Option (List V×Aj)}{t i:O6}{A8:List O6}{s:Gh}{l:List α}(ι:α->V)(w:α->Option V)(G0:List Cv)(G:α->List Cv)
 (hs:Hx g L e i J=some (s,J)) (ht:(okTgt s t&&Fg s)=true) (hn:∀r k,Da (J++r) s k=some (l.map ι)[k]?) (AV:Me (J++G0) s=l.length) (hl:l.length≤1000)
 (hk:(okScope (Jx e scope)&&okScope scope&&Iq scope)=true) (hc:Fz e scope.names []=some cl) (hy:Fu scope.names cl (J++[.fr []])=(cs,J++G0)) (KB:∃f r,G0 = .fr f::r) (hG:∀v,∃f r,G v = .fr f::r)
 (hb:∀v∈l,∀x,(x=G0∨∃u∈l,x=G u)->Cy (cE e scope J cs) t (ι v) (J++x)=some (J++G v))
 (FW:∀v∈l,Qc L (cE e scope J cs) A8 (J++G v)=some ((w v).isSome,J++G v))
 (BW:∀v∈l,∀u,w v=some u->Qz (em (cE e scope J cs)) (J++G v) u)
 (B6:∀v∈l,∀u,w v=some u->∀m,By m J.length 6 u=some u) (hm:Ci J.length J=true) :
 Gd g L e scope [⟨t,i,A8,0⟩] em J=some (l.filterMap w,J):=by
 have C8:∀l:List α,l.flatMap (fun v=>(w v).toList)=l.filterMap w:=fun l=>by
  induction l with
  |nil=>rfl
  |cons v r ih=>
   rw[List.flatMap_cons,ih,List.filterMap_cons];cases w v<;>rfl
 have key:=eS (ι:=ι) 1 (g:=g) (L:=L) (e:=e) (scope:=scope) (J:=J) (cl:=cl) (cs:=cs) (M0:=J++G0) (em:=em) (t:=t) (i:=i) (A8:=A8) (r:=[]) (s:=s) (l:=l) (f:=fun v=>(w v).toList)
  (St:=fun m=>m=J++G0∨∃u∈l,m=J++G u) hs ht (fun m k S=>by rcases S with rfl|⟨u,_,rfl⟩<;>exact hn _ _) AV hk hc hy ?_ ?_ (.inl rfl) ?_ ?_ hm
 ·rw[key,C8]
 ·intro m v AD hv S ha;have D9:Cy (cE e scope J cs) t (ι v) m=some (J++G v):=by
   rcases S with rfl|⟨u,hu,rfl⟩
   ·exact hb v hv _ (.inl rfl)
   ·exact hb v hv _ (.inr ⟨u,hu,rfl⟩)
  refine ⟨J++G v,.inr ⟨v,hv,rfl⟩,?_⟩;unfold Pj;rw[D9];dsimp only;rw[FW v hv];cases hw:w v with
  |none=>simp
  |some u=>
   dsimp only[Option.isSome_some];exact BW v hv u hw AD (by lia)
 ·intro v hv;cases w v<;>simp
 ·have BG:∀x:List Cv,(∃f r,x = .fr f::r)->∃y,(J++x)[J.length]?=some (.fr y)∧(J++x).take J.length=J:=fun x hx=>by
   obtain ⟨f,r,rfl⟩:=hx;exact ⟨_,Af,by simp⟩
  intro m S;rcases S with rfl|⟨u,_,rfl⟩
  ·exact BG _ KB
  ·exact BG _ (hG u)
 ·intro u hu m;rw[C8] at hu;obtain ⟨v,hv,e⟩:=Aai.mp hu;exact B6 v hv u e m
theorem cO {em:As->Aj->List V->Option (List V×Aj)}{t i:O6}{A8:List O6}{s:Gh}{l:List α}(ι:α->V)(w:α->Option V)(F:α->List (O7×V))
 (hs:Hx g L e i J=some (s,J)) (ht:(okTgt s t&&Fg s)=true) (hn:∀r k,Da (J++r) s k=some (l.map ι)[k]?) (AV:Me (J++[.fr []]) s=l.length) (hl:l.length≤1000)
 (hk:(okScope (Jx e scope)&&okScope scope&&Iq scope)=true) (hc:Fz e scope.names []=some cl) (hy:Mp scope.names=true)
 (hb:∀v∈l,∀m,(m=[]∨∃u∈l,m=F u)->Cy (cE e scope J cl) t (ι v) (J++[.fr m])=some (J++[.fr (F v)]))
 (FW:∀v∈l,Qc L (cE e scope J cl) A8 (J++[.fr (F v)])=some ((w v).isSome,J++[.fr (F v)]))
 (BW:∀v∈l,∀u,w v=some u->Qz (em (cE e scope J cl)) (J++[.fr (F v)]) u)
 (B6:∀v∈l,∀u,w v=some u->∀m,By m J.length 6 u=some u) (hm:Ci J.length J=true) :
 Gd g L e scope [⟨t,i,A8,0⟩] em J=some (l.filterMap w,J):=
 Yu ι w [.fr []] (fun v=>[.fr (F v)]) hs ht hn AV hl hk hc (aR hy) ⟨_,_,rfl⟩ (fun Z=>⟨_,_,rfl⟩) (fun v hv x hx=>by
  rcases hx with rfl|⟨u,hu,rfl⟩
  ·exact hb v hv _ (.inl rfl)
  ·exact hb v hv _ (.inr ⟨u,hu,rfl⟩)) FW BW B6 hm
end
theorem rO {α:Type}{P:α->Bool}{h:α->V}:∀{l:List α},l.filterMap (fun a=>if P a then some (h a) else none)=(l.filter P).map h:=by
 intro X
 induction X with
 |nil=>
  exact rfl
 |cons x r ih=>
  rw[List.filterMap_cons,List.filter_cons,ih];cases P x<;>rfl
theorem xX {α:Type}{h:α->V}:∀{l:List α},l.filterMap (fun a=>some (h a))=l.map h:=by
 intro X
 induction X with
 |nil=>
  exact rfl
 |cons x r ih=>
  rw[List.filterMap_cons,ih];rfl
theorem Qn {α:Type}{L:Lv}{g:Gl}{e:As}{scope:Scope}{J:Aj}{cl:List (O7×Nat)}{em:As->Aj->List V->Option (List V×Aj)}{t i:O6}{A8:List O6}{s:Gh}{l:List α}(ι:α->V)(P:α->Bool)(h:α->V)(F:α->List (O7×V))
 (hs:Hx g L e i J=some (s,J)) (ht:(okTgt s t&&Fg s)=true) (hn:∀r k,Da (J++r) s k=some (l.map ι)[k]?) (AV:Me (J++[.fr []]) s=l.length) (hl:l.length≤1000)
 (hk:(okScope (Jx e scope)&&okScope scope&&Iq scope)=true) (hc:Fz e scope.names []=some cl) (hy:Mp scope.names=true)
 (hb:∀v∈l,∀m,(m=[]∨∃u∈l,m=F u)->Cy (cE e scope J cl) t (ι v) (J++[.fr m])=some (J++[.fr (F v)]))
 (FW:∀v∈l,Qc L (cE e scope J cl) A8 (J++[.fr (F v)])=some (P v,J++[.fr (F v)]))
 (BW:∀v∈l,P v=true->Qz (em (cE e scope J cl)) (J++[.fr (F v)]) (h v))
 (B6:∀v∈l,P v=true->∀m,By m J.length 6 (h v)=some (h v)) (hm:Ci J.length J=true) :
 Gd g L e scope [⟨t,i,A8,0⟩] em J=some ((l.filter P).map h,J):=by
 rw[← rO];have E8:∀v u,(if P v then some (h v) else none)=some u->P v=true∧u=h v:=fun v u z=>by
  cases hp:P v<;>rw[hp] at z<;>cases z;exact ⟨rfl,rfl⟩
 refine cO ι (fun a=>if P a then some (h a) else none) F hs ht hn AV hl hk hc hy hb (fun v hv=>?_) (fun v hv u hu=>?_) (fun v hv u hu=>?_) hm
 ·rw[FW v hv];cases P v<;>rfl
 ·obtain ⟨h1,rfl⟩:=E8 v u hu;exact BW v hv h1
 ·obtain ⟨h1,rfl⟩:=E8 v u hu;exact B6 v hv h1
theorem Do {α:Type}{L:Lv}{g:Gl}{e:As}{scope:Scope}{J:Aj}{cl:List (O7×Nat)}{em:As->Aj->List V->Option (List V×Aj)}{t i:O6}{s:Gh}{l:List α}(ι:α->V)(h:α->V)(F:α->List (O7×V))
 (hs:Hx g L e i J=some (s,J)) (ht:(okTgt s t&&Fg s)=true) (hn:∀r k,Da (J++r) s k=some (l.map ι)[k]?) (AV:Me (J++[.fr []]) s=l.length) (hl:l.length≤1000)
 (hk:(okScope (Jx e scope)&&okScope scope&&Iq scope)=true) (hc:Fz e scope.names []=some cl) (hy:Mp scope.names=true)
 (hb:∀v∈l,∀m,(m=[]∨∃u∈l,m=F u)->Cy (cE e scope J cl) t (ι v) (J++[.fr m])=some (J++[.fr (F v)]))
 (BW:∀v∈l,Qz (em (cE e scope J cl)) (J++[.fr (F v)]) (h v))
 (B6:∀v∈l,∀m,By m J.length 6 (h v)=some (h v)) (hm:Ci J.length J=true) :
 Gd g L e scope [⟨t,i,[],0⟩] em J=some (l.map h,J):=by
 rw[← xX];refine cO ι (fun a=>some (h a)) F hs ht hn AV hl hk hc hy hb (fun v hv=>rfl) (fun v hv u hu=>?_) (fun v hv u hu=>?_) hm
 ·cases hu;exact BW v hv
 ·cases hu;exact B6 v hv
theorem Fd {α:Type}{L:Lv}{g:Gl}{e:As}{scope:Scope}{J:Aj}{cl cs:List (O7×Nat)}{em:As->Aj->List V->Option (List V×Aj)}{t i:O6}{s:Gh}{l:List α}(ι:α->V)(h:α->V)(G0:List Cv)(G:α->List Cv)
 (hs:Hx g L e i J=some (s,J)) (ht:(okTgt s t&&Fg s)=true) (hn:∀r k,Da (J++r) s k=some (l.map ι)[k]?) (AV:Me (J++G0) s=l.length) (hl:l.length≤1000)
 (hk:(okScope (Jx e scope)&&okScope scope&&Iq scope)=true) (hc:Fz e scope.names []=some cl) (hy:Fu scope.names cl (J++[.fr []])=(cs,J++G0)) (KB:∃f r,G0 = .fr f::r) (hG:∀v,∃f r,G v = .fr f::r)
 (hb:∀v∈l,∀x,(x=G0∨∃u∈l,x=G u)->Cy (cE e scope J cs) t (ι v) (J++x)=some (J++G v))
 (BW:∀v∈l,Qz (em (cE e scope J cs)) (J++G v) (h v))
 (B6:∀v∈l,∀m,By m J.length 6 (h v)=some (h v)) (hm:Ci J.length J=true) :
 Gd g L e scope [⟨t,i,[],0⟩] em J=some (l.map h,J):=by
 rw[← xX];refine Yu ι (fun a=>some (h a)) G0 G hs ht hn AV hl hk hc hy KB hG hb (fun v hv=>rfl) (fun v hv u hu=>?_) (fun v hv u hu=>?_) hm
 ·cases hu;exact BW v hv
 ·cases hu;exact B6 v hv
section
variable {Bk:Aj}{p q:Pos}
theorem Cq {AW:O6}{gens:List PA}{scope:Scope}{vs:List V}(h:Gd g (Aw g n) e scope gens (Le (Aw g n) AW) J=some (vs,Ab)):(Aw g (n+1)).ev e (.ListComp AW gens scope p) J=some (.lst vs,Ab):=by
 rw[El];show oe2 (Gd g (Aw g n) e scope gens (Le (Aw g n) AW) J) none _=_;exact oE2 h
theorem Iu {L:Lv}{AW:O6}{gens:List PA}{scope:Scope}{vs:List V}(h:Gd g L e scope gens (Le L AW) J=some (vs,Ab)):Jy g L e (.ListComp AW gens scope p) J=some (.lst vs,Ab):=by
 show oe2 (Gd g L e scope gens (Le L AW) J) none _=_;exact oE2 h
theorem Ij {x:O6}{nm:O7}{v:V}(hx:Dz x=true)(h:Jy g (Aw g n) e x J=some (v,Ab))(hs:Dj e nm v Ab=some Ai):(Aw g (n+1)).ex e (.Assign [.Name nm q] x p) J=some (.next,Ai):=by
 rw[Hd];show aQ g (Aw g n) e nm x J=_;exact (oE2 ((if_pos hx).trans h)).trans (oE1 hs)
theorem Gk {t a b:O6}{c:Bool}{r:Option (V×Aj)}(h1:(Aw g n).ts e t J=some (c,Ab))(h2:(Aw g n).ev e (if c then a else b) Ab=r):(Aw g (n+1)).ev e (.IfExp t a b p) J=r:=by
 rw[El];show qi (Aw g n) e t a b J=_;exact (oE2 h1).trans h2
theorem Qr {es:List O6}{vs:List V}(hl:Nat.ble es.length 1000000=true)(h:Kb (Aw g n) e es J=some (vs,Ab)):(Aw g (n+1)).ev e (.List es p) J=some (.lst vs,Ab):=by
 rw[El];show rX (Aw g n) e es J=_;exact (gN hl).trans (oE2 h)
theorem Go {es:List O6}{c:Nat}{vs:List V}(hl:Nat.ble es.length 1000000=true)(h:Kb (Aw g n) e es J=some (vs,Ab)):(Aw g (n+1)).ev e (.Tuple es c p) J=some (.tup vs,Ab):=by
 rw[El];show tL (Aw g n) e es J=_;exact (gN hl).trans (oE2 h)
theorem Hl {op:BoolOp}{vs:List O6}{r:Option (Bool×Aj)}(h:rW (Aw g n) e op vs J=r):(Aw g (n+1)).ts e (.BoolOp op vs p) J=r:=by
 rw[uC];exact h
theorem Gv {x:O6}{v:V}{b:Bool}(hb:byTruth x=true)(h:(Aw g n).ev e x J=some (v,Ab))(ht:On Ab v=some b):(Aw g (n+1)).ts e x J=some (b,Ab):=by
 have z:vA (Aw g n) e x J=some (b,Ab):=(gN hb).trans ((oE2 h).trans (oE1 ht))
 induction x using O6.casesOn with
 |BoolOp=>exact ft hb
 |UnaryOp=>exact ft hb
 |Compare=>exact ft hb
 |_=>exact z
theorem Vo {L:Lv}{x:O6}{r:List O6}{b c:Bool}(h1:L.ts e x J=some (b,J))(h2:b=true->rW L e .And r J=some (c,J)):rW L e .And (x::r) J=some (b&&c,J):=by
 refine kY.trans ((oE2 h1).trans ?_);cases b with
 |true=>exact h2 rfl
 |false=>rfl
theorem Yt {L:Lv}{x:O6}{r:List O6}{b c:Bool}(h1:L.ts e x J=some (b,J))(h2:b=false->rW L e .Or r J=some (c,J)):rW L e .Or (x::r) J=some (b||c,J):=by
 refine kY.trans ((oE2 h1).trans ?_);cases b with
 |false=>exact h2 rfl
 |true=>rfl
theorem Ir {L:Lv}{op:BoolOp}{x:O6}{b:Bool}(h1:L.ts e x J=some (b,J)):rW L e op [x] J=some (b,J):=by
 refine kY.trans ((oE2 h1).trans ?_);cases op<;>cases b<;>rfl
theorem ee {L:Lv}:Qc L e [] J=some (true,J):=rfl
theorem Lj {L:Lv}{x:O6}{b:Bool}(h:L.ts e x J=some (b,J)):Qc L e [x] J=some (b,J):=by
 rw[sT,h];cases b<;>rfl
theorem Eo {L:Lv}{x:O7}{v:V}{s:Gh}(h1:L.ev e (.Name x p) J=some (v,Ab))(h2:Sf Ab v=some s):Hx g L e (.Name x p) J=some (s,Ab):=by
 unfold Hx;dsimp only;unfold Wc;rw[h1];dsimp only;rw[h2]
theorem Dl {L:Lv}{x:O7}{args:List O6}{vs:List V}{s:Gh}(h0:Dc g e x J=some (.ty "range"))(h1:Kb L e args J=some (vs,Ab))(h2:Ud vs=some s):Hx g L e (.Call (.Name x q) args [] p) J=some (s,Ab):=by
 show oe1 (oe1 (Dc g e x J) none Jk) _ _=_;refine (oE1 ((oE1 h0).trans (show Jk (.ty "range")=some "range" by decide +kernel))).trans ((oE2 h1).trans ?_);exact oE1 ((if_pos (by rfl')).trans h2)
theorem oh {x:O6}{nm:O7}{a b:Int}{s t:Bool}(h0:Dc g e nm J=some (.int a s))(h1:(Aw g n).ev e x J=some (.int b t,Ab))(h2:Dj e nm (.int (a+b) false) Ab=some Ai):(Aw g (n+1)).ex e (.AugAssign (.Name nm q) .Add x p) J=some (.next,Ai):=by
 rw[Hd];show jK g (Aw g n) e nm x J=_;exact (oE1 h0).trans ((oE2 h1).trans (oE1 h2))
end
theorem Cr (m:Aj)(k n:Nat):Da m (.rng 0 n) k=some (((PF n).map fun i=>Bi ((i:Nat):Int))[k]?):=by
 show some (if Nat.blt k n then some (Bi (0+(k:Int))) else none)=_;rw[Int.zero_add];by_cases h:k<n
 ·rw[show Nat.blt k n=true from xg h];simp[h]
 ·rw[show Nat.blt k n=false from Bool.eq_false_iff.mpr fun z=>h (xm z)];simp[h]
def tE (d:Ek):As:={ scope:=d.scope,f:=3,cells:=(Fu d.scope.names [] (Bb++[.fr []])).1,tab:=d.tab,muts:=d.muts }
theorem Gm {n:Nat}{ad:O5}{d:Ek}{args:List V}{bs:List (O7×V)}{J Su:Aj}{f:Fl}{v:V}{r:List Cv}(O:Dw J)(hd:gl.D ad=some d)(ha:(ad==gl.cls)=false)(hb:Hr d args []=some bs)(hc:Bg 3 bs=true)(hs:okScope d.scope=true)
 (h0:Em (tE d) bs (Fu d.scope.names [] (Bb++[.fr []])).2=some Su) (h1:Dm (Aw gl n) (tE d) d.body Su=some (f,Bb++r)) (h2:By (Bb++r) 3 6 (uz f)=some v) :
 (Aw gl (n+1)).call (.fn ad) args [] J=some (v,J):=by
 refine Et hd ha hb O (fun z=>absurd hc z) fun Z=>⟨?_,rfl⟩;unfold Kd;rw[gN hs];show (oe1 (Em (tE d) bs (Fu d.scope.names [] (Bb++[.fr []])).2) none fun Bk=>
  oe2 (Dm (Aw gl n) (tE d) d.body Bk) none fun f De=>
   oe1 (By De 3 6 (uz f)) none fun v'=>
    oe1 (cut De 3) none fun fQ=>
     some (v',fQ))=_
 rw[h0];dsimp only;rw[h1];dsimp only;rw[h2];rw[show (Bb++r).take 3=Bb from rfl]
 rfl
def Mc:PC->O6
 |.Assign _ x _=>x
 |_=>.Constant .none 0 default
def yH:O6->O6
 |.BinOp _ _ r _=>r
 |_=>.Constant .none 0 default
def j0:O6->O6
 |.ListComp x _ _ _=>x
 |_=>.Constant .none 0 default
def nx:O6->List PA
 |.ListComp _ x _ _=>x
 |_=>[]
def nT:O6->Scope
 |.ListComp _ _ x _=>x
 |_=>default
def n9:O6->List O6
 |.BoolOp _ x _=>x
 |_=>[]
def jA:Ek:=(Kc 147).get (by rfl')
theorem pd:gl.D 147=some jA:=by kernel_rfl
def nm (x:Nat×Bool):V:=.int (x.1:Int) x.2
def Hq (m:Nat->Nat->Int) (b:Nat->Nat->Bool) (i:Nat):V:=.lst [.int (m i 0) (b i 0),.int (m i 1) (b i 1),.int (m i 2) (b i 2),.int (m i 3) (b i 3)]
def lk (m:Nat->Nat->Int) (b:Nat->Nat->Bool):V:=.lst [Hq m b 0,Hq m b 1,Hq m b 2,Hq m b 3]
theorem Ie {m:Nat->Nat->Int}{b:Nat->Nat->Bool}{J:Aj}{i:Nat}{s:Bool}(h:i<4):Eb J (lk m b) (.int (i:Int) s)=some (Hq m b i):=by
 exact k4 h rfl rfl rfl rfl
theorem Ew {m:Nat->Nat->Int}{b:Nat->Nat->Bool}{J:Aj}{i j:Nat}{s:Bool}(h:j<4):Eb J (Hq m b i) (.int (j:Int) s)=some (.int (m i j) (b i j)):=by
 exact k4 h rfl rfl rfl rfl
theorem Bn {e:As}{J:Aj}{x:O7}{i:Nat}{v:V}{o:Option V}(hk:e.kind x=some .cell)(hc:e.cells.lookup x=some i)(hm:J[i]?=some (.cell o)):Dj e x v J=some (J.set i (.cell (some v))):=by
 exact (congrArg (Zp e x v J) hk).trans ((oE1 hc).trans (oE1 (Vb hm)))
def kO (lv f ls:V) (R:List (Nat×Bool)) (p:V):Aj:=Bb++[.fr [("first",f)],.cell (some lv),.cell (some ls),.cell (some (.lst (R.map nm))),.cell (some p)]
theorem g8:∀{R:List (Nat×Bool)},Fk (R.map nm)=some (R.map fun x=>(x.1:Int)):=fun {R}=>by
 induction R with
 |nil=>rfl
 |cons x R ih=>exact Fa rfl ih
theorem yQ {k:Int}{R:List (Nat×Bool)}:u4 k (R.map nm)=some (R.any fun x=>(x.1:Int)==k):=(oE1 g8).trans (congrArg some (by rw[List.any_map];rfl))
theorem qG {k:Nat}:∀{R:List (Nat×Bool)},Di k (R.map nm)=true:=by
 intro X
 induction X with
 |nil=>
  rw[yl,Gx]
 |cons x R ih=>
  rw[x8,Fw,ih]
  rfl
def kB (m:Nat->Nat->Int) (t:Int) (R:List (Nat×Bool)) (a:Nat) (k:Nat):Bool:=!(R.any fun x=>(x.1:Int)==(k:Int))&&decide (m a k≥t)
def uo:List PC:=Hb (Bs jA.body 1)
theorem cr (n:Nat){m:Nat->Nat->Int}{b:Nat->Nat->Bool}{f:V}{t:Int}{s:Bool}{R:List (Nat×Bool)}{p:Nat}{sp:Bool}{a:Nat×Bool}(hf:Ar 3 f=true)(hp:R[p]?=some a)(ha:a.1<4)(hl:R.length≤100) :
 Dm (Aw gl (n+14)) (tE jA) uo (kO (lk m b) f (.int t s) R (.int p sp))=some (.next,kO (lk m b) f (.int t s) (R++((PF 4).filter (kB m t R a.1)).map (·,true)) (.int ((p+1:Nat):Int) false)):=by
 have AL:Ci (kO (lk m b) f (.int t s) R (.int p sp)).length (kO (lk m b) f (.int t s) R (.int p sp))=true:=by
  show Ci 8 (kO (lk m b) f (.int t s) R (.int p sp))=true;unfold kO;simp only[Bb,List.cons_append,List.nil_append,Ia,Tx,Cg,Gu,Sg,Pn,Pc,Ow,Ox,Ph,Ou,Pg,Ol,qG,Ct (show 3≤8 by decide) hf,lk,Hq,Fw,Gx]
  rfl
 generalize hM:kO (lk m b) f (.int t s) R (.int p sp)=M at AL;have hx:Gd gl (Aw gl (n+11)) (tE jA) (nT (yH (Mc (Bs uo 0)))) (nx (yH (Mc (Bs uo 0)))) (Le (Aw gl (n+11)) (j0 (yH (Mc (Bs uo 0))))) M=some ((((PF 4).filter (kB m t R a.1)).map fun k=>Bi ((k:Nat):Int)),M):=by
  subst hM;refine Qn (fun k:Nat=>Bi (k:Int)) (kB m t R a.1) (fun k:Nat=>Bi (k:Int)) (fun k=>[("one",Bi (k:Int))]) (by exact Dl (Az rfl rfl) (Ae rfl Aq Al) rfl) (by rfl) (fun r k=>Cr _ k 4) (by rfl) (by decide) (by rfl) (by rfl) (by rfl) ?_ ?_ ?_ ?_ AL
  ·intro k _ m hm;refine Ap (Au rfl rfl ?_);rcases hm with rfl|⟨u,_,rfl⟩<;>rfl
  ·intro k hk;have B5:k<4:=wq.mp hk;have c1:∀J,Dx J .NotIn (Bi k) (.lst (R.map nm))=some (!(R.any fun x=>(x.1:Int)==(k:Int))):=fun J=>by
    show ((u4 k (R.map nm)).map (!·))=_;rw[yQ];rfl
   have c2:∀J,Eb J (.lst (R.map nm)) (.int p sp)=some (nm a):=fun J=>by
    have h:=Ha (J:=J) (a:=.lst (R.map nm)) (v:=nm a) (l:=R.map nm) (i:=p) (s:=sp) (r:=[]) rfl (by rw[wn];lia) (by rw[x6,hp];rfl);rwa [xx] at h
   exact Lj (Hl (Vo (Bd rfl (Ad rfl Af rfl) (Bc rfl rfl rfl) (c1 _)) fun Z=>Ir (Bd rfl (Bj rfl (Bj rfl (Bc rfl rfl rfl) (Bj rfl (Bc rfl rfl rfl) (Bc rfl rfl rfl) (c2 _)) (Ie ha)) (Ad rfl Af rfl) (Ew B5)) (Bc rfl rfl rfl) rfl)))
  ·intro k hk _;exact Bo (Ad rfl Af rfl)
  ·intro k hk _ m
   rfl
 have MF:Nz M .Add (.lst (R.map nm)) (.lst (((PF 4).filter (kB m t R a.1)).map fun k=>Bi ((k:Nat):Int)))=some (.lst ((R++((PF 4).filter (kB m t R a.1)).map (·,true)).map nm),M):=by
  have hz:((R.map nm).length+(((PF 4).filter (kB m t R a.1)).map fun k=>Bi ((k:Nat):Int)).length)≤1000000:=by
   have:=List.length_filter_le (kB m t R a.1) (PF 4);rw[wn,wn];rw[yx] at this
   lia
  show (if Nat.ble ((R.map nm).length+(((PF 4).filter (kB m t R a.1)).map fun k=>Bi ((k:Nat):Int)).length) 1000000 then some (V.lst (R.map nm++(((PF 4).filter (kB m t R a.1)).map fun k=>Bi ((k:Nat):Int))),M) else none)=_;rw[if_pos (xg hz),yc,z6];have:∀k,k∈(PF 4).filter (kB m t R a.1)->Bi ((k:Nat):Int)=(nm ∘ fun x=>(x,true)) k:=fun k hk=>by
   have B5:k<4:=wq.mp (zs.mp hk).1;exact k4 B5 rfl rfl rfl rfl
  rw[Aag this]
 subst hM;refine (Am (Cz rfl rfl (Bw (Bc rfl rfl rfl) (Cq hx) MF) (Bn rfl rfl rfl))).trans ?_;exact (Am (oh (Sc rfl rfl rfl) Aq (Bn rfl rfl rfl))).trans Ax
theorem i4 (n:Nat){lv f ls:V}{R:List (Nat×Bool)}{p:Nat}{sp:Bool}(hl:R.length≤100):(Aw gl (n+14)).ts (tE jA) (Gp (Bs jA.body 1)) (kO lv f ls R (.int p sp))=some (decide (p<R.length),kO lv f ls R (.int p sp)):=by
 have h:Dx (kO lv f ls R (.int p sp)) .Lt (.int p sp) (.int ((R.map nm).length:Int) true)=some (decide (p<R.length)):=by
  rw[wn];exact congrArg some (decide_eq_decide.mpr yg)
 exact Bd rfl (Bc rfl rfl rfl) ((Cl rfl rfl rfl (Ae rfl (Bc rfl rfl rfl) Al) Bf).trans (Jo rfl (by rw[wn];lia))) h
theorem Mn:∀(n:Nat)(R:List Nat),R.Nodup->(∀x∈R,x<n)->R.length≤n
 |0,[],_,_=>wu _
 |0,x::R,_,h=>absurd (h x (.head _)) (Nat.not_lt_zero _)
 |n+1,R,hn,h=>by
  by_cases hm:n∈R
  ·have h1:=Mn n (R.erase n) (hn.erase n) fun x hx=>by
    have:=(List.Nodup.mem_erase_iff hn).mp hx;have:=h x this.2
    lia
   rw[List.length_erase_of_mem hm] at h1;exact Nat.le_succ_of_pred_le h1
  ·have:=Mn n R hn fun x hx=>by
    have:=h x hx;have:x≠n:=fun e=>hm (e ▸ hx)
    lia
   lia
def fU (m:Nat->Nat->Int) (first:Nat) (t:Int) (v:Nat):Prop:=∀S:Nat->Bool,S first=true->S v=false->∃i j,i<4∧j<4∧S i=true∧S j=false∧t≤m i j
structure j9 (m:Nat->Nat->Int)(first:Nat)(t:Int)(R:List (Nat×Bool))(p:Nat):Prop where
 nd:(R.map (·.1)).Nodup
 lt:∀x∈R,x.1<4
 le:p≤R.length
 cl:∀i x,i<p->R[i]?=some x->∀k,k<4->t≤m x.1 k->k∈R.map (·.1)
 wt:∀x∈R,fU m first t x.1
 fs:first∈R.map (·.1)
theorem j9.len {m:Nat->Nat->Int}{first p:Nat}{t:Int}{R:List (Nat×Bool)}(I:j9 m first t R p):R.length≤4:=by
 have:=Mn 4 (R.map (·.1)) I.nd fun x hx=>by
  obtain ⟨y,hy,rfl⟩:=xr.mp hx;exact I.lt y hy
 rwa [wn] at this
theorem aS {m:Nat->Nat->Int}{t:Int}{R:List (Nat×Bool)}{a k:Nat}:kB m t R a k=true↔k∉R.map (·.1)∧t≤m a k:=by
 unfold kB;rw[wm,decide_eq_true_eq,zh,← Bool.not_eq_true,List.any_eq_true];constructor
 ·rintro ⟨h1,h2⟩;refine ⟨fun h=>h1 ?_,h2⟩;obtain ⟨x,hx,rfl⟩:=xr.mp h;exact ⟨x,hx,by simp⟩
 ·rintro ⟨h1,h2⟩;refine ⟨fun h=>h1 ?_,h2⟩;obtain ⟨x,hx,e⟩:=h;have e:=beq_iff_eq.mp e;exact xr.mpr ⟨x,hx,by lia⟩
theorem j9.step {m:Nat->Nat->Int}{first p:Nat}{t:Int}{R:List (Nat×Bool)}{a:Nat×Bool}(I:j9 m first t R p)(ha:R[p]?=some a):j9 m first t (R++((PF 4).filter (kB m t R a.1)).map (·,true)) (p+1):=by
 have hp:p<R.length:=(wv.mp ha).1;have NI:a∈R:=xt ha;have em:(R++((PF 4).filter (kB m t R a.1)).map (·,true)).map (·.1)=R.map (·.1)++(PF 4).filter (kB m t R a.1):=by
  rw[yc,z6];congr 1;exact (Aag fun Z Z=>rfl).trans (List.map_id _)
 refine ⟨?_,?_,?_,?_,?_,?_⟩
 ·rw[em,zd];refine ⟨I.nd,List.Pairwise.filter _ List.nodup_range,fun x hx y hy e=>?_⟩;subst e;exact (aS.mp (zs.mp hy).2).1 hx
 ·intro x hx;rcases xk.mp hx with h|h
  ·exact I.lt x h
  ·obtain ⟨k,hk,rfl⟩:=xr.mp h;exact wq.mp (zs.mp hk).1
 ·rw[xb];lia
 ·intro i x hi hx k hk hl;rw[em,xk];rw[yu (by ac_rfl)] at hx;by_cases hip:i=p
  ·subst hip;rw[ha] at hx;cases hx;by_cases BI:k∈R.map (·.1)
   ·exact .inl BI
   ·exact .inr (zs.mpr ⟨wq.mpr hk,aS.mpr ⟨BI,hl⟩⟩)
  ·exact .inl (I.cl i x (by lia) hx k hk hl)
 ·intro x hx;rcases xk.mp hx with h|h
  ·exact I.wt x h
  ·obtain ⟨k,hk,rfl⟩:=xr.mp h;have hk:=zs.mp hk;intro S h1 h2;cases hs:S a.1 with
   |true=>exact ⟨a.1,k,I.lt a NI,wq.mp hk.1,hs,h2,(aS.mp hk.2).2⟩
   |false=>exact I.wt a NI S h1 hs
 ·rw[em];exact xp _ I.fs
theorem cq (n:Nat){m:Nat->Nat->Int}{b:Nat->Nat->Bool}{f:V}{t:Int}{s:Bool}{first:Nat}(hf:Ar 3 f=true):∀(c p:Nat)(R:List (Nat×Bool))(sp:Bool),j9 m first t R p->5≤p+c ->
 ∃R' OJ,Lm ((Aw gl (n+14)).ts (tE jA) (Gp (Bs jA.body 1))) (Dm (Aw gl (n+14)) (tE jA) uo) c (kO (lk m b) f (.int t s) R (.int p sp))=some (.next,kO (lk m b) f (.int t s) R' (.int (R'.length:Int) OJ))∧j9 m first t R' R'.length:=by
 intro X
 induction X with
 |zero=>
  intro p R sp I hc;exact absurd (wp hc (wp I.le I.len)) (by decide)
 |succ c ih=>
  intro p R sp I hc;have AV:=I.len;refine (fun h=>let ⟨a,b,h,k⟩:=h;⟨a,b,Kq.trans ((oE2 (i4 n (by lia))).trans h),k⟩:(∃R' OJ,_=_∧_)->_) ?_;by_cases hp:p<R.length
  ·rw[decide_eq_true hp];have ha:R[p]?=some R[p]:=x7 hp;rw[cr n hf ha (I.lt _ (List.getElem_mem hp)) (by lia)];exact ih (p+1) _ _ (I.step ha) (wp hc (yr (Nat.succ_add ..).symm))
  ·rw[decide_eq_false hp];dsimp only;have:p=R.length:=by have:=I.le;lia
   subst this;exact ⟨R,sp,rfl,I⟩
theorem Cu {k:Nat}{m:Nat->Nat->Int}{b:Nat->Nat->Bool}:Ar k (lk m b)=true:=by
 simp only[lk,Hq,Pn,Pc,Ow,Ox,Ph,Ou,Pg,Ol,Fw,Gx]
 rfl
theorem ej {f:V->Option V}(h:∀i s,f (.int i s)=some (.int i s)):∀{R:List (Nat×Bool)},Ec f (R.map nm)=some (R.map nm):=by
 intro X
 induction X with
 |nil=>
  exact rfl
 |cons x R ih=>
  rw[x8,jX,ih];unfold nm;rw[h];rfl
theorem Zl (n:Nat){J:Aj}(O:Dw J){m:Nat->Nat->Int}{b:Nat->Nat->Bool}{first:Nat}{sf:Bool}{t:Int}{s:Bool}(hf:first<4) :
 ∃R:List (Nat×Bool),(Aw gl (n+17)).call (.fn 147) [lk m b,.int (first:Int) sf,.int t s] [] J=some (.lst (R.map nm),J)∧(∀v,v<4->(v∈R.map (·.1)↔fU m first t v)):=by
 have I0:j9 m first t [(first,sf)] 0:=by
  refine ⟨by simp,fun x hx=>?_,wz _,fun i x hi=>absurd hi (Nat.not_lt_zero _),fun x hx=>?_,.head _⟩
  ·rw[wl] at hx;subst hx;exact hf
  ·rw[wl] at hx;subst hx;exact fun S h1 h2=>by rw[h1] at h2;cases h2
 obtain ⟨R,sp,e,I⟩:=cq (n+1) (b:=b) (f:=.int (first:Int) sf) (s:=s) (by rfl) 64 0 [(first,sf)] true I0 (by decide);refine ⟨R,?_,fun v hv=>⟨fun h=>?_,fun h=>?_⟩⟩
 ·have h0:(Aw gl (n+16)).ex (tE jA) (Bs jA.body 0) (Bb++[.fr [("first",.int (first:Int) sf)],.cell (some (lk m b)),.cell (some (.int t s)),.cell none,.cell none])=some (.next,kO (lk m b) (.int (first:Int) sf) (.int t s) [(first,sf)] (.int (0:Nat) true)):=by kernel_rfl
  have he:Dm (Aw gl (n+16)) (tE jA) jA.body (Bb++[.fr [("first",.int (first:Int) sf)],.cell (some (lk m b)),.cell (some (.int t s)),.cell none,.cell none])=some (.ret (.lst (R.map nm)),kO (lk m b) (.int (first:Int) sf) (.int t s) R (.int (R.length:Int) sp)):=
   (Dr (s:=Bs jA.body 0) h0 ((Dr (s:=Bs jA.body 1) (Mi.trans e) (Cp (Fb (Bc rfl rfl rfl)) (by simp)))))
  refine Gm (bs:=[(("links":O7),lk m b),(("first":O7),.int (first:Int) sf),(("least":O7),.int t s)]) O pd rfl rfl ?_ rfl rfl he ?_
  ·rw[Ah,Cu];simp[Gu,Sg,Pn,Pc,Ow,Ox,Ph,Ou,Pg,Ol]
  ·show (Ec (By _ 3 5) (R.map nm)).map V.lst=_;exact congrArg (Option.map V.lst) (ej (f:=By _ 3 5) fun Z Z=>rfl)
 ·obtain ⟨x,hx,rfl⟩:=xr.mp h;exact I.wt x hx
 ·refine Aal fun hn=>?_;obtain ⟨i,j,hi,hj,h1,h2,h3⟩:=h (fun k=>decide (k∈R.map (·.1))) (decide_eq_true I.fs) (decide_eq_false hn);have h1:=of_decide_eq_true h1;have h2:=of_decide_eq_false h2;obtain ⟨x,hx,rfl⟩:=xr.mp h1;obtain ⟨q,hq⟩:=yj hx;exact h2 (I.cl q x (wv.mp hq).1 hq j hj h3)
section
section
variable {Bk:Aj}{p q:Pos}
theorem Lq {l r:O6}{op:CmpOp}{a b:V}{c:Bool}(hs:noSet r=true)(h1:(Aw g n).ev e l J=some (a,Ab))(h2:(Aw g n).ev e r Ab=some (b,Ai))(h3:Dx Ai op a b=some c):(Aw g (n+1)).ev e (.Compare l [op] [r] p) J=some (.bool c,Ai):=by
 rw[El];show uT (Aw g n) e l op r J=_;exact (gN hs).trans ((oE2 h1).trans ((oE2 h2).trans (oE1 h3)))
theorem Km {b:Bool}:(Aw g (n+1)).call (.ty "int") [.bool b] [] J=some (.int (if b then 1 else 0) true,J):=by
 rw[Gn];rfl
theorem Kl {a:Arguments}{body:O6}{scope:Scope}{cells:List (O7×Nat)}{x:O7}{v w w':V}{o:Cv}(ha:(Iy a 1&&a.defaults.isEmpty&&okScope scope)=true)(hx:Gq a=[x])(hn:Mp scope.names=true)(hk:scope.names.lookup x=some PB.local)
 (h:(Aw g n).ev { scope:=scope,f:=J.length,cells:=cells } body (J++[.fr [(x,v)]])=some (w,J++[o])) (hf:By (J++[o]) J.length 6 w=some w') (hc:Ci J.length J=true) :
 (Aw g (n+1)).call (.clo a body scope cells) [v] [] J=some (w',J):=by
 rw[Gn];refine (if_pos ha).trans ?_;unfold lmE;rw[aR hn,hx];show (oe1 (Em _ [(x,v)] (J++[.fr []])) none fun Bk=>_)=_;rw[show Em ({ scope:=scope,f:=J.length,cells:=cells }:As) [(x,v)] (J++[.fr []])=some (J++[.fr [(x,v)]]) from by
  rw[Yv,Au (e:={ scope:=scope,f:=J.length,cells:=cells }) (m':=[(x,v)]) hk rfl rfl]
  rfl]
 dsimp only;rw[h];dsimp only;rw[hf];dsimp only;unfold cut;rw[show (J++[o]).take J.length=J by simp,hc]
 rfl
end
def pQ (e:As):O6->V
 |.Lambda a b s _=>.clo a b s ((Fz e s.names []).getD [])
 |_=>.none
def Hv:O6->O6
 |.Call _ _ [⟨_,x,_⟩] _=>x
 |_=>.Constant .none 0 default
def iH:Ek:=(Kc 159).get (by rfl')
theorem vR:gl.D 159=some iH:=by kernel_rfl
def sv (x:Int×Bool):V:=.int x.1 x.2
def stM (row lv f l:V) (at_:List V):Aj:=Bb++[.fr (([("row",row)]:List (O7×V))++at_.map fun v=>(("at":O7),v)),.cell (some lv),.cell (some f),.cell (some l)]
def pM:V:=pQ (tE iH) (Hv (Mc (Bs (Pp (Bs iH.body 1)) 0)))
def qN:V:=pQ (tE iH) (Hv (Mc (Bs (Zs (Bs iH.body 1)) 0)))
theorem Hh {k:Nat}:∀{R:List (Int×Bool)},Di k (R.map sv)=true:=by
 intro X
 induction X with
 |nil=>
  rw[yl,Gx]
 |cons x R ih=>
  rw[x8,Fw,ih]
  rfl
variable {m:Nat->Nat->Int}{b:Nat->Nat->Bool}{row:List (Int×Bool)}{first AG:Nat}{sf sl:Bool}
abbrev Hc (m:Nat->Nat->Int) (b:Nat->Nat->Bool) (row:List (Int×Bool)) (first AG:Nat) (sf sl:Bool) (at_:List V):Aj:=stM (.lst (row.map sv)) (lk m b) (.int (first:Int) sf) (.int (AG:Int) sl) at_
theorem im {at_:List V}(h:Di 7 at_=true):Dw (Hc m b row first AG sf sl at_):=by
 refine ⟨?_,rfl⟩;have e1:∀at_:List V,Di 7 at_=true->Bg 7 (at_.map fun v=>(("at":O7),v))=true:=fun at_=>by
  induction at_ with
  |nil=>intro _;rfl
  |cons v r ih=>
   intro h;rw[Fw,wm] at h;rw[x8,Ah,h.1,ih h.2];rfl
 show Ci 7 (Hc m b row first AG sf sl at_)=true;unfold Hc stM;simp only[Bb,List.cons_append,List.nil_append,Ia,Tx,Cg,Gu,Sg,Pn,Pc,Ow,Ox,Ph,Ou,Pg,Ol,Hh,Cu,e1 at_ h]
 rfl
def wit (m:Nat->Nat->Int) (first:Nat) (t:Int) (v:Nat):Bool:=@decide (fU m first t v) (Classical.propDecidable _)
theorem Nl {t:Int}{v:Nat}:wit m first t v=true↔fU m first t v:=by unfold wit;exact @decide_eq_true_iff _ (Classical.propDecidable _)
theorem xU (n:Nat){at_:List V}(CM:Di 7 at_=true)(hf:first<4)(hl:AG<4){t:Int}{s:Bool}{kv:V}(HA:kv=pM∨kv=qN){o:Cv}(ho:Cg 8 o=true) :
 (Aw gl (n+21)).call kv [.int t s] [] (Hc m b row first AG sf sl at_++[o])=some (.int (if !wit m first t AG then 1 else 0) true,Hc m b row first AG sf sl at_++[o]):=by
 have O:Dw (Hc m b row first AG sf sl at_++[o]):=(im CM).push ho;have O2:Dw (Hc m b row first AG sf sl at_++[o]++[.fr [("least",.int t s)]]):=O.push rfl;obtain ⟨R,e,hR⟩:=Zl n O2 (m:=m) (b:=b) (first:=first) (sf:=sf) (t:=t) (s:=s) hf;have hc:Dx (Hc m b row first AG sf sl at_++[o]++[.fr [("least",.int t s)]]) .NotIn (.int (AG:Int) sl) (.lst (R.map nm))=some (!wit m first t AG):=by
  show ((u4 (AG:Int) (R.map nm)).map (!·))=_;rw[yQ];show some (!(R.any fun x=>(x.1:Int)==(AG:Int)))=_;have:(R.any fun x=>(x.1:Int)==(AG:Int))=wit m first t AG:=by
   rw[Bool.eq_iff_iff,Nl,← hR AG hl,List.any_eq_true];constructor
   ·rintro ⟨x,hx,e⟩;have:=beq_iff_eq.mp e;exact xr.mpr ⟨x,hx,by lia⟩
   ·intro h;obtain ⟨x,hx,e⟩:=xr.mp h;exact ⟨x,hx,by rw[beq_iff_eq];lia⟩
  rw[this]
 have main:∀kv,kv=pM∨kv=qN->(Aw gl (n+21)).call kv [.int t s] [] (Hc m b row first AG sf sl at_++[o])=some (.int (if !wit m first t AG then 1 else 0) true,Hc m b row first AG sf sl at_++[o]):=by
  rintro kv (rfl|rfl)
  ·exact Kl (x:="least") rfl rfl rfl rfl ((Cl rfl rfl rfl (Ae rfl (Lq rfl (Dk (Es rfl rfl rfl)) ((Cl rfl rfl rfl (Ae rfl (Dk (Es rfl rfl rfl)) (Ae rfl (Dk (Es rfl rfl rfl)) (Ae rfl (Ad rfl Af rfl) Al))) Bf).trans e) hc) Al) Bf).trans Km) rfl O.cl
  ·exact Kl (x:="least") rfl rfl rfl rfl ((Cl rfl rfl rfl (Ae rfl (Lq rfl (Dk (Es rfl rfl rfl)) ((Cl rfl rfl rfl (Ae rfl (Dk (Es rfl rfl rfl)) (Ae rfl (Dk (Es rfl rfl rfl)) (Ae rfl (Ad rfl Af rfl) Al))) Bf).trans e) hc) Al) Bf).trans Km) rfl O.cl
 exact main kv HA
def stC (m:Nat->Nat->Int) (row:List (Int×Bool)) (first AG:Nat) (i:Nat):Bool:=match row[i]? with
 |some x=>wit m first x.1 AG
 |none=>false
theorem Pd {i:Nat}{x:Int×Bool}(h:row[i]?=some x):stC m row first AG i=wit m first x.1 AG:=by unfold stC;rw[h]
theorem fU.mono {t u:Int}{v:Nat}(h:u≤t)(w:fU m first t v):fU m first u v:=fun S h1 h2=>by
 obtain ⟨i,j,a,b,c,d,e⟩:=w S h1 h2;exact ⟨i,j,a,b,c,d,by lia⟩
def w8 (row:List (Int×Bool)):Prop:=∀(i j:Nat) (x y:Int×Bool),i≤j->row[i]?=some x->row[j]?=some y->x.1≤y.1
theorem fJ (hr:w8 row):∀i j,i≤j->j<(row.map sv).length->stC m row first AG j=true->stC m row first AG i=true:=by
 intro i j AO hj h;rw[wn] at hj;have e1:row[j]?=some row[j]:=x7 hj;have e2:row[i]?=some (row[i]'(by ac_rfl)):=x7 _;rw[Pd e1] at h;rw[Pd e2];exact Nl.mpr ((Nl.mp h).mono (hr i j _ _ AO e2 e1))
theorem fb (n:Nat)(hf:first<4)(hl:AG<4){kv:V}(HA:kv=pM∨kv=qN):Ic (n+21) (Hc m b row first AG sf sl []) kv (row.map sv) (fun i w=>Mf w (Bi 1)=some (stC m row first AG i)):=by
 intro i v hv;rw[x6] at hv;cases hx:row[i]? with
 |none=>rw[hx] at hv;cases hv
 |some x=>
  rw[hx] at hv;cases hv;refine ⟨_,?_,fun o ho=>xU n rfl hf hl HA ho⟩;dsimp only;rw[Pd hx];cases wit m first x.1 AG<;>rfl
theorem c9 (n:Nat)(hf:first<4)(hl:AG<4){kv:V}(HA:kv=pM∨kv=qN):Ic (n+21) (Hc m b row first AG sf sl []) kv (row.map sv) (fun i w=>Mf (Bi 0) w=some (!stC m row first AG i)):=by
 intro i v hv;rw[x6] at hv;cases hx:row[i]? with
 |none=>rw[hx] at hv;cases hv
 |some x=>
  rw[hx] at hv;cases hv;refine ⟨_,?_,fun o ho=>xU n rfl hf hl HA ho⟩;dsimp only;rw[Pd hx];cases wit m first x.1 AG<;>rfl
def Sd (m:Nat->Nat->Int) (row:List (Int×Bool)) (first AG:Nat) (x:Int):Prop:=
 (x=0∧∀y∈row,¬fU m first y.1 AG)∨((∃y∈row,y.1=x)∧fU m first x AG∧∀y∈row,fU m first y.1 AG->y.1≤x)
theorem cz (n:Nat)(hf:first<4)(hl:AG<4)(AX:first≠AG)(hr:w8 row)(hz:row.length≤1000):∃x s p q,Dm (Aw gl (n+40)) (tE iH) iH.body (Hc m b row first AG sf sl [])=some (.ret (.int x s),Hc m b row first AG sf sl [.int p q])∧Sd m row first AG x:=by
 have AV:(row.map sv).length≤1000000:=by rw[wn];lia
 have O:=im (m:=m) (b:=b) (row:=row) (first:=first) (AG:=AG) (sf:=sf) (sl:=sl) (at_:=[]) rfl;have BZ:Bu (Hc m b row first AG sf sl []) (.lst (row.map sv))=some (row.map sv):=rfl;have IC:Ar ((Hc m b row first AG sf sl []).length+1) (.lst (row.map sv))=true:=by
  exact Hh
 have h0:Dx (Hc m b row first AG sf sl []) .Eq (.int (first:Int) sf) (.int (AG:Int) sl)=some false:=by
  show some ((first:Int)==(AG:Int))=_;rw[beq_eq_false_iff_ne.mpr (by lia)]
 have EW:∀J,Nz J .Mod (.int ((first:Int)+(AG:Int)) false) (Bi 2)=some (.int (((first:Int)+AG).fmod 2) true,J):=fun J=>rfl;have CM:∃(r:Nat) (p':Bool),Dm (Aw gl (n+40)) (tE iH) iH.body (Hc m b row first AG sf sl [])=Dm (Aw gl (n+40)) (tE iH) (iH.body.drop 2) (Hc m b row first AG sf sl [.int r p'])∧r≤row.length∧(∀i,i<r->stC m row first AG i=true)∧(∀i,r≤i->i<row.length->stC m row first AG i=false):=by
  by_cases hm:(((first:Int)+AG).fmod 2 != 0)=true
  ·obtain ⟨r,p',e,-,e2,e3,e4⟩:=bV (lo:=0) (hi:=(row.map sv).length) (p:=true) (q:=true) (n+22) (args:=[.lst (row.map sv),Bi 1]) (AJ:=[(("key":O7),pM)]) (hv:=.none) (x:=Bi 1) O BZ AV (fb (n+10) hf hl (.inl rfl)) rfl rfl ⟨IC,rfl,rfl⟩ rfl (fJ hr) rfl (.inl ⟨rfl,rfl⟩);rw[wn] at e2 e4;refine ⟨r,p',?_,e2 (wz _),fun i h=>e3 i (wz _) h,e4⟩;refine (Am ((Cb (Bd rfl (Bc rfl rfl rfl) (Bc rfl rfl rfl) h0)).trans Ax)).trans ?_;have CV:(Aw gl (n+37)).ev (tE iH) (Hv (Mc (Bs (Pp (Bs iH.body 1)) 0))) (Hc m b row first AG sf sl [])=some (pM,Hc m b row first AG sf sl []):=by rfl
   exact Am ((Cb (c:=true) (Gv rfl (Bw (Bw (Bc rfl rfl rfl) (Bc rfl rfl rfl) rfl) Aq (EW _)) (congrArg some hm))).trans ((Am (Cz rfl rfl ((Cl rfl rfl rfl (Ae rfl (Ad rfl rfl rfl) (Ae rfl Aq Al)) (Ho CV Bf)).trans e) (Au (J:=Bb) rfl rfl rfl))).trans Ax))
  ·have hm:(((first:Int)+AG).fmod 2 != 0)=false:=Bool.eq_false_iff.mpr hm;obtain ⟨r,p',e,-,e2,e3,e4⟩:=cP (lo:=0) (hi:=(row.map sv).length) (p:=true) (q:=true) (n+22) (args:=[.lst (row.map sv),Bi 0,Bi 0,.int ((row.map sv).length:Int) true]) (AJ:=[(("key":O7),qN)]) (hv:=.int ((row.map sv).length:Int) true) (x:=Bi 0) O BZ AV (c9 (n+10) hf hl (.inr rfl)) rfl rfl ⟨IC,rfl,rfl⟩ rfl (fJ hr) rfl (.inr ⟨rfl,wu _⟩);rw[wn] at e2 e4;refine ⟨r,p',?_,e2 (wz _),fun i h=>e3 i (wz _) h,e4⟩;refine (Am ((Cb (Bd rfl (Bc rfl rfl rfl) (Bc rfl rfl rfl) h0)).trans Ax)).trans ?_;exact Am ((Cb (c:=false) (Gv rfl (Bw (Bw (Bc rfl rfl rfl) (Bc rfl rfl rfl) rfl) Aq (EW _)) (congrArg some hm))).trans ((Am (Cz rfl rfl ((Cl rfl rfl rfl (Ae rfl (Ad rfl rfl rfl) (Ae rfl Aq (Ae rfl Aq (Ae rfl ((Cl rfl rfl rfl (Ae rfl (Ad rfl rfl rfl) Al) Bf).trans (Jo BZ AV)) Al)))) (Ho (show (Aw gl (n+37)).ev (tE iH) (Hv (Mc (Bs (Zs (Bs iH.body 1)) 0))) (Hc m b row first AG sf sl [])=some (qN,Hc m b row first AG sf sl []) from by rfl) Bf)).trans e) (Au (J:=Bb) rfl rfl rfl))).trans Ax))
 obtain ⟨r,p',e,hr1,LL,OO⟩:=CM;by_cases h:r=0
 ·subst h;refine ⟨0,true,_,_,e.trans (Cp (Fb (Gk (c:=false) (Gv rfl (Ad rfl rfl rfl) rfl) Aq)) (by simp)),.inl ⟨rfl,fun y hy hw=>?_⟩⟩;obtain ⟨i,hi⟩:=yj hy;have:=OO i (wz _) (wv.mp hi).1;rw[Pd hi] at this;exact absurd (Nl.mpr hw) (by rw[this];simp)
 ·have AZ:r-1<row.length:=xd (Nat.sub_lt (Nat.pos_of_ne_zero h) Nat.one_pos) hr1;have ex:row[r-1]?=some row[r-1]:=x7 AZ;have hit:Eb (Hc m b row first AG sf sl [.int r p']) (.lst (row.map sv)) (.int ((r:Int)-1) false)=some (sv row[r-1]):=by
   have h:=Ha (J:=Hc m b row first AG sf sl [.int r p']) (a:=.lst (row.map sv)) (v:=sv row[r-1]) (l:=row.map sv) (i:=r-1) (s:=false) (r:=[]) rfl (by lia) (by rw[x6,ex];rfl);rwa [show ((r-1:Nat):Int)=(r:Int)-1 from Int.ofNat_sub (Nat.pos_of_ne_zero ‹_›)] at h
  have ht:On (Hc m b row first AG sf sl [.int r p']) (.int (r:Int) p')=some true:=by
   show some ((r:Int) != 0)=_;rw[bne_iff_ne.mpr (by lia)]
  refine ⟨row[r-1].1,row[r-1].2,_,_,e.trans (Cp (Fb (Gk (c:=true) (Gv rfl (Ad rfl rfl rfl) ht) (Bj rfl (Ad rfl rfl rfl) (Bw (Ad rfl rfl rfl) Aq rfl) hit))) (by simp)),.inr ⟨(Mine.w12 _ (List.getElem_mem AZ) rfl),?_,fun y hy hw=>?_⟩⟩
  ·have:=LL (r-1) (Nat.sub_lt (Nat.pos_of_ne_zero h) Nat.one_pos);rw[Pd ex] at this;exact Nl.mp this
  ·obtain ⟨i,hi⟩:=yj hy;have hil:=(wv.mp hi).1;by_cases hir:i≤r-1
   ·exact hr i (r-1) y _ hir hi ex
   ·have:=OO i (Nat.le_of_pred_lt (zj hir)) hil;rw[Pd hi] at this;exact absurd (Nl.mpr hw) (by rw[this];simp)
theorem Ul (n:Nat){J:Aj}(O:Dw J)(hf:first<4)(hl:AG<4)(hr:w8 row)(hz:row.length≤1000):∃x s,(Aw gl (n+41)).call (.fn 159) [.lst (row.map sv),lk m b,.int (first:Int) sf,.int (AG:Int) sl] [] J=some (.int x s,J)∧(first=AG->x=0)∧(first≠AG->Sd m row first AG x):=by
 have hc:Bg 3 [(("row":O7),.lst (row.map sv)),(("links":O7),lk m b),(("first":O7),.int (first:Int) sf),(("last":O7),.int (AG:Int) sl)]=true:=by
  rw[Ah,Ah,Cu,wm];refine ⟨?_,by simp[Gu,Sg,Pn,Pc,Ow,Ox,Ph,Ou,Pg,Ol]⟩;exact Hh
 by_cases h:first=AG
 ·refine ⟨0,true,?_,fun Z=>rfl,fun z=>absurd h z⟩;have h0:Dx (Hc m b row first AG sf sl []) .Eq (.int (first:Int) sf) (.int (AG:Int) sl)=some true:=by
   show some ((first:Int)==(AG:Int))=_;rw[beq_iff_eq.mpr (by lia)]
  exact Gm (bs:=[(("row":O7),.lst (row.map sv)),(("links":O7),lk m b),(("first":O7),.int (first:Int) sf),(("last":O7),.int (AG:Int) sl)]) O vR rfl rfl hc rfl rfl (Cp ((Cb (Bd rfl (Bc rfl rfl rfl) (Bc rfl rfl rfl) h0)).trans (Cp (Fb Aq) (by simp))) (by simp)) rfl
 ·obtain ⟨x,s,p,q,e,hs⟩:=cz n hf hl h hr hz (m:=m) (b:=b) (sf:=sf) (sl:=sl);exact ⟨x,s,Gm (bs:=[(("row":O7),.lst (row.map sv)),(("links":O7),lk m b),(("first":O7),.int (first:Int) sf),(("last":O7),.int (AG:Int) sl)]) O vR rfl rfl hc rfl rfl e rfl,fun z=>absurd z h,fun Z=>hs⟩
end
theorem Im {α:Type}{ι:α->V}{body:V->Aj->Option (Fl×Aj)}{s:Gh}{l:List α}{St:List α->Aj->Prop}(hn:∀pre J k,St pre J->Da J s k=some (l.map ι)[k]?)
 (hb:∀pre v J,St pre J->(∃B3,l=pre++v::B3)->∃Av,body (ι v) J=some (.next,Av)∧St (pre++[v]) Av) :
 ∀(AM pre:List α) (J:Aj),l=pre++AM->St pre J->∃Av,Mt body s (AM.length+1) pre.length J=some (.next,Av)∧St l Av:=by
 intro X
 induction X with
 |nil=>
  intro pre J hl S;rw[xx] at hl;subst hl;have h:(l.map ι)[l.length]?=none:=by simp
  exact ⟨J,Qe (by rw[hn _ J _ S,h]),S⟩
 |cons v AM ih=>
  intro pre J hl S;have h:(l.map ι)[pre.length]?=some (ι v):=by rw[hl];simp
  obtain ⟨Nu,e1,S1⟩:=hb pre v J S ⟨AM,hl⟩;obtain ⟨bD,e2,S2⟩:=ih (pre++[v]) Nu (by rw[hl,xj];rfl) S1;refine ⟨bD,?_,S2⟩;rw[xb] at e2;exact (Nd (by rw[hn _ J _ S,h]) e1).trans e2
theorem dD {α β:Type}{L:Lv}{g:Gl}{e:As}{scope:Scope}{J:Aj}{cl:List (O7×Nat)}{em:As->Aj->List V->Option (List V×Aj)}{i1 i2:O6}{A8:List O6}{s1:Gh}{p1 p2:Pos}{as:List α}{bs:α->List β}(x1 x2:O7)(zK:α->V)(jq:β->V)(s2:α->Gh)(P:α->β->Bool)(h:α->β->V)
 (hs:Hx g L e i1 J=some (s1,J)) (ht:(okTgt s1 (.Name x1 p1)&&Fg s1)=true) (hn:∀r k,Da (J++r) s1 k=some (as.map zK)[k]?) (AV:Me (J++[.fr []]) s1=as.length) (GK:as.length≤30) (F7:∀a∈as,(bs a).length≤30)
 (hk:(okScope (Jx e scope)&&okScope scope&&Iq scope)=true) (hc:Fz e scope.names []=some cl) (hy:Mp scope.names=true) (JR:(cE e scope J cl).kind x1=some .local) (OH:(cE e scope J cl).kind x2=some .local) (AX:(x1==x2)=false)
 (EH:∀a∈as,∀m:List (O7×V),m.lookup x1=some (zK a)->Hx g L (cE e scope J cl) i2 (J++[.fr m])=some (s2 a,J++[.fr m])) (DE:∀a∈as,(okTgt (s2 a) (.Name x2 p2)&&Fg (s2 a))=true) (JO:∀a∈as,∀r k,Da (J++r) (s2 a) k=some ((bs a).map jq)[k]?) (G8:∀a∈as,∀m,Me (J++[.fr m]) (s2 a)=(bs a).length)
 (FW:∀a∈as,∀b∈bs a,Qc L (cE e scope J cl) A8 (J++[.fr [(x1,zK a),(x2,jq b)]])=some (P a b,J++[.fr [(x1,zK a),(x2,jq b)]]))
 (BW:∀a∈as,∀b∈bs a,P a b=true->Qz (em (cE e scope J cl)) (J++[.fr [(x1,zK a),(x2,jq b)]]) (h a b))
 (B6:∀a∈as,∀b∈bs a,P a b=true->∀m,By m J.length 6 (h a b)=some (h a b)) (hm:Ci J.length J=true) :
 Gd g L e scope [⟨.Name x1 p1,i1,[],0⟩,⟨.Name x2 p2,i2,A8,0⟩] em J=some (as.flatMap (fun a=>((bs a).filter (P a)).map (h a)),J):=by
 have C8:∀(a:α) (l:List β),l.flatMap (fun b=>if P a b then [h a b] else [])=(l.filter (P a)).map (h a):=fun a l=>by
  induction l with
  |nil=>rfl
  |cons v r ih=>
   rw[List.flatMap_cons,ih,List.filter_cons];cases P a v<;>simp
 have q1:∀(u v:V) r,put ((x1,u)::r) x1 v=(x1,v)::r:=fun u v r=>by rw[Kk,if_pos (by simp)]
 have q2:∀(u v:V),put [(x1,u)] x2 v=[(x1,u),(x2,v)]:=fun u v=>by
  rw[Kk,if_neg (by rw[show (x2==x1)=(x1==x2) from Bool.beq_comm,AX];simp)];rfl
 have q3:∀(u w v:V),put [(x1,u),(x2,w)] x2 v=[(x1,u),(x2,v)]:=fun u w v=>by
  rw[Kk,if_neg (by rw[show (x2==x1)=(x1==x2) from Bool.beq_comm,AX];simp),Kk,if_pos (by simp)]
 have l1:∀(u:V) r,((x1,u)::r).lookup x1=some u:=fun u r=>by simp[List.lookup]
 refine bz (ι:=zK) 30 (St:=fun m=>m=J++[.fr []]∨(∃u,m=J++[.fr [(x1,u)]])∨∃u v,m=J++[.fr [(x1,u),(x2,v)]]) hs ht (fun m k S=>by rcases S with rfl|⟨u,rfl⟩|⟨u,v,rfl⟩<;>exact hn _ _) AV hk hc hy ?_ ?_ (.inl rfl) ?_ ?_ hm
 ·intro m a AD ha S DX;have D9:∃r,(r=[]∨∃v,r=[(x2,v)])∧Cy (cE e scope J cl) (.Name x1 p1) (zK a) m=some (J++[.fr ((x1,zK a)::r)]):=by
   rcases S with rfl|⟨u,rfl⟩|⟨u,v,rfl⟩
   ·exact ⟨[],.inl rfl,Ap (Au JR rfl rfl)⟩
   ·exact ⟨[],.inl rfl,Ap (Au JR rfl (q1 _ _ _))⟩
   ·exact ⟨[(x2,v)],.inr ⟨v,rfl⟩,Ap (Au JR rfl (q1 _ _ _))⟩
  obtain ⟨r,hr,D9⟩:=D9;obtain ⟨m2,S2,e2⟩:=Wl (ι:=jq) AD.length 1 (body:=Pj g L (cE e scope J cl) em (.Name x2 p2) A8 []) (s:=s2 a) (St:=fun m=>(∃r,(r=[]∨∃v,r=[(x2,v)])∧m=J++[.fr ((x1,zK a)::r)])) (l:=bs a) (f:=fun b=>if P a b then [h a b] else []) (fun m k S=>by
   obtain ⟨r,_,rfl⟩:=S;exact JO a ha _ _) (fun m b BA hb S' MT=>by
    have DP:Cy (cE e scope J cl) (.Name x2 p2) (jq b) m=some (J++[.fr [(x1,zK a),(x2,jq b)]]):=by
     obtain ⟨r,hr,rfl⟩:=S';rcases hr with rfl|⟨v,rfl⟩
     ·exact Ap (Au OH rfl (q2 _ _))
     ·exact Ap (Au OH rfl (q3 _ _ _))
    refine ⟨_,(Mine.w12 ([(x2,jq b)]) (.inr ⟨_,rfl⟩) rfl),?_⟩;unfold Pj;rw[DP];dsimp only;rw[FW a ha b hb];cases hP:P a b with
    |false=>simp
    |true=>
     have h1:=F7 a ha;exact BW a ha b hb hP BA (by lia)) (fun b Z=>by split<;>simp) (bs a) [] AD (J++[.fr ((x1,zK a)::r)]) rfl (Mine.w12 r hr rfl) (y9 _ _)
  refine ⟨m2,?_,?_⟩
  ·obtain ⟨r,hr,rfl⟩:=S2;rcases hr with rfl|⟨v,rfl⟩
   ·exact .inr (.inl ⟨_,rfl⟩)
   ·exact .inr (.inr (Mine.e2 _ _ rfl))
  ·unfold Pj;rw[D9];dsimp only;rw[ee];dsimp only;rw[EH a ha _ (l1 _ _)];dsimp only;rw[nP,if_neg (show ¬(!(okTgt (s2 a) (.Name x2 p2)&&Fg (s2 a)&&(0:Int)==0))=true from by rw[DE a ha];decide),G8 a ha,← C8];exact e2
 ·intro a ha;rw[wn];exact wp (List.length_filter_le _ _) (F7 a ha)
 ·intro m S;rcases S with rfl|⟨u,rfl⟩|⟨u,v,rfl⟩<;>exact ⟨_,Af,by simp⟩
 ·intro u hu m;obtain ⟨a,ha,hu⟩:=List.mem_flatMap.mp hu;obtain ⟨b,hb,rfl⟩:=xr.mp hu;have hb:=zs.mp hb;exact B6 a ha b hb.1 hb.2 m
section
def Ed:PC->O6
 |.If t _ _ _=>t
 |_=>.Constant .none 0 default
def Rj:PC->O6
 |.For _ i _ _ _=>i
 |_=>.Constant .none 0 default
def Xa:Ek:=(Kc 152).get (by rfl')
theorem kj:gl.D 152=some Xa:=by kernel_rfl
section
variable {Bk:Aj}{p q:Pos}
theorem pU {L:Lv}{AW:O6}{gens:List PA}{scope:Scope}{vs:List V}(h:L.ev e (.ListComp AW gens scope p) J=some (.lst vs,Ab)):Hx g L e (.ListComp AW gens scope p) J=some (.seq (.lst vs),Ab):=by
 unfold Hx;dsimp only;unfold Wc;rw[h]
 rfl
end
theorem pA {l:List V}{r:Nat}(h:r≤l.length):Pi l (some (r:Int)) (some ((r:Int)+1))=(l.drop r).take 1:=by
 unfold Pi;show (l.drop (clipAt l.length (r:Int))).take (clipAt l.length ((r:Int)+1)-clipAt l.length (r:Int))=_;rw[show (r:Int)+1=((r+1:Nat):Int) by lia,Wa,Wa,Nat.min_eq_left h];by_cases hr:r=l.length
 ·subst hr;simp
 ·rw[Nat.min_eq_left (by lia),Nat.add_sub_cancel_left]
def gd (m:Nat->Nat->Int) (b:Nat->Nat->Bool) (i:Nat):List (Int×Bool):=[(m i 0,b i 0),(m i 1,b i 1),(m i 2,b i 2),(m i 3,b i 3)]
def Tn (m:Nat->Nat->Int) (b:Nat->Nat->Bool):List (Int×Bool):=(PF 4).flatMap fun i=>(gd m b i).filter fun x=>x.1 != 0
variable {m:Nat->Nat->Int}{b:Nat->Nat->Bool}
def Re (m:Nat->Nat->Int) (b:Nat->Nat->Bool) (R:List (Int×Bool)) (t:List (O7×V)):Aj:=Bb++[.fr (([("links",lk m b),("row",.ref 4)]:List (O7×V))++t),.lst (R.map sv)]
def ew (x:Int×Bool) (v:V):List (O7×V):=[("strength",sv x),("at",v)]
def ldT (t:List (O7×V)):Prop:=t=[]∨∃(x:Int×Bool) (y:Int) (w:Bool),t=ew x (.int y w)
theorem Hp {k:Nat}{x:Int×Bool}:Ar k (sv x)=true:=rfl
theorem wS {R:List (Int×Bool)}{t:List (O7×V)}(h:Bg 5 t=true):Dw (Re m b R t):=by
 refine ⟨?_,rfl⟩;show Ci 5 (Re m b R t)=true;unfold Re;simp only[Bb,List.cons_append,List.nil_append,Ia,Tx,Cg,Gu,Sg,Pn,Pc,Ow,Ox,Ph,Ou,Pg,Ol,Hh,Cu,h]
 rfl
theorem c0 (n:Nat):(Aw gl (n+20)).ev (tE Xa) (Rj (Bs Xa.body 1)) (Re m b [] [])=some (.lst ((Tn m b).map sv),Re m b [] []):=by
 have h:(Tn m b).map sv=(PF 4).flatMap fun i=>((gd m b i).filter fun x=>x.1 != 0).map sv:=by
  unfold Tn;rw[List.map_flatMap]
 rw[h];refine Cq ?_;refine dD (J:=Re m b [] []) "link" "one" (Hq m b) sv (fun i=>.seq (Hq m b i)) (fun Z x=>x.1 != 0) (fun Z x=>sv x) (s1:=.seq (lk m b)) (by exact Eo (Ad rfl rfl rfl) rfl) (by rfl) (fun r k=>rfl) (by rfl) (by decide) (fun a Z=>by show 4≤30;decide)
  (by rfl) (by rfl) (by rfl) (by rfl) (by rfl) (by rfl') (fun a Z m h=>?_) (fun Z Z=>rfl) (fun a Z r k=>rfl) (fun Z Z Z=>rfl) (fun a Z x Z=>?_) (fun a Z x Z Z=>?_) (fun a Z x Z Z m=>rfl) (wS rfl).cl
 ·exact Eo (Ad rfl Af h) rfl
 ·exact Lj (Gv rfl (Ad rfl Af rfl) rfl)
 ·exact Bo (Ad rfl Af rfl)
structure zO (R pre:List (Int×Bool)):Prop where
 st:R.Pairwise fun x y=>x.1<y.1
 mm:∀y,y∈R.map (·.1)↔y∈pre.map (·.1)
 ln:R.length≤pre.length
theorem Sa {R:List (Int×Bool)}(h:R.Pairwise fun x y=>x.1<y.1){i j:Nat}{x y:Int×Bool}(hi:R[i]?=some x)(hj:R[j]?=some y)(AO:i<j):x.1<y.1:=by
 obtain ⟨h1,rfl⟩:=wv.mp hi;obtain ⟨h2,rfl⟩:=wv.mp hj;exact Aaj.mp h i j h1 h2 AO
theorem u5 (J:Aj){l:List (Int×Bool)}{r:Nat}{x:Int×Bool}:Dx J .NotEq (.lst (((l.map sv).drop r).take 1)) (.lst [sv x])=some (match l[r]? with|some y=>!(y.1==x.1)|none=>true):=by
 rw[← List.map_drop,← List.map_take];cases h:l[r]? with
 |none=>
  have:l.drop r=[]:=List.drop_eq_nil_of_le (List.getElem?_eq_none_iff.mp h);rw[this]
  rfl
 |some y=>
  have:l.drop r=y::l.drop (r+1):=by
   obtain ⟨h1,rfl⟩:=wv.mp h;exact Aac h1
  rw[this,List.take_succ_cons,List.take_zero,List.map_singleton];show (Rc J 8 (.lst [sv y]) (.lst [sv x])).map (!·)=_;show (some ((y.1==x.1)&&true)).map (!·)=_;simp
def ldB (n:Nat):V->Aj->Option (Fl×Aj):=fun v J=>oe1 (Cy (tE Xa) (Ee (Bs Xa.body 1)) v J) none fun Ai=>Dm (Aw gl (n+30)) (tE Xa) (Bq (Bs Xa.body 1)) Ai
theorem bh (n:Nat){R pre:List (Int×Bool)}{t:List (O7×V)}{x:Int×Bool}(ht:ldT t)(I:zO R pre)(hl:pre.length≤1000) :
 ∃R' t',ldB n (sv x) (Re m b R t)=some (.next,Re m b R' t')∧ldT t'∧zO R' (pre++[x]):=by
 have hR:R.length≤1000:=by have:=I.ln;ac_rfl
 have hz:(R.map sv).length≤1000000:=by rw[wn];lia
 have D9:∃t1,Cy (tE Xa) (Ee (Bs Xa.body 1)) (sv x) (Re m b R t)=some (Re m b R t1)∧(∀v,put t1 ("at":O7) v=ew x v)∧t1.lookup ("strength":O7)=some (sv x)∧Bg 5 t1=true∧(∀s:O7,(s=="links")=false->(s=="row")=false->∀v,put (([("links",lk m b),("row",.ref 4)]:List (O7×V))++t1) s v=([("links",lk m b),("row",.ref 4)]:List (O7×V))++put t1 s v):=by
  rcases ht with rfl|⟨x',y,w,rfl⟩
  ·exact ⟨[("strength",sv x)],Ap (Au (J:=Bb) rfl rfl rfl),fun Z=>rfl,rfl,rfl,fun s h1 h2 v=>by
    rw[yi,Kk,h1];rw[yi,Kk,h2]
    rfl⟩
  ·exact ⟨ew x (.int y w),Ap (Au (J:=Bb) rfl rfl rfl),fun Z=>rfl,rfl,rfl,fun s h1 h2 v=>by
    rw[yi,Kk,h1];rw[yi,Kk,h2]
    rfl⟩
 obtain ⟨t1,D9,KN,DE,ht3,NO⟩:=D9;unfold ldB;rw[D9];dsimp only;have O1:Dw (Re m b R t1):=wS ht3
 let c1:Nat->Bool:=fun i=>match R[i]? with|some y=>decide (y.1<x.1)|none=>false
 have E9:∀i v,(R.map sv)[i]?=some v->Mf v (sv x)=some (c1 i):=fun i v h=>by
  rw[x6] at h;cases hx:R[i]? with
  |none=>rw[hx] at h;cases h
  |some y=>
   rw[hx] at h;cases h;show some (decide (y.1<x.1))=some (match R[i]? with|some y=>decide (y.1<x.1)|none=>false);rw[hx]
 have JS:∀{i:Nat}{y:Int×Bool},R[i]?=some y->c1 i=decide (y.1<x.1):=fun {i y} h=>by
  show (match R[i]? with|some y=>decide (y.1<x.1)|none=>false)=_;rw[h]
 have EC:∀{i:Nat},i<R.length->∃y,R[i]?=some y:=fun {i} h=>⟨_,x7 h⟩;have FJ:∀i j,i≤j->j<(R.map sv).length->c1 j=true->c1 i=true:=fun i j AO hj h=>by
  rw[wn] at hj;obtain ⟨y,hy⟩:=EC hj;obtain ⟨z,C6⟩:=EC (xe AO hj);rw[JS hy,decide_eq_true_eq] at h;rw[JS C6,decide_eq_true_eq];by_cases e:i=j
  ·subst e;rw[hy] at C6;cases C6;exact h
  ·have:=Sa I.st C6 hy (by lia)
   lia
 have EA:Bu (Re m b R t1) (.ref 4)=some (R.map sv):=rfl;obtain ⟨r,p',e,-,e2,e3,e4⟩:=Vi (lo:=0) (hi:=(R.map sv).length) (p:=true) (q:=true) (n+13) (args:=[.ref 4,sv x]) (AJ:=[]) (hv:=.none) O1 EA hz E9 FJ rfl (.inl ⟨rfl,rfl⟩);rw[wn] at e2 e4;have hr:r≤R.length:=e2 (wz _);have BM:Dj (tE Xa) "at" (.int (r:Int) p') (Re m b R t1)=some (Re m b R (ew x (.int (r:Int) p'))):=by
  refine Au (J:=Bb) rfl rfl ?_;rw[NO _ (by rfl') (by rfl'),KN]
 have GT:Ur (Re m b R (ew x (.int (r:Int) p'))) (.ref 4) (.int (r:Int) p') (.int ((r:Int)+1) false)=some (.lst (((R.map sv).drop r).take 1)):=by
  show (if Nat.ble (R.map sv).length 1000000 then some (V.lst (Pi (R.map sv) (some (r:Int)) (some ((r:Int)+1)))) else none)=_;rw[if_pos (xg hz),pA (by rw[wn];exact hr)]
 have AS:∀{c:Bool},(match R[r]? with|some y=>!(y.1==x.1)|none=>true)=c->(Aw gl (n+29)).ts (tE Xa) (Ed (Bs (Bq (Bs Xa.body 1)) 1)) (Re m b R (ew x (.int (r:Int) p')))=some (c,Re m b R (ew x (.int (r:Int) p'))):=fun h=>by
  refine Bd rfl (Kn (Ad rfl rfl rfl) (Jh (Ad rfl rfl rfl)) (Jh (Bw (Ad rfl rfl rfl) Aq rfl)) GT) (Qr rfl (Ae rfl (Ad rfl rfl rfl) Al)) ?_;rw[u5,h]
 have H9:Dm (Aw gl (n+30)) (tE Xa) (Bq (Bs Xa.body 1)) (Re m b R t1)=Dm (Aw gl (n+30)) (tE Xa) ((Bq (Bs Xa.body 1)).drop 1) (Re m b R (ew x (.int (r:Int) p'))):=
  Am (Cz rfl rfl ((Cl rfl rfl rfl (Ae rfl (Ad rfl rfl rfl) (Ae rfl (Ad rfl rfl (show (([("links",lk m b),("row",.ref 4)]:List (O7×V))++t1).lookup ("strength":O7)=_ from DE)) Al)) Bf).trans e) BM)
 have IM:∀{R':List (Int×Bool)},(∀y,y∈R'.map (·.1)↔y∈R.map (·.1)∨y=x.1)->∀y,y∈R'.map (·.1)↔y∈(pre++[x]).map (·.1):=fun h y=>by
  rw[h,I.mm,yc,xk,List.map_singleton,wl]
 by_cases BI:(match R[r]? with|some y=>!(y.1==x.1)|none=>true)=true
 ·
  have JG:∀y,R[r]?=some y->y.1≠x.1:=fun y h=>by
   rw[h] at BI;simpa using BI
  have O2:Dw (Re m b R (ew x (.int (r:Int) p'))):=wS rfl
  let c2:Nat->Bool:=fun i=>match R[i]? with|some y=>!decide (x.1<y.1)|none=>false
  have HU:∀{i:Nat}{y:Int×Bool},R[i]?=some y->c2 i = !decide (x.1<y.1):=fun {i y} h=>by
   show (match R[i]? with|some y=>!decide (x.1<y.1)|none=>false)=_;rw[h]
  have E2:∀i v,(R.map sv)[i]?=some v->Mf (sv x) v=some (!c2 i):=fun i v h=>by
   rw[x6] at h;cases hx:R[i]? with
   |none=>rw[hx] at h;cases h
   |some y=>
    rw[hx] at h;cases h;rw[HU hx,Bool.not_not]
    rfl
  have D0:∀i j,i≤j->j<(R.map sv).length->c2 j=true->c2 i=true:=fun i j AO hj h=>by
   rw[wn] at hj;obtain ⟨y,hy⟩:=EC hj;obtain ⟨z,C6⟩:=EC (xe AO hj);rw[HU hy,zh,decide_eq_false_iff_not] at h;rw[HU C6,zh,decide_eq_false_iff_not];by_cases e:i=j
   ·subst e;rw[hy] at C6;cases C6;exact h
   ·have:=Sa I.st C6 hy (by lia)
    lia
  obtain ⟨q,eq,hq,q3,q4⟩:=wT (n+6) (x:=sv x) O2 (j:=4) (l:=R.map sv) rfl (by decide) hz Hp E2 D0;rw[wn] at hq q4;have GD:∀{i y},i<q->R[i]?=some y->y.1<x.1:=fun {i y} hi hy=>by
   have h1:=q3 i hi;rw[HU hy,zh,decide_eq_false_iff_not] at h1;have:y.1≠x.1:=fun he=>by
    by_cases hir:i<r
    ·have:=e3 i (wz _) hir;rw[JS hy,decide_eq_true_eq] at this
     lia
    ·by_cases hir2:i=r
     ·subst hir2;exact JG y hy he
     ·obtain ⟨z,C6⟩:=EC (i:=r) (xe (zf hir) (wv.mp hy).1);have h2:=e4 r (wu _) (wv.mp C6).1;rw[JS C6,decide_eq_false_iff_not] at h2;have:=Sa I.st C6 hy (by lia)
      lia
   lia
  have IR:∀{i y},q≤i->R[i]?=some y->x.1<y.1:=fun {i y} hi hy=>by
   have h1:=q4 i hi (wv.mp hy).1;rw[HU hy] at h1;simpa using h1
  refine ⟨R.take q++x::R.drop q,_,H9.trans ((Dr ((Cb (AS BI)).trans ((Am (Lo rfl ((Cl rfl rfl rfl (Ae rfl (Ad rfl rfl rfl) (Ae rfl (Ad rfl rfl rfl) Al)) Bf).trans eq))).trans Ax)) (Ax.trans ?_))),.inr ⟨x,(r:Int),p',rfl⟩,?_,IM fun y=>?_,?_⟩
  ·unfold Re;rw[yc,x8,List.map_take,List.map_drop]
   rfl
  ·rw[List.pairwise_append];refine ⟨I.st.sublist (List.take_sublist _ _),yf.mpr ⟨fun y hy=>?_,I.st.sublist (List.drop_sublist _ _)⟩,fun a ha y hy=>?_⟩
   ·obtain ⟨i,hi⟩:=yj hy;rw[List.getElem?_drop] at hi;exact IR (y9 _ _) hi
   ·obtain ⟨i,hi⟩:=yj ha;rw[List.getElem?_take] at hi;split at hi
    ·rename_i IY;have h1:=GD IY hi;rcases wk.mp hy with rfl|hy
     ·exact h1
     ·obtain ⟨j,hj⟩:=yj hy;rw[List.getElem?_drop] at hj;have:=IR (y9 _ _) hj
      lia
    ·cases hi
  ·have h1:R.map (·.1)=(R.take q).map (·.1)++(R.drop q).map (·.1):=by rw[← yc,zo]
   rw[h1,yc,x8,xk,wk,xk];constructor
   ·rintro (h|h|h)
    ·exact .inl (.inl h)
    ·exact .inr h
    ·exact .inl (.inr h)
   ·rintro ((h|h)|h)
    ·exact .inl h
    ·exact .inr (.inr h)
    ·exact .inr (.inl h)
  ·have:=I.ln;have e:=congrArg List.length (zo q R);rw[xb] at e;rw[xb,x9,xb,List.length_singleton]
   lia
 ·
  have BI:(match R[r]? with|some y=>!(y.1==x.1)|none=>true)=false:=Bool.eq_false_iff.mpr BI;have EL:∃y,R[r]?=some y∧y.1=x.1:=by
   cases h:R[r]? with
   |none=>rw[h] at BI;cases BI
   |some y=>
    rw[h] at BI;exact ⟨y,rfl,by simpa using BI⟩
  refine ⟨R,_,H9.trans ((Am ((Cb (AS BI)).trans Ax)).trans Ax),.inr ⟨x,(r:Int),p',rfl⟩,I.st,IM fun y=>⟨.inl,fun h=>?_⟩,?_⟩
  ·rcases h with h|rfl
   ·exact h
   ·obtain ⟨y,h1,h2⟩:=EL;exact xr.mpr ⟨y,xt h1,h2⟩
  ·have:=I.ln;rw[xb];lia
theorem Pw {m:Nat->Nat->Int}{b:Nat->Nat->Bool}:(Tn m b).length≤16:=by
 unfold Tn;have:∀i,((gd m b i).filter fun x=>x.1 != 0).length≤4:=fun i=>List.length_filter_le _ _;have e:PF 4=[0,1,2,3]:=rfl;rw[e];simp only[List.flatMap_cons,List.flatMap_nil,List.length_append,List.length_nil];have h0:=this 0;have h1:=this 1;have h2:=this 2;have h3:=this 3;exact zr h0 (zr h1 (zr h2 (zr h3 (wu 0))))
theorem pP (n:Nat){J:Aj}(O:Dw J):∃R:List (Int×Bool),(Aw gl (n+32)).call (.fn 152) [lk m b] [] J=some (.lst (R.map sv),J)∧zO R (Tn m b):=by
 have AV:(Tn m b).length≤1000:=wp Pw (by decide);have KQ:=Im (ι:=sv) (body:=ldB n) (s:=.seq (.lst ((Tn m b).map sv))) (l:=Tn m b) (St:=fun pre J=>∃R t,J=Re m b R t∧ldT t∧zO R pre) (fun Z Z Z Z=>rfl) (fun pre v J S hp=>by
  obtain ⟨R,t,rfl,ht,I⟩:=S;obtain ⟨B3,hp⟩:=hp;obtain ⟨R',t',e,ht',I'⟩:=bh n (x:=v) ht I (by rw[hp,xb] at AV;lia);exact ⟨_,e,R',t',rfl,ht',I'⟩) (Tn m b) [] (Re m b [] []) rfl ⟨[],[],rfl,.inl rfl,.nil,fun y=>Iff.rfl,wu _⟩
 obtain ⟨Av,e,R,t,rfl,ht,I⟩:=KQ;refine ⟨R,?_,I⟩;have h0:(Aw gl (n+31)).ex (tE Xa) (Bs Xa.body 0) (Bb++[.fr [("links",lk m b)]])=some (.next,Re m b [] []):=by kernel_rfl
 have hz:Me (Re m b [] []) (.seq (.lst ((Tn m b).map sv)))=(Tn m b).length:=by
  show ((Tn m b).map sv).length=_;rw[wn]
 have h1:(Aw gl (n+31)).ex (tE Xa) (Bs Xa.body 1) (Re m b [] [])=some (.next,Re m b R t):=by
  refine (Hs (pU (c0 (n+10))) rfl).trans ?_;rw[hz];exact e
 refine Gm (bs:=[(("links":O7),lk m b)]) O kj rfl rfl (by rw[Ah,Cu];rfl) rfl rfl ((Dr (s:=Bs Xa.body 0) h0 ((Dr (s:=Bs Xa.body 1) h1 (Cp (Fb (Ad rfl rfl rfl)) (by simp)))))) ?_;show (Ec (By _ 3 5) (R.map sv)).map V.lst=_;have:Ec (By (Re m b R t) 3 5) (R.map sv)=some (R.map sv):=Np fun u hu=>by
  obtain ⟨x,_,rfl⟩:=xr.mp hu
  rfl
 exact congrArg (Option.map V.lst) this
end
theorem Ej {x:O7}{v:V}:∀{m:List (O7×V)},(put m x v).lookup x=some v:=by
 intro X
 induction X with
 |nil=>
  simp[lZ,List.lookup]
 |cons X r ih=>
  obtain ⟨y,u⟩:=X;rw[Kk];cases h:x==y with
  |true=>
   rw[if_pos rfl];simp[List.lookup,h]
  |false=>
   rw[if_neg (by simp)];simp only[List.lookup,h];exact ih
theorem Bp {x y:O7}{v:V}(AX:(y==x)=false):∀{m:List (O7×V)},(put m x v).lookup y=m.lookup y:=by
 intro X
 induction X with
 |nil=>
  simp[lZ,List.lookup,AX]
 |cons X r ih=>
  obtain ⟨z,u⟩:=X;rw[Kk];cases h:x==z with
  |true=>
   have:x=z:=by simpa using h
   subst this;rw[if_pos rfl];simp[List.lookup,AX]
  |false=>
   rw[if_neg (by simp)];cases h2:y==z with
   |true=>simp[List.lookup,h2]
   |false=>
    simp only[List.lookup,h2];exact ih
theorem Kz {k:Nat}{x:O7}{v:V}(hv:Ar k v=true):∀{m:List (O7×V)},Bg k m=true->Bg k (put m x v)=true:=by
 intro X
 induction X with
 |nil=>
  intro Z;rw[lZ,Gu,hv];rfl
 |cons X r ih=>
  obtain ⟨y,u⟩:=X;intro h;rw[Gu,wm] at h;rw[Kk];split
  ·rw[Gu,hv,h.2];rfl
  ·rw[Gu,h.1,ih h.2];rfl
section
variable {Bk De:Aj}{p q:Pos}
theorem Ty {o:O6}{nm:O7}{args:List O6}{x:V}{vs:List V}{BD:Pos}{r:Option (V×Aj)}(hg:(BD.endLine==p.line&&noSuper o&&Nat.blt args.length 29)=true)(hn:(nm==("compare":O7))=true)(h1:(Aw g n).ev e o J=some (.inst x,Ab))
 (h2:Kb (Aw g n) e args Ab=some (vs,Ai)) (h3:(Aw g n).call (.fn g.cmp) (.inst x::vs) [] Ai=r):(Aw g (n+1)).ev e (.Call (.Attribute o nm BD) args [] p) J=r:=by
 rw[El];show Zx g (Aw g n) e o nm BD args p J=_;exact (gN hg).trans ((oE2 h1).trans ((if_pos hn).trans ((oE2 h2).trans h3)))
theorem Uu {ts:List O6}{c:Nat}{x:O6}{l:List V}(hx:Dz x=false)(hv:nq (Aw g n) e ts x J=some (.tup l,Ab))(hs:Yj e ts x=some none)(hl:(ts.length==l.length)=true)(hb:Jm e ts l Ab=some Ai):(Aw g (n+1)).ex e (.Assign [.Tuple ts c q] x p) J=some (.next,Ai):=by
 rw[Hd];show aU (Aw g n) e ts x J=_;exact (nf hx).trans ((oE2 hv).trans ((oE1 (show iO (.tup l)=some l from rfl)).trans ((oE1 hs).trans ((if_pos hl).trans (oE1 hb)))))
theorem Oo {o i x:O6}{v ov iv:V}(hx:(Dz x||Gb i)=false)(h1:(Aw g n).ev e x J=some (v,Ab))(h2:(Aw g n).ev e o Ab=some (ov,Ai))(h3:(Aw g n).ev e i Ai=some (iv,Bk))(h4:Ga ov iv v Bk=some De):(Aw g (n+1)).ex e (.Assign [.Subscript o i q] x p) J=some (.next,De):=by
 rw[Hd];show jS (Aw g n) e o i x J=_;exact (nf hx).trans ((oE2 h1).trans ((oE2 h2).trans ((oE2 h3).trans (oE1 h4))))
theorem uA:(Aw g (n+1)).ex e (.Break p) J=some (.brk,J):=by rw[Hd];rfl
theorem sA {body:V->Aj->Option (Fl×Aj)}{s:Gh}{c k:Nat}{v:V}(h1:Da J s k=some (some v))(h2:body v J=some (.brk,Ab)):Mt body s (c+1) k J=some (.next,Ab):=Wy.trans ((oE1 h1).trans (oE2 h2))
theorem It {id:String}{args:List V}{v:V}(h:uD J id args=some v):(Aw g (n+1)).call (.bi id) args [] J=some (v,J):=by
 rw[Gn];exact oE1 h
end
structure QE where
 s:Int×Bool
 v:Nat×Bool
def QE.val (x:QE):V:=.tup [sv x.s,nm x.v]
abbrev QE.bef (x y:QE):Prop:=x.s.1>y.s.1∨(x.s.1=y.s.1∧x.v.1<y.v.1)
def QE.due (x:QE):V:=.tup [.int (-x.s.1) x.s.2,nm x.v]
theorem o9 {x y:QE}:Mf x.due y.due=some (decide (x.bef y)):=by
 show (if (-x.s.1 == -y.s.1)=true then (if ((x.v.1:Int)==(y.v.1:Int))=true then some false else some (decide ((x.v.1:Int)<(y.v.1:Int)))) else some (decide (-x.s.1 < -y.s.1)))=_;by_cases h:x.s.1=y.s.1
 ·rw[if_pos (by rw[h];simp)];by_cases h2:x.v.1=y.v.1
  ·rw[if_pos (by rw[h2];simp)];congr 1;symm
   exact decide_eq_false fun q=>q.elim (fun z=>Int.ne_of_gt z h) fun z=>ya z.2 h2
  ·rw[if_neg (c:=((x.v.1:Int)==(y.v.1:Int))=true) fun z=>h2 (Int.ofNat.inj (eq_of_beq z))];exact congrArg some (decide_eq_decide.mpr ⟨fun z=>.inr ⟨h,yg.mp z⟩,fun q=>q.elim (fun z=>absurd h (Int.ne_of_gt z)) fun z=>yg.mpr z.2⟩)
 ·rw[if_neg (c:=(-x.s.1 == -y.s.1)=true) fun z=>h (Int.neg_inj.mp (eq_of_beq z))];exact congrArg some (decide_eq_decide.mpr ⟨fun z=>.inl (Int.lt_of_neg_lt_neg z),fun q=>q.elim Int.neg_lt_neg fun z=>absurd z.1 h⟩)
theorem Ja {x y z:QE}(h1:¬y.bef x)(h2:¬z.bef y):¬z.bef x:=fun h=>by
 have a:z.s.1≤y.s.1:=xw.mp fun q=>h2 (.inl q);have b:y.s.1≤x.s.1:=xw.mp fun q=>h1 (.inl q);exact h.elim (fun q=>absurd q (xw.mpr (z4 a b))) fun q=>absurd q.2 (xz.mpr (wp (zf fun z=>h1 (.inr ⟨Int.le_antisymm b (q.1 ▸ a),z⟩)) (zf fun z=>h2 (.inr ⟨Int.le_antisymm a (q.1.symm ▸ b),z⟩))))
theorem Kr {x y:QE}(h:x.bef y):¬y.bef x:=fun k=>
 h.elim (fun q=>k.elim (fun r=>Int.lt_irrefl _ (Int.lt_trans q r)) fun r=>Int.ne_of_lt q r.1) fun q=>k.elim (fun r=>Int.ne_of_lt r q.1) fun r=>yy _ (yb q.2 r.2)
theorem aL {x:QE}:¬x.bef x:=fun h=>h.elim (Int.lt_irrefl _) fun q=>yy _ q.2
theorem gj:∀(l:List QE)(b:QE),∃x∈b::l,eN b.due (l.map QE.due)=some x.due∧∀y∈b::l,¬y.bef x:=by
 intro X
 induction X with
 |nil=>
  intro b;exact ⟨b,.head _,rfl,fun y hy=>by
  rw[wl] at hy;subst hy;exact aL⟩
 |cons a l ih=>
  intro b;rw[x8,lg,o9];dsimp only;by_cases h:a.bef b
  ·rw[if_pos (decide_eq_true h)];obtain ⟨x,hx,e,hm⟩:=ih a;refine ⟨x,.tail _ hx,e,fun y hy=>?_⟩;rcases wk.mp hy with rfl|hy
   ·exact Ja (hm a (.head _)) (Kr h)
   ·exact hm y hy
  ·rw[if_neg (by rw[decide_eq_false h];decide)];obtain ⟨x,hx,e,hm⟩:=ih b;refine ⟨x,?_,e,fun y hy=>?_⟩
   ·rcases wk.mp hx with rfl|hx
    ·exact .head _
    ·exact .tail _ (.tail _ hx)
   ·rcases wk.mp hy with rfl|hy
    ·exact hm y (.head _)
    ·rcases wk.mp hy with rfl|hy
     ·exact Ja (hm b (.head _)) h
     ·exact hm y (.tail _ hy)
theorem ou (J:Aj){x y:QE}(h1:¬x.bef y)(h2:¬y.bef x):Dx J .NotEq x.due y.due=some false:=by
 have e1:x.s.1=y.s.1:=Int.le_antisymm (xw.mp fun z=>h1 (.inl z)) (xw.mp fun z=>h2 (.inl z));have e2:x.v.1=y.v.1:=ym (zf fun z=>h2 (.inr ⟨e1.symm,z⟩)) (zf fun z=>h1 (.inr ⟨e1,z⟩));show (some ((-x.s.1 == -y.s.1)&&(((x.v.1:Int)==(y.v.1:Int))&&true))).map (!·)=_;rw[e1,e2];simp
def qO (up:Bool) (x y:QE):Prop:=if up then ¬y.bef x else ¬x.bef y
def Ob (up:Bool) (Q:List QE):Prop:=Q.Pairwise (qO up)
def qC (up:Bool) (x y:QE):Bool:=if up then decide (x.bef y) else decide (y.bef x)
theorem ez {up:Bool}{x y z:QE}(h:qO up x y)(hc:qC up y z=true):qC up x z=true:=by
 cases up with
 |true=>exact decide_eq_true (Aal fun n=>Ja n h (of_decide_eq_true hc))
 |false=>exact decide_eq_true (Aal fun n=>Ja h n (of_decide_eq_true hc))
theorem ox {up:Bool}{Q:List QE}(h:Ob up Q){i j:Nat}{x y z:QE}(hi:Q[i]?=some x)(hj:Q[j]?=some y)(AO:i≤j)(hc:qC up y z=true):qC up x z=true:=by
 by_cases e:i=j
 ·subst e;rw[hi] at hj;cases hj;exact hc
 ·obtain ⟨h1,rfl⟩:=wv.mp hi;obtain ⟨h2,rfl⟩:=wv.mp hj;exact ez (Aaj.mp h i j h1 h2 (by lia)) hc
theorem rI {up:Bool}{Q:List QE}{x:QE}{r:Nat}(h:Ob up Q)(h1:∀i y,i<r->Q[i]?=some y->qC up y x=true)(h2:∀i y,r≤i->Q[i]?=some y->qC up y x=false):Ob up (Q.take r++x::Q.drop r):=by
 unfold Ob at *
 have A:∀y∈Q.take r,qC up y x=true:=fun y hy=>by
  obtain ⟨i,hi⟩:=yj hy;rw[List.getElem?_take] at hi;split at hi
  ·exact h1 i y (by assumption) hi
  ·cases hi
 have B:∀y∈Q.drop r,qC up y x=false:=fun y hy=>by
  obtain ⟨i,hi⟩:=yj hy;rw[List.getElem?_drop] at hi;exact h2 _ y (y9 _ _) hi
 rw[List.pairwise_append];refine ⟨h.sublist (List.take_sublist _ _),yf.mpr ⟨fun y hy=>?_,h.sublist (List.drop_sublist _ _)⟩,fun a ha y hy=>?_⟩
 ·have:=B y hy;unfold qC at this;cases up with
  |true=>exact of_decide_eq_false this
  |false=>exact of_decide_eq_false this
 ·have h3:=A a ha;rcases wk.mp hy with rfl|hy
  ·cases up with
   |true=>exact Kr (of_decide_eq_true h3)
   |false=>exact Kr (of_decide_eq_true h3)
  ·have h4:=B y hy;cases up with
   |true=>exact Ja (Kr (of_decide_eq_true h3)) (of_decide_eq_false h4)
   |false=>exact Ja (of_decide_eq_false h4) (Kr (of_decide_eq_true h3))
section
def Ki:Ek:=(Kc 164).get (by rfl')
theorem oz:gl.D 164=some Ki:=by kernel_rfl
def Un:PC->O6
 |.Expr x _=>x
 |_=>.Constant .none 0 default
def Vf:O6->List O6
 |.Call _ a _ _=>a
 |_=>[]
def W1:List PC:=Bq (Bs Ki.body 1)
def W4:List PC:=Pp (Bs W1 4)
def W5:List PC:=Bq (Bs W4 1)
def W6:List PC:=Pp (Bs W5 0)
def wK:V:=pQ (tE Ki) (Hv (Un (Bs W6 1)))
def ig (F:List (O7×V)) (first Gd:V) (c:Option V) (D:List (Int×V)) (Q:List V):Aj:=Bb++[.fr F,.cell (some first),.cell (some Gd),.cell (some (.ref 8)),.cell c,.dct D,.lst Q]
def wD (w:Int) (s:Bool) (x y:QE):List Jt:=[⟨0,true,-w,s,x.s.1,x.s.2,y.s.1,y.s.2⟩,⟨1,true,w,s,x.v.1,x.v.2,y.v.1,y.v.2⟩]
def wC (w:Int) (s:Bool):V:=.inst (.lst [.tup [.int 0 true,.int (-w) s],.tup [.int 1 true,.int w s]])
def bg (w:Int) (s:Bool) (x y:QE):V:=(pI (wD w s x y)).getD (.int 0 true)
theorem yT {w:Int}{s:Bool}{x:QE}:bg w s x x = .int 0 true:=by
 unfold bg wD;rw[Ye,Ye,yF];simp only[gt_iff_lt,Int.lt_irrefl,if_false,Option.getD_none]
theorem k9 {w:Int}{s:Bool}{x y:QE}(hw:w≠0):Mf (bg w s x y) (.int 0 true)=some (qC (decide (w>0)) x y):=by
 unfold bg wD;rw[Ye,Ye,yF];dsimp only;have hp:∀{p:Prop} [Decidable p] {z:Int},(z<0↔p)->Mf (.int z s) (.int 0 true)=some (decide p):=fun h=>(fun h=>congrArg some (decide_eq_decide.mpr h)) h;have h0:∀{p:Prop} [Decidable p],¬p->Mf (.int 0 true) (.int 0 true)=some (decide p):=fun h=>by rw[decide_eq_false h];rfl
 by_cases A9:w>0
 ·simp only[decide_eq_true A9,if_true];have nw:=Int.neg_neg_of_pos A9;by_cases a1:x.s.1<y.s.1
  ·rw[if_pos a1,Int.neg_neg];exact hp (iff_of_false (xw.mpr (yp A9)) fun q=>q.elim (fun z=>Int.lt_irrefl _ (Int.lt_trans a1 z)) fun z=>Int.ne_of_lt a1 z.1)
  ·rw[if_neg a1];by_cases a2:x.s.1>y.s.1
   ·rw[if_pos a2];exact hp (iff_of_true nw (.inl a2))
   ·rw[if_neg a2];by_cases a3:(x.v.1:Int)<(y.v.1:Int)
    ·rw[if_pos a3];exact hp (iff_of_true nw (.inr ⟨Int.le_antisymm (xw.mp a2) (xw.mp a1),yg.mp a3⟩))
    ·have np:¬x.bef y:=fun q=>q.elim a2 fun z=>a3 (yg.mpr z.2);rw[if_neg a3];by_cases a4:(x.v.1:Int)>(y.v.1:Int)
     ·rw[if_pos a4];exact hp (iff_of_false (xw.mpr (yp A9)) np)
     ·rw[if_neg a4];exact h0 np
 ·simp only[decide_eq_false A9,Bool.false_eq_true,if_false];have hw:=(Int.lt_or_eq_of_le (xw.mp A9)).resolve_right hw;have nw:=xw.mpr (yp (Int.neg_pos_of_neg hw));by_cases a1:x.s.1<y.s.1
  ·rw[if_pos a1,Int.neg_neg];exact hp (iff_of_true hw (.inl a1))
  ·rw[if_neg a1];by_cases a2:x.s.1>y.s.1
   ·rw[if_pos a2];exact hp (iff_of_false nw fun q=>q.elim a1 fun z=>Int.ne_of_lt a2 z.1)
   ·rw[if_neg a2];by_cases a3:(x.v.1:Int)<(y.v.1:Int)
    ·rw[if_pos a3];exact hp (iff_of_false nw fun q=>q.elim a1 fun z=>Int.lt_irrefl _ (Int.lt_trans a3 (yg.mpr z.2)))
    ·rw[if_neg a3];by_cases a4:(x.v.1:Int)>(y.v.1:Int)
     ·rw[if_pos a4];exact hp (iff_of_true hw (.inr ⟨Int.le_antisymm (xw.mp a1) (xw.mp a2),yg.mp a4⟩))
     ·rw[if_neg a4];exact h0 fun q=>q.elim a1 fun z=>a4 (yg.mpr z.2)
theorem Ms {k:Nat}{x:QE}:Ar k x.val=true:=by
 unfold QE.val sv nm
 rfl
theorem qP {k:Nat}:∀{Q:List QE},Di k (Q.map QE.val)=true:=by
 intro X
 induction X with
 |nil=>
  rw[yl,Gx]
 |cons x Q ih=>
  rw[x8,Fw,ih,Ms];rfl
variable {F:List (O7×V)}{first:V}{w:Int}{s:Bool}{D:List (Int×V)}{Q:List V}{y:QE}
theorem j5 (n:Nat){x:QE}{r:List Cv}(O:Dw (ig F first (wC w s) (some y.val) D Q++r)) :
 (Aw gl (n+16)).call wK [x.val] [] (ig F first (wC w s) (some y.val) D Q++r)=some (bg w s x y,ig F first (wC w s) (some y.val) D Q++r):=by
 have O2:Dw (ig F first (wC w s) (some y.val) D Q++r++[.fr [("row",x.val)]]):=O.push (by
  show Bg _ [(("row":O7),x.val)]=true;rw[Ah,Ms];rfl)
 have EZ:(Aw gl (n+14)).call (.fn 71) [wC w s,x.val,y.val] [] (ig F first (wC w s) (some y.val) D Q++r++[.fr [("row",x.val)]])=some (bg w s x y,ig F first (wC w s) (some y.val) D Q++r++[.fr [("row",x.val)]]):=by
  refine cK n (AH:=wD w s x y) O2 fun q hq=>?_;rcases wk.mp hq with rfl|hq
  ·exact ⟨fun Z=>rfl,fun Z=>rfl⟩
  ·rw[wl] at hq;subst hq;exact ⟨fun Z=>rfl,fun Z=>rfl⟩
 have hk:∃d z,bg w s x y = .int d z:=by
  unfold bg;cases h:pI (wD w s x y) with
  |none=>exact ⟨_,_,rfl⟩
  |some v=>exact oB h
 obtain ⟨d,z,hk⟩:=hk;rw[hk] at EZ ⊢;exact Kl (x:="row") rfl rfl rfl rfl (Ty rfl rfl (Dk (Es rfl rfl rfl)) (Ae rfl (Ad rfl Af rfl) (Ae rfl (Dk (Es rfl rfl rfl)) Al)) EZ) rfl O.cl
end
section
def dv (T:List (Nat×(Int×Bool))):List (Int×V):=T.map fun x=>((x.1:Int),sv x.2)
theorem Tj {k:Nat}:∀{T:List (Nat×(Int×Bool))},Eu (k:Int) (dv T)=(T.lookup k).map sv:=by
 intro X
 induction X with
 |nil=>
  exact rfl
 |cons X T ih=>
  obtain ⟨j,x⟩:=X;show (if (j:Int)=(k:Int) then some (sv x) else Eu (k:Int) (dv T))=_;by_cases h:j=k
  ·subst h;rw[if_pos rfl];simp[List.lookup]
  ·rw[if_neg (by lia),ih];simp only[List.lookup];rw[show (k==j)=false from beq_eq_false_iff_ne.mpr fun e=>h e.symm]
theorem pK {k:Nat}:∀{T:List (Nat×(Int×Bool))},Fe k (dv T)=true:=by
 intro X
 induction X with
 |nil=>
  unfold dv;rw[yl,ii]
 |cons x T ih=>
  show Fe k (((x.1:Int),sv x.2)::dv T)=true;rw[xO,ih,Hp];rfl
variable {m:Nat->Nat->Int}{b:Nat->Nat->Bool}{F:List (O7×V)}{first:V}{w:Int}{s:Bool}{T:List (Nat×(Int×Bool))}{Q:List QE}{c:Option V}
structure WF (m:Nat->Nat->Int)(b:Nat->Nat->Bool)(w:Int)(s:Bool)(F:List (O7×V)):Prop where
 ln:F.lookup ("links":O7)=some (lk m b)
 qu:F.lookup ("queue":O7)=some (.ref 9)
 wy:F.lookup ("way":O7)=some (.int w s)
 cl:Bg 10 F=true
theorem WF.put (W:WF m b w s F){x:O7}{v:V}(hv:Ar 10 v=true)(h1:(("links":O7)==x)=false)(h2:(("queue":O7)==x)=false)(h3:(("way":O7)==x)=false):WF m b w s (put F x v):=
 ⟨by rw[Bp h1];exact W.ln,by rw[Bp h2];exact W.qu,by rw[Bp h3];exact W.wy,Kz hv W.cl⟩
abbrev Ex (F:List (O7×V)) (first:V) (w:Int) (s:Bool) (c:Option V) (T:List (Nat×(Int×Bool))) (Q:List QE):Aj:=ig F first (wC w s) c (dv T) (Q.map QE.val)
theorem wV (hF:Bg 10 F=true)(hf:Ar 10 first=true)(hc:∀v,c=some v->Ar 10 v=true):Dw (Ex F first w s c T Q):=by
 refine ⟨?_,rfl⟩;show Ci 10 (Ex F first w s c T Q)=true;have h1:Cg 10 (.cell c)=true:=by
  cases c with
  |none=>rfl
  |some v=>exact hc v rfl
 have e:∀o r,Ci 10 (o::r)=(Cg 10 o&&Ci 10 r):=fun o r=>rfl;unfold Ex ig;simp only[Bb,List.cons_append,List.nil_append];rw[e,e,e,e,e,e,e,e,e,e,h1];simp only[Cg,hF,hf,pK,qP,wC,Pn,Pc,Ow,Ox,Ph,Ou,Pg,Ol,Fw,Gx]
 rfl
def ly (m:Nat->Nat->Int) (S:Int×Bool) (a k:Nat):QE:=⟨(if m a k<S.1 then m a k else S.1,false),(k,Ep (k:Int))⟩
structure wh (m:Nat->Nat->Int)(w:Int)(T:List (Nat×(Int×Bool)))(S:Int×Bool)(a:Nat)(Q0:List QE)(pre:List Nat)(Q:List QE):Prop where
 so:Ob (decide (w>0)) Q
 mm:∀e,e∈Q↔e∈Q0∨∃k∈pre,m a k≠0∧T.lookup k=none∧e=ly m S a k
 ln:Q.length≤Q0.length+(pre.filter fun k=>T.lookup k==none).length
def inB (n:Nat):V->Aj->Option (Fl×Aj):=fun v J=>oe1 (Cy (tE Ki) (Ee (Bs W4 1)) v J) none fun Ai=>Dm (Aw gl (n+30)) (tE Ki) W5 Ai
theorem aa (n:Nat)(hw:w≠0){S:Int×Bool}{a:Nat}{sa:Bool}{Q0:List QE}{pre:List Nat}{k:Nat}(W:WF m b w s F)(hS:F.lookup ("strength":O7)=some (sv S))(hO:F.lookup ("one":O7)=some (nm (a,sa)))(ha:a<4)(hk:k<4)(hf:Ar 10 first=true)(hc:∀v,c=some v->Ar 10 v=true)
 (I:wh m w T S a Q0 pre Q) (hl:Q.length≤1000) :
 ∃F' c' Q',inB n (Bi k) (Ex F first w s c T Q)=some (.next,Ex F' first w s c' T Q')∧WF m b w s F'∧F'.lookup ("strength":O7)=some (sv S)∧F'.lookup ("one":O7)=some (nm (a,sa))∧(∀v,c'=some v->Ar 10 v=true)∧wh m w T S a Q0 (pre++[k]) Q':=by
 have W1:WF m b w s (put F ("other":O7) (Bi k)):=W.put rfl (by rfl') (by rfl') (by rfl');have FA:(put F ("other":O7) (Bi k)).lookup ("strength":O7)=some (sv S):=by rw[Bp (by rfl')];exact hS
 have G7:(put F ("other":O7) (Bi k)).lookup ("one":O7)=some (nm (a,sa)):=by rw[Bp (by rfl')];exact hO
 have DI:(put F ("other":O7) (Bi k)).lookup ("other":O7)=some (Bi k):=Ej;unfold inB;rw[show Cy (tE Ki) (Ee (Bs W4 1)) (Bi k) (Ex F first w s c T Q)=some (Ex (put F ("other":O7) (Bi k)) first w s c T Q) from Ap (Au (J:=Bb) rfl rfl rfl)];dsimp only;generalize put F ("other":O7) (Bi k)=F1 at W1 FA G7 DI;have BI:Dx (Ex F1 first w s c T Q) .NotIn (Bi k) (.ref 8)=some (T.lookup k==none):=by
  show some (!((Eu (k:Int) (dv T)).isSome))=_;rw[Tj];cases T.lookup k<;>rfl
 have AS:(Aw gl (n+29)).ts (tE Ki) (Ed (Bs W5 0)) (Ex F1 first w s c T Q)=some ((m a k != 0)&&(T.lookup k==none),Ex F1 first w s c T Q):=
  Hl (Vo (Gv rfl (Bj rfl (Bj rfl (Ad rfl rfl W1.ln) (Ad rfl rfl G7) (Ie ha)) (Ad rfl rfl DI) (Ew hk)) rfl) fun Z=>Ir (Bd rfl (Ad rfl rfl DI) (Bc rfl rfl rfl) BI))
 have EY:(pre++[k]).filter (fun k=>T.lookup k==none)=pre.filter (fun k=>T.lookup k==none)++(if (T.lookup k==none)=true then [k] else []):=by
  rw[List.filter_append,List.filter_cons,List.filter_nil]
 cases AP:((m a k != 0)&&(T.lookup k==none)) with
 |false=>
  rw[AP] at AS;refine ⟨F1,c,Q,(Am (s:=Bs W5 0) ((Cb AS).trans Ax)).trans Ax,W1,FA,G7,hc,I.so,fun e=>?_,?_⟩
  ·rw[I.mm];constructor
   ·rintro (h|⟨j,hj,h⟩)
    ·exact .inl h
    ·exact .inr (Mine.w12 j (xp _ hj) h)
   ·rintro (h|⟨j,hj,h1,h2,h3⟩)
    ·exact .inl h
    ·rcases xk.mp hj with hj|hj
     ·exact .inr (Mine.w14 j hj h1 h2 h3)
     ·rw[wl] at hj;subst hj;rw[Bool.and_eq_false_iff] at AP;rcases AP with AP|AP
      ·exact absurd (by simpa using AP) h1
      ·rw[h2] at AP;cases AP
  ·have:=I.ln;rw[EY,xb];exact wp this (Nat.add_le_add_left (y9 ..) _)
 |true=>
  rw[AP] at AS;rw[wm] at AP;have AX:m a k≠0:=by simpa using AP.1
  have IV:T.lookup k=none:=by simpa using AP.2
  let y:QE:=ly m S a k
  have O2:Dw (Ex F1 first w s (some y.val) T Q):=wV W1.cl hf fun v e=>by cases e;exact Ms
  have CX:(Aw gl (n+29)).ex (tE Ki) (Bs W6 0) (Ex F1 first w s c T Q)=some (.next,Ex F1 first w s (some y.val) T Q):=
   Cz rfl rfl (Go rfl (Ae rfl ((Cl rfl rfl rfl (Ae rfl (Ad rfl rfl FA) (Ae rfl (Bj rfl (Bj rfl (Ad rfl rfl W1.ln) (Ad rfl rfl G7) (Ie ha)) (Ad rfl rfl DI) (Ew hk)) Al)) Bf).trans (It rfl)) (Ae rfl (Ad rfl rfl DI) Al))) (Bn (i:=7) (o:=c) rfl rfl rfl)
  let cc:Nat->Bool:=fun i=>match Q[i]? with|some x=>qC (decide (w>0)) x y|none=>false
  have HL:∀{i:Nat}{x:QE},Q[i]?=some x->cc i=qC (decide (w>0)) x y:=fun {i x} h=>by
   show (match Q[i]? with|some x=>qC (decide (w>0)) x y|none=>false)=_;rw[h]
  have GZ:∀i j,i≤j->j<(Q.map QE.val).length->cc j=true->cc i=true:=fun i j AO hj h=>by
   rw[wn] at hj;have e1:Q[j]?=some Q[j]:=x7 hj;have e2:Q[i]?=some (Q[i]'(by ac_rfl)):=x7 _;rw[HL e1] at h;rw[HL e2];exact ox I.so e2 e1 AO h
  have AU:∀o,Cg ((Ex F1 first w s (some y.val) T Q).length+1) o=true->Ic (n+17) (Ex F1 first w s (some y.val) T Q++[o]) wK (Q.map QE.val) (fun i v=>Mf v (.int 0 true)=some (cc i))∧(Aw gl (n+22)).call wK [y.val] [] (Ex F1 first w s (some y.val) T Q++[o])=some (.int 0 true,Ex F1 first w s (some y.val) T Q++[o]):=fun o ho=>by
   have O3:=O2.push ho;refine ⟨fun i v hv=>?_,?_⟩
   ·rw[x6] at hv;cases hx:Q[i]? with
    |none=>rw[hx] at hv;cases hv
    |some x=>
     rw[hx] at hv;cases hv;refine ⟨bg w s x y,?_,fun o' BP=>?_⟩
     ·dsimp only;rw[HL hx,k9 hw]
     ·have O4:=O3.push BP;exact (j5 (n+1) (x:=x) (r:=[o]++[o']) (by rw[← xj];exact O4))
   ·have:=j5 (n+6) (x:=y) (r:=[o]) O3;rw[yT] at this;exact this
  obtain ⟨r,er,hr,h3,h4⟩:=eM (n+6) (x:=y.val) (j:=9) (l:=Q.map QE.val) (kx:=.int 0 true) (kv:=wK) O2 rfl (by decide) (show (Q.map QE.val).length≤1000000 from by rw[wn];lia) Ms AU rfl rfl rfl rfl rfl GZ;rw[wn] at hr h4;have MK:(Aw gl (n+29)).ex (tE Ki) (Bs W6 1) (Ex F1 first w s (some y.val) T Q)=some (.next,Ex F1 first w s (some y.val) T (Q.take r++y::Q.drop r)):=by
   refine (Lo rfl ((Cl rfl rfl rfl (Ae rfl (Ad rfl rfl W1.qu) (Ae rfl (Bc rfl rfl rfl) Al)) (Ho (show (Aw gl (n+27)).ev (tE Ki) (Hv (Un (Bs W6 1))) (Ex F1 first w s (some y.val) T Q)=some (wK,Ex F1 first w s (some y.val) T Q) from by rfl) Bf)).trans er)).trans ?_;unfold Ex;rw[yc,x8,List.map_take,List.map_drop]
   rfl
  refine ⟨F1,some y.val,Q.take r++y::Q.drop r,(Am (s:=Bs W5 0) ((Cb AS).trans ((Dr (s:=Bs W6 0) CX ((Am (s:=Bs W6 1) MK).trans Ax))))).trans Ax,W1,FA,G7,fun v e=>by cases e;exact Ms,?_,fun e=>?_,?_⟩
  ·exact rI I.so (fun i x hi hx=>by rw[← HL hx];exact h3 i hi) (fun i x hi hx=>by rw[← HL hx];exact h4 i hi (wv.mp hx).1)
  ·have hq:e∈Q↔e∈Q.take r∨e∈Q.drop r:=by rw[← xk,zo]
   rw[xk,wk];constructor
   ·rintro (h|h|h)
    ·rcases (I.mm e).mp (hq.mpr (.inl h)) with h|⟨j,hj,h⟩
     ·exact .inl h
     ·exact .inr (Mine.w12 j (xp _ hj) h)
    ·exact .inr (Mine.w14 k (yd _ (.head _)) AX IV h)
    ·rcases (I.mm e).mp (hq.mpr (.inr h)) with h|⟨j,hj,h⟩
     ·exact .inl h
     ·exact .inr (Mine.w12 j (xp _ hj) h)
   ·have old:e∈Q->e∈Q.take r∨e=y∨e∈Q.drop r:=fun h=>by
     rcases hq.mp h with h|h
     ·exact .inl h
     ·exact .inr (.inr h)
    rintro (h|⟨j,hj,g1,g2,g3⟩)
    ·exact old ((I.mm e).mpr (.inl h))
    ·rcases xk.mp hj with hj|hj
     ·exact old ((I.mm e).mpr (.inr (Mine.w14 j hj g1 g2 g3)))
     ·rw[wl] at hj;rw[hj] at g3;exact .inr (.inl g3)
  ·have:=I.ln;have e:=congrArg List.length (zo r Q);rw[xb] at e;rw[EY,if_pos AP.2,xb,x9,xb,List.length_singleton];exact z7 (wp (yr e) this)
end
section
theorem zD {up:Bool}{Q:List QE}(h:Ob up Q)(AX:Q≠[]):∃p e,fy Q.length (if up then 0 else -1)=some p∧Q[p]?=some e∧(∀x∈Q,¬x.bef e)∧Ob up (Q.eraseIdx p)∧(∀x,x∈Q↔x=e∨x∈Q.eraseIdx p)∧(Q.eraseIdx p).length+1=Q.length∧(Q.map QE.val).eraseIdx p=(Q.eraseIdx p).map QE.val:=by
 cases up with
 |true=>
  match Q,AX,h with
  |e::r,_,h=>
   have h':=yf.mp h;refine ⟨0,e,?_,rfl,fun x hx=>?_,h'.2,fun x=>wk,rfl,rfl⟩
   ·show (if Ep 0 then seqIndex? 0 (r.length+1) else none)=some 0;rw[if_pos (by rfl')];unfold seqIndex?;dsimp only[Int.lt_irrefl,if_false];rw[if_pos (by simp)]
    rfl
   ·rcases wk.mp hx with rfl|hx
    ·exact aL
    ·have:=h'.1 x hx;unfold qO at this;rwa [if_pos rfl] at this
 |false=>
  rcases List.eq_nil_or_concat Q with rfl|⟨l,e,rfl⟩
  ·exact absurd rfl AX
  ·rw[List.concat_eq_append] at *
   unfold Ob at h;rw[List.pairwise_append] at h;have he:(l++[e]).eraseIdx l.length=l:=by
    rw[List.eraseIdx_append_of_length_le (wu _)];simp
   refine ⟨l.length,e,?_,by simp,fun x hx=>?_,by rw[he];exact h.1,fun x=>?_,by rw[he];simp,?_⟩
   ·rw[xb];show (if Ep (-1) then seqIndex? (-1) (l.length+1) else none)=some l.length;rw[if_pos (by rfl')];unfold seqIndex?;dsimp only[show ((-1:Int)<0) from by decide,if_true];rw[if_pos (by simp;lia)];congr 1
    lia
   ·rcases xk.mp hx with hx|hx
    ·have:=h.2.2 x hx e (.head _);unfold qO at this;rwa [if_neg (by decide)] at this
    ·rw[wl] at hx;subst hx;exact aL
   ·rw[he,xk,wl,Or.comm]
   ·rw[he,yc,List.eraseIdx_append_of_length_le (by rw[wn];exact wu _),wn,Nat.sub_self];simp
theorem wW {k:Int}{v:V}:∀{l:List (Int×V)},Eu k l=none->Js k v l=l++[(k,v)]:=by
 intro X
 induction X with
 |nil=>
  intro Z;exact rfl
 |cons X r ih=>
  obtain ⟨j,x⟩:=X;intro h;split at h
  ·cases h
  ·rename_i hj;rw[Vz,if_neg hj,ih h];rfl
theorem Jc {T:List (Nat×(Int×Bool))}{k:Nat}:T.lookup k=none↔∀x∈T,x.1≠k:=by
 induction T with
 |nil=>simp[List.lookup]
 |cons a T ih=>
  obtain ⟨j,v⟩:=a;simp only[List.lookup];by_cases h:k=j
  ·subst h;simp
  ·rw[show (k==j)=false from beq_eq_false_iff_ne.mpr h];rw[ih];constructor
   ·intro g x hx;rcases wk.mp hx with rfl|hx
    ·exact fun e=>h e.symm
    ·exact g x hx
   ·exact fun g x hx=>g x (.tail _ hx)
theorem sZ {T:List (Nat×(Int×Bool))}(hn:(T.map (·.1)).Nodup){x:Nat×(Int×Bool)}(hx:x∈T):T.lookup x.1=some x.2:=by
 induction T with
 |nil=>cases hx
 |cons a T ih=>
  rw[x8,yq] at hn;obtain ⟨j,v⟩:=a;simp only[List.lookup];rcases wk.mp hx with rfl|hx
  ·simp
  ·have:x.1≠j:=fun e=>hn.1 (xr.mpr ⟨x,hx,e⟩);rw[show (x.1==j)=false from beq_eq_false_iff_ne.mpr this];exact ih hn.2 hx
variable {m:Nat->Nat->Int}{b:Nat->Nat->Bool}{F:List (O7×V)}{first:Nat}{w:Int}{s:Bool}{T:List (Nat×(Int×Bool))}{Q:List QE}{c:Option V}
structure oL (m:Nat->Nat->Int)(first:Nat)(w:Int)(T:List (Nat×(Int×Bool)))(Q:List QE)(AM:Nat):Prop where
 so:Ob (decide (w>0)) Q
 qv:∀e∈Q,e.v.1<4∧0<e.s.1∧fU m first e.s.1 e.v.1
 tv:∀x∈T,x.1<4∧0<x.2.1∧fU m first x.2.1 x.1
 nd:(T.map (·.1)).Nodup
 mo:∀e∈Q,∀x∈T,e.s.1≤x.2.1
 ed:∀x∈T,∀k,k<4->m x.1 k≠0->(∃y∈T,y.1=k∧(x.2.1≤y.2.1∨m x.1 k≤y.2.1))∨(∃e∈Q,e.v.1=k∧(x.2.1≤e.s.1∨m x.1 k≤e.s.1))
 fs:(∃x∈T,x.1=first∧∀i j,i<4->j<4->m i j<x.2.1)∨(∃e∈Q,e.v.1=first∧∀i j,i<4->j<4->m i j<e.s.1)
 po:Q.length+3*(4-T.length)≤AM
theorem oL.tlen {AM:Nat}(I:oL m first w T Q AM):T.length≤4:=by
 have:=Mn 4 (T.map (·.1)) I.nd fun x hx=>by
  obtain ⟨y,hy,rfl⟩:=xr.mp hx;exact (I.tv y hy).1
 rwa [wn] at this
theorem oL.skip {AM p:Nat}{e:QE}{Q':List QE}(I:oL m first w T Q (AM+1))(hb:∀x∈Q,¬x.bef e)(hs:Ob (decide (w>0)) Q')(hm:∀x,x∈Q↔x=e∨x∈Q')(hl:Q'.length+1=Q.length)(BI:T.lookup e.v.1≠none):oL m first w T Q' AM:=by
 have sub:∀x∈Q',x∈Q:=fun x hx=>(hm x).mpr (.inr hx);have he:e∈Q:=(hm e).mpr (.inl rfl);have hy:∃y∈T,y.1=e.v.1:=Aal fun h=>BI (Jc.mpr fun x hx e=>h ⟨x,hx,e⟩);obtain ⟨y,MC,hyv⟩:=hy;have FD:=I.mo e he y MC;refine ⟨hs,fun x hx=>I.qv x (sub x hx),I.tv,I.nd,fun x hx=>I.mo x (sub x hx),fun x hx k hk IZ=>?_,?_,?_⟩
 ·rcases I.ed x hx k hk IZ with h|⟨e',DH,h1,h2⟩
  ·exact .inl h
  ·rcases (hm e').mp DH with rfl|h
   ·exact .inl ⟨y,MC,by lia,h2.imp (fun z=>z4 z FD) fun z=>z4 z FD⟩
   ·exact .inr ⟨e',h,h1,h2⟩
 ·rcases I.fs with h|⟨e',DH,h1,h2⟩
  ·exact .inl h
  ·rcases (hm e').mp DH with rfl|h
   ·refine .inl ⟨y,MC,by lia,fun i j hi hj=>?_⟩;have:=h2 i j hi hj
    lia
   ·exact .inr ⟨e',h,h1,h2⟩
 ·have:=I.po
  lia
theorem oL.take {AM p:Nat}{e:QE}{Q' Q2:List QE}(A9:∀i j,i<4->j<4->0≤m i j)(I:oL m first w T Q (AM+1))(hb:∀x∈Q,¬x.bef e)(hm:∀x,x∈Q↔x=e∨x∈Q')(hl:Q'.length+1=Q.length)(BI:T.lookup e.v.1=none)
 (N:wh m w (T++[(e.v.1,e.s)]) e.s e.v.1 Q' (PF 4) Q2):oL m first w (T++[(e.v.1,e.s)]) Q2 AM:=by
 have sub:∀x∈Q',x∈Q:=fun x hx=>(hm x).mpr (.inr hx);have he:e∈Q:=(hm e).mpr (.inl rfl);obtain ⟨GS,OQ,H8⟩:=I.qv e he;have CQ:∀{x},x∈T++[(e.v.1,e.s)]↔x∈T∨x=(e.v.1,e.s):=fun {x}=>by rw[xk,wl]
 have nd:((T++[(e.v.1,e.s)]).map (·.1)).Nodup:=by
  rw[yc,zd];refine ⟨I.nd,by simp,fun x hx y hy=>?_⟩;obtain ⟨z,hz,rfl⟩:=xr.mp hx;rw[x8,yl,wl] at hy;rw[hy];exact (Jc.mp BI) z hz
 have tv:∀x∈T++[(e.v.1,e.s)],x.1<4∧0<x.2.1∧fU m first x.2.1 x.1:=fun x hx=>by
  rcases CQ.mp hx with h|rfl
  ·exact I.tv x h
  ·exact ⟨GS,OQ,H8⟩
 have ge:∀x∈T++[(e.v.1,e.s)],e.s.1≤x.2.1:=fun x hx=>by
  rcases CQ.mp hx with h|rfl
  ·exact I.mo e he x h
  ·exact z9 _
 have IK:(T++[(e.v.1,e.s)]).length≤4:=by
  have:=Mn 4 _ nd fun x hx=>by
   obtain ⟨y,hy,rfl⟩:=xr.mp hx;exact (tv y hy).1
  rwa [wn] at this
 refine ⟨N.so,fun x hx=>?_,tv,nd,fun x hx y hy=>?_,fun x hx k hk IZ=>?_,?_,?_⟩
 ·rcases (N.mm x).mp hx with h|⟨k,hk,h1,h2,rfl⟩
  ·exact I.qv x (sub x h)
  ·have B5:k<4:=wq.mp hk;have hp:=A9 e.v.1 k GS B5;refine ⟨B5,?_,fun S g1 g2=>?_⟩
   ·show 0<if m e.v.1 k<e.s.1 then m e.v.1 k else e.s.1
    split<;>lia
   ·cases hS:S e.v.1 with
    |true=>
     refine ⟨e.v.1,k,GS,B5,hS,g2,?_⟩;show (if m e.v.1 k<e.s.1 then m e.v.1 k else e.s.1)≤_;split<;>lia
    |false=>
     obtain ⟨i,j,hi,hj,h3,h4,h5⟩:=H8 S g1 hS;refine ⟨i,j,hi,hj,h3,h4,?_⟩;show (if m e.v.1 k<e.s.1 then m e.v.1 k else e.s.1)≤_;split<;>lia
 ·have h1:=ge y hy;rcases (N.mm x).mp hx with h|⟨k,hk,_,h2,rfl⟩
  ·have:=hb x (sub x h)
   lia
  ·show (if m e.v.1 k<e.s.1 then m e.v.1 k else e.s.1)≤_;split<;>lia
 ·by_cases hin2:∃y∈T++[(e.v.1,e.s)],y.1=k∧(x.2.1≤y.2.1∨m x.1 k≤y.2.1)
  ·exact .inl hin2
  ·refine .inr ?_;rcases CQ.mp hx with h|rfl
   ·rcases I.ed x h k hk IZ with ⟨y,hy,h1,h2⟩|⟨e',DH,h1,h2⟩
    ·exact absurd (Mine.w13 y (CQ.mpr (.inl hy)) h1 h2) hin2
    ·rcases (hm e').mp DH with rfl|h3
     ·exact absurd (Mine.w13 _ (CQ.mpr (.inr rfl)) h1 h2) hin2
     ·exact ⟨e',(N.mm e').mpr (.inl h3),h1,h2⟩
   ·have H7:(T++[(e.v.1,e.s)]).lookup k=none:=Jc.mpr fun y hy hyk=>hin2 (Mine.w13 y hy hyk (.inl (ge y hy)));refine ⟨ly m e.s e.v.1 k,(N.mm _).mpr (.inr (Mine.w14 k (wq.mpr hk) IZ H7 rfl)),rfl,?_⟩;show e.s.1≤(if m e.v.1 k<e.s.1 then m e.v.1 k else e.s.1)∨m e.v.1 k≤(if m e.v.1 k<e.s.1 then m e.v.1 k else e.s.1);split<;>lia
 ·rcases I.fs with ⟨x,hx,h⟩|⟨e',DH,h1,h2⟩
  ·exact .inl (Mine.w12 x (CQ.mpr (.inl hx)) h)
  ·rcases (hm e').mp DH with rfl|h
   ·exact .inl (Mine.w13 _ (CQ.mpr (.inr rfl)) h1 h2)
   ·exact .inr (Mine.w13 e' ((N.mm e').mpr (.inl h)) h1 h2)
 ·have h1:=I.po;have h2:=N.ln;have h3:((PF 4).filter fun k=>(T++[(e.v.1,e.s)]).lookup k==none).length≤3:=by
   have h4:∀k,((T++[(e.v.1,e.s)]).lookup k==none)=true->(k != e.v.1)=true:=fun k hk=>by
    exact bne_iff_ne.mpr fun z=>(Jc.mp (beq_iff_eq.mp hk) (e.v.1,e.s) (CQ.mpr (.inr rfl))) z.symm
   have h5:((PF 4).filter fun k=>(T++[(e.v.1,e.s)]).lookup k==none).length≤((PF 4).filter fun k=>k != e.v.1).length:=by
    rw[← List.countP_eq_length_filter,← List.countP_eq_length_filter];exact List.countP_mono_left fun k Z hk=>h4 k hk
   rw[(show ∀v,v<4->((PF 4).filter fun k=>k != v).length=3 from by decide) _ GS] at h5;exact h5
  rw[xb] at IK ⊢;simp only[List.length_cons,List.length_nil] at IK ⊢
  grind
end
section
variable {m:Nat->Nat->Int}{b:Nat->Nat->Bool}{F:List (O7×V)}{first:Nat}{sf:Bool}{w:Int}{s:Bool}{T:List (Nat×(Int×Bool))}{Q:List QE}{c:Option V}
theorem m9 {J:Aj}{l:List QE}(h:Bu J (.ref 9)=some (l.map QE.val))(r:List Cv)(k:Nat):Da (J++r) (.seq (.ref 9)) k=some (l.map QE.val)[k]?:=by
 show (oe1 (Bu (J++r) (.ref 9)) none fun l=>some l[k]?)=_;rw[Ig h]
theorem uZ {x:QE}{r:List QE}(J:Aj):uD J "min" [.lst ((x::r).map QE.due)]=eN x.due (r.map QE.due):=rfl
theorem l3 (n:Nat)(W:WF m b w s F)(O:Dw (Ex F (.int (first:Int) sf) w s c T Q))(hl:Q.length≤1000)(AX:Q≠[]):∃x∈Q,(Aw gl (n+20)).ev (tE Ki) (Mc (Bs W1 1)) (Ex F (.int (first:Int) sf) w s c T Q)=some (x.due,Ex F (.int (first:Int) sf) w s c T Q)∧∀y∈Q,¬y.bef x:=by
 have hq:Bu (Ex F (.int (first:Int) sf) w s c T Q) (.ref 9)=some (Q.map QE.val):=rfl;have B8:(Aw gl (n+19)).ev (tE Ki) ((Vf (Mc (Bs W1 1)))[0]'(by rfl')) (Ex F (.int (first:Int) sf) w s c T Q)=some (.lst (Q.map QE.due),Ex F (.int (first:Int) sf) w s c T Q):=by
  refine Cq ?_;refine Do (J:=Ex F (.int (first:Int) sf) w s c T Q) QE.val QE.due (fun x=>[("strength",sv x.s),("one",nm x.v)]) (s:=.seq (.ref 9)) (by exact Eo (Ad rfl rfl W.qu) rfl) (by rfl) (fun r k=>m9 hq r k) (by
   show dy (Ex F (.int (first:Int) sf) w s c T Q++[.fr []]) (.ref 9)=_;exact wn _) hl (by rfl) (by rfl) (by rfl) (fun x Z m hm=>?_) (fun x Z=>?_) (fun x Z Z=>rfl) O.cl
  ·rcases hm with rfl|⟨u,_,rfl⟩
   ·exact Fo rfl (Br rfl (Ap (Au rfl rfl rfl)) (Br rfl (Ap (Au rfl rfl rfl)) rfl))
   ·exact Fo rfl (Br rfl (Ap (Au rfl rfl rfl)) (Br rfl (Ap (Au rfl rfl rfl)) rfl))
  ·exact Bo (Go rfl (Ae rfl (Xu (Ad rfl Af rfl) rfl) (Ae rfl (Ad rfl Af rfl) Al)))
 induction Q with
 |nil=>exact absurd rfl AX
 |cons x0 r=>
  obtain ⟨x,hx,e,hm⟩:=gj r x0;exact ⟨x,hx,(Cl rfl rfl rfl (Ae rfl B8 Al) Bf).trans (It ((uZ _).trans e)),hm⟩
def wb (n:Nat):V->Aj->Option (Fl×Aj):=fun v J=>oe1 (Cy (tE Ki) (Ee (Bs Ki.body 1)) v J) none fun Ai=>Dm (Aw gl (n+34)) (tE Ki) W1 Ai
theorem l8 (n:Nat)(W:WF m b w s F){p:Nat}{e:QE}(hl:Q.length≤1000)(hi:fy Q.length (if decide (w>0) then 0 else -1)=some p)(he:Q[p]?=some e)(hm:(Q.map QE.val).eraseIdx p=(Q.eraseIdx p).map QE.val) :
 (Aw gl (n+20)).ev (tE Ki) (Mc (Bs W1 2)) (Ex F (.int (first:Int) sf) w s c T Q)=some (e.val,Ex F (.int (first:Int) sf) w s c T (Q.eraseIdx p)):=by
 have hz:(Q.map QE.val).length≤1000000:=by rw[wn];lia
 have HK:∀z,(if decide (w>0) then 0 else -1)=z->jg "list.pop" [.ref 9,.int z true] (Ex F (.int (first:Int) sf) w s c T Q)=some (e.val,Ex F (.int (first:Int) sf) w s c T (Q.eraseIdx p)):=fun z C6=>by
  have h1:Va (Ex F (.int (first:Int) sf) w s c T Q) (.ref 9)=some (9,Q.map QE.val):=by
   show (if Nat.ble (Q.map QE.val).length 1000000 then some (9,Q.map QE.val) else none)=_;rw[if_pos (xg hz)]
  show gm _ "list.pop" (.ref 9) (.int z true)=_;unfold gm;rw[if_pos (by rfl')];refine (oE2 h1).trans ?_;show oe1 (fy (Q.map QE.val).length z) none _=_;rw[wn,← C6,hi];dsimp only;rw[x6,he];dsimp only[Option.map,oA1];rw[hm]
  rfl
 have K7:(Aw gl (n+19)).ev (tE Ki) ((Vf (Mc (Bs W1 2)))[0]'(by rfl')) (Ex F (.int (first:Int) sf) w s c T Q)=some (.int (if decide (w>0) then 0 else -1) true,Ex F (.int (first:Int) sf) w s c T Q):=by
  by_cases h:w>0
  ·rw[decide_eq_true h];exact Gk (c:=true) (Bd rfl (Ad rfl rfl W.wy) Aq (congrArg some (decide_eq_true h))) Aq
  ·rw[decide_eq_false h];exact Gk (c:=false) (Bd rfl (Ad rfl rfl W.wy) Aq (congrArg some (decide_eq_false h))) (by rfl)
 exact Lw rfl (Ad rfl rfl W.qu) (by rfl) (Ae rfl K7 Al) (HK _ rfl)
theorem Wh (n:Nat)(W:WF m b w s F):(Aw gl (n+20)).ts (tE Ki) (Ed (Bs W1 0)) (Ex F (.int (first:Int) sf) w s c T Q)=some (decide (Q=[]),Ex F (.int (first:Int) sf) w s c T Q):=by
 refine Bd rfl (Ad rfl rfl W.qu) (Qr rfl Al) ?_;cases Q with
 |nil=>rfl
 |cons x r=>rfl
theorem tI (n:Nat)(W:WF m b w s F)(k:Nat):∃F',wb n (Bi k) (Ex F (.int (first:Int) sf) w s c T [])=some (.brk,Ex F' (.int (first:Int) sf) w s c T [])∧WF m b w s F':=by
 have EN:WF m b w s (put F ("turn":O7) (Bi k)):=W.put rfl (by rfl') (by rfl') (by rfl');refine ⟨put F ("turn":O7) (Bi k),?_,EN⟩;have ht:(Aw gl (n+33)).ts (tE Ki) (Ed (Bs W1 0)) (Ex (put F ("turn":O7) (Bi k)) (.int (first:Int) sf) w s c T [])=some (true,Ex (put F ("turn":O7) (Bi k)) (.int (first:Int) sf) w s c T []):=by
  rw (config:={}) [Wh (n+13) EN,decide_eq_true rfl]
 exact Cp (s:=Bs W1 0) ((Cb ht).trans (Cp uA (by simp))) (by simp)
theorem f0 (n:Nat){AM:Nat}(hw:w≠0)(A9:∀i j,i<4->j<4->0≤m i j)(W:WF m b w s F)(hc:∀v,c=some v->Ar 10 v=true)(I:oL m first w T Q (AM+1))(hr:AM≤100)(AX:Q≠[])(k:Nat) :
 ∃F' c' T' Q',wb n (Bi k) (Ex F (.int (first:Int) sf) w s c T Q)=some (.next,Ex F' (.int (first:Int) sf) w s c' T' Q')∧WF m b w s F'∧(∀v,c'=some v->Ar 10 v=true)∧oL m first w T' Q' AM:=by
 have AV:Q.length≤1000:=by have:=I.po;lia
 have OL:Ar 10 (.int (first:Int) sf)=true:=by rfl
 have EN:WF m b w s (put F ("turn":O7) (Bi k)):=W.put rfl (by rfl') (by rfl') (by rfl');unfold wb;rw[show Cy (tE Ki) (Ee (Bs Ki.body 1)) (Bi k) (Ex F (.int (first:Int) sf) w s c T Q)=some (Ex (put F ("turn":O7) (Bi k)) (.int (first:Int) sf) w s c T Q) from Ap (Au (J:=Bb) rfl rfl rfl)];dsimp only;generalize put F ("turn":O7) (Bi k)=F1 at EN;obtain ⟨d,hd,ed,hdm⟩:=l3 (n+13) EN (wV EN.cl OL hc) AV AX (first:=first) (sf:=sf) (T:=T) (c:=c);have H0:WF m b w s (put F1 ("due":O7) d.due):=EN.put (show Ar 10 d.due=true from rfl) (by rfl') (by rfl') (by rfl');have HO:(put F1 ("due":O7) d.due).lookup ("due":O7)=some d.due:=Ej;have s0:(Aw gl (n+34)).ex (tE Ki) (Bs W1 0) (Ex F1 (.int (first:Int) sf) w s c T Q)=some (.next,Ex F1 (.int (first:Int) sf) w s c T Q):=by
  refine (Cb (Wh (n+13) EN)).trans ?_;rw[decide_eq_false AX];exact Ax
 have s1:(Aw gl (n+34)).ex (tE Ki) (Bs W1 1) (Ex F1 (.int (first:Int) sf) w s c T Q)=some (.next,Ex (put F1 ("due":O7) d.due) (.int (first:Int) sf) w s c T Q):=Cz rfl rfl ed (Au (J:=Bb) rfl rfl rfl);generalize put F1 ("due":O7) d.due=F2 at H0 HO s1;obtain ⟨p,e,hp,hpe,D5,N1,LJ,OV,L7⟩:=zD I.so AX;have N7:e∈Q:=(LJ e).mpr (.inl rfl);have LN:WF m b w s (put (put F2 ("strength":O7) (sv e.s)) ("one":O7) (nm e.v)):=(H0.put (Hp) (by rfl') (by rfl') (by rfl')).put (show Ar 10 (nm e.v)=true from rfl) (by rfl') (by rfl') (by rfl');have GW:(put (put F2 ("strength":O7) (sv e.s)) ("one":O7) (nm e.v)).lookup ("strength":O7)=some (sv e.s):=by rw[Bp (by rfl')];exact Ej
 have IF:(put (put F2 ("strength":O7) (sv e.s)) ("one":O7) (nm e.v)).lookup ("one":O7)=some (nm e.v):=Ej;have NE:(put (put F2 ("strength":O7) (sv e.s)) ("one":O7) (nm e.v)).lookup ("due":O7)=some d.due:=by rw[Bp (by rfl'),Bp (by rfl')];exact HO
 have s2:(Aw gl (n+34)).ex (tE Ki) (Bs W1 2) (Ex F2 (.int (first:Int) sf) w s c T Q)=some (.next,Ex (put (put F2 ("strength":O7) (sv e.s)) ("one":O7) (nm e.v)) (.int (first:Int) sf) w s c T (Q.eraseIdx p)):=
  Uu (l:=[sv e.s,nm e.v]) (Ab:=Ex F2 (.int (first:Int) sf) w s c T (Q.eraseIdx p)) rfl (l8 (n+13) H0 AV hp hpe L7 (first:=first) (sf:=sf) (T:=T) (c:=c)) rfl rfl (Br (Ab:=Ex (put F2 ("strength":O7) (sv e.s)) (.int (first:Int) sf) w s c T (Q.eraseIdx p)) rfl (Ap (Au (J:=Bb) rfl rfl rfl)) (Br rfl (Ap (Au (J:=Bb) rfl rfl rfl)) rfl))
 generalize put (put F2 ("strength":O7) (sv e.s)) ("one":O7) (nm e.v)=F3 at LN GW IF NE s2;have s3:(Aw gl (n+34)).ex (tE Ki) (Bs W1 3) (Ex F3 (.int (first:Int) sf) w s c T (Q.eraseIdx p))=some (.next,Ex F3 (.int (first:Int) sf) w s c T (Q.eraseIdx p)):=
  (Cb (c:=false) (Bd rfl (Go rfl (Ae rfl (Xu (Ad rfl rfl GW) rfl) (Ae rfl (Ad rfl rfl IF) Al))) (Ad rfl rfl NE) (ou _ (x:=e) (y:=d) (hdm e N7) (D5 d hd)))).trans Ax
 have pre:Dm (Aw gl (n+34)) (tE Ki) W1 (Ex F1 (.int (first:Int) sf) w s c T Q)=Dm (Aw gl (n+34)) (tE Ki) (W1.drop 4) (Ex F3 (.int (first:Int) sf) w s c T (Q.eraseIdx p)):=
  (Dr (s:=Bs W1 0) s0 ((Dr (s:=Bs W1 1) s1 ((Dr (s:=Bs W1 2) s2 (Am (s:=Bs W1 3) s3))))))
 obtain ⟨GS,OQ,_⟩:=I.qv e N7;have AS:(Aw gl (n+33)).ts (tE Ki) (Ed (Bs W1 4)) (Ex F3 (.int (first:Int) sf) w s c T (Q.eraseIdx p))=some (T.lookup e.v.1==none,Ex F3 (.int (first:Int) sf) w s c T (Q.eraseIdx p)):=by
  refine Bd rfl (Ad rfl rfl IF) (Bc rfl rfl rfl) ?_;show some (!((Eu (e.v.1:Int) (dv T)).isSome))=_;rw[Tj];cases T.lookup e.v.1<;>rfl
 cases AP:(T.lookup e.v.1==none) with
 |false=>
  rw[AP] at AS;exact ⟨F3,c,T,Q.eraseIdx p,pre.trans ((Am (s:=Bs W1 4) ((Cb AS).trans Ax)).trans Ax),LN,hc,I.skip (p:=p) D5 N1 LJ OV fun z=>by rw[z] at AP;cases AP⟩
 |true=>
  rw[AP] at AS;have IV:T.lookup e.v.1=none:=beq_iff_eq.mp AP;have D2:Ga (.ref 8) (nm e.v) (sv e.s) (Ex F3 (.int (first:Int) sf) w s c T (Q.eraseIdx p))=some (Ex F3 (.int (first:Int) sf) w s c (T++[(e.v.1,e.s)]) (Q.eraseIdx p)):=by
   have NO:=I.tlen;show (if Nat.ble (dv T).length 1000000 then some ((Ex F3 (.int (first:Int) sf) w s c T (Q.eraseIdx p)).set 8 (.dct (Js (e.v.1:Int) (sv e.s) (dv T)))) else none)=_;rw[if_pos (xg (by unfold dv;rw[wn];lia)),wW (by rw[Tj,IV];rfl)];have:dv T++[((e.v.1:Int),sv e.s)]=dv (T++[(e.v.1,e.s)]):=by
    unfold dv;rw[yc];rfl
   rw[this]
   rfl
  have t0:(Aw gl (n+33)).ex (tE Ki) (Bs W4 0) (Ex F3 (.int (first:Int) sf) w s c T (Q.eraseIdx p))=some (.next,Ex F3 (.int (first:Int) sf) w s c (T++[(e.v.1,e.s)]) (Q.eraseIdx p)):=
   Oo rfl (Ad rfl rfl GW) (Bc rfl rfl rfl) (Ad rfl rfl IF) D2
  have KQ:=Im (ι:=fun k:Nat=>Bi (k:Int)) (body:=inB (n+2)) (s:=.rng 0 4) (l:=PF 4) (St:=fun pre J=>∃F' c' Q',J=Ex F' (.int (first:Int) sf) w s c' (T++[(e.v.1,e.s)]) Q'∧WF m b w s F'∧F'.lookup ("strength":O7)=some (sv e.s)∧F'.lookup ("one":O7)=some (nm (e.v.1,e.v.2))∧(∀v,c'=some v->Ar 10 v=true)∧wh m w (T++[(e.v.1,e.s)]) e.s e.v.1 (Q.eraseIdx p) pre Q')
   (fun Z J k Z=>Cr J k 4) (fun pre k J S hp=>by
    obtain ⟨F',c',Q',rfl,g1,g2,g3,g4,g5⟩:=S;obtain ⟨B3,hp⟩:=hp;have hQ':Q'.length≤1000:=by
     have h1:=g5.ln;have h2:=List.length_filter_le (fun k=>(T++[(e.v.1,e.s)]).lookup k==none) pre;have h3:pre.length≤4:=by
      have:=congrArg List.length hp;rw[yx,xb] at this
      lia
     have:=I.po
     lia
    obtain ⟨EU,c'',Q'',e1,e2,e3,e4,e5,e6⟩:=aa (n+2) hw g1 g2 g3 GS (wq.mp (by rw[hp];simp)) OL g4 g5 hQ';exact ⟨_,e1,EU,c'',Q'',rfl,e2,e3,e4,e5,e6⟩) (PF 4) [] (Ex F3 (.int (first:Int) sf) w s c (T++[(e.v.1,e.s)]) (Q.eraseIdx p)) rfl
   ⟨F3,c,Q.eraseIdx p,rfl,LN,GW,IF,hc,N1,fun x=>⟨.inl,fun h=>h.elim id fun ⟨k,hk,_⟩=>by cases hk⟩,by simp⟩
  obtain ⟨Av,ego,F4,c4,Q4,rfl,W4',_,_,hc4,N⟩:=KQ;have t1:(Aw gl (n+33)).ex (tE Ki) (Bs W4 1) (Ex F3 (.int (first:Int) sf) w s c (T++[(e.v.1,e.s)]) (Q.eraseIdx p))=some (.next,Ex F4 (.int (first:Int) sf) w s c4 (T++[(e.v.1,e.s)]) Q4):=
   (Hs (Dl (Az rfl rfl) (Ae rfl Aq Al) rfl) rfl).trans ego
  exact ⟨F4,c4,T++[(e.v.1,e.s)],Q4,pre.trans ((Am (s:=Bs W1 4) ((Cb AS).trans ((Dr (s:=Bs W4 0) t0 ((Am (s:=Bs W4 1) t1).trans Ax))))).trans Ax),W4',hc4,I.take (p:=p) A9 D5 LJ OV IV N⟩
end
section
variable {m:Nat->Nat->Int}{b:Nat->Nat->Bool}{first:Nat}{sf:Bool}{w:Int}{s:Bool}
theorem bx (n:Nat)(hw:w≠0)(A9:∀i j,i<4->j<4->0≤m i j):∀(AM k:Nat)(F:List (O7×V))(c:Option V)(T:List (Nat×(Int×Bool)))(Q:List QE),k+AM=13->WF m b w s F->(∀v,c=some v->Ar 10 v=true)->oL m first w T Q AM ->
 ∃F' c' T' r',Mt (wb n) (.rng 0 13) (AM+1) k (Ex F (.int (first:Int) sf) w s c T Q)=some (.next,Ex F' (.int (first:Int) sf) w s c' T' [])∧WF m b w s F'∧(∀v,c'=some v->Ar 10 v=true)∧oL m first w T' [] r':=by
 intro X
 induction X with
 |zero=>
  intro k F c T Q hk W hc I;have hq:Q=[]:=Aak (by have:=I.po;lia);subst hq;have:Da (Ex F (.int (first:Int) sf) w s c T []) (.rng 0 13) k=some none:=by
   rw[Cr,show k=13 by bv_omega];rfl
  exact ⟨F,c,T,0,Qe this,W,hc,I⟩
 |succ AM ih=>
  intro k F c T Q hk W hc I;have hn:∀Q,Da (Ex F (.int (first:Int) sf) w s c T Q) (.rng 0 13) k=some (some (Bi k)):=fun Q=>by
   rw[Cr];simp[show k<13 by lia]
  by_cases hq:Q=[]
  ·subst hq;obtain ⟨F',e,W'⟩:=tI n W k (first:=first) (sf:=sf) (T:=T) (c:=c);exact ⟨F',c,T,_,sA (hn _) e,W',hc,I⟩
  ·obtain ⟨F1,c1,T1,Q1,e1,EN,E9,I1⟩:=f0 n hw A9 W hc I (by lia) hq k (sf:=sf);obtain ⟨F2,c2,T2,r2,e2,H0,E2,I2⟩:=ih (k+1) F1 c1 T1 Q1 (by lia) EN E9 I1;exact ⟨F2,c2,T2,r2,(Nd (hn _) e1).trans e2,H0,E2,I2⟩
def retV:PC->O6
 |.Return (some x) _=>x
 |_=>.Constant .none 0 default
def dW (T:List (Nat×(Int×Bool))) (first k:Nat):Int×Bool:=if k=first then (0,true) else (T.lookup k).getD (0,true)
theorem ni (n:Nat){F:List (O7×V)}{c:Option V}{T:List (Nat×(Int×Bool))}(W:WF m b w s F)(hc:∀v,c=some v->Ar 10 v=true)(hf:first<4) :
 (Aw gl (n+20)).ev (tE Ki) (retV (Bs Ki.body 2)) (Ex F (.int (first:Int) sf) w s c T [])=some (.lst ((PF 4).map fun k=>sv (dW T first k)),Ex F (.int (first:Int) sf) w s c T []):=by
 refine Cq ?_;refine Do (J:=Ex F (.int (first:Int) sf) w s c T []) (fun k:Nat=>Bi (k:Int)) (fun k=>sv (dW T first k)) (fun k=>[("other",Bi (k:Int))]) (by exact Dl (Az rfl rfl) (Ae rfl Aq Al) rfl) (by rfl) (fun r k=>Cr _ k 4) (by rfl) (by decide) (by rfl) (by rfl) (by rfl) (fun k Z m hm=>?_) (fun k hk=>?_) (fun k hk Z=>?_) (wV W.cl (by rfl) hc).cl
 ·refine Ap (Au rfl rfl ?_);rcases hm with rfl|⟨u,_,rfl⟩<;>rfl
 ·refine Bo ?_;have DK:∀J,Dx J .NotEq (Bi k) (.int (first:Int) sf)=some (!decide (k=first)):=fun J=>by
   show some (!((k:Int)==(first:Int)))=_;congr 2;rw[Bool.eq_iff_iff,beq_iff_eq,decide_eq_true_eq]
   lia
  unfold dW;by_cases h:k=first
  ·rw[if_pos h];refine Gk (c:=false) (Bd rfl (Ad rfl Af rfl) (Bc rfl rfl rfl) ((DK _).trans ?_)) Aq;rw[decide_eq_true h];rfl
  ·rw[if_neg h];refine Gk (c:=true) (Bd rfl (Ad rfl Af rfl) (Bc rfl rfl rfl) ((DK _).trans ?_)) ?_
   ·rw[decide_eq_false h];rfl
   ·refine Lw rfl (Bc rfl rfl rfl) (by rfl) (Ae rfl (Ad rfl Af rfl) (Ae rfl Aq Al)) ?_;show some ((Eu (k:Int) (dv T)).getD (Bi 0),_)=some (sv ((T.lookup k).getD (0,true)),_);rw[Tj];cases T.lookup k<;>rfl
 ·rfl
def py (m:Nat->Nat->Int):Int:=Ju 0 [Kx (m 0 0) [m 0 1,m 0 2,m 0 3],Kx (m 1 0) [m 1 1,m 1 2,m 1 3],Kx (m 2 0) [m 2 1,m 2 2,m 2 3],Kx (m 3 0) [m 3 1,m 3 2,m 3 3]]+1
theorem lO:∀(l:List Int)(a:Int),∀x∈a::l,x≤Kx a l:=by
 intro X
 induction X with
 |nil=>
  intro a x h;rw[wl] at h;subst h;exact z9 _
 |cons y l ih=>
  intro a x h;rw[Kx];have ih:=ih (if y>a then y else a);have h0:=ih _ (.head _);by_cases hc:y>a
  ·rw[if_pos hc] at ih h0 ⊢;rcases wk.mp h with rfl|h
   ·lia
   ·rcases wk.mp h with rfl|h
    ·exact h0
    ·exact ih x (.tail _ h)
  ·rw[if_neg hc] at ih h0 ⊢;rcases wk.mp h with rfl|h
   ·exact h0
   ·rcases wk.mp h with rfl|h
    ·lia
    ·exact ih x (.tail _ h)
theorem tB (A9:∀i j,i<4->j<4->0≤m i j){i j:Nat}(hi:i<4)(hj:j<4):m i j<py m:=by
 have row:∀i,i<4->∀j,j<4->m i j≤Kx (m i 0) [m i 1,m i 2,m i 3]:=fun i Z j hj=>by
  refine lO _ _ _ ?_;refine k4 hj ?_ ?_ ?_ ?_
  ·simp
  ·simp
  ·simp
  ·simp
 have nn:∀i,i<4->0≤Kx (m i 0) [m i 1,m i 2,m i 3]:=fun i hi=>z4 (A9 i 0 hi (by decide)) (row i hi 0 (by decide));have h0:=nn 0 (by decide);have h1:=nn 1 (by decide);have h2:=nn 2 (by decide);have h3:=nn 3 (by decide);have hr:=row i hi j hj;unfold py;simp only[Rz,Pf];revert hr;refine k4 hi ?_ ?_ ?_ ?_
 ·intro hr;lia
 ·intro hr;lia
 ·intro hr;lia
 ·intro hr;lia
theorem fi (n:Nat):(Aw gl (n+35)).ex (tE Ki) (Bs Ki.body 0) (Bb++[.fr [("links",lk m b),("way",.int w s)],.cell (some (.int (first:Int) sf)),.cell (some (wC w s)),.cell none,.cell none]) =
 some (.next,Ex [("links",lk m b),("way",.int w s),("queue",.ref 9)] (.int (first:Int) sf) w s none [] [⟨(py m,false),(first,sf)⟩]):=by kernel_rfl
theorem eH (n:Nat){J:Aj}(O:Dw J)(hw:w≠0)(A9:∀i j,i<4->j<4->0≤m i j)(hf:first<4) :
 ∃d:Nat->Int×Bool,(Aw gl (n+36)).call (.fn 164) [lk m b,.int (first:Int) sf,wC w s,.int w s] [] J=some (.lst ((PF 4).map fun k=>sv (d k)),J)∧(d first).1=0 ∧
  ∀v,v<4->v≠first->0≤(d v).1∧∀t,0<t->(fU m first t v↔t≤(d v).1):=by
 have W0:WF m b w s [("links",lk m b),("way",.int w s),("queue",.ref 9)]:=⟨rfl,rfl,rfl,by
  rw[Ah,Ah,Cu]
  rfl⟩
 have I0:oL m first w [] [⟨(py m,false),(first,sf)⟩] 13:=by
  refine ⟨List.pairwise_singleton _ _,fun e he=>?_,(fun x hx=>by cases hx),List.nodup_nil,(fun e Z x hx=>by cases hx),(fun x hx=>by cases hx),.inr (Mine.w13 _ (.head _) rfl (fun i j hi hj=>tB A9 hi hj)),by simp⟩;rw[wl] at he;rw[he];refine ⟨hf,?_,fun S h1 h2=>by
   rw[h1] at h2;cases h2⟩
  have h1:=tB A9 hf hf;have h2:=A9 first first hf hf
  show 0<py m
  lia
 obtain ⟨F,c,T,r',e,W,hc,I⟩:=bx (n+0) hw A9 13 0 _ none [] _ rfl W0 (fun v z=>by cases z) I0 (sf:=sf);have h1:(Aw gl (n+35)).ex (tE Ki) (Bs Ki.body 1) (Ex [("links",lk m b),("way",.int w s),("queue",.ref 9)] (.int (first:Int) sf) w s none [] [⟨(py m,false),(first,sf)⟩])=some (.next,Ex F (.int (first:Int) sf) w s c T []):=
  (Hs (Dl (Az rfl rfl) (Ae rfl Aq Al) rfl) rfl).trans e
 have he:Dm (Aw gl (n+35)) (tE Ki) Ki.body (Bb++[.fr [("links",lk m b),("way",.int w s)],.cell (some (.int (first:Int) sf)),.cell (some (wC w s)),.cell none,.cell none])=some (.ret (.lst ((PF 4).map fun k=>sv (dW T first k))),Ex F (.int (first:Int) sf) w s c T []):=
  (Dr (s:=Bs Ki.body 0) (fi n) ((Dr (s:=Bs Ki.body 1) h1 (Cp (s:=Bs Ki.body 2) (Fb (ni (n+14) W hc hf)) (by simp)))))
 have hz:∀mm:Aj,Ec (By mm 3 5) ((PF 4).map fun k=>sv (dW T first k))=some ((PF 4).map fun k=>sv (dW T first k)):=fun mm=>Np fun u hu=>by
  obtain ⟨x,_,rfl⟩:=xr.mp hu
  rfl
 refine ⟨dW T first,Gm (bs:=[(("links":O7),lk m b),(("first":O7),.int (first:Int) sf),(("comp":O7),wC w s),(("way":O7),.int w s)]) O oz rfl rfl ?_ rfl rfl he (congrArg (Option.map V.lst) (hz (Ex F (.int (first:Int) sf) w s c T []))),?_,fun v hv hvf=>?_⟩
 ·rw[Ah,Ah,Ah,Cu]
  rfl
 ·unfold dW;rw[if_pos rfl]
 ·have IP:dW T first v=(T.lookup v).getD (0,true):=by unfold dW;rw[if_neg hvf]
  have hfs:∃x∈T,x.1=first∧∀i j,i<4->j<4->m i j<x.2.1:=by
   rcases I.fs with h|⟨e,he,_⟩
   ·exact h
   ·cases he
  obtain ⟨xf,HB,KH,HN⟩:=hfs;have DG:0≤(dW T first v).1∧(∀x∈T,x.1=v->(dW T first v).1=x.2.1)∧((∃x∈T,x.1=v)∨(dW T first v).1=0):=by
   rw[IP];cases CP:T.lookup v with
   |none=>
    refine ⟨z9 _,fun x hx DB=>absurd DB (Jc.mp CP x hx),.inr rfl⟩
   |some y=>
    have CR:∃x∈T,x.1=v:=Aal fun h=>by
     rw[Jc.mpr fun x hx e=>h ⟨x,hx,e⟩] at CP;cases CP
    have FR:∀x∈T,x.1=v->y.1=x.2.1:=fun x hx DB=>by
     have:=sZ I.nd hx;rw[DB,CP] at this;cases this;rfl
    obtain ⟨x,hx,DB⟩:=CR;refine ⟨?_,FR,.inl ⟨x,hx,DB⟩⟩;show 0≤y.1;rw[FR x hx DB];have:=(I.tv x hx).2.1
    lia
  obtain ⟨hd0,MI,GO⟩:=DG;refine ⟨hd0,fun t ht=>⟨fun hwt=>?_,fun GV=>?_⟩⟩
  ·
   have AZ:∀{y:Nat×(Int×Bool)},y∈T->y.1=v->∃i j,i<4∧j<4∧y.2.1≤m i j:=fun {y} hy hyv=>by
    obtain ⟨i,j,hi,hj,_,_,h⟩:=(I.tv y hy).2.2 (fun k=>decide (k=first)) (by simp) (by simp;lia);exact ⟨i,j,hi,hj,h⟩
   have MU:(dW T first v).1<xf.2.1:=by
    rcases GO with ⟨x,hx,DB⟩|h0
    ·obtain ⟨i,j,hi,hj,h⟩:=AZ hx DB;rw[MI x hx DB];have:=HN i j hi hj
     lia
    ·rw[h0];have h1:=HN 0 0 (by decide) (by decide);have h2:=A9 0 0 (by decide) (by decide)
     lia
   let S:Nat->Bool:=fun k=>@decide (∃x∈T,x.1=k∧(dW T first v).1<x.2.1) (Classical.propDecidable _)
   have hS:∀k,S k=true↔∃x∈T,x.1=k∧(dW T first v).1<x.2.1:=fun k=>@decide_eq_true_iff _ (Classical.propDecidable _);have hSv:S v=false:=Bool.eq_false_iff.mpr fun h=>by
    obtain ⟨x,hx,DB,h⟩:=(hS _).mp h;rw[MI x hx DB] at h
    lia
   obtain ⟨i,j,hi,hj,h1,h2,h3⟩:=hwt S ((hS _).mpr (Mine.w13 xf HB KH MU)) hSv;obtain ⟨x,hx,rfl,hxd⟩:=(hS _).mp h1;rcases I.ed x hx j hj (by lia) with ⟨y,hy,hyj,h⟩|⟨e,he,_⟩
   ·have hny:¬(dW T first v).1<y.2.1:=fun z=>by
     rw[(hS j).mpr (Mine.w13 y hy hyj z)] at h2;cases h2
    grind
   ·cases he
  ·rcases GO with ⟨x,hx,DB⟩|h0
   ·have:=(I.tv x hx).2.2;rw[DB] at this;rw[MI x hx DB] at GV;exact this.mono GV
   ·lia
end
section
theorem Hn {n:Nat}{ad:O5}{d:Ek}{args:List V}{bs:List (O7×V)}{J:Aj}{v:V}(O:Dw J)(hd:gl.D ad=some d)(ha:(ad==gl.cls)=false)(hb:Hr d args []=some bs)(hc:Bg 3 bs=true)
 (h:(Aw gl (n+1)).call (.fn ad) args [] Bb=some (v,Bb)):(Aw gl (n+1)).call (.fn ad) args [] J=some (v,J):=by
 refine Et hd ha hb O (fun z=>absurd hc z) fun Z=>⟨?_,rfl⟩;have h:=(kX ha hd hb rfl).symm.trans h;rw[if_pos (show Bg gl.nt bs=true from hc)] at h;have h:(oe2 (Kd (Aw gl n) d bs Bb) none fun v Ab=>if Fn Ab Bb then some (v,Bb) else none)=some (v,Bb):=h;cases hr:Kd (Aw gl n) d bs Bb with
 |none=>rw[hr] at h;cases h
 |some r=>
  obtain ⟨v',Av⟩:=r;rw[hr] at h;split at h
  ·rename_i ht;cases h;rw[Sh ht]
  ·cases h
def Xm (m:Nat->Nat->Int) (S:Nat):List Int:=(PF 4).flatMap fun i=>(PF 4).filterMap fun j=>if S.testBit i && !S.testBit j then some (m i j) else none
def bQ:List Int->Int
 |[]=>0
 |a::l=>Kx a l
def yK:List Int->Int
 |[]=>0
 |a::l=>Se a l
def Qm (m:Nat->Nat->Int) (i j:Nat):Int:=yK ((List.range' 1 14).filterMap fun S=>if S.testBit i && !S.testBit j then some (bQ (Xm m S)) else none)
def pF (m:Nat->Nat->Int) (i j:Nat):V:=if i=j then .int 0 true else .int (Qm m i j) false
def DCU:Ek:=(Kc 169).get (by rfl')
theorem ky:gl.D 169=some DCU:=by kernel_rfl
variable {m:Nat->Nat->Int}{b:Nat->Nat->Bool}
theorem xW (n:Nat):(Aw gl (n+30)).call (.fn 169) [lk m b] [] Bb=some (.lst ((PF 4).map fun i=>.lst ((PF 4).map fun j=>pF m i j)),Bb):=by kernel_rfl
theorem oV (n:Nat){J:Aj}(O:Dw J):(Aw gl (n+30)).call (.fn 169) [lk m b] [] J=some (.lst ((PF 4).map fun i=>.lst ((PF 4).map fun j=>pF m i j)),J):=
 Hn (bs:=[(("links":O7),lk m b)]) O ky rfl rfl (by rw[Ah,Cu];rfl) (xW n)
theorem sP:∀(l:List Int)(a:Int),Kx a l∈a::l:=by
 intro X
 induction X with
 |nil=>
  intro a;exact .head _
 |cons y l ih=>
  intro a;rw[Kx];by_cases hc:y>a
  ·rw[if_pos hc];exact .tail _ (ih y)
  ·rw[if_neg hc];rcases wk.mp (ih a) with h|h
   ·rw[h];exact .head _
   ·exact .tail _ (.tail _ h)
theorem zB:∀(l:List Int)(a:Int),Se a l∈a::l:=by
 intro X
 induction X with
 |nil=>
  intro a;exact .head _
 |cons y l ih=>
  intro a;rw[uY];by_cases hc:y<a
  ·rw[if_pos hc];exact .tail _ (ih y)
  ·rw[if_neg hc];rcases wk.mp (ih a) with h|h
   ·rw[h];exact .head _
   ·exact .tail _ (.tail _ h)
theorem ch:∀(l:List Int)(a:Int),∀x∈a::l,Se a l≤x:=by
 intro X
 induction X with
 |nil=>
  intro a x h;rw[wl] at h;subst h;exact z9 _
 |cons y l ih=>
  intro a x h;rw[uY];have ih:=ih (if y<a then y else a);have h0:=ih _ (.head _);by_cases hc:y<a
  ·rw[if_pos hc] at ih h0 ⊢;rcases wk.mp h with rfl|h
   ·lia
   ·rcases wk.mp h with rfl|h
    ·exact h0
    ·exact ih x (.tail _ h)
  ·rw[if_neg hc] at ih h0 ⊢;rcases wk.mp h with rfl|h
   ·exact h0
   ·rcases wk.mp h with rfl|h
    ·lia
    ·exact ih x (.tail _ h)
theorem cG {l:List Int}(h:l≠[]):bQ l∈l:=by
 cases l with
 |nil=>exact absurd rfl h
 |cons a l=>exact sP l a
theorem eZ {l:List Int}(h:l≠[]):yK l∈l:=by
 cases l with
 |nil=>exact absurd rfl h
 |cons a l=>exact zB l a
theorem dn {l:List Int}{x:Int}(h:x∈l):x≤bQ l:=by
 cases l with
 |nil=>cases h
 |cons a l=>exact lO l a x h
theorem b8 {l:List Int}{x:Int}(h:x∈l):yK l≤x:=by
 cases l with
 |nil=>cases h
 |cons a l=>exact ch l a x h
theorem Ql {S:Nat}{x:Int}:x∈Xm m S↔∃i j,i<4∧j<4∧S.testBit i=true∧S.testBit j=false∧x=m i j:=by
 unfold Xm;rw[List.mem_flatMap];constructor
 ·rintro ⟨i,hi,h⟩;obtain ⟨j,hj,h⟩:=Aai.mp h;cases hc:(S.testBit i && !S.testBit j) with
  |false=>rw[hc] at h;cases h
  |true=>
   rw[hc] at h;cases h;rw[wm] at hc;exact ⟨i,j,wq.mp hi,wq.mp hj,hc.1,by simpa using hc.2,rfl⟩
 ·rintro ⟨i,j,hi,hj,h1,h2,rfl⟩;exact ⟨i,wq.mpr hi,Aai.mpr ⟨j,wq.mpr hj,by rw[h1,h2];rfl⟩⟩
def Wq (S:Nat->Bool):Nat:=(S 0).toNat+2*(S 1).toNat+4*(S 2).toNat+8*(S 3).toNat
theorem Hm (S:Nat->Bool){k:Nat}(hk:k<4):(Wq S).testBit k=S k:=by
 have key:∀a b c d:Bool,(a.toNat+2*b.toNat+4*c.toNat+8*d.toNat).testBit 0=a∧(a.toNat+2*b.toNat+4*c.toNat+8*d.toNat).testBit 1=b∧(a.toNat+2*b.toNat+4*c.toNat+8*d.toNat).testBit 2=c∧(a.toNat+2*b.toNat+4*c.toNat+8*d.toNat).testBit 3=d:=by decide
 obtain ⟨h0,h1,h2,h3⟩:=key (S 0) (S 1) (S 2) (S 3);exact k4 hk (h0) (h1) (h2) (h3)
theorem cJ (S:Nat->Bool){i j:Nat}(hi:i<4)(hj:j<4)(h1:S i=true)(h2:S j=false):Wq S∈List.range' 1 14:=by
 have AZ:Wq S<16:=by
  unfold Wq;exact Nat.lt_succ_of_le (zr (zr (zr (Bool.toNat_le _) (zy 2 (Bool.toNat_le _))) (zy 4 (Bool.toNat_le _))) (zy 8 (Bool.toNat_le _)))
 have b1:=Hm S hi;have b2:=Hm S hj;rw[h1] at b1;rw[h2] at b2;have n0:Wq S≠0:=fun e=>by rw[e] at b1;simp at b1
 have n15:Wq S≠15:=fun e=>by
  rw[e] at b2;have:∀j,j<4->(15:Nat).testBit j=true:=by decide
  rw[this j hj] at b2;cases b2
 rw[List.mem_range'_1];exact ⟨Nat.pos_of_ne_zero n0,Nat.lt_of_le_of_ne (y8 AZ) n15⟩
theorem eV {i j:Nat}(hi:i<4)(hj:j<4)(AO:i≠j):(∀t,fU m i t j↔t≤Qm m i j)∧∃a b,a<4∧b<4∧Qm m i j=m a b:=by
 let Ls:=(List.range' 1 14).filterMap fun S=>if S.testBit i && !S.testBit j then some (bQ (Xm m S)) else none
 have ES:∀x,x∈Ls↔∃S∈List.range' 1 14,S.testBit i=true∧S.testBit j=false∧x=bQ (Xm m S):=fun x=>by
  rw[Aai];constructor
  ·rintro ⟨S,hS,h⟩;cases hc:(S.testBit i && !S.testBit j) with
   |false=>rw[hc] at h;cases h
   |true=>
    rw[hc] at h;cases h;rw[wm] at hc;exact ⟨S,hS,hc.1,by simpa using hc.2,rfl⟩
  ·rintro ⟨S,hS,h1,h2,rfl⟩;exact ⟨S,hS,by rw[h1,h2];rfl⟩
 have AX:∀{S:Nat},S.testBit i=true->S.testBit j=false->Xm m S≠[]:=fun {S} h1 h2 e=>by
  have:m i j∈Xm m S:=Ql.mpr ⟨i,j,hi,hj,h1,h2,rfl⟩;have this:=e ▸ this;cases this
 have HZ:Ls≠[]:=fun e=>by
  have h1:(fun k=>decide (k=i)) i=true:=by simp
  have h2:(fun k=>decide (k=i)) j=false:=by simp;lia
  have:bQ (Xm m (Wq fun k=>decide (k=i)))∈Ls:=(ES _).mpr ⟨_,cJ _ hi hj h1 h2,by rw[Hm _ hi];exact h1,by rw[Hm _ hj];exact h2,rfl⟩;have this:=e ▸ this;cases this
 refine ⟨fun t=>⟨fun hw=>?_,fun GV S h1 h2=>?_⟩,?_⟩
 ·obtain ⟨S,hS,h1,h2,e⟩:=(ES _).mp (eZ HZ);show t≤yK Ls;rw[e];obtain ⟨a,c,ha,hc,h3,h4,h5⟩:=hw (fun k=>S.testBit k) h1 h2;exact z4 h5 (dn (Ql.mpr ⟨a,c,ha,hc,h3,h4,rfl⟩))
 ·have b1:(Wq S).testBit i=true:=by rw[Hm S hi];exact h1
  have b2:(Wq S).testBit j=false:=by rw[Hm S hj];exact h2
  have:bQ (Xm m (Wq S))∈Ls:=(ES _).mpr ⟨_,cJ S hi hj h1 h2,b1,b2,rfl⟩;have h3:t≤bQ (Xm m (Wq S)):=z4 GV (b8 this);obtain ⟨a,c,ha,hc,h4,h5,h6⟩:=Ql.mp (cG (AX b1 b2));rw[Hm S ha] at h4;rw[Hm S hc] at h5;exact ⟨a,c,ha,hc,h4,h5,by lia⟩
 ·obtain ⟨S,hS,h1,h2,e⟩:=(ES _).mp (eZ HZ);obtain ⟨a,c,ha,hc,_,_,h6⟩:=Ql.mp (cG (AX h1 h2));refine ⟨a,c,ha,hc,?_⟩;show yK Ls=_;rw[e,h6]
theorem Xh {row:List (Int×Bool)}{i j:Nat}{x:Int}(A9:∀i j,i<4->j<4->0≤m i j)(BZ:∀y,y∈row.map (·.1)↔∃a b,a<4∧b<4∧m a b=y∧y≠0)(hi:i<4)(hj:j<4)(AO:i≠j)(h:Sd m row i j x):x=Qm m i j:=by
 obtain ⟨h1,a,c,ha,hc,h2⟩:=eV (m:=m) hi hj AO;have hp:=A9 a c ha hc;have BI:Qm m i j≠0->∃y∈row,y.1=Qm m i j:=fun AX=>by
  have:=(BZ (Qm m i j)).mpr ⟨a,c,ha,hc,h2.symm,AX⟩;obtain ⟨y,hy,e⟩:=xr.mp this;exact ⟨y,hy,e⟩
 rcases h with ⟨rfl,h3⟩|⟨⟨y,hy,rfl⟩,h4,h5⟩
 ·by_cases hz:Qm m i j=0
  ·exact hz.symm
  ·obtain ⟨y,hy,e⟩:=BI hz;exact absurd ((h1 y.1).mpr (by lia)) (h3 y hy)
 ·have h6:=(h1 y.1).mp h4;by_cases hz:Qm m i j=0
  ·have:y.1∈row.map (·.1):=xr.mpr ⟨y,hy,rfl⟩;obtain ⟨p,q,JH,CT,e,AX⟩:=(BZ _).mp this;have:=A9 p q JH CT
   lia
  ·obtain ⟨z,GP,e⟩:=BI hz;have:=h5 z GP ((h1 z.1).mpr (by lia))
   lia
theorem gX {d:Int}{i j:Nat}(A9:∀i j,i<4->j<4->0≤m i j)(hi:i<4)(hj:j<4)(AO:i≠j)(h0:0≤d)(h:∀t,0<t->(fU m i t j↔t≤d)):d=Qm m i j:=by
 obtain ⟨h1,a,c,ha,hc,h2⟩:=eV (m:=m) hi hj AO;have hp:=A9 a c ha hc;have e:∀t,0<t->(t≤d↔t≤Qm m i j):=fun t ht=>(h t ht).symm.trans (h1 t);by_cases hd:0<d
 ·have:=(e d hd).mp (z9 _);by_cases CB:0<Qm m i j
  ·have:=(e _ CB).mpr (z9 _)
   lia
  ·lia
 ·by_cases CB:0<Qm m i j
  ·have:=(e _ CB).mpr (z9 _)
   lia
  ·lia
end
section
def dI (L:List (Int×(Int×Bool))):List (Int×V):=L.map fun p=>(p.1,sv p.2)
def fV (k:Int):List (Int×(Int×Bool))->Option (Int×Bool)
 |[]=>none
 |(j,y)::r=>if j=k then some y else fV k r
def fS (k:Int) (x:Int×Bool):List (Int×(Int×Bool))->List (Int×(Int×Bool))
 |[]=>[(k,x)]
 |(j,y)::r=>if j=k then (j,x)::r else (j,y)::fS k x r
theorem lC {k j:Int}{y:Int×Bool}{r:List (Int×(Int×Bool))}:fV k ((j,y)::r)=if j=k then some y else fV k r:=rfl
theorem ic {k:Int}{x:Int×Bool}:fS k x []=[(k,x)]:=rfl
theorem lH {k j:Int}{x y:Int×Bool}{r:List (Int×(Int×Bool))}:fS k x ((j,y)::r)=if j=k then (j,x)::r else (j,y)::fS k x r:=rfl
theorem aF {k:Int}:∀{L:List (Int×(Int×Bool))},Eu k (dI L)=(fV k L).map sv:=by
 intro X
 induction X with
 |nil=>
  exact rfl
 |cons X L ih=>
  obtain ⟨j,x⟩:=X;show (if j=k then some (sv x) else Eu k (dI L))=_;rw[ih,lC];split<;>rfl
theorem p6 {k:Int}{x:Int×Bool}:∀{L:List (Int×(Int×Bool))},Js k (sv x) (dI L)=dI (fS k x L):=by
 intro X
 induction X with
 |nil=>
  exact rfl
 |cons X L ih=>
  obtain ⟨j,y⟩:=X;show (if j=k then (j,sv x)::dI L else (j,sv y)::Js k (sv x) (dI L))=_;rw[ih,lH];split<;>rfl
theorem fj {k:Int}{x:Int×Bool}:∀{L:List (Int×(Int×Bool))},(∀p∈L,p.1≠k)->fS k x L=L++[(k,x)]:=by
 intro X
 induction X with
 |nil=>
  intro Z;exact rfl
 |cons X L ih=>
  obtain ⟨j,y⟩:=X;intro h;rw[lH,if_neg (h _ (.head _)),ih fun p hp=>h p (.tail _ hp)];rfl
theorem ai {k:Int}{x:Int×Bool}:∀{L:List (Int×(Int×Bool))},(fS k x L).length≤L.length+1:=by
 intro X
 induction X with
 |nil=>
  exact wu _
 |cons X L ih=>
  obtain ⟨j,y⟩:=X;rw[lH];split
  ·simp
  ·have:=ih;simp only[List.length_cons]
   lia
def kN (AD:List (Int×(Int×Bool))) (p:Int×(Int×Bool)):List (Int×(Int×Bool)):=match fV p.1 AD with
 |some y=>fS p.1 (y.1+p.2.1,false) AD
 |none=>fS p.1 p.2 AD
theorem He {k:Nat}:∀{L:List (Int×(Int×Bool))},Fe k (dI L)=true:=by
 intro X
 induction X with
 |nil=>
  unfold dI;rw[yl,ii]
 |cons X L ih=>
  obtain ⟨j,x⟩:=X;show Fe k ((j,sv x)::dI L)=true;rw[xO,ih,Hp];rfl
theorem Yh {g:Gl}{n:Nat}{e:As}{J Ab:Aj}{p BD:Pos}{o:O6}{nm:O7}{l:List (Int×V)}(hn:(nm==("items":O7))=true)(hg:(BD.endLine==p.line&&noSuper o)=true)(h:(Aw g n).ev e o J=some (.dct l,Ab)):Hx g (Aw g n) e (.Call (.Attribute o nm BD) [] [] p) J=some (.items l,Ab):=by
 have ha:Za (Aw g n) e o BD p [] J=some (l,Ab):=by
  unfold Za;rw[gN hg];exact (oE2 h).trans rfl
 exact (if_pos hn).trans (oE2 ha)
def fO:Ek:=(Kc 92).get (by rfl')
theorem m5:gl.D 92=some fO:=by kernel_rfl
def Xd (F:List (O7×V)) (L:List (Int×(Int×Bool))):Aj:=Bb++[.fr F,.dct (dI L)]
structure AF (S:List (Int×(Int×Bool)))(F:List (O7×V)):Prop where
 so:F.lookup ("source":O7)=some (.dct (dI S))
 nc:F.lookup ("new_callers":O7)=some (.ref 4)
theorem AF.put {S:List (Int×(Int×Bool))}{F:List (O7×V)}(A:AF S F){x:O7}{v:V}(h1:(("source":O7)==x)=false)(h2:(("new_callers":O7)==x)=false):AF S (put F x v):=
 ⟨by rw[Bp h1];exact A.so,by rw[Bp h2];exact A.nc⟩
variable {S L:List (Int×(Int×Bool))}{F:List (O7×V)}
theorem kT {k:Nat}(hk:k=1∨k=2){p:Int×(Int×Bool)}:Cy (tE fO) (Ee (Bs fO.body k)) (.tup [.int p.1 false,sv p.2]) (Xd F L)=some (Xd (put (put F ("func":O7) (.int p.1 false)) ("caller":O7) (sv p.2)) L):=by
 rcases hk with rfl|rfl
 ·exact Fo rfl (Br (Ab:=Xd (put F ("func":O7) (.int p.1 false)) L) rfl (Ap (Au (J:=Bb) rfl rfl rfl)) (Br rfl (Ap (Au (J:=Bb) rfl rfl rfl)) rfl))
 ·exact Fo rfl (Br (Ab:=Xd (put F ("func":O7) (.int p.1 false)) L) rfl (Ap (Au (J:=Bb) rfl rfl rfl)) (Br rfl (Ap (Au (J:=Bb) rfl rfl rfl)) rfl))
theorem iZ {k:Int}{x:Int×Bool}(hl:L.length≤1000):Ga (.ref 4) (.int k false) (sv x) (Xd F L)=some (Xd F (fS k x L)):=by
 show (if Nat.ble (dI L).length 1000000 then some ((Xd F L).set 4 (.dct (Js k (sv x) (dI L)))) else none)=_;rw[if_pos (xg (by unfold dI;rw[wn];lia)),p6]
 rfl
def pt (n k:Nat):V->Aj->Option (Fl×Aj):=fun v J=>oe1 (Cy (tE fO) (Ee (Bs fO.body k)) v J) none fun Ai=>Dm (Aw gl (n+20)) (tE fO) (Bq (Bs fO.body k)) Ai
theorem wJ (n:Nat)(A:AF S F){p:Int×(Int×Bool)}(hl:L.length≤1000):∃F',pt n 1 (.tup [.int p.1 false,sv p.2]) (Xd F L)=some (.next,Xd F' (fS p.1 p.2 L))∧AF S F':=by
 refine ⟨_,?_,(A.put (x:="func") (v:=.int p.1 false) (by rfl') (by rfl')).put (x:="caller") (v:=sv p.2) (by rfl') (by rfl')⟩;have A1:=(A.put (x:="func") (v:=.int p.1 false) (by rfl') (by rfl')).put (x:="caller") (v:=sv p.2) (by rfl') (by rfl');unfold pt;rw[kT (.inl rfl)];exact (Am (Oo rfl (Ad rfl rfl Ej) (Ad rfl rfl A1.nc) (Ad rfl rfl (by rw[Bp (by rfl')];exact Ej)) (iZ hl))).trans Ax
theorem wN (n:Nat)(A:AF S F){p:Int×(Int×Bool)}(hl:L.length≤1000):∃F',pt n 2 (.tup [.int p.1 false,sv p.2]) (Xd F L)=some (.next,Xd F' (kN L p))∧AF S F':=by
 refine ⟨_,?_,(A.put (x:="func") (v:=.int p.1 false) (by rfl') (by rfl')).put (x:="caller") (v:=sv p.2) (by rfl') (by rfl')⟩;have A1:=(A.put (x:="func") (v:=.int p.1 false) (by rfl') (by rfl')).put (x:="caller") (v:=sv p.2) (by rfl') (by rfl');have AL:(put (put F ("func":O7) (.int p.1 false)) ("caller":O7) (sv p.2)).lookup ("caller":O7)=some (sv p.2):=Ej;have HD:(put (put F ("func":O7) (.int p.1 false)) ("caller":O7) (sv p.2)).lookup ("func":O7)=some (.int p.1 false):=by rw[Bp (by rfl')];exact Ej
 unfold pt;rw[kT (.inr rfl)];dsimp only;generalize put (put F ("func":O7) (.int p.1 false)) ("caller":O7) (sv p.2)=F1 at A1 AL HD;have BI:Dx (Xd F1 L) .In (.int p.1 false) (.ref 4)=some (fV p.1 L).isSome:=by
  show some ((Eu p.1 (dI L)).isSome)=_;rw[aF];cases fV p.1 L<;>rfl
 unfold kN;cases hk:fV p.1 L with
 |none=>
  rw[hk] at BI;exact (Am ((Cb (c:=false) (Bd rfl (Ad rfl rfl HD) (Ad rfl rfl A1.nc) BI)).trans ((Am (Oo rfl (Ad rfl rfl AL) (Ad rfl rfl A1.nc) (Ad rfl rfl HD) (iZ hl))).trans Ax))).trans Ax
 |some y=>
  rw[hk] at BI;have hit:Eb (Xd F1 L) (.ref 4) (.int p.1 false)=some (sv y):=by
   show Eu p.1 (dI L)=_;rw[aF,hk];rfl
  have D2:=iZ (F:=F1) (k:=p.1) (x:=(y.1+p.2.1,false)) hl;exact (Am ((Cb (c:=true) (Bd rfl (Ad rfl rfl HD) (Ad rfl rfl A1.nc) BI)).trans ((Am ((Cb (c:=false) (Gv rfl ((Cl rfl rfl rfl (Ae rfl (Ad rfl rfl AL) (Ae rfl (Dk (Az rfl rfl)) Al)) Bf).trans (It rfl)) rfl)).trans
   ((Am (Uy rfl (Ad rfl rfl A1.nc) (Ad rfl rfl HD) hit (Ad rfl rfl AL) D2)).trans Ax))).trans Ax))).trans Ax
theorem cZ:∀(L AD:List (Int×(Int×Bool))),((AD++L).map (·.1)).Nodup->L.foldl (fun a p=>fS p.1 p.2 a) AD=AD++L:=by
 intro X
 induction X with
 |nil=>
  intro AD Z;simp
 |cons p L ih=>
  intro AD h;have hn:∀q∈AD,q.1≠p.1:=fun q hq e=>by
   rw[yc,zd] at h;exact h.2.2 q.1 (xr.mpr ⟨q,hq,rfl⟩) p.1 (.head _) e
  rw[zk,fj hn,ih (AD++[p]) (by rw[xj];exact h),xj]
  rfl
theorem lX {p:Int×(Int×Bool)}:(kN L p).length≤L.length+1:=by
 unfold kN;cases fV p.1 L<;>exact ai
theorem Zq:∀(S AD:List (Int×(Int×Bool))),(S.foldl kN AD).length≤AD.length+S.length:=by
 intro X
 induction X with
 |nil=>
  intro Z;exact wu _
 |cons p S ih=>
  intro AD;have h1:=ih (kN AD p);have h2:=lX (L:=AD) (p:=p);rw[zk,x9]
  lia
theorem sG {α:Type}{f:α->Option α}:∀{l:List α},(∀v∈l,f v=some v)->Ec f l=some l:=by
 intro X
 induction X with
 |nil=>
  intro Z;exact rfl
 |cons v r ih=>
  intro h;exact Fa (h v (.head _)) (ih fun u m=>h u (.tail _ m))
theorem pW {mm:Aj}{j:Nat}{L:List (Int×(Int×Bool))}(hj:mm[j]?=some (.dct (dI L)))(h3:3≤j):By mm 3 6 (.ref j)=some (.dct (dI L)):=by
 refine (if_neg (fun z=>by have:=xm z;lia)).trans ((oE1 hj).trans ?_);show (Ec _ _).map V.dct=_;rw (config:={}) [sG fun v hv=>by
  obtain ⟨p,_,rfl⟩:=xr.mp hv
  rfl]
 rfl
theorem aV (n:Nat){J:Aj}(O:Dw J){Tg:List (Int×(Int×Bool))}(hn:(Tg.map (·.1)).Nodup)(hl:Tg.length+S.length≤900):(Aw gl (n+22)).call (.fn 92) [.dct (dI Tg),.dct (dI S)] [] J=some (.dct (dI (S.foldl kN Tg)),J):=by
 have A0:AF S [("target",.dct (dI Tg)),("source",.dct (dI S)),("new_callers",.ref 4)]:=⟨rfl,rfl⟩;have h0:(Aw gl (n+21)).ex (tE fO) (Bs fO.body 0) (Bb++[.fr [("target",.dct (dI Tg)),("source",.dct (dI S))]])=some (.next,Xd [("target",.dct (dI Tg)),("source",.dct (dI S)),("new_callers",.ref 4)] []):=by kernel_rfl
 have JG:∀(L:List (Int×(Int×Bool))) (J:Aj) (k:Nat),Da J (.items (dI L)) k=some (L.map fun p:Int×(Int×Bool)=>V.tup [.int p.1 false,sv p.2])[k]?:=fun L J k=>by
  show some (((dI L)[k]?).map fun p=>V.tup [.int p.1 false,p.2])=_;unfold dI;rw[x6,x6];cases L[k]?<;>rfl
 obtain ⟨Nu,e1,F1,rfl,A1⟩:=Im (ι:=fun p:Int×(Int×Bool)=>V.tup [.int p.1 false,sv p.2]) (body:=pt n 1) (s:=.items (dI Tg)) (l:=Tg) (St:=fun pre J=>∃F',J=Xd F' (pre.foldl (fun a p=>fS p.1 p.2 a) [])∧AF S F') (fun Z J k Z=>JG Tg J k) (fun pre p J St hp=>by
  obtain ⟨F',rfl,A⟩:=St;obtain ⟨B3,hp⟩:=hp;have AV:(pre.foldl (fun a p=>fS p.1 p.2 a) []).length≤1000:=by
   rw[cZ pre [] (by
    rw[hp,yc,zd] at hn;exact hn.1)]
   have:=congrArg List.length hp;rw[xb] at this;simp only[List.nil_append];exact wp (wp (y9 ..) (yr this.symm)) (wp (wp (y9 ..) hl) (by decide))
  obtain ⟨EU,e,A'⟩:=wJ n A (p:=p) AV;exact ⟨_,e,EU,by rw[z8];rfl,A'⟩) Tg [] (Xd [("target",.dct (dI Tg)),("source",.dct (dI S)),("new_callers",.ref 4)] []) rfl ⟨_,rfl,A0⟩
 have hz:∀(L:List (Int×(Int×Bool))) (J:Aj),Me J (.items (dI L))=L.length:=fun L J=>by
  show (dI L).length=_;unfold dI;rw[wn]
 have KN:(Aw gl (n+21)).ex (tE fO) (Bs fO.body 1) (Xd [("target",.dct (dI Tg)),("source",.dct (dI S)),("new_callers",.ref 4)] [])=some (.next,Xd F1 Tg):=by
  refine (Hs (Yh rfl rfl (Ad rfl rfl rfl)) rfl).trans ?_;rw[hz];rw[cZ Tg [] (by simpa using hn)] at e1;exact e1
 obtain ⟨bD,e2,F2,rfl,A2⟩:=Im (ι:=fun p:Int×(Int×Bool)=>V.tup [.int p.1 false,sv p.2]) (body:=pt n 2) (s:=.items (dI S)) (l:=S) (St:=fun pre J=>∃F',J=Xd F' (pre.foldl kN Tg)∧AF S F') (fun Z J k Z=>JG S J k) (fun pre p J St hp=>by
  obtain ⟨F',rfl,A⟩:=St;obtain ⟨B3,hp⟩:=hp;have AV:(pre.foldl kN Tg).length≤1000:=by
   have h1:=Zq pre Tg;have:=congrArg List.length hp;rw[xb] at this;exact wp h1 (wp (Nat.add_le_add_left (wp (y9 ..) (yr this.symm)) _) (wp hl (by decide)))
  obtain ⟨EU,e,A'⟩:=wN n A (p:=p) AV;exact ⟨_,e,EU,by rw[z8];rfl,A'⟩) S [] (Xd F1 Tg) rfl ⟨_,rfl,A1⟩
 have DE:(Aw gl (n+21)).ex (tE fO) (Bs fO.body 2) (Xd F1 Tg)=some (.next,Xd F2 (S.foldl kN Tg)):=by
  refine (Hs (Yh rfl rfl (Ad rfl rfl A1.so)) rfl).trans ?_;rw[hz];exact e2
 refine Gm (bs:=[(("target":O7),.dct (dI Tg)),(("source":O7),.dct (dI S))]) O m5 rfl rfl (by
  rw[Ah,Ah];show (Fe _ _&&(Fe _ _&&_))=true;rw[He,He];rfl) rfl rfl ((Dr (s:=Bs fO.body 0) h0 ((Dr (s:=Bs fO.body 1) KN ((Dr (s:=Bs fO.body 2) DE (Cp (s:=Bs fO.body 3) (Fb (Ad rfl rfl A2.nc)) (by simp)))))))) ?_
 exact pW (j:=4) rfl (by decide)
end
theorem Zg (mm:Aj){k n:Nat}{L:List (Int×(Int×Bool))}:By mm k (n+1) (.dct (dI L))=some (.dct (dI L)):=(if_pos (by exact He):fzC _ _=_)
def i8:Ek:=(Kc 85).get (by rfl')
theorem oo:gl.D 85=some i8:=by kernel_rfl
structure En where
 a:Int×Bool
 b:Int×Bool
 c:Int×Bool
 d:Int×Bool
 t:List (Int×(Int×Bool))
def En.v (x:En):V:=.tup [sv x.a,sv x.b,sv x.c,sv x.d,.dct (dI x.t)]
def En.add (x y:En):En:=⟨(y.a.1+x.a.1,false),(y.b.1+x.b.1,false),(y.c.1+x.c.1,false),(y.d.1+x.d.1,false),y.t.foldl kN x.t⟩
theorem Fm {k:Nat}{x:En}:Ar k x.v=true:=by
 unfold En.v;simp only[Pn,Pc,Ow,Ox,Ph,Ou,Pg,Ol,Fw,Gx,Hp,He]
 rfl
def pp (x y:En):List (O7×V):=[("target",x.v),("source",y.v),("cc",sv y.a),("nc",sv y.b),("tt",sv y.c),("ct",sv y.d),("callers",.dct (dI y.t)),("t_cc",sv x.a),("t_nc",sv x.b),("t_tt",sv x.c),("t_ct",sv x.d),("t_callers",.dct (dI x.t))]
theorem Uj (n:Nat){J:Aj}(O:Dw J){x y:En}(hn:(x.t.map (·.1)).Nodup)(hl:x.t.length+y.t.length≤900):(Aw gl (n+26)).call (.fn 85) [x.v,y.v] [] J=some ((x.add y).v,J):=by
 have h0:Dm (Aw gl (n+25)) (tE i8) i8.body (Bb++[.fr [("target",x.v),("source",y.v)]])=Dm (Aw gl (n+25)) (tE i8) (i8.body.drop 2) (Bb++[.fr (pp x y)]):=by kernel_rfl
 have hO:Dw (Bb++[.fr (pp x y)]):=by
  refine Dw.base.push ?_;show Bg 4 (pp x y)=true;unfold pp;simp only[Gu,Sg,Fm,Hp,Pn,Pc,Ow,Ox,Ph,Ou,Pg,Ol,He]
  rfl
 have hr:Dm (Aw gl (n+25)) (tE i8) (i8.body.drop 2) (Bb++[.fr (pp x y)])=some (.ret (x.add y).v,Bb++[.fr (pp x y)]):=
  Cp (s:=Bs i8.body 2) (Fb (Go rfl (Ae rfl (Bw (Ad rfl rfl rfl) (Ad rfl rfl rfl) rfl) (Ae rfl (Bw (Ad rfl rfl rfl) (Ad rfl rfl rfl) rfl) (Ae rfl (Bw (Ad rfl rfl rfl) (Ad rfl rfl rfl) rfl) (Ae rfl (Bw (Ad rfl rfl rfl) (Ad rfl rfl rfl) rfl)
   (Ae rfl ((Cl rfl rfl rfl (Ae rfl (Ad rfl rfl rfl) (Ae rfl (Ad rfl rfl rfl) Al)) Bf).trans (aV (n+0) hO hn hl)) Al))))))) (by simp)
 refine Gm (bs:=[(("target":O7),x.v),(("source":O7),y.v)]) O oo rfl rfl (by rw[Ah,Ah,Fm,Fm];rfl) rfl rfl (h0.trans hr) ?_;have B6:∀mm:Aj,By mm 3 5 (.dct (dI (x.add y).t))=some (.dct (dI (x.add y).t)):=fun mm=>Zg mm;show (Ec (By _ 3 5) [sv (x.add y).a,sv (x.add y).b,sv (x.add y).c,sv (x.add y).d,.dct (dI (x.add y).t)]).map V.tup=_;rw (config:={}) [Np (f:=By _ 3 5) fun v hv=>by
  simp only[List.mem_cons,List.not_mem_nil,or_false] at hv;rcases hv with rfl|rfl|rfl|rfl|rfl
  ·rfl
  ·rfl
  ·rfl
  ·rfl
  ·exact B6 _]
 rfl
section
section
variable {Bk:Aj}{p q:Pos}
theorem fw {ks:List (Option O6)}{vs:List O6}{l:List (V×V)}{ps:List (Int×V)}(hl:Nat.ble ks.length 15=true)(h:nJ (Aw g n) e ks vs J=some (l,Ab))(hp:Us l=some ps):(Aw g (n+1)).ev e (.Dict ks vs p) J=some (.dct (Fq [] ps),Ab):=by
 rw[El];show uH (Aw g n) e ks vs J=_;exact (if_pos hl).trans ((oE2 h).trans (oE1 hp))
theorem zR {L:Lv}:nJ L e [] [] J=some ([],J):=rfl
theorem tH {L:Lv}{k v:O6}{ks:List (Option O6)}{vs:List O6}{a b:V}{l:List (V×V)}(h1:L.ev e k J=some (a,Ab))(h2:L.ev e v Ab=some (b,Ai))(h3:nJ L e ks vs Ai=some (l,Bk)):nJ L e (some k::ks) (v::vs) J=some ((a,b)::l,Bk):=by
 exact jc.trans ((oE2 h1).trans ((oE2 h2).trans (oE2 h3)))
end
theorem bO {n:Nat}{J:Aj}{x:V}:(Aw gl (n+1)).call (.fn gl.cls) [x] [] J=some (.inst x,J):=by
 rw[Gn];exact if_pos (e:=aI gl (Aw gl n) gl.cls [x] [] J) (beq_self_eq_true gl.cls)
def Xb:Ek:=(Kc 142).get (by rfl')
theorem jz:gl.D 142=some Xb:=by kernel_rfl
def gr (P:Nat->Nat->Int) (pb:Nat->Nat->Bool) (i:Nat):V:=.tup [.int (P i 0) (pb i 0),.int (P i 1) (pb i 1),.int (P i 2) (pb i 2),.int (P i 3) (pb i 3)]
def eY (P:Nat->Nat->Int) (pb:Nat->Nat->Bool):V:=.lst [gr P pb 0,gr P pb 1,gr P pb 2,gr P pb 3]
def Ny (c:Nat->Int) (cb:Nat->Bool):V:=.lst [.int (c 0) (cb 0),.int (c 1) (cb 1),.int (c 2) (cb 2),.int (c 3) (cb 3)]
theorem lF {P:Nat->Nat->Int}{pb:Nat->Nat->Bool}{J:Aj}{i:Nat}{s:Bool}(h:i<4):Eb J (eY P pb) (.int (i:Int) s)=some (gr P pb i):=by
 exact k4 h rfl rfl rfl rfl
theorem dF {P:Nat->Nat->Int}{pb:Nat->Nat->Bool}{J:Aj}{i j:Nat}{s:Bool}(h:j<4):Eb J (gr P pb i) (.int (j:Int) s)=some (.int (P i j) (pb i j)):=by
 exact k4 h rfl rfl rfl rfl
def tl (w p q:Int):Int:=if p<q then -w else if p>q then w else 0
def enT (w:Int) (P:Nat->Nat->Int) (c:Nat->Int) (cb:Nat->Bool) (one AI k:Nat):En:=
 ⟨(c AI*(if tl w (P one AI) (P k AI) == -w then 1 else 0),false),(c AI*(if tl w (P one AI) (P k AI)==w then 1 else 0),false),(c AI*(if tl w (P one AI) (P k AI)==0 then 1 else 0),false),(c AI,cb AI),[((k:Int),(c AI*(if tl w (P one AI) (P k AI) == -w then 1 else 0),false))]⟩
def fh (w:Int) (P:Nat->Nat->Int) (c:Nat->Int) (cb:Nat->Bool) (one AI:Nat) (e:En) (k:Nat):En:=if k=one then e else e.add (enT w P c cb one AI k)
structure EF (P:Nat->Nat->Int)(pb:Nat->Nat->Bool)(one:Nat)(so:Bool)(w:Int)(s:Bool)(e:En)(F:List (O7×V)):Prop where
 rw:F.lookup ("rows":O7)=some (eY P pb)
 on:F.lookup ("one":O7)=some (.int (one:Int) so)
 wy:F.lookup ("way":O7)=some (.int w s)
 en:F.lookup ("entry":O7)=some e.v
 cl:Bg 4 F=true
structure EI (c:Nat->Int)(cb:Nat->Bool)(w:Int)(s:Bool)(AI:Nat)(F:List (O7×V)):Prop where
 ca:F.lookup ("cast":O7)=some (.int (c AI) (cb AI))
 cm:F.lookup ("comp":O7)=some (.inst (.lst [.tup [Bi AI,.int w s]]))
structure Md (e:En)(z:Nat):Prop where
 nd:(e.t.map (·.1)).Nodup
 ln:e.t.length≤z
theorem l6 {k:Int}{x:Int×Bool}{L:List (Int×(Int×Bool))}(h:(L.map (·.1)).Nodup):((fS k x L).map (·.1)).Nodup∧∀j,j∈(fS k x L).map (·.1)->j=k∨j∈L.map (·.1):=by
 induction L with
 |nil=>exact ⟨by simp[ic],fun j hj=>by simp[ic] at hj;exact .inl hj⟩
 |cons p L ih=>
  obtain ⟨j,y⟩:=p;rw[x8,yq] at h;obtain ⟨h1,h2⟩:=ih h.2;rw[lH];by_cases hj:j=k
  ·rw[if_pos hj];exact ⟨by rw[x8,yq];exact h,fun i hi=>.inr hi⟩
  ·rw[if_neg hj];refine ⟨?_,fun i hi=>?_⟩
   ·rw[x8,yq];refine ⟨fun hm=>?_,h1⟩;rcases h2 _ hm with e|e
    ·exact hj e
    ·exact h.1 e
   ·rw[x8,wk] at hi ⊢;rcases hi with e|e
    ·exact .inr (.inl e)
    ·rcases h2 i e with e|e
     ·exact .inl e
     ·exact .inr (.inr e)
theorem l7 {L:List (Int×(Int×Bool))}{p:Int×(Int×Bool)}(h:(L.map (·.1)).Nodup):((kN L p).map (·.1)).Nodup:=by
 unfold kN;cases fV p.1 L<;>exact (l6 h).1
theorem Md.step {e:En}{z:Nat}{w:Int}{P:Nat->Nat->Int}{c:Nat->Int}{cb:Nat->Bool}{one AI k:Nat}(h:Md e z):Md (fh w P c cb one AI e k) (z+1):=by
 unfold fh;split
 ·exact ⟨h.nd,Nat.le_succ_of_le h.ln⟩
 ·refine ⟨l7 h.nd,?_⟩;have h1:=lX (L:=e.t) (p:=((k:Int),(c AI*(if tl w (P one AI) (P k AI) == -w then 1 else 0),false)));show (kN e.t ((k:Int),(c AI*(if tl w (P one AI) (P k AI) == -w then 1 else 0),false))).length≤z+1;exact wp h1 (z7 h.ln)
variable {P:Nat->Nat->Int}{pb:Nat->Nat->Bool}{c:Nat->Int}{cb:Nat->Bool}{one AI:Nat}{so:Bool}{w:Int}{s:Bool}{e:En}{F:List (O7×V)}
theorem EF.put (W:EF P pb one so w s e F){x:O7}{v:V}(hv:Ar 4 v=true)(h1:(("rows":O7)==x)=false)(h2:(("one":O7)==x)=false)(h3:(("way":O7)==x)=false)(h4:(("entry":O7)==x)=false):EF P pb one so w s e (put F x v):=
 ⟨by rw[Bp h1];exact W.rw,by rw[Bp h2];exact W.on,by rw[Bp h3];exact W.wy,by rw[Bp h4];exact W.en,Kz hv W.cl⟩
theorem EI.put (W:EI c cb w s AI F){x:O7}{v:V}(h1:(("cast":O7)==x)=false)(h2:(("comp":O7)==x)=false):EI c cb w s AI (put F x v):=
 ⟨by rw[Bp h1];exact W.ca,by rw[Bp h2];exact W.cm⟩
def Rd (F:List (O7×V)):Aj:=Bb++[.fr F]
def EB:List PC:=Bq (Bs Xb.body 1)
def iq:List PC:=Bq (Bs EB 1)
def enB (n:Nat):V->Aj->Option (Fl×Aj):=fun v J=>oe1 (Cy (tE Xb) (Ee (Bs EB 1)) v J) none fun Ai=>Dm (Aw gl (n+30)) (tE Xb) iq Ai
theorem mj (x y:Bool){p q:Int}:∃z,(pI [⟨(AI:Int),Ep AI,w,s,p,x,q,y⟩]).getD (.int 0 true) = .int (tl w p q) z:=by
 rw[Ye,yF];unfold tl;dsimp only;by_cases h1:p<q
 ·rw[if_pos h1,if_pos h1];exact ⟨_,rfl⟩
 ·rw[if_neg h1,if_neg h1];by_cases h2:p>q
  ·rw[if_pos h2,if_pos h2];exact ⟨_,rfl⟩
  ·rw[if_neg h2,if_neg h2];exact ⟨_,rfl⟩
theorem gc (n:Nat){k z:Nat}(W:EF P pb one so w s e F)(I:EI c cb w s AI F)(ho:one<4)(hk:k<4)(ER:AI<4)(K:Md e z)(hz:z≤500) :
 ∃F',enB n (Bi k) (Rd F)=some (.next,Rd F')∧EF P pb one so w s (fh w P c cb one AI e k) F'∧EI c cb w s AI F':=by
 have W1:EF P pb one so w s e (put F ("other":O7) (Bi k)):=W.put rfl (by rfl') (by rfl') (by rfl') (by rfl');have I1:EI c cb w s AI (put F ("other":O7) (Bi k)):=I.put (by rfl') (by rfl');have DI:(put F ("other":O7) (Bi k)).lookup ("other":O7)=some (Bi k):=Ej;unfold enB;rw[show Cy (tE Xb) (Ee (Bs EB 1)) (Bi k) (Rd F)=some (Rd (put F ("other":O7) (Bi k))) from Ap (Au (J:=Bb) rfl rfl rfl)];dsimp only;generalize put F ("other":O7) (Bi k)=F1 at W1 I1 DI;have O1:Dw (Rd F1):=Dw.base.push W1.cl;obtain ⟨zb,htv⟩:=mj (AI:=AI) (w:=w) (s:=s) (pb one AI) (pb k AI) (p:=P one AI) (q:=P k AI);have EZ:=cK (n+14) (AH:=[⟨(AI:Int),Ep AI,w,s,P one AI,pb one AI,P k AI,pb k AI⟩]) (l:=gr P pb one) (r:=gr P pb k) O1 (fun q hq=>by
  rw[wl] at hq;rw[hq];exact ⟨fun m=>dF ER,fun m=>dF ER⟩)
 rw[htv] at EZ;have s0:(Aw gl (n+30)).ex (tE Xb) (Bs iq 0) (Rd F1)=some (.next,Rd (put F1 ("told":O7) (.int (tl w (P one AI) (P k AI)) zb))):=
  Cz rfl rfl (Ty rfl rfl (Ad rfl rfl I1.cm) (Ae rfl (Bj rfl (Ad rfl rfl W1.rw) (Ad rfl rfl W1.on) (lF ho)) (Ae rfl (Bj rfl (Ad rfl rfl W1.rw) (Ad rfl rfl DI) (lF hk)) Al)) EZ) (Au (J:=Bb) rfl rfl rfl)
 have W2:EF P pb one so w s e (put F1 ("told":O7) (.int (tl w (P one AI) (P k AI)) zb)):=W1.put (by rfl) (by rfl') (by rfl') (by rfl') (by rfl');have I2:EI c cb w s AI (put F1 ("told":O7) (.int (tl w (P one AI) (P k AI)) zb)):=I1.put (by rfl') (by rfl');have DN:(put F1 ("told":O7) (.int (tl w (P one AI) (P k AI)) zb)).lookup ("other":O7)=some (Bi k):=by rw[Bp (by rfl')];exact DI
 have DE:(put F1 ("told":O7) (.int (tl w (P one AI) (P k AI)) zb)).lookup ("told":O7)=some (.int (tl w (P one AI) (P k AI)) zb):=Ej;generalize put F1 ("told":O7) (.int (tl w (P one AI) (P k AI)) zb)=F2 at s0 W2 I2 DN DE;have O2:Dw (Rd F2):=Dw.base.push W2.cl;have AS:(Aw gl (n+29)).ts (tE Xb) (Ed (Bs iq 1)) (Rd F2)=some (!decide (k=one),Rd F2):=by
  refine Bd rfl (Ad rfl rfl W2.on) (Ad rfl rfl DN) ?_;show some (!((one:Int)==(k:Int)))=_;congr 2
  lia
 by_cases hko:k=one
 ·rw[decide_eq_true hko] at AS;subst hko;have e0:tl w (P k AI) (P k AI)=0:=by
   unfold tl;rw[if_neg (by lia),if_neg (by lia)]
  rw[e0] at DE;refine ⟨F2,(Dr (s:=Bs iq 0) s0 ((Am (s:=Bs iq 1) ((Cb AS).trans ((Am ((Cb (c:=false) (Bd rfl (Ad rfl rfl DE) Aq rfl)).trans Ax)).trans Ax))).trans Ax)),?_,I2⟩;unfold fh;rw[if_pos rfl];exact W2
 ·rw[decide_eq_false hko] at AS;have hkl:=K.ln;have BM:=Uj (n+1) O2 (x:=e) (y:=enT w P c cb one AI k) K.nd (by
   show e.t.length+1≤900
   lia)
  have DS:Dm (Aw gl (n+29)) (tE Xb) (Pp (Bs iq 1)) (Rd F2)=some (.next,Rd (put F2 ("entry":O7) ((e.add (enT w P c cb one AI k)).v))):=by
   refine (Am (Cz rfl rfl ((Cl rfl rfl rfl (Ae rfl (Ad rfl rfl W2.en) (Ae rfl (Go rfl (Ae rfl (Bw (Ad rfl rfl I2.ca) ((Cl rfl rfl rfl (Ae rfl (Lq rfl (Ad rfl rfl DE) (Xu (Ad rfl rfl W2.wy) rfl) rfl) Al) Bf).trans Km) rfl)
    (Ae rfl (Bw (Ad rfl rfl I2.ca) ((Cl rfl rfl rfl (Ae rfl (Lq rfl (Ad rfl rfl DE) (Ad rfl rfl W2.wy) rfl) Al) Bf).trans Km) rfl)
    (Ae rfl (Bw (Ad rfl rfl I2.ca) ((Cl rfl rfl rfl (Ae rfl (Lq rfl (Ad rfl rfl DE) Aq rfl) Al) Bf).trans Km) rfl)
    (Ae rfl (Ad rfl rfl I2.ca)
    (Ae rfl (fw rfl (tH (Ad rfl rfl DN) (Bw (Ad rfl rfl I2.ca) ((Cl rfl rfl rfl (Ae rfl (Lq rfl (Ad rfl rfl DE) (Xu (Ad rfl rfl W2.wy) rfl) rfl) Al) Bf).trans Km) rfl) zR) rfl) Al)))))) Al)) Bf).trans BM) (Au (J:=Bb) rfl rfl rfl))).trans Ax
  refine ⟨_,(Dr (s:=Bs iq 0) s0 ((Am (s:=Bs iq 1) ((Cb AS).trans DS)).trans Ax)),?_,I2.put (by rfl') (by rfl')⟩;unfold fh;rw[if_neg hko];exact ⟨by rw[Bp (by rfl')];exact W2.rw,by rw[Bp (by rfl')];exact W2.on,by rw[Bp (by rfl')];exact W2.wy,Ej,Kz Fm W2.cl⟩
end
section
variable {P:Nat->Nat->Int}{pb:Nat->Nat->Bool}{c:Nat->Int}{cb:Nat->Bool}{one AI:Nat}{so:Bool}{w:Int}{s:Bool}{e:En}{F:List (O7×V)}
def px (w:Int) (P:Nat->Nat->Int) (c:Nat->Int) (cb:Nat->Bool) (one:Nat) (e:En) (AI:Nat):En:=(PF 4).foldl (fh w P c cb one AI) e
def rS:En:=⟨(0,true),(0,true),(0,true),(0,true),[]⟩
def Zj (w:Int) (P:Nat->Nat->Int) (c:Nat->Int) (cb:Nat->Bool) (one:Nat):En:=(PF 4).foldl (px w P c cb one) rS
theorem Md.fold {z:Nat}:∀{l:List Nat}{e:En},Md e z->Md (l.foldl (fh w P c cb one AI) e) (z+l.length)
 |[],e,h=>h
 |k::l,e,h=>by
  rw[zk,x9];have:=Md.fold (l:=l) (h.step (w:=w) (P:=P) (c:=c) (cb:=cb) (one:=one) (AI:=AI) (k:=k));rwa [Nat.add_assoc,Nat.add_comm 1] at this
def eoB (n:Nat):V->Aj->Option (Fl×Aj):=fun v J=>oe1 (Cy (tE Xb) (Ee (Bs Xb.body 1)) v J) none fun Ai=>Dm (Aw gl (n+32)) (tE Xb) EB Ai
theorem cy (n:Nat){z:Nat}(W:EF P pb one so w s e F)(ho:one<4)(ER:AI<4)(K:Md e z)(hz:z≤400) :
 ∃F',eoB n (.tup [Bi AI,.int (c AI) (cb AI)]) (Rd F)=some (.next,Rd F')∧EF P pb one so w s (px w P c cb one e AI) F':=by
 have ci:∀{k:Nat}{i:Int}{b:Bool},Ar k (.int i b)=true:=fun {_ _ _}=>by rfl
 have W1:=(W.put (x:="column") (v:=Bi AI) ci (by rfl') (by rfl') (by rfl') (by rfl')).put (x:="cast") (v:=.int (c AI) (cb AI)) ci (by rfl') (by rfl') (by rfl') (by rfl');have h1:(put (put F ("column":O7) (Bi AI)) ("cast":O7) (.int (c AI) (cb AI))).lookup ("column":O7)=some (Bi AI):=by rw[Bp (by rfl')];exact Ej
 have h2:(put (put F ("column":O7) (Bi AI)) ("cast":O7) (.int (c AI) (cb AI))).lookup ("cast":O7)=some (.int (c AI) (cb AI)):=Ej;unfold eoB;rw[show Cy (tE Xb) (Ee (Bs Xb.body 1)) (.tup [Bi AI,.int (c AI) (cb AI)]) (Rd F)=some (Rd (put (put F ("column":O7) (Bi AI)) ("cast":O7) (.int (c AI) (cb AI)))) from
  Fo rfl (Br (Ab:=Rd (put F ("column":O7) (Bi AI))) rfl (Ap (Au (J:=Bb) rfl rfl rfl)) (Br rfl (Ap (Au (J:=Bb) rfl rfl rfl)) rfl))]
 dsimp only;generalize put (put F ("column":O7) (Bi AI)) ("cast":O7) (.int (c AI) (cb AI))=F1 at W1 h1 h2
 let cv:V:=.inst (.lst [.tup [Bi AI,.int w s]])
 have I4:Ar 4 cv=true:=by
  show Ar 4 (.inst (.lst [.tup [Bi AI,.int w s]]))=true
  rfl
 have s0:(Aw gl (n+32)).ex (tE Xb) (Bs EB 0) (Rd F1)=some (.next,Rd (put F1 ("comp":O7) cv)):=
  Cz rfl rfl ((Cl rfl rfl rfl (Ae rfl (Qr rfl (Ae rfl (Go rfl (Ae rfl (Ad rfl rfl h1) (Ae rfl (Ad rfl rfl W1.wy) Al))) Al)) Al) Bf).trans bO) (Au (J:=Bb) rfl rfl rfl)
 have W2:EF P pb one so w s e (put F1 ("comp":O7) cv):=W1.put I4 (by rfl') (by rfl') (by rfl') (by rfl');have I2:EI c cb w s AI (put F1 ("comp":O7) cv):=⟨by rw[Bp (by rfl')];exact h2,Ej⟩;generalize put F1 ("comp":O7) cv=F2 at s0 W2 I2;obtain ⟨Av,e1,F3,rfl,W3,I3,_⟩:=Im (ι:=fun k:Nat=>Bi (k:Int)) (body:=enB (n+1)) (s:=.rng 0 4) (l:=PF 4) (St:=fun pre J=>∃F',J=Rd F'∧EF P pb one so w s (pre.foldl (fh w P c cb one AI) e) F'∧EI c cb w s AI F'∧Md (pre.foldl (fh w P c cb one AI) e) (z+pre.length)) (fun Z J k Z=>Cr J k 4) (fun pre k J S hp=>by
  obtain ⟨F',rfl,W',I',K'⟩:=S;obtain ⟨B3,hp⟩:=hp;have JI:pre.length≤4:=by
   have:=congrArg List.length hp
   grind
  obtain ⟨EU,e1,e2,e3⟩:=gc (n+1) W' I' ho (wq.mp (by rw[hp];simp)) ER K' (by lia);exact ⟨_,e1,EU,rfl,by rw[z8];exact e2,e3,by rw[z8,xb];exact K'.step⟩) (PF 4) [] (Rd F2) rfl (Mine.w14 F2 rfl W2 I2 K)
 have s1:(Aw gl (n+32)).ex (tE Xb) (Bs EB 1) (Rd F2)=some (.next,Rd F3):=
  (Hs (Dl (Az rfl rfl) (Ae rfl Aq Al) rfl) rfl).trans e1
 exact ⟨F3,(Dr (s:=Bs EB 0) s0 ((Am (s:=Bs EB 1) s1).trans Ax)),W3⟩
theorem pD (J:Aj)(k:Nat):Da J (.enum (Ny c cb)) k=some ((PF 4).map fun j:Nat=>V.tup [Bi (j:Int),.int (c j) (cb j)])[k]?:=by
 match k with
 |0=>rfl
 |1=>rfl
 |2=>rfl
 |3=>rfl
 |k+4=>rfl
theorem fX (n:Nat){J:Aj}(O:Dw J)(ho:one<4):(Aw gl (n+34)).call (.fn 142) [eY P pb,Ny c cb,.int (one:Int) so,.int w s] [] J=some ((Zj w P c cb one).v,J):=by
 have JQ:∀{k:Nat}{i:Int}{b:Bool},Ar k (.int i b)=true:=fun {_ _ _}=>by rfl
 have M7:∀k,Ar k (eY P pb)=true:=fun k=>rfl;have DC:∀k,Ar k (Ny c cb)=true:=fun k=>rfl;have h0:(Aw gl (n+33)).ex (tE Xb) (Bs Xb.body 0) (Bb++[.fr [("rows",eY P pb),("casts",Ny c cb),("one",.int (one:Int) so),("way",.int w s)]])=some (.next,Rd [("rows",eY P pb),("casts",Ny c cb),("one",.int (one:Int) so),("way",.int w s),("entry",rS.v)]):=by kernel_rfl
 have W0:EF P pb one so w s rS [("rows",eY P pb),("casts",Ny c cb),("one",.int (one:Int) so),("way",.int w s),("entry",rS.v)]:=⟨rfl,rfl,rfl,rfl,by
  rw[Ah,Ah,Ah,Ah,Ah,M7,DC,JQ,JQ,Fm];rfl⟩
 obtain ⟨Av,e1,F1,rfl,W1,_⟩:=Im (ι:=fun j:Nat=>V.tup [Bi (j:Int),.int (c j) (cb j)]) (body:=eoB n) (s:=.enum (Ny c cb)) (l:=PF 4) (St:=fun pre J=>∃F',J=Rd F'∧EF P pb one so w s (pre.foldl (px w P c cb one) rS) F'∧Md (pre.foldl (px w P c cb one) rS) (4*pre.length)) (fun Z J k Z=>pD J k) (fun pre k J S hp=>by
  obtain ⟨F',rfl,W',K'⟩:=S;obtain ⟨B3,hp⟩:=hp;have hk:k<4:=wq.mp (by rw[hp];simp);have JI:pre.length≤4:=by
   have:=congrArg List.length hp;rw[yx,xb] at this
   lia
  obtain ⟨EU,e1,e2⟩:=cy n W' ho hk K' (by lia) (c:=c) (cb:=cb);refine ⟨_,e1,EU,rfl,by rw[z8];exact e2,?_⟩;rw[z8,xb];exact K'.fold (l:=PF 4)) (PF 4) [] (Rd [("rows",eY P pb),("casts",Ny c cb),("one",.int (one:Int) so),("way",.int w s),("entry",rS.v)]) rfl ⟨_,rfl,W0,by constructor<;>simp[rS]⟩
 have h1:(Aw gl (n+33)).ex (tE Xb) (Bs Xb.body 1) (Rd [("rows",eY P pb),("casts",Ny c cb),("one",.int (one:Int) so),("way",.int w s),("entry",rS.v)])=some (.next,Rd F1):=
  (Hs (Vn (Az rfl rfl) (Ae rfl (Ad rfl rfl rfl) Al) rfl) rfl).trans e1
 refine Gm (bs:=[(("rows":O7),eY P pb),(("casts":O7),Ny c cb),(("one":O7),.int (one:Int) so),(("way":O7),.int w s)]) O jz rfl rfl (by rw[Ah,Ah,Ah,Ah,M7,DC,JQ,JQ];rfl) rfl rfl ((Dr (s:=Bs Xb.body 0) h0 ((Dr (s:=Bs Xb.body 1) h1 (Cp (s:=Bs Xb.body 2) (Fb (Ad rfl rfl W1.en)) (by simp)))))) ?_;have B6:∀(mm:Aj) (x:En),By mm 3 6 x.v=some x.v:=fun mm x=>by
  show (Ec (By mm 3 5) [sv x.a,sv x.b,sv x.c,sv x.d,.dct (dI x.t)]).map V.tup=_;rw (config:={}) [Np (f:=By mm 3 5) fun v hv=>by
   simp only[List.mem_cons,List.not_mem_nil,or_false] at hv;rcases hv with rfl|rfl|rfl|rfl|rfl
   ·rfl
   ·rfl
   ·rfl
   ·rfl
   ·exact Zg _]
  rfl
 exact B6 _ _
end
section
def Cm:Ek:=(Kc 174).get (by rfl')
theorem m1:gl.D 174=some Cm:=by kernel_rfl
structure Cs where
 ranks:Option V:=none
 casts:Option V:=none
 one:Option V:=none
 rows:Option V:=none
 way:Option V:=none
 votes:Option V:=none
 tables:Option V:=none
 links:Option V:=none
 row:Option V:=none
 columns:Option V:=none
def Ht (k:Nat):Option V->Bool
 |none=>true
 |some v=>Ar k v
def Cs.ok (c:Cs) (k:Nat):Bool:=Ht k c.ranks&&Ht k c.casts&&Ht k c.one&&Ht k c.rows&&Ht k c.way&&Ht k c.votes&&Ht k c.tables&&Ht k c.links&&Ht k c.row&&Ht k c.columns
def Bt (F:List (O7×V)) (c:Cs) (x:List Cv):Aj:=Bb++([.fr F,.cell c.ranks,.cell c.casts,.cell c.one,.cell c.rows,.cell c.way,.cell c.votes,.cell c.tables,.cell c.links,.cell c.row,.cell c.columns]++x)
theorem Eg {k:Nat}{o:Option V}:Cg k (.cell o)=Ht k o:=by cases o<;>rfl
theorem Fx {F:List (O7×V)}{c:Cs}{x:List Cv}(hF:Bg (14+x.length) F=true)(hc:c.ok (14+x.length)=true)(hx:Ci (14+x.length) x=true):Dw (Bt F c x):=by
 refine ⟨?_,rfl⟩;have hl:(Bt F c x).length=14+x.length:=by
  unfold Bt;simp only[Bb,List.length_append,List.length_cons,List.length_nil]
  lia
 have e:∀k o r,Ci k (o::r)=(Cg k o&&Ci k r):=fun k o r=>rfl;unfold Cs.ok at hc;simp only[Bool.and_eq_true] at hc;obtain ⟨⟨⟨⟨⟨⟨⟨⟨⟨h0,h1⟩,h2⟩,h3⟩,h4⟩,h5⟩,h6⟩,h7⟩,h8⟩,h9⟩:=hc;rw[hl];unfold Bt;simp only[Bb,List.cons_append,List.nil_append];rw[e,e,e,e,e,e,e,e,e,e,e,e,e,e,Eg,Eg,Eg,Eg,Eg,Eg,Eg,Eg,Eg,Eg,h0,h1,h2,h3,h4,h5,h6,h7,h8,h9,hx];rw[Cg,hF]
 rfl
section
variable {p:Pos}
theorem nU {L:Lv}{o i:O6}{v:V}{s:Gh}(h1:L.ev e (.Subscript o i p) J=some (v,Ab))(h2:Sf Ab v=some s):Hx g L e (.Subscript o i p) J=some (s,Ab):=by
 unfold Hx;dsimp only;unfold Wc;rw[h1];dsimp only;rw[h2]
theorem lA {L:Lv}{es:List O6}{c:Nat}{v:V}{s:Gh}(h1:L.ev e (.Tuple es c p) J=some (v,Ab))(h2:Sf Ab v=some s):Hx g L e (.Tuple es c p) J=some (s,Ab):=by
 unfold Hx;dsimp only;unfold Wc;rw[h1];dsimp only;rw[h2]
end
def rB (d:Nat->Int) (ds:Nat->Bool):V:=.lst [.int (d 0) (ds 0),.int (d 1) (ds 1),.int (d 2) (ds 2),.int (d 3) (ds 3),.int (d 4) (ds 4)]
def rk (d:Nat->Int) (i k:Nat):Int:=((d i).fdiv (4 ^ k)).fmod 4
def Om:Nat->Nat->Bool:=fun Z Z=>true
def Nv:Nat->Bool:=fun Z=>false
def Ks (d:Nat->Int) (i:Nat):Int:=1+((d i).fdiv 256).fmod 5
variable {d:Nat->Int}{ds:Nat->Bool}{AB:V}
theorem Fv {k:Nat}:Ar k (rB d ds)=true:=rfl
theorem Cw {c:Nat->Int}{cb:Nat->Bool}{k:Nat}:Ar k (Ny c cb)=true:=rfl
theorem Jb {P:Nat->Nat->Int}{pb:Nat->Nat->Bool}{k:Nat}:Ar k (eY P pb)=true:=rfl
abbrev Lb (AB:V) (d:Nat->Int) (ds:Nat->Bool):List (O7×V):=[("script",AB),("drawn",rB d ds)]
theorem Qb {m:Nat->Nat->Int}{b:Nat->Nat->Bool}{i:Nat}:Hq m b i = .lst ((PF 4).map fun k=>V.int (m i k) (b i k)):=rfl
theorem vK {m:Nat->Nat->Int}{b:Nat->Nat->Bool}:lk m b = .lst ((PF 4).map fun i=>Hq m b i):=rfl
theorem lw1 (n:Nat)(hs:∀k,Ar k AB=true):(Aw gl (n+60)).ex (tE Cm) (Bs Cm.body 1) (Bt (Lb AB d ds) {} [])=some (.next,Bt (Lb AB d ds) { ranks:=some (lk (rk d) Om) } []):=by
 have O:Dw (Bt (Lb AB d ds) {} []):=Fx (by rw[Ah,Ah,hs,Fv];rfl) rfl rfl;have GT:(Aw gl (n+58)).ev (tE Cm) (.Name "drawn" default) (Bt (Lb AB d ds) {} [])=some (rB d ds,Bt (Lb AB d ds) {} []):=Ad rfl rfl rfl;refine Ij (v:=lk (rk d) Om) rfl (Iu (vs:=(PF 4).map fun i=>Hq (rk d) Om i) (Fd (J:=Bt (Lb AB d ds) {} []) (fun i=>V.int (d i) (ds i)) (fun i=>Hq (rk d) Om i) [.fr [],.cell none] (fun i=>[.fr [],.cell (some (V.int (d i) (ds i)))]) (s:=.seq (.lst [.int (d 0) (ds 0),.int (d 1) (ds 1),.int (d 2) (ds 2),.int (d 3) (ds 3)]))
  (by exact nU (Kn (Ad rfl rfl rfl) (by rfl) (Jh Aq) (by rfl)) (by rfl)) (by rfl) (fun r k=>rfl) (by rfl) (by decide) (by rfl) (by rfl) (by rfl) ⟨_,_,rfl⟩ (fun Z=>⟨_,_,rfl⟩) (fun i Z x hx=>?_) (fun i hi=>Bo ?_) (fun i Z Z=>rfl) O.cl)) (Bn (i:=4) (o:=none) rfl rfl rfl)
 ·rcases hx with rfl|⟨u,_,rfl⟩
  ·exact Ap (Bn (i:=15) rfl rfl rfl)
  ·exact Ap (Bn (i:=15) rfl rfl rfl)
 ·have O2:Dw (Bt (Lb AB d ds) {} []++[.fr [],.cell (some (V.int (d i) (ds i)))]):=by
   have:=(O.push (o:=.fr []) rfl).push (o:=.cell (some (V.int (d i) (ds i)))) rfl;rwa [xj] at this
  refine Cq (Do (fun k:Nat=>Bi (k:Int)) (fun k=>V.int (rk d i k) (Om i k)) (fun k=>[("k",Bi (k:Int))])
   (by exact Dl (Az rfl rfl) (Ae rfl Aq Al) rfl) (by rfl) (fun r k=>Cr _ k 4) (by rfl) (by decide) (by rfl) (by rfl) (by rfl) (fun k Z m hm=>?_) (fun k hk=>Bo ?_) (fun i Z Z=>rfl) O2.cl)
  ·refine Ap (Au rfl rfl ?_);rcases hm with rfl|⟨u,_,rfl⟩<;>rfl
  ·have B5:k<4:=wq.mp hk;have hp:∀J,Nz J .Pow (Bi 4) (Bi k)=some (.int (4 ^ k) false,J):=fun J=>by
    exact k4 B5 rfl rfl rfl rfl
   have hd:∀J,∃z,Nz J .FloorDiv (.int (d i) (ds i)) (.int (4 ^ k) false)=some (.int ((d i).fdiv (4 ^ k)) z,J):=fun J=>by
    exact k4 B5 (⟨_,rfl⟩) (⟨_,rfl⟩) (⟨_,rfl⟩) (⟨_,rfl⟩)
   obtain ⟨z,hd⟩:=hd (Bt (Lb AB d ds) {} []++[.fr [],.cell (some (V.int (d i) (ds i)))]++[.fr [("k",Bi (k:Int))]]);exact Bw (Bw (Bc rfl rfl rfl) (Bw Aq (Ad rfl Af rfl) (hp _)) hd) Aq rfl
end
section
section
variable {p q:Pos}
theorem Rn {x:O6}{nm:O7}{l:List Int}(h0:Dc g e nm J=some (.bi "sorted"))(hs:noStar x=true)(h1:(Aw g n).ev e x J=some (.set l,Ab))(hl:l.length<64):(Aw g (n+1)).ev e (.Call (.Name nm q) [x] [] p) J=some (.lst (l.map Bi),Ab):=by
 rw[El];show Wt g (Aw g n) e nm [x] [] J=_;exact (oE1 h0).trans ((if_pos (show Dv (.bi "sorted")=true from by decide)).trans ((oE2 (Ae hs h1 Al)).trans ((oE1 (show nz [.set l]=some l from rfl)).trans (if_pos (show Nat.blt l.length 64=true from xg hl)))))
theorem dJ {l:List V}{v:V}{q:List Int}(h:Bu J v=some l)(hl:l.length≤1000)(hq:Fk l=some q):(Aw g (n+1)).call (.ty "set") [v] [] J=some (.set (q.foldl (fun s i=>Ch i s) []),J):=by
 rw[Gn];show wa "set" v J=_;exact (if_neg (by decide)).trans ((if_neg (by decide)).trans ((if_neg (by decide)).trans ((if_pos (by decide)).trans ((oE1 h).trans ((if_pos (xg hl)).trans (oE1 hq))))))
theorem lz {L:Lv}{nm:O7}{id:String}{args:List O6}{v:V}{s:Gh}(h0:Dc g e nm J=some (.bi id))(h1:L.ev e (.Call (.Name nm q) args [] p) J=some (v,Ab))(h2:Sf Ab v=some s):Hx g L e (.Call (.Name nm q) args [] p) J=some (s,Ab):=by
 show oe1 (oe1 (Dc g e nm J) none Jk) _ _=_;rw[h0];exact (oE2 h1).trans (oE1 h2)
theorem aN {s:O7}{k:Nat}:(Aw g (n+1)).ev e (.Constant (.str s) k p) J=some (.str s,J):=by rw[El];rfl
theorem vW:∀{l:List O7},nB (l.map V.str)=some l:=fun {l}=>by
 induction l with
 |nil=>rfl
 |cons x l ih=>exact Fa rfl ih
theorem ag {s:O7}{l:List O7}(h:JoinOk s l=true):jg "str.join" [.str s,.lst (l.map V.str)] J=some (.str (Txt.join s l),J):=by
 show gm J "str.join" (.str s) (.lst (l.map V.str))=_;unfold gm;rw[if_neg (by rfl'),if_neg (by rfl'),if_pos (by rfl')];show (oe1 (nB (l.map V.str)) none fun q=>if JoinOk s q then some (V.str (Txt.join s q),J) else none)=_;exact (oE1 vW).trans (if_pos h)
theorem nY {s:O7}{k:Nat}{x:O6}{l:List O7}{nm:O7}{BD p1:Pos}(hg:(BD.endLine==p.line&&noSuper (.Constant (.str s) k p1))=true)(hn:(nm==("join":O7))=true)(hx:noStar x=true)(h1:(Aw g (n+1)).ev e x J=some (.lst (l.map V.str),J))(hj:JoinOk s l=true) :
 (Aw g (n+2)).ev e (.Call (.Attribute (.Constant (.str s) k p1) nm BD) [x] [] p) J=some (.str (Txt.join s l),J):=
 Lw (by rw[hg];rfl) aN (by
  show (if nm==("join":O7) then some "str.join" else none)=_;rw[if_pos hn]) (Ae hx h1 Al) (ag hj)
end
theorem Lc {i:Int}:∀{l:List Int},(Ch i l).length≤l.length+1:=by
 intro X
 induction X with
 |nil=>
  exact wu _
 |cons j r ih=>
  rw[Ji];split
  ·have:=ih;simp only[List.length_cons]
   lia
  ·split<;>simp
def Oq (r:Nat->Int):List Int:=[r 0,r 1,r 2,r 3].foldl (fun s i=>Ch i s) []
theorem Mz {r:Nat->Int}:(Oq r).length≤4:=by
 show (Ch (r 3) (Ch (r 2) (Ch (r 1) (Ch (r 0) [])))).length≤4;have h0:=Lc (i:=r 0) (l:=[]);have h1:=Lc (i:=r 1) (l:=Ch (r 0) []);have h2:=Lc (i:=r 2) (l:=Ch (r 1) (Ch (r 0) []));have h3:=Lc (i:=r 3) (l:=Ch (r 2) (Ch (r 1) (Ch (r 0) [])));exact wp h3 (z7 (wp h2 (z7 (wp h1 (z7 h0)))))
def uS (k:Nat):O7:=⟨#[97+k]⟩
def q6 (r:Nat->Int) (one:Int):List O7:=((PF 4).filter fun k=>r k==one).map uS
def ny (r:Nat->Int) (one:Int):O7:=Txt.join "=" (q6 r one)
def Tt (r:Nat->Int):O7:=Txt.join ">" ((Oq r).map (ny r))
def JOk (r:Nat->Int):Prop:=(∀one,JoinOk "=" (q6 r one)=true)∧JoinOk ">" ((Oq r).map (ny r))=true
variable {d:Nat->Int}{ds:Nat->Bool}{AB:V}
abbrev cs1 (d:Nat->Int):Cs:={ ranks:=some (lk (rk d) Om) }
abbrev zP (d:Nat->Int):Cs:={ ranks:=some (lk (rk d) Om),casts:=some (Ny (Ks d) Nv) }
theorem Vu (hs:∀k,Ar k AB=true){k:Nat}:Bg k (Lb AB d ds)=true:=by rw[Ah,Ah,hs,Fv];rfl
theorem lw2 (n:Nat)(hs:∀k,Ar k AB=true):(Aw gl (n+60)).ex (tE Cm) (Bs Cm.body 2) (Bt (Lb AB d ds) (cs1 d) [])=some (.next,Bt (Lb AB d ds) (zP d) []):=by
 have O:Dw (Bt (Lb AB d ds) (cs1 d) []):=Fx (Vu hs) (by simp[Cs.ok,Ht,Cu]) rfl;refine Ij (v:=Ny (Ks d) Nv) rfl (Iu (vs:=(PF 4).map fun i=>V.int (Ks d i) (Nv i)) (Do (J:=Bt (Lb AB d ds) (cs1 d) []) (fun i=>V.int (d i) (ds i)) (fun i=>V.int (Ks d i) (Nv i)) (fun i=>[("number",V.int (d i) (ds i))]) (s:=.seq (.lst [.int (d 0) (ds 0),.int (d 1) (ds 1),.int (d 2) (ds 2),.int (d 3) (ds 3)]))
  (by exact nU (Kn (Ad rfl rfl rfl) (by rfl) (Jh Aq) (by rfl)) (by rfl)) (by rfl) (fun r k=>rfl) (by rfl) (by decide) (by rfl) (by rfl) (by rfl) (fun i Z m hm=>?_) (fun i hi=>Bo ?_) (fun i Z Z=>rfl) O.cl)) (Bn (i:=5) (o:=none) rfl rfl rfl)
 ·refine Ap (Au rfl rfl ?_);rcases hm with rfl|⟨u,_,rfl⟩<;>rfl
 ·have hb:∀J,∃z,Nz J .FloorDiv (.int (d i) (ds i)) (Bi 256)=some (.int ((d i).fdiv 256) z,J):=fun J=>⟨_,rfl⟩;exact Bw Aq (Bw (Bw (Ad rfl Af rfl) Aq rfl) Aq rfl) rfl
abbrev rV (d:Nat->Int):V:=.lst [.str (Tt (rk d 0)),.str (Tt (rk d 1)),.str (Tt (rk d 2)),.str (Tt (rk d 3))]
abbrev Gw (AB:V) (d:Nat->Int) (ds:Nat->Bool):List (O7×V):=[("script",AB),("drawn",rB d ds),("texts",rV d)]
theorem lw3 (n:Nat)(hs:∀k,Ar k AB=true)(hj:∀i,i<4->JOk (rk d i)):(Aw gl (n+60)).ex (tE Cm) (Bs Cm.body 3) (Bt (Lb AB d ds) (zP d) [])=some (.next,Bt (Gw AB d ds) (zP d) []):=by
 have O:Dw (Bt (Lb AB d ds) (zP d) []):=Fx (Vu hs) (by simp[Cs.ok,Ht,Cu,Cw]) rfl;refine Ij (v:=rV d) rfl (Iu (vs:=(PF 4).map fun i=>V.str (Tt (rk d i))) (Fd (J:=Bt (Lb AB d ds) (zP d) []) (fun i=>Hq (rk d) Om i) (fun i=>V.str (Tt (rk d i))) [.fr [],.cell none] (fun i=>[.fr [],.cell (some (Hq (rk d) Om i))]) (s:=.seq (lk (rk d) Om))
  (by exact Eo (Bc rfl rfl rfl) rfl) (by rfl) (fun r k=>rfl) (by rfl) (by decide) (by rfl) (by rfl) (by rfl) ⟨_,_,rfl⟩ (fun Z=>(Mine.e2 _ _ rfl)) (fun i Z x hx=>?_) (fun i hi=>Bo ?_) (fun i Z Z=>rfl) O.cl)) (Au (J:=Bb) rfl rfl rfl)
 ·rcases hx with rfl|⟨u,_,rfl⟩
  ·exact Ap (Bn (i:=15) rfl rfl rfl)
  ·exact Ap (Bn (i:=15) rfl rfl rfl)
 ·have CE:i<4:=wq.mp hi;have O2:Dw (Bt (Lb AB d ds) (zP d) []++[.fr [],.cell (some (Hq (rk d) Om i))]):=by
   have:=(O.push (o:=.fr []) rfl).push (o:=.cell (some (Hq (rk d) Om i))) (by simp[Cg,Hq,Pn,Pc,Ow,Ox,Ph,Ou,Pg,Ol,Fw,Gx]);rwa [xj] at this
  refine nY rfl rfl rfl ?_ (hj i CE).2;rw[z6];refine Cq (Fd (fun x=>Bi x) (fun one=>V.str (ny (rk d i) one)) [.fr [],.cell none] (fun one=>[.fr [],.cell (some (Bi one))])
   (by exact lz (Az rfl rfl) (Rn (Az rfl rfl) rfl ((Cl rfl rfl rfl (Ae rfl (Bc rfl rfl rfl) Al) Bf).trans (dJ (l:=[V.int (rk d i 0) true,.int (rk d i 1) true,.int (rk d i 2) true,.int (rk d i 3) true]) (q:=[rk d i 0,rk d i 1,rk d i 2,rk d i 3]) rfl (show 4≤1000 by decide) rfl)) (xe Mz (by decide))) rfl) (by rfl) (fun r k=>rfl) (by exact wn _) (wp Mz (by decide)) (by rfl) (by rfl) (by rfl) ⟨_,_,rfl⟩ (fun Z=>(Mine.e2 _ _ rfl)) (fun one Z x hx=>?_) (fun one hone=>Bo ?_) (fun i Z Z=>rfl) O2.cl)
  ·rcases hx with rfl|⟨u,_,rfl⟩
   ·exact Ap (Bn (i:=17) rfl rfl rfl)
   ·exact Ap (Bn (i:=17) rfl rfl rfl)
  ·have O3:Dw (Bt (Lb AB d ds) (zP d) []++[.fr [],.cell (some (Hq (rk d) Om i))]++[.fr [],.cell (some (Bi one))]):=by
    have:=(O2.push (o:=.fr []) rfl).push (o:=.cell (some (Bi one))) rfl;rwa [xj] at this
   refine nY rfl rfl rfl ?_ ((hj i CE).1 one);unfold q6;rw[z6];refine Cq (Qn (fun k:Nat=>Bi (k:Int)) (fun k=>rk d i k==one) (fun k=>V.str (uS k)) (fun k=>[("k",Bi (k:Int))])
    (by exact Dl (Az rfl rfl) (Ae rfl Aq Al) rfl) (by rfl) (fun r k=>Cr _ k 4) (by rfl) (by decide) (by rfl) (by rfl) (by rfl) (fun k Z m hm=>?_) (fun k hk=>?_) (fun k hk Z=>?_) (fun i Z Z Z=>rfl) O3.cl)
   ·refine Ap (Au rfl rfl ?_);rcases hm with rfl|⟨u,_,rfl⟩<;>rfl
   ·exact Lj (Bd rfl (Bj rfl (Bc rfl rfl rfl) (Ad rfl Af rfl) (Ew (wq.mp hk))) (Bc rfl rfl rfl) rfl)
   ·have B5:k<4:=wq.mp hk;have hit:∀J,Eb J (.str "abcd") (Bi k)=some (.str (uS k)):=fun J=>by
     exact k4 B5 rfl rfl rfl rfl
    exact Bo (Bj rfl aN (Ad rfl Af rfl) (hit _))
end
def zZ:O6->O6
 |.BinOp x _ _ _=>x
 |_=>.Constant .none 0 default
def Wx:Ek:=(Kc 135).get (by rfl')
theorem kf:gl.D 135=some Wx:=by kernel_rfl
structure RS where
 p:Int×Bool
 q0:Int×Bool
 q1:Int×Bool
 q2:Int×Bool
 q3:Int×Bool
def RS.lst (s:RS):List V:=[sv s.q0,sv s.q1,sv s.q2,sv s.q3]
def Xf (tx:O7) (s:RS) (t:List (O7×V)):Aj:=Bb++[.fr (([("text",.str tx),("place",sv s.p),("places",.ref 4)]:List (O7×V))++t),.lst s.lst]
def qc (s:RS) (x:Nat×Bool):RS:=match x.1 with
 |21=>{ s with p:=(s.p.1+1,false) }
 |256=>{ s with q0:=s.p }
 |257=>{ s with q1:=s.p }
 |258=>{ s with q2:=s.p }
 |259=>{ s with q3:=s.p }
 |_=>s
def cn:List (Nat×Bool):=[(0,true),(21,true),(22,true),(256,false),(257,false),(258,false),(259,false)]
def ug (x:V):List (O7×V):=[("symbol",x)]
theorem de (n:Nat)(tx:O7)(s:RS){x:Nat×Bool}(hx:x∈cn):Dm (Aw gl (n+20)) (tE Wx) (Bq (Bs Wx.body 1)) (Xf tx s (ug (nm x)))=some (.next,Xf tx (qc s x) (ug (nm x))):=by
 simp only[cn,List.mem_cons,List.not_mem_nil,or_false] at hx;rcases hx with rfl|rfl|rfl|rfl|rfl|rfl|rfl<;>kernel_rfl
def Ov (c:Nat):Nat×Bool:=if c=61 then (22,true) else if c=62 then (21,true) else (256+(c-97),false)
def Tz:List Nat:=[61,62,97,98,99,100]
theorem fx (n:Nat){c:Nat}(hc:c∈Tz)(tx:O7)(s:RS) :
 (Aw gl (n+20)).ev (cE (tE Wx) (nT (zZ (Rj (Bs Wx.body 1)))) (Xf tx s []) []) (j0 (zZ (Rj (Bs Wx.body 1)))) (Xf tx s []++[.fr [("sign",.str ⟨#[c]⟩)]])=some (nm (Ov c),Xf tx s []++[.fr [("sign",.str ⟨#[c]⟩)]]):=by
 simp only[Tz,List.mem_cons,List.not_mem_nil,or_false] at hc;rcases hc with rfl|rfl|rfl|rfl|rfl|rfl<;>kernel_rfl
theorem b9 {g:Gl}{L:Lv}{e:As}{J Ab:Aj}{p:Pos}{l r:O6}{op:Operator}{v:V}{s:Gh}(h1:L.ev e (.BinOp l op r p) J=some (v,Ab))(h2:Sf Ab v=some s):Hx g L e (.BinOp l op r p) J=some (s,Ab):=by
 unfold Hx;dsimp only;unfold Wc;rw[h1];dsimp only;rw[h2]
def iS:RS:=⟨(0,true),(0,true),(0,true),(0,true),(0,true)⟩
def Kf (tx:O7):List (Nat×Bool):=tx.cps.toList.map Ov++[(0,true)]
def Ib (tx:O7):RS:=(Kf tx).foldl qc iS
theorem iG {c:Nat}(hc:c∈Tz):Ov c∈cn:=by
 simp only[Tz,List.mem_cons,List.not_mem_nil,or_false] at hc;rcases hc with rfl|rfl|rfl|rfl|rfl|rfl<;>decide
def rdB (n:Nat):V->Aj->Option (Fl×Aj):=fun v J=>oe1 (Cy (tE Wx) (Ee (Bs Wx.body 1)) v J) none fun Ai=>Dm (Aw gl (n+20)) (tE Wx) (Bq (Bs Wx.body 1)) Ai
theorem rj {tx:O7}{s:RS}{t:List (O7×V)}(h:Bg 5 t=true):Dw (Xf tx s t):=by
 refine ⟨?_,rfl⟩;show Ci 5 (Xf tx s t)=true;unfold Xf RS.lst;simp only[Bb,List.cons_append,List.nil_append,Ia,Tx,Cg,Gu,Sg,Pn,Pc,Ow,Ox,Ph,Ou,Pg,Ol,Fw,Gx,Hp,h]
 rfl
theorem rQ (n:Nat){J:Aj}(O:Dw J){tx:O7}(hc:∀c∈tx.cps.toList,c∈Tz)(hl:tx.cps.toList.length≤50):(Aw gl (n+26)).call (.fn 135) [.str tx] [] J=some (.lst (Ib tx).lst,J):=by
 have h0:(Aw gl (n+25)).ex (tE Wx) (Bs Wx.body 0) (Bb++[.fr [("text",.str tx)]])=some (.next,Xf tx iS []):=by kernel_rfl
 have O1:=rj (tx:=tx) (s:=iS) (t:=[]) rfl;have B8:(Aw gl (n+23)).ev (tE Wx) (zZ (Rj (Bs Wx.body 1))) (Xf tx iS [])=some (.lst ((tx.cps.toList.map Ov).map nm),Xf tx iS []):=by
  rw[z6];refine Cq (Do (fun c=>V.str ⟨#[c]⟩) (nm ∘ Ov) (fun c=>[("sign",.str ⟨#[c]⟩)]) (by exact Eo (Ad rfl rfl rfl) rfl) (by rfl) (fun r k=>?_) (by rfl) (wp hl (by decide)) (by rfl) (by rfl) (by rfl) (fun c Z m hm=>?_) (fun c EZ=>Bo ?_) (fun Z Z Z=>rfl) O1.cl)
  ·show some ((tx.cps[k]?).map fun c=>V.str ⟨#[c]⟩)=_;rw[x6,xy]
  ·refine Ap (Au rfl rfl ?_);rcases hm with rfl|⟨u,_,rfl⟩<;>rfl
  ·exact fx (n+2) (hc c EZ) tx iS
 have GA:Hx gl (Aw gl (n+24)) (tE Wx) (Rj (Bs Wx.body 1)) (Xf tx iS [])=some (.seq (.lst ((Kf tx).map nm)),Xf tx iS []):=by
  refine b9 (v:=.lst ((Kf tx).map nm)) (Bw B8 (Qr rfl (Ae rfl Aq Al)) ?_) rfl;show (if Nat.ble (((tx.cps.toList.map Ov).map nm).length+1) 1000000 then some (V.lst ((tx.cps.toList.map Ov).map nm++[Bi 0]),Xf tx iS []) else none)=_;rw[if_pos (xg (by rw[wn,wn];lia))];unfold Kf;rw[yc]
  rfl
 obtain ⟨Av,e1,s,t,rfl,rfl,ht⟩:=Im (ι:=nm) (body:=rdB (n+4)) (s:=.seq (.lst ((Kf tx).map nm))) (l:=Kf tx) (St:=fun pre J=>∃s t,J=Xf tx s t∧s=pre.foldl qc iS∧(t=[]∨∃x,t=ug x)) (fun Z J k Z=>rfl) (fun pre x J S hp=>by
  obtain ⟨s,t,rfl,rfl,ht⟩:=S;obtain ⟨B3,hp⟩:=hp;have hx:x∈cn:=by
   have hm:x∈Kf tx:=by rw[hp];simp
   rcases xk.mp hm with h|h
   ·obtain ⟨c,EZ,rfl⟩:=xr.mp h;exact iG (hc c EZ)
   ·rw[wl] at h;subst h;decide
  refine ⟨_,?_,_,_,rfl,by rw[z8,zk,List.foldl_nil],.inr ⟨nm x,rfl⟩⟩;unfold rdB;rw[show Cy (tE Wx) (Ee (Bs Wx.body 1)) (nm x) (Xf tx (pre.foldl qc iS) t)=some (Xf tx (pre.foldl qc iS) (ug (nm x))) from by
   refine Ap (Au (J:=Bb) rfl rfl ?_);rcases ht with rfl|⟨y,rfl⟩<;>rfl]
  exact de (n+4) tx _ hx) (Kf tx) [] (Xf tx iS []) rfl ⟨_,_,rfl,rfl,.inl rfl⟩
 have h1:(Aw gl (n+25)).ex (tE Wx) (Bs Wx.body 1) (Xf tx iS [])=some (.next,Xf tx (Ib tx) t):=by
  refine (Hs GA rfl).trans ?_;rw[show Me (Xf tx iS []) (.seq (.lst ((Kf tx).map nm)))=(Kf tx).length from wn _];exact e1
 have CP:∀t,(t=[]∨∃x,t=ug x)->(([("text",.str tx),("place",sv (Ib tx).p),("places",.ref 4)]:List (O7×V))++t).lookup ("places":O7)=some (.ref 4):=fun t ht=>by
  rcases ht with rfl|⟨y,rfl⟩<;>rfl
 refine Gm (bs:=[(("text":O7),.str tx)]) O kf rfl rfl rfl rfl rfl ((Dr (s:=Bs Wx.body 0) h0 ((Dr (s:=Bs Wx.body 1) h1 (Cp (s:=Bs Wx.body 2) (Fb (Ad rfl rfl (CP t ht))) (by simp)))))) ?_
 rfl
def q4 (a b c d:Int):Nat->Int
 |0=>a
 |1=>b
 |2=>c
 |_=>d
def pos (r:Nat->Int) (k:Nat):Nat:=((Oq r).findIdx? (· == r k)).getD 9
theorem Kv {r r':Nat->Int}(h:∀k,k<4->r k=r' k):Oq r=Oq r':=by
 unfold Oq;rw[h 0 (by decide),h 1 (by decide),h 2 (by decide),h 3 (by decide)]
theorem qH {r r':Nat->Int}(h:∀k,k<4->r k=r' k)(one:Int):q6 r one=q6 r' one:=by
 unfold q6;rw[List.filter_congr fun k hk=>by rw[h k (wq.mp hk)]]
theorem Yq {r r':Nat->Int}(h:∀k,k<4->r k=r' k):ny r=ny r':=funext fun x=>by unfold ny;rw[qH h]
theorem rD {r r':Nat->Int}(h:∀k,k<4->r k=r' k):Tt r=Tt r':=by
 unfold Tt;rw[Kv h,Yq h]
theorem Rp {r r':Nat->Int}(h:∀k,k<4->r k=r' k){k:Nat}(hk:k<4):pos r k=pos r' k:=by
 unfold pos;rw[Kv h,h k hk]
def chk (a b c d:Nat):Bool:=
 let r:=q4 a b c d
 let t:=Tt r
 t.cps.toList.all (Tz.contains ·)&&Nat.ble t.cps.toList.length 50&&JoinOk ">" ((Oq r).map (ny r)) &&
  (PF 4).all (fun k=>((Oq r).findIdx? (· == r k)).isSome)&&(PF 4).all (fun x=>(PF 4).all fun y=>decide (pos r x<pos r y)==decide (r x<r y))&&((Ib t).q0.1==(pos r 0:Int))&&((Ib t).q1.1==(pos r 1:Int))&&((Ib t).q2.1==(pos r 2:Int))&&((Ib t).q3.1==(pos r 3:Int))
theorem zX:((PF 4).all fun a=>(PF 4).all fun b=>(PF 4).all fun c=>(PF 4).all fun d=>chk a b c d)=true:=by decide +kernel
section
def Rk (r:Nat->Int):Prop:=∀k,k<4->∃a:Nat,a<4∧r k=(a:Int)
structure RkOk (r:Nat->Int):Prop where
 jo:JOk r
 si:∀c∈(Tt r).cps.toList,c∈Tz
 ln:(Tt r).cps.toList.length≤50
 ix:∀k,k<4->(Oq r).findIdx? (· == r k)=some (pos r k)
 mo:∀a b,a<4->b<4->(pos r a<pos r b↔r a<r b)
 q0:(Ib (Tt r)).q0.1=(pos r 0:Int)
 q1:(Ib (Tt r)).q1.1=(pos r 1:Int)
 q2:(Ib (Tt r)).q2.1=(pos r 2:Int)
 q3:(Ib (Tt r)).q3.1=(pos r 3:Int)
theorem tV (f:Nat->Bool):JoinOk "=" (((PF 4).filter f).map uS)=true:=by
 rw[List.filter_congr (q:=fun i=>[f 0,f 1,f 2,f 3].getD i false) fun i hi=>k4 (wq.mp hi) rfl rfl rfl rfl];exact (by decide +kernel:∀a b c d:Bool,JoinOk "=" (((PF 4).filter fun i=>[a,b,c,d].getD i false).map uS)=true) (f 0) (f 1) (f 2) (f 3)
theorem Xy {r:Nat->Int}(h:Rk r):RkOk r:=by
 obtain ⟨a,ha,ea⟩:=h 0 (by decide);obtain ⟨b,hb,eb⟩:=h 1 (by decide);obtain ⟨c,hc,ec⟩:=h 2 (by decide);obtain ⟨d,hd,ed⟩:=h 3 (by decide);have hr:∀k,k<4->r k=q4 a b c d k:=fun k hk=>by
  exact k4 hk (ea) (eb) (ec) (ed)
 have hk:=xo.mp (xo.mp (xo.mp (xo.mp zX a (wq.mpr ha)) b (wq.mpr hb)) c (wq.mpr hc)) d (wq.mpr hd);unfold chk at hk;simp only[Bool.and_eq_true,beq_iff_eq] at hk;obtain ⟨⟨⟨⟨⟨⟨⟨⟨h1,h2⟩,h3⟩,h4⟩,h9⟩,h5⟩,h6⟩,h7⟩,h8⟩:=hk;rw[← rD hr] at h1 h2 h5 h6 h7 h8;rw[← Kv hr,← Yq hr] at h3;rw[← Rp hr (by decide)] at h5 h6 h7 h8;refine ⟨⟨fun one=>tV _,h3⟩,fun c hc=>zu.mp (xo.mp h1 c hc),xm h2,fun k hk=>?_,fun x y hx hy=>?_,h5,h6,h7,h8⟩
 ·have:=xo.mp h4 k (wq.mpr hk);rw[← Kv hr,← hr k hk] at this;unfold pos;cases hf:(Oq r).findIdx? (· == r k) with
  |none=>rw[hf] at this;cases this
  |some j=>rfl
 ·have:=beq_iff_eq.mp (xo.mp (xo.mp h9 x (wq.mpr hx)) y (wq.mpr hy));rw[← Rp hr hx,← Rp hr hy,← hr x hx,← hr y hy] at this;exact decide_eq_decide.mp this
theorem Zc {d:Nat->Int}{i:Nat}:Rk (rk d i):=fun k Z=>by
 have h1:0≤((d i).fdiv (4 ^ k)).fmod 4:=by rw[zq _ (by decide)];exact Int.emod_nonneg _ (by decide)
 have h2:((d i).fdiv (4 ^ k)).fmod 4<4:=by rw[zq _ (by decide)];exact Int.emod_lt_of_pos _ (by decide)
 refine ⟨(((d i).fdiv (4 ^ k)).fmod 4).toNat,(Int.toNat_lt h1).mpr h2,?_⟩;exact (Int.toNat_of_nonneg h1).symm
variable {d:Nat->Int}{ds:Nat->Bool}{AB:V}
def Dp (d:Nat->Int) (i k:Nat):Int:=(pos (rk d i) k:Int)
def Tk (d:Nat->Int) (i:Nat):Nat->Bool
 |0=>(Ib (Tt (rk d i))).q0.2
 |1=>(Ib (Tt (rk d i))).q1.2
 |2=>(Ib (Tt (rk d i))).q2.2
 |_=>(Ib (Tt (rk d i))).q3.2
theorem yE {i:Nat}:V.lst (Ib (Tt (rk d i))).lst=Hq (Dp d) (Tk d) i:=by
 have h:=Xy (Zc (d:=d) (i:=i));unfold RS.lst Hq sv Dp;rw[h.q0,h.q1,h.q2,h.q3]
 rfl
abbrev Zr (d:Nat->Int):Cs:={ ranks:=some (lk (rk d) Om),casts:=some (Ny (Ks d) Nv),columns:=some (lk (Dp d) (Tk d)) }
theorem Gz {k:Nat}:Ar k (rV d)=true:=rfl
theorem Jj (hs:∀k,Ar k AB=true){k:Nat}:Bg k (Gw AB d ds)=true:=by rw[Ah,Ah,Ah,hs,Fv,Gz];rfl
theorem lw4 (n:Nat)(hs:∀k,Ar k AB=true):(Aw gl (n+60)).ex (tE Cm) (Bs Cm.body 4) (Bt (Gw AB d ds) (zP d) [])=some (.next,Bt (Gw AB d ds) (Zr d) []):=by
 have O:Dw (Bt (Gw AB d ds) (zP d) []):=Fx (Jj hs) (by simp[Cs.ok,Ht,Cu,Cw]) rfl;refine Ij (v:=lk (Dp d) (Tk d)) rfl (Iu (vs:=(PF 4).map fun i=>Hq (Dp d) (Tk d) i) (Do (fun i=>V.str (Tt (rk d i))) (fun i=>Hq (Dp d) (Tk d) i) (fun i=>[("text",V.str (Tt (rk d i)))]) (s:=.seq (rV d))
  (by exact Eo (Ad rfl rfl rfl) (by rfl)) (by rfl) (fun r k=>rfl) (by rfl) (by decide) (by rfl) (by rfl) (by rfl) (fun i Z m hm=>?_) (fun i hi=>Bo ?_) (fun i Z Z=>rfl) O.cl)) (Bn (i:=13) (o:=none) rfl rfl rfl)
 ·refine Ap (Au rfl rfl ?_);rcases hm with rfl|⟨u,_,rfl⟩<;>rfl
 ·have h:=Xy (Zc (d:=d) (i:=i));have O2:Dw (Bt (Gw AB d ds) (zP d) []++[.fr [("text",V.str (Tt (rk d i)))]]):=O.push rfl;rw[← yE];exact (Cl rfl rfl rfl (Ae rfl (Ad rfl Af rfl) Al) Bf).trans (rQ (n+32) O2 h.si h.ln)
theorem No {f:V->V->Option Bool}{l:List V}:∀{l':List V},l.length=l'.length->(∀(i:Nat)(x y:V),l[i]?=some x->l'[i]?=some y->f x y=some true)->Ff f l l'=some true:=by
 induction l with
 |nil=>
  intro l' h Z
  induction l' with
  |nil=>rfl
  |cons=>cases h
 |cons x l ih=>
  intro l' h g
  induction l' with
  |nil=>cases h
  |cons y l'=>
   rw[Wu,g 0 x y rfl rfl];rw[ih (xi h) fun i a b ha hb=>g (i+1) a b ha hb]
   rfl
theorem kP {J:Aj}{n:Nat}{x y:Int}{s t:Bool}:Rc J (n+1) (.int x s) (.int y t)=some (x==y):=rfl
theorem To {J:Aj}{n:Nat}{l l':List V}(hl:l.length=l'.length)(h:∀(i:Nat)(x y:V),l[i]?=some x->l'[i]?=some y->Rc J n x y=some true):Rc J (n+1) (.lst l) (.lst l')=some true:=by
 show (if l.length==l'.length then Ff (Rc J n) l l' else some false)=_;rw[if_pos (by rw[hl];simp)];exact No hl h
theorem jH {J:Aj}{m m':Nat->Nat->Int}{b b':Nat->Nat->Bool}(h:∀i j,i<4->j<4->m i j=m' i j):Rc J 8 (lk m b) (lk m' b')=some true:=by
 rw[vK,vK];refine To (rfl) fun i x y hx hy=>?_;rw[x6] at hx hy;cases hi:(PF 4)[i]? with
 |none=>rw[hi] at hx;cases hx
 |some i'=>
  rw[hi] at hx hy;cases hx;cases hy;have CE:i'<4:=wq.mp (xt hi);show Rc J 7 (Hq m b i') (Hq m' b' i')=_;rw[Qb,Qb];refine To (rfl) fun j x y hx hy=>?_;rw[x6] at hx hy;cases hj:(PF 4)[j]? with
  |none=>rw[hj] at hx;cases hx
  |some j'=>
   rw[hj] at hx hy;cases hx;cases hy;have DA:j'<4:=wq.mp (xt hj);rw[kP,h i' j' CE DA];simp
theorem Of {J:Aj}{a b:V}{c:Bool}(h:Rc J 8 a b=some c):Dx J .NotEq a b=some (!c):=by
 show (Rc J 8 a b).map (!·)=_;rw[h];rfl
theorem a8:∀{l:List Int},Fk (l.map Bi)=some l:=fun {l}=>by
 induction l with
 |nil=>rfl
 |cons x l ih=>exact Fa rfl ih
theorem lw5 (n:Nat)(hs:∀k,Ar k AB=true):(Aw gl (n+60)).ex (tE Cm) (Bs Cm.body 5) (Bt (Gw AB d ds) (Zr d) [])=some (.next,Bt (Gw AB d ds) (Zr d) []):=by
 have O:Dw (Bt (Gw AB d ds) (Zr d) []):=Fx (Jj hs) (by simp[Cs.ok,Ht,Cu,Cw]) rfl;refine (Cb (c:=false) (Bd rfl (Bc rfl rfl rfl) (Cq (vs:=(PF 4).map fun i=>Hq (Dp d) Om i) (Fd (fun i=>Hq (rk d) Om i) (fun i=>Hq (Dp d) Om i) [.fr [],.cell none] (fun i=>[.fr [],.cell (some (Hq (rk d) Om i))]) (s:=.seq (lk (rk d) Om))
  (by exact Eo (Bc rfl rfl rfl) rfl) (by rfl) (fun r k=>rfl) (by rfl) (by decide) (by rfl) (by rfl) (by rfl) ⟨_,_,rfl⟩ (fun Z=>⟨_,_,rfl⟩) (fun i Z x hx=>?_) (fun i hi=>Bo ?_) (fun i Z Z=>rfl) O.cl)) (Of (jH fun Z Z Z Z=>rfl)))).trans Ax
 ·rcases hx with rfl|⟨u,_,rfl⟩
  ·exact Ap (Bn (i:=15) rfl rfl rfl)
  ·exact Ap (Bn (i:=15) rfl rfl rfl)
 ·have h:=Xy (Zc (d:=d) (i:=i));have O2:Dw (Bt (Gw AB d ds) (Zr d) []++[.fr [],.cell (some (Hq (rk d) Om i))]):=by
   have:=(O.push (o:=.fr []) rfl).push (o:=.cell (some (Hq (rk d) Om i))) (by simp[Cg,Hq,Pn,Pc,Ow,Ox,Ph,Ou,Pg,Ol,Fw,Gx]);rwa [xj] at this
  rw[Qb (m:=Dp d)];refine Cq (Do (fun k=>V.int (rk d i k) (Om i k)) (fun k=>V.int (Dp d i k) (Om i k)) (fun k=>[("one",V.int (rk d i k) (Om i k))])
   (by exact Eo (Bc rfl rfl rfl) rfl) (by rfl) (fun r k=>rfl) (by rfl) (by decide) (by rfl) (by rfl) (by rfl) (fun k Z m hm=>?_) (fun k hk=>Bo ?_) (fun i Z Z=>rfl) O2.cl)
  ·refine Ap (Au rfl rfl ?_);rcases hm with rfl|⟨u,_,rfl⟩<;>rfl
  ·have B5:k<4:=wq.mp hk;have hix:∀J,jg "list.index" [.lst ((Oq (rk d i)).map Bi),.int (rk d i k) true] J=some (.int (Dp d i k) true,J):=fun J=>by
    show gm J "list.index" (.lst ((Oq (rk d i)).map Bi)) (.int (rk d i k) true)=_;unfold gm;rw[if_neg (by rfl'),if_pos (by rfl')];show (oe1 (Fk ((Oq (rk d i)).map Bi)) none fun q=>
     oe1 (q.findIdx? (· == rk d i k)) none fun j=>if Nat.ble q.length 1000000 then some (V.int j true,J) else none)=_
    exact (oE1 a8).trans ((oE1 (h.ix k B5)).trans (if_pos (xg (wp Mz (by decide)))))
   exact Lw rfl (Rn (Az rfl rfl) rfl ((Cl rfl rfl rfl (Ae rfl (Bc rfl rfl rfl) Al) Bf).trans (dJ (l:=[V.int (rk d i 0) true,.int (rk d i 1) true,.int (rk d i 2) true,.int (rk d i 3) true]) (q:=[rk d i 0,rk d i 1,rk d i 2,rk d i 3]) rfl (show 4≤1000 by decide) rfl)) (xe Mz (by decide))) (by rfl) (Ae rfl (Ad rfl Af rfl) Al) (hix _)
end
section
def DTM:Ek:=(Kc 109).get (by rfl')
def DNT:Ek:=(Kc 116).get (by rfl')
def DEO:Ek:=(Kc 123).get (by rfl')
theorem k8:gl.D 109=some DTM:=by kernel_rfl
theorem m0:gl.D 116=some DNT:=by kernel_rfl
theorem ll:gl.D 123=some DEO:=by kernel_rfl
theorem gy (n:Nat){J:Aj}(O:Dw J){x:Int}{b:Bool}:(Aw gl (n+10)).call (.fn 109) [.int x b] [] J=some (.bool (decide (x<256)),J):=
 Hn (bs:=[(("x":O7),.int x b)]) O k8 rfl rfl rfl (by kernel_rfl)
theorem cf (n:Nat){J:Aj}(O:Dw J){x:Int}{b:Bool}:(Aw gl (n+10)).call (.fn 116) [.int x b] [] J=some (.bool (decide (x≥256)),J):=
 Hn (bs:=[(("x":O7),.int x b)]) O m0 rfl rfl rfl (by kernel_rfl)
theorem al (n:Nat){J:Aj}(O:Dw J){x:Int}{b:Bool}:(Aw gl (n+10)).call (.fn 123) [.int x b] [] J=some (.bool (x==0),J):=
 Hn (bs:=[(("x":O7),.int x b)]) O ll rfl rfl rfl (by kernel_rfl)
variable {d:Nat->Int}{ds:Nat->Bool}{AB:V}
theorem Oy {J:Aj}{a b:Bool}(h:a=b):Dx J .IsNot (.bool a) (.bool b)=some false:=by
 subst h;show some (!(a==a))=_;simp
theorem lw6 (n:Nat)(hs:∀k,Ar k AB=true):(Aw gl (n+60)).ex (tE Cm) (Bs Cm.body 6) (Bt (Gw AB d ds) (Zr d) [])=some (.next,Bt (Gw AB d ds) (Zr d) []):=by
 have O:Dw (Bt (Gw AB d ds) (Zr d) []):=Fx (Jj hs) (by simp[Cs.ok,Ht,Cu,Cw]) rfl
 let l5:List (Int×Bool):=[(-1-d 0,false),((d 1).fmod 256,true),(255,true),(256,true),(256+d 2,false)]
 have hv:(Aw gl (n+58)).ev (tE Cm) (Ed (Bs Cm.body 6)) (Bt (Gw AB d ds) (Zr d) [])=some (.lst ((l5.filter fun Z=>false).map sv),Bt (Gw AB d ds) (Zr d) []):=by
  refine Cq (Qn sv (fun Z=>false) sv (fun x=>[("number",sv x)]) (by exact lA (Go rfl (Ae rfl (Bw (by rfl) (Bj rfl (Ad rfl rfl rfl) Aq (by rfl)) rfl) (Ae rfl (Bw (Bj rfl (Ad rfl rfl rfl) Aq (by rfl)) Aq rfl) (Ae rfl Aq (Ae rfl Aq (Ae rfl (Bw Aq (Bj rfl (Ad rfl rfl rfl) Aq (by rfl)) rfl) Al)))))) (by rfl))
   (by rfl) (fun r k=>rfl) (by rfl) (by show 5≤1000;decide) (by rfl) (by rfl) (by rfl) (fun x Z m hm=>?_) (fun x hx=>?_) (fun x hx h=>by cases h) (fun x Z h=>by cases h) O.cl)
  ·refine Ap (Au rfl rfl ?_);rcases hm with rfl|⟨u,_,rfl⟩<;>rfl
  ·have O2:Dw (Bt (Gw AB d ds) (Zr d) []++[.fr [("number",sv x)]]):=O.push (by
    show Bg _ [(("number":O7),sv x)]=true;rw[Ah,Hp];rfl)
   have e2:decide (x.1≥256)=decide (x.1>255):=decide_eq_decide.mpr (by rfl);refine Lj (Hl (Yt (b:=false) (c:=false) (Bd rfl ((Cl rfl rfl rfl (Ae rfl (Ad rfl Af rfl) Al) Bf).trans (gy (n+44) O2)) (Lq rfl (Ad rfl Af rfl) Aq rfl) (Oy rfl)) fun Z=>
    Yt (b:=false) (c:=false) (Bd rfl ((Cl rfl rfl rfl (Ae rfl (Ad rfl Af rfl) Al) Bf).trans (cf (n+44) O2)) (Lq rfl (Ad rfl Af rfl) Aq rfl) (Oy e2)) fun Z=>
    Ir (Bd rfl ((Cl rfl rfl rfl (Ae rfl (Ad rfl Af rfl) Al) Bf).trans (al (n+44) O2)) (Lq rfl (Ad rfl Af rfl) Aq rfl) (Oy rfl))))
 exact (Cb (c:=false) (Gv rfl hv rfl)).trans Ax
def Kh (x:Int):Int:=if x.fmod 4=0 then 1 else if x.fmod 4=1 then -1 else if x.fmod 4=2 then 2 else -3
theorem zC (J:Aj)(x:Int):Eb J (.tup [.int 1 true,.int (-1) true,.int 2 true,.int (-3) true]) (.int (x.fmod 4) true)=some (.int (Kh x) true):=by
 have h1:0≤x.fmod 4:=by rw[zq _ (by decide)];exact Int.emod_nonneg _ (by decide)
 have h2:x.fmod 4<4:=by rw[zq _ (by decide)];exact Int.emod_lt_of_pos _ (by decide)
 unfold Kh;generalize x.fmod 4=y at h1 h2;have:y=0∨y=1∨y=2∨y=3:=by lia
 rcases this with rfl|rfl|rfl|rfl<;>rfl
theorem Zn {x:Int}:Kh x≠0:=by
 unfold Kh;split
 ·decide
 ·split
  ·decide
  ·split<;>decide
theorem Tq {ts es:List O6}{c:Nat}{p:Pos}{vs:List V}(hl:Nat.ble es.length 1000000=true)(h:Uw (Aw g n) e (nC e ts) es J=some (vs,Ab)):nq (Aw g n) e ts (.Tuple es c p) J=some (.tup vs,Ab):=by
 exact (gN hl).trans (oE2 h)
theorem Ww {bs:List Bool}:Uw (Aw g n) e bs [] J=some ([],J):=rfl
theorem Iz {b:Bool}{bs:List Bool}{x:O6}{r:List O6}{v:V}{vs:List V}(hs:noStar x=true)(h1:ba (Aw g n) b e x J=some (v,Ab))(h2:Uw (Aw g n) e bs r Ab=some (vs,Ai)):Uw (Aw g n) e (b::bs) (x::r) J=some (v::vs,Ai):=by
 exact jY.trans ((gN hs).trans ((oE2 h1).trans (oE2 h2)))
theorem Ym {x:O6}{r:Option (V×Aj)}(h:(Aw g n).ev e x J=r):ba (Aw g n) false e x J=r:=h
theorem gC {v:V}{l:List V}(h:Bu J v=some l)(hl:l.length≤1000000):(Aw g (n+1)).call (.ty "tuple") [v] [] J=some (.tup l,J):=by
 rw[Gn];show wa "tuple" v J=_;exact (if_neg (by decide)).trans ((if_pos (by decide)).trans ((oE1 h).trans (if_pos (xg hl))))
def Oc:O6->Nat->O6
 |.Tuple es _ _,i=>(es[i]?).getD (.Constant .none 0 default)
 |_,_=>.Constant .none 0 default
def Pl (d:Nat->Int) (k i:Nat):Int:=Dp d i k
def Pb (d:Nat->Int) (k i:Nat):Bool:=Tk d i k
abbrev zM (d:Nat->Int):Cs:={ ranks:=some (lk (rk d) Om),casts:=some (Ny (Ks d) Nv),columns:=some (lk (Dp d) (Tk d)),rows:=some (eY (Pl d) (Pb d)),way:=some (.int (Kh (d 4)) true) }
theorem lw7 (n:Nat)(hs:∀k,Ar k AB=true):(Aw gl (n+60)).ex (tE Cm) (Bs Cm.body 7) (Bt (Gw AB d ds) (Zr d) [])=some (.next,Bt (Gw AB d ds) (zM d) []):=by
 have O:Dw (Bt (Gw AB d ds) (Zr d) []):=Fx (Jj hs) (by simp[Cs.ok,Ht,Cu,Cw]) rfl;have h1:(Aw gl (n+59)).ev (tE Cm) (Oc (Mc (Bs Cm.body 7)) 0) (Bt (Gw AB d ds) (Zr d) [])=some (eY (Pl d) (Pb d),Bt (Gw AB d ds) (Zr d) []):=by
  refine Cq (Fd (fun k:Nat=>Bi (k:Int)) (fun k=>gr (Pl d) (Pb d) k) [.fr [],.cell none] (fun k=>[.fr [],.cell (some (Bi (k:Int)))])
   (by exact Dl (Az rfl rfl) (Ae rfl Aq Al) rfl) (by rfl) (fun r k=>Cr _ k 4) (by rfl) (by decide) (by rfl) (by rfl) (by rfl) ⟨_,_,rfl⟩ (fun Z=>⟨_,_,rfl⟩) (fun k Z x hx=>?_) (fun k hk=>Bo ?_) (fun i Z Z=>rfl) O.cl)
  ·rcases hx with rfl|⟨u,_,rfl⟩
   ·exact Ap (Bn (i:=15) rfl rfl rfl)
   ·exact Ap (Bn (i:=15) rfl rfl rfl)
  ·have B5:k<4:=wq.mp hk;have O2:Dw (Bt (Gw AB d ds) (Zr d) []++[.fr [],.cell (some (Bi (k:Int)))]):=by
    have:=(O.push (o:=.fr []) rfl).push (o:=.cell (some (Bi (k:Int)))) rfl;rwa [xj] at this
   refine (Cl rfl rfl rfl (Ae rfl (Cq (vs:=(PF 4).map fun i=>V.int (Pl d k i) (Pb d k i)) (Do (fun i=>Hq (Dp d) (Tk d) i) (fun i=>V.int (Pl d k i) (Pb d k i)) (fun i=>[("column",Hq (Dp d) (Tk d) i)]) (s:=.seq (lk (Dp d) (Tk d)))
    (by exact Eo (Bc rfl rfl rfl) rfl) (by rfl) (fun r k=>rfl) (by rfl) (by decide) (by rfl) (by rfl) (by rfl) (fun i Z m hm=>?_) (fun i hi=>Bo ?_) (fun i Z Z=>rfl) O2.cl)) Al) Bf).trans (gC rfl (show 4≤1000000 by decide))
   ·refine Ap (Au rfl rfl ?_);rcases hm with rfl|⟨u,_,rfl⟩<;>rfl
   ·exact Bj rfl (Ad rfl Af rfl) (Bc rfl rfl rfl) (Ew B5)
 have h2:(Aw gl (n+59)).ev (tE Cm) (Oc (Mc (Bs Cm.body 7)) 1) (Bt (Gw AB d ds) (Zr d) [])=some (.int (Kh (d 4)) true,Bt (Gw AB d ds) (Zr d) []):=
  Bj rfl rfl (Bw (Bj rfl (Ad rfl rfl rfl) Aq (by rfl)) Aq rfl) (zC _ (d 4))
 refine Uu (l:=[eY (Pl d) (Pb d),.int (Kh (d 4)) true]) rfl (Tq rfl (Iz rfl (Ym h1) (Iz rfl (Ym h2) Ww))) rfl rfl (Br (Ab:=Bt (Gw AB d ds) { Zr d with rows:=some (eY (Pl d) (Pb d)) } []) rfl (Ap (Bn (i:=7) (o:=none) rfl rfl rfl)) (Br rfl (Ap (Bn (i:=8) (o:=none) rfl rfl rfl)) rfl))
end
section
variable {d:Nat->Int}{ds:Nat->Bool}{AB:V}
def Ko (d:Nat->Int) (one:Nat):En:=Zj (Kh (d 4)) (Pl d) (Ks d) Nv one
def pR (d:Nat->Int):V:=.lst [(Ko d 0).v,(Ko d 1).v,(Ko d 2).v,(Ko d 3).v]
theorem Iw {k:Nat}:Ar k (pR d)=true:=by simp[pR,Pn,Pc,Ow,Ox,Ph,Ou,Pg,Ol,Fw,Gx,Fm]
abbrev Rx (AB:V) (d:Nat->Int) (ds:Nat->Bool):List (O7×V):=[("script",AB),("drawn",rB d ds),("texts",rV d),("entries",pR d)]
theorem Vc (hs:∀k,Ar k AB=true){k:Nat}:Bg k (Rx AB d ds)=true:=by rw[Ah,Ah,Ah,Ah,hs,Fv,Gz,Iw];rfl
theorem Ev {k:Nat}{i:Int}{b:Bool}:Ar k (.int i b)=true:=by rfl
theorem vY {k:Nat}:(zM d).ok k=true:=by simp[Cs.ok,Ht,Cu,Cw,Jb,Ev]
theorem qe (mm:Aj){k:Nat}(x:En):By mm k 6 x.v=some x.v:=by
 show (Ec (By mm k 5) [sv x.a,sv x.b,sv x.c,sv x.d,.dct (dI x.t)]).map V.tup=_;rw (config:={}) [Np (f:=By mm k 5) fun v hv=>by
  simp only[List.mem_cons,List.not_mem_nil,or_false] at hv;rcases hv with rfl|rfl|rfl|rfl|rfl
  ·rfl
  ·rfl
  ·rfl
  ·rfl
  ·exact Zg _]
 rfl
theorem lw8 (n:Nat)(hs:∀k,Ar k AB=true):(Aw gl (n+60)).ex (tE Cm) (Bs Cm.body 8) (Bt (Gw AB d ds) (zM d) [])=some (.next,Bt (Rx AB d ds) (zM d) []):=by
 have O:Dw (Bt (Gw AB d ds) (zM d) []):=Fx (Jj hs) vY rfl;refine Ij (v:=pR d) rfl (Iu (vs:=(PF 4).map fun i=>(Ko d i).v) (Do (fun k:Nat=>Bi (k:Int)) (fun i=>(Ko d i).v) (fun k=>[("one",Bi (k:Int))])
  (by exact Dl (Az rfl rfl) (Ae rfl Aq Al) rfl) (by rfl) (fun r k=>Cr _ k 4) (by rfl) (by decide) (by rfl) (by rfl) (by rfl) (fun k Z m hm=>?_) (fun k hk=>Bo ?_) (fun i Z mm=>qe mm _) O.cl)) (Au (J:=Bb) rfl rfl rfl)
 ·refine Ap (Au rfl rfl ?_);rcases hm with rfl|⟨u,_,rfl⟩<;>rfl
 ·have B5:k<4:=wq.mp hk;have O2:Dw (Bt (Gw AB d ds) (zM d) []++[.fr [("one",Bi (k:Int))]]):=O.push rfl;exact (Cl rfl rfl rfl (Ae rfl (Bc rfl rfl rfl) (Ae rfl (Bc rfl rfl rfl) (Ae rfl (Ad rfl Af rfl) (Ae rfl (Bc rfl rfl rfl) Al)))) Bf).trans (fX (n+24) O2 B5)
def vt (d:Nat->Int) (a b:Nat):Int:=Ju 0 (((PF 4).filter fun i=>decide (rk d i a<rk d i b)).map (Ks d))
def cI:Nat->Nat->Bool:=fun Z Z=>false
abbrev Xk (d:Nat->Int):Cs:={ ranks:=some (lk (rk d) Om),casts:=some (Ny (Ks d) Nv),columns:=some (lk (Dp d) (Tk d)),rows:=some (eY (Pl d) (Pb d)),way:=some (.int (Kh (d 4)) true),votes:=some (lk (vt d) cI) }
theorem a7 {g:Gl}{L:Lv}{e:As}{J Ab:Aj}{p q:Pos}{nm:O7}{args:List O6}{v u:V}{l r:List V}(h0:Dc g e nm J=some (.ty "zip"))(h1:Kb L e args J=some ([v,u],Ab))(h2:Bu Ab v=some l)(h3:Bu Ab u=some r) :
 Hx g L e (.Call (.Name nm q) args [] p) J=some (.zip v u,Ab):=by
 show oe1 (oe1 (Dc g e nm J) none Jk) _ _=_;refine (oE1 ((oE1 h0).trans (show Jk (.ty "zip")=some "zip" by decide +kernel))).trans ((oE2 h1).trans ?_);exact oE1 ((if_neg (by rfl')).trans ((if_neg (by rfl')).trans ((if_pos (by rfl')).trans ((oE1 h2).trans (oE1 h3)))))
theorem eQ {α:Type}{f:α->Int}{b:α->Bool}:∀{l:List α},Fk (l.map fun x=>V.int (f x) (b x))=some (l.map f):=fun {l}=>by
 induction l with
 |nil=>rfl
 |cons x l ih=>exact Fa rfl ih
theorem nI {J:Aj}{v:V}{l:List V}{q:List Int}(h1:Bu J v=some l)(h2:Fk l=some q):uD J "sum" [v]=some (.int (Ju 0 q) false):=by
 show rF J "sum" v=_;unfold rF;rw[if_neg (by rfl'),if_pos (by rfl')];exact (oE1 h1).trans (oE1 h2)
theorem xL {J:Aj}{k:Nat}:Da J (.zip (lk (rk d) Om) (Ny (Ks d) Nv)) k=some ((PF 4).map fun i=>V.tup [Hq (rk d) Om i,.int (Ks d i) (Nv i)])[k]?:=by
 match k with
 |0=>rfl
 |1=>rfl
 |2=>rfl
 |3=>rfl
 |k+4=>rfl
theorem lw9 (n:Nat)(hs:∀k,Ar k AB=true):(Aw gl (n+60)).ex (tE Cm) (Bs Cm.body 9) (Bt (Rx AB d ds) (zM d) [])=some (.next,Bt (Rx AB d ds) (Xk d) []):=by
 have O:Dw (Bt (Rx AB d ds) (zM d) []):=Fx (Vc hs) vY rfl;refine Ij (v:=lk (vt d) cI) rfl (Iu (vs:=(PF 4).map fun i=>Hq (vt d) cI i) (Fd (fun k:Nat=>Bi (k:Int)) (fun i=>Hq (vt d) cI i) [.fr [],.cell none] (fun i=>[.fr [],.cell (some (Bi (i:Int)))])
  (by exact Dl (Az rfl rfl) (Ae rfl Aq Al) rfl) (by rfl) (fun r k=>Cr _ k 4) (by rfl) (by decide) (by rfl) (by rfl) (by rfl) ⟨_,_,rfl⟩ (fun Z=>⟨_,_,rfl⟩) (fun i Z x hx=>?_) (fun i hi=>Bo ?_) (fun i Z Z=>rfl) O.cl)) (Bn (i:=9) (o:=none) rfl rfl rfl)
 ·rcases hx with rfl|⟨u,_,rfl⟩
  ·exact Ap (Bn (i:=15) rfl rfl rfl)
  ·exact Ap (Bn (i:=15) rfl rfl rfl)
 ·have CE:i<4:=wq.mp hi;have O2:Dw (Bt (Rx AB d ds) (zM d) []++[.fr [],.cell (some (Bi (i:Int)))]):=by
   have:=(O.push (o:=.fr []) rfl).push (o:=.cell (some (Bi (i:Int)))) rfl;rwa [xj] at this
  refine Cq (Fd (fun k:Nat=>Bi (k:Int)) (fun j=>V.int (vt d i j) (cI i j)) [.fr [],.cell none] (fun j=>[.fr [],.cell (some (Bi (j:Int)))])
   (by exact Dl (Az rfl rfl) (Ae rfl Aq Al) rfl) (by rfl) (fun r k=>Cr _ k 4) (by rfl) (by decide) (by rfl) (by rfl) (by rfl) ⟨_,_,rfl⟩ (fun Z=>⟨_,_,rfl⟩) (fun j Z x hx=>?_) (fun j hj=>Bo ?_) (fun i Z Z=>rfl) O2.cl)
  ·rcases hx with rfl|⟨u,_,rfl⟩
   ·exact Ap (Bn (i:=17) rfl rfl rfl)
   ·exact Ap (Bn (i:=17) rfl rfl rfl)
  ·have DA:j<4:=wq.mp hj;have O3:Dw (Bt (Rx AB d ds) (zM d) []++[.fr [],.cell (some (Bi (i:Int)))]++[.fr [],.cell (some (Bi (j:Int)))]):=by
    have:=(O2.push (o:=.fr []) rfl).push (o:=.cell (some (Bi (j:Int)))) rfl;rwa [xj] at this
   refine (Cl rfl rfl rfl (Ae rfl (Cq (vs:=((PF 4).filter fun q=>decide (rk d q i<rk d q j)).map fun q=>V.int (Ks d q) (Nv q)) (Qn (fun q=>V.tup [Hq (rk d) Om q,.int (Ks d q) (Nv q)]) (fun q=>decide (rk d q i<rk d q j)) (fun q=>V.int (Ks d q) (Nv q)) (fun q=>[("rank",Hq (rk d) Om q),("cast",.int (Ks d q) (Nv q))])
    (by exact a7 (Az rfl rfl) (Ae rfl (Bc rfl rfl rfl) (Ae rfl (Bc rfl rfl rfl) Al)) rfl rfl) (by rfl) (fun r k=>xL) (by rfl) (by decide) (by rfl) (by rfl) (by rfl) (fun q Z m hm=>?_) (fun q hq=>?_) (fun q hq Z=>?_) (fun Z Z Z Z=>rfl) O3.cl)) Al) Bf).trans (It (nI rfl eQ))
   ·rcases hm with rfl|⟨u,_,rfl⟩
    ·exact Fo rfl (Br rfl (Ap (Au rfl rfl rfl)) (Br rfl (Ap (Au rfl rfl rfl)) rfl))
    ·exact Fo rfl (Br rfl (Ap (Au rfl rfl rfl)) (Br rfl (Ap (Au rfl rfl rfl)) rfl))
   ·exact Lj (Bd rfl (Bj rfl (Ad rfl Af rfl) (Bc rfl rfl rfl) (Ew CE)) (Bj rfl (Ad rfl Af rfl) (Bc rfl rfl rfl) (Ew DA)) rfl)
   ·exact Bo (Ad rfl Af rfl)
end
section
section
variable {p q:Pos}
theorem Nb {ts:List O6}{c:Nat}{x:O6}{l:List V}{names:List O7}(hx:Dz x=false)(hv:nq (Aw g n) e ts x J=some (.tup l,Ab))(hs:Yj e ts x=some (some names))(hl:(names.length==l.length)=true)(hb:Mq e names.reverse l.reverse Ab=some Ai):(Aw g (n+1)).ex e (.Assign [.Tuple ts c q] x p) J=some (.next,Ai):=by
 rw[Hd];show aU (Aw g n) e ts x J=_;exact (nf hx).trans ((oE2 hv).trans ((oE1 (show iO (.tup l)=some l from rfl)).trans ((oE1 hs).trans ((if_pos hl).trans (oE1 hb)))))
theorem Gf {x:O7}{xs:List O7}{v:V}{vs:List V}{r:Option Aj}(h1:Dj e x v J=some Ab)(h2:Mq e xs vs Ab=r):Mq e (x::xs) (v::vs) J=r:=by
 exact (oE1 h1).trans h2
end
variable {d:Nat->Int}{ds:Nat->Bool}{AB:V}
theorem xT {k:Nat}:(Xk d).ok k=true:=by simp[Cs.ok,Ht,Cu,Cw,Jb,Ev]
def fT (d:Nat->Int):Int:=3*Ju 0 [Ks d 0,Ks d 1,Ks d 2,Ks d 3]
def rM (d:Nat->Int):En:=(Ko d 0).add (Ko d 1)
abbrev Qs (AB:V) (d:Nat->Int) (ds:Nat->Bool):List (O7×V):=[("script",AB),("drawn",rB d ds),("texts",rV d),("entries",pR d),("both",(rM d).v),("whole",.int (fT d) false)]
theorem eO (hs:∀k,Ar k AB=true){k:Nat}:Bg k (Qs AB d ds)=true:=by rw[Ah,Ah,Ah,Ah,Ah,Ah,hs,Fv,Gz,Iw,Fm,Ev];rfl
theorem Md.all {w:Int}{P:Nat->Nat->Int}{c:Nat->Int}{cb:Nat->Bool}{one:Nat}:Md (Zj w P c cb one) 16:=by
 have h0:Md rS 0:=⟨List.nodup_nil,wu _⟩;have go:∀(l:List Nat) (e:En) (z:Nat),Md e z->Md (l.foldl (px w P c cb one) e) (z+4*l.length):=fun l=>by
  induction l with
  |nil=>intro e z h;exact h
  |cons k l ih=>
   intro e z h;have:=ih (px w P c cb one e k) (z+4) (h.fold (l:=PF 4));rw[zk,x9];rwa [show z+4*(l.length+1)=z+4+4*l.length by lia]
 exact go (PF 4) rS 0 h0
theorem lw10 (n:Nat)(hs:∀k,Ar k AB=true):(Aw gl (n+60)).ex (tE Cm) (Bs Cm.body 10) (Bt (Rx AB d ds) (Xk d) [])=some (.next,Bt (Qs AB d ds) (Xk d) []):=by
 have O:Dw (Bt (Rx AB d ds) (Xk d) []):=Fx (Vc hs) xT rfl;have h1:(Aw gl (n+59)).ev (tE Cm) (Oc (Mc (Bs Cm.body 10)) 0) (Bt (Rx AB d ds) (Xk d) [])=some (.int (fT d) false,Bt (Rx AB d ds) (Xk d) []):=
  Bw Aq ((Cl rfl rfl rfl (Ae rfl (Bc rfl rfl rfl) Al) Bf).trans (It rfl)) rfl
 have N4:=(Md.all (w:=Kh (d 4)) (P:=Pl d) (c:=Ks d) (cb:=Nv) (one:=0));have GK:=(Md.all (w:=Kh (d 4)) (P:=Pl d) (c:=Ks d) (cb:=Nv) (one:=1));have h2:(Aw gl (n+59)).ev (tE Cm) (Oc (Mc (Bs Cm.body 10)) 1) (Bt (Rx AB d ds) (Xk d) [])=some ((rM d).v,Bt (Rx AB d ds) (Xk d) []):=
  (Cl rfl rfl rfl (Ae rfl (Bj rfl (Ad rfl rfl rfl) Aq rfl) (Ae rfl (Bj rfl (Ad rfl rfl rfl) Aq rfl) Al)) Bf).trans (Uj (n+32) O (x:=Ko d 0) (y:=Ko d 1) N4.nd (by
   have h1:(Ko d 0).t.length≤16:=N4.ln;have h2:(Ko d 1).t.length≤16:=GK.ln
   lia))
 exact Nb (names:=["whole","both"]) (l:=[.int (fT d) false,(rM d).v]) rfl (Tq rfl (Iz rfl (Ym h1) (Iz rfl (Ym h2) Ww))) (by kernel_rfl) rfl
  (Gf (Ab:=Bt ([("script",AB),("drawn",rB d ds),("texts",rV d),("entries",pR d),("both",(rM d).v)]) (Xk d) []) (Au (J:=Bb) rfl rfl rfl) (Gf (Au (J:=Bb) rfl rfl rfl) rfl))
def Qw (d:Nat->Int) (i:Nat):Int:=Ju 0 [vt d i 0,vt d i 1,vt d i 2,vt d i 3]
def Uk (d:Nat->Int) (i:Nat):Int:=Ju 0 [vt d 0 i,vt d 1 i,vt d 2 i,vt d 3 i]
abbrev Ca (AB:V) (d:Nat->Int) (ds:Nat->Bool):List (O7×V):=[("script",AB),("drawn",rB d ds),("texts",rV d),("entries",pR d),("both",(rM d).v),("whole",.int (fT d) false),("behind",Ny (Uk d) Nv),("ahead",Ny (Qw d) Nv)]
theorem Fs (hs:∀k,Ar k AB=true){k:Nat}:Bg k (Ca AB d ds)=true:=by rw[Ah,Ah,Ah,Ah,Ah,Ah,Ah,Ah,hs,Fv,Gz,Iw,Fm,Ev,Cw,Cw];rfl
theorem oA {c:Nat->Int}{cb:Nat->Bool}:Ny c cb = .lst ((PF 4).map fun i=>V.int (c i) (cb i)):=rfl
theorem lw11 (n:Nat)(hs:∀k,Ar k AB=true):(Aw gl (n+60)).ex (tE Cm) (Bs Cm.body 11) (Bt (Qs AB d ds) (Xk d) [])=some (.next,Bt (Ca AB d ds) (Xk d) []):=by
 have O:Dw (Bt (Qs AB d ds) (Xk d) []):=Fx (eO hs) xT rfl;have h1:(Aw gl (n+59)).ev (tE Cm) (Oc (Mc (Bs Cm.body 11)) 0) (Bt (Qs AB d ds) (Xk d) [])=some (Ny (Qw d) Nv,Bt (Qs AB d ds) (Xk d) []):=by
  rw[oA (c:=Qw d)];refine Cq (Do (fun i=>Hq (vt d) cI i) (fun i=>V.int (Qw d i) (Nv i)) (fun i=>[("vote",Hq (vt d) cI i)]) (s:=.seq (lk (vt d) cI)) (by exact Eo (Bc rfl rfl rfl) rfl) (by rfl) (fun r k=>rfl) (by rfl) (by decide) (by rfl) (by rfl) (by rfl) (fun i Z m hm=>?_) (fun i hi=>Bo ?_) (fun i Z Z=>rfl) O.cl)
  ·refine Ap (Au rfl rfl ?_);rcases hm with rfl|⟨u,_,rfl⟩<;>rfl
  ·exact (Cl rfl rfl rfl (Ae rfl (Ad rfl Af rfl) Al) Bf).trans (It rfl)
 have h2:(Aw gl (n+59)).ev (tE Cm) (Oc (Mc (Bs Cm.body 11)) 1) (Bt (Qs AB d ds) (Xk d) [])=some (Ny (Uk d) Nv,Bt (Qs AB d ds) (Xk d) []):=by
  rw[oA (c:=Uk d)];refine Cq (Fd (fun k:Nat=>Bi (k:Int)) (fun i=>V.int (Uk d i) (Nv i)) [.fr [],.cell none] (fun i=>[.fr [],.cell (some (Bi (i:Int)))])
   (by exact Dl (Az rfl rfl) (Ae rfl Aq Al) rfl) (by rfl) (fun r k=>Cr _ k 4) (by rfl) (by decide) (by rfl) (by rfl) (by rfl) ⟨_,_,rfl⟩ (fun Z=>⟨_,_,rfl⟩) (fun i Z x hx=>?_) (fun i hi=>Bo ?_) (fun i Z Z=>rfl) O.cl)
  ·rcases hx with rfl|⟨u,_,rfl⟩
   ·exact Ap (Bn (i:=15) rfl rfl rfl)
   ·exact Ap (Bn (i:=15) rfl rfl rfl)
  ·have CE:i<4:=wq.mp hi;have O2:Dw (Bt (Qs AB d ds) (Xk d) []++[.fr [],.cell (some (Bi (i:Int)))]):=by
    have:=(O.push (o:=.fr []) rfl).push (o:=.cell (some (Bi (i:Int)))) rfl;rwa [xj] at this
   refine (Cl rfl rfl rfl (Ae rfl (Cq (vs:=(PF 4).map fun j=>V.int (vt d j i) (cI j i)) (Do (fun j=>Hq (vt d) cI j) (fun j=>V.int (vt d j i) (cI j i)) (fun j=>[("vote",Hq (vt d) cI j)]) (s:=.seq (lk (vt d) cI)) (by exact Eo (Bc rfl rfl rfl) rfl) (by rfl) (fun r k=>rfl) (by rfl) (by decide) (by rfl) (by rfl) (by rfl) (fun j Z m hm=>?_) (fun j hj=>Bo ?_) (fun i Z Z=>rfl) O2.cl)) Al) Bf).trans (It (nI rfl eQ))
   ·refine Ap (Au rfl rfl ?_);rcases hm with rfl|⟨u,_,rfl⟩<;>rfl
   ·exact Bj rfl (Ad rfl Af rfl) (Bc rfl rfl rfl) (Ew CE)
 exact Nb (names:=["ahead","behind"]) (l:=[Ny (Qw d) Nv,Ny (Uk d) Nv]) rfl (Tq rfl (Iz rfl (Ym h1) (Iz rfl (Ym h2) Ww))) (by kernel_rfl) rfl
  (Gf (Ab:=Bt ([("script",AB),("drawn",rB d ds),("texts",rV d),("entries",pR d),("both",(rM d).v),("whole",.int (fT d) false),("behind",Ny (Uk d) Nv)]) (Xk d) []) (Au (J:=Bb) rfl rfl rfl) (Gf (Au (J:=Bb) rfl rfl rfl) rfl))
end
section
def Ue (u v z:Nat->Nat->Int) (c:Nat->Int) (cb:Nat->Bool) (one:Nat):En:=(PF 4).foldl (fun e AI=>(PF 4).foldl (fun e k=>if k=one then e else e.add ⟨(u AI k,false),(v AI k,false),(z AI k,false),(c AI,cb AI),[((k:Int),(u AI k,false))]⟩) e) rS
def fs (f:Nat->Nat->Int) (a b c:Nat):Int:=[f 0 a,f 0 b,f 0 c,f 1 a,f 1 b,f 1 c,f 2 a,f 2 b,f 2 c,f 3 a,f 3 b,f 3 c].foldl (fun AD x=>x+AD) 0
def f4 (f:Nat->Nat->Int) (k:Nat):Int:=f 0 k+f 1 k+f 2 k+f 3 k
theorem lG {f:Nat->Nat->Int}{a b c:Nat}:fs f a b c=f4 f a+f4 f b+f4 f c:=by
 unfold fs f4;simp only[List.foldl]
 lia
def oW (u v z:Nat->Nat->Int) (c:Nat->Int) (x y w:Nat):En:=⟨(fs u x y w,false),(fs v x y w,false),(fs z x y w,false),(fs (fun i Z=>c i) x y w,false),[((x:Int),(f4 u x,false)),((y:Int),(f4 u y,false)),((w:Int),(f4 u w,false))]⟩
theorem au {u v z:Nat->Nat->Int}{c:Nat->Int}{cb:Nat->Bool}:Ue u v z c cb 0=oW u v z c 1 2 3:=by kernel_rfl
theorem dl {u v z:Nat->Nat->Int}{c:Nat->Int}{cb:Nat->Bool}:Ue u v z c cb 1=oW u v z c 0 2 3:=by kernel_rfl
theorem zW {u v z:Nat->Nat->Int}{c:Nat->Int}{cb:Nat->Bool}:Ue u v z c cb 2=oW u v z c 0 1 3:=by kernel_rfl
theorem gu {u v z:Nat->Nat->Int}{c:Nat->Int}{cb:Nat->Bool}:Ue u v z c cb 3=oW u v z c 0 1 2:=by kernel_rfl
variable {d:Nat->Int}
def gv (d:Nat->Int) (i a b:Nat):Int:=if rk d i a<rk d i b then Ks d i else 0
theorem br (p:Nat->Bool)(c:Nat->Int)(l:List Nat):∀a,Ju a ((l.filter p).map c)=Ju a (l.map fun i=>if p i then c i else 0):=by
 induction l with
 |nil=>exact fun Z=>rfl
 |cons x l ih=>
  intro a;rw[List.filter_cons,x8,Pf];cases p x with
  |true=>exact ih _
  |false=>exact (ih a).trans (congrArg (fun z=>Ju z _) (Int.add_zero a).symm)
theorem Yi {a b:Nat}:vt d a b=gv d 0 a b+gv d 1 a b+gv d 2 a b+gv d 3 a b:=by
 have g:∀i,(if decide (rk d i a<rk d i b)=true then Ks d i else 0)=gv d i a b:=fun i=>by
  unfold gv;simp only[decide_eq_true_eq]
 refine (br _ _ _ 0).trans ?_;exact (congr (congrArg HAdd.hAdd (congr (congrArg HAdd.hAdd (congr (congrArg HAdd.hAdd ((congrArg (HAdd.hAdd 0) (g 0)).trans (Int.zero_add _))) (g 1))) (g 2))) (g 3))
def uE (d:Nat->Int) (one i k:Nat):Int:=Ks d i*(if tl (Kh (d 4)) (Pl d one i) (Pl d k i) == -Kh (d 4) then 1 else 0)
def vE (d:Nat->Int) (one i k:Nat):Int:=Ks d i*(if tl (Kh (d 4)) (Pl d one i) (Pl d k i)==Kh (d 4) then 1 else 0)
def zE (d:Nat->Int) (one i k:Nat):Int:=Ks d i*(if tl (Kh (d 4)) (Pl d one i) (Pl d k i)==0 then 1 else 0)
theorem dT {i a b:Nat}(ha:a<4)(hb:b<4):Pl d a i<Pl d b i↔rk d i a<rk d i b:=by
 have h:=(Xy (Zc (d:=d) (i:=i))).mo a b ha hb;unfold Pl Dp;exact yg.trans h
theorem nH {one i k:Nat}(ha:one<4)(hb:k<4):uE d one i k=gv d i one k:=by
 have h:=dT (d:=d) (i:=i) ha hb;have hw:=Zn (x:=d 4);unfold uE gv tl;by_cases h1:rk d i one<rk d i k
 ·rw[if_pos (h.mpr h1),if_pos h1];simp
 ·rw[if_neg (fun z=>h1 (h.mp z)),if_neg h1];split
  ·rw[if_neg (by rw[beq_iff_eq];lia)];simp
  ·rw[if_neg (by rw[beq_iff_eq];lia)];simp
theorem oD {one i k:Nat}(ha:one<4)(hb:k<4):vE d one i k=gv d i k one:=by
 have h:=dT (d:=d) (i:=i) ha hb;have h':=dT (d:=d) (i:=i) hb ha;have hw:=Zn (x:=d 4);unfold vE gv tl;by_cases h1:rk d i k<rk d i one
 ·have e1:¬Pl d one i<Pl d k i:=fun z=>by have:=h.mp z;bv_omega
  have e2:Pl d one i>Pl d k i:=h'.mpr h1;rw[if_neg e1,if_pos e2,if_pos h1];simp
 ·rw[if_neg h1];split
  ·rw[if_neg (by rw[beq_iff_eq];lia)];simp
  ·have e2:¬Pl d one i>Pl d k i:=fun z=>h1 (h'.mp z);rw[if_neg e2,if_neg (by rw[beq_iff_eq];lia)];simp
theorem lR {one i k:Nat}(ha:one<4)(hb:k<4):zE d one i k=Ks d i-gv d i one k-gv d i k one:=by
 have h:=dT (d:=d) (i:=i) ha hb;have h':=dT (d:=d) (i:=i) hb ha;have hw:=Zn (x:=d 4);unfold zE gv tl;by_cases h1:rk d i one<rk d i k
 ·rw[if_pos (h.mpr h1),if_pos h1,if_neg (by lia:¬rk d i k<rk d i one),if_neg (by rw[beq_iff_eq];lia)];simp
 ·have e1:¬Pl d one i<Pl d k i:=fun z=>h1 (h.mp z);rw[if_neg e1,if_neg h1];by_cases h2:rk d i k<rk d i one
  ·have e2:Pl d one i>Pl d k i:=h'.mpr h2;rw[if_pos e2,if_pos h2,if_neg (by rw[beq_iff_eq];bv_omega)];simp
  ·have e2:¬Pl d one i>Pl d k i:=fun z=>h2 (h'.mp z);rw[if_neg e2,if_neg h2];simp
theorem Qh {one:Nat}:Ko d one=Ue (uE d one) (vE d one) (zE d one) (Ks d) Nv one:=rfl
def wc:Nat->Nat×Nat×Nat
 |0=>(1,2,3)
 |1=>(0,2,3)
 |2=>(0,1,3)
 |_=>(0,1,2)
theorem Tu {i a:Nat}:gv d i a a=0:=by unfold gv;rw[if_neg (by lia)]
theorem Fh {a:Nat}:vt d a a=0:=by rw[Yi,Tu,Tu,Tu,Tu];rfl
structure oP (d:Nat->Int)(one x y w:Nat):Prop where
 t:(Ko d one).t=[((x:Int),(vt d one x,false)),((y:Int),(vt d one y,false)),((w:Int),(vt d one w,false))]
 a:(Ko d one).a.1=Qw d one
 b:(Ko d one).b.1=Uk d one
 c:(Ko d one).c.1=fT d-Qw d one-Uk d one
 d:(Ko d one).d.1=fT d
theorem lB {one x y w:Nat}(ho:one<4)(hx:x<4)(hy:y<4)(hw:w<4)(e:Ko d one=oW (uE d one) (vE d one) (zE d one) (Ks d) x y w)
 (hA:vt d one 0+vt d one 1+vt d one 2+vt d one 3=vt d one x+vt d one y+vt d one w) (hB:vt d 0 one+vt d 1 one+vt d 2 one+vt d 3 one=vt d x one+vt d y one+vt d w one):oP d one x y w:=by
 have GQ:∀k,k<4->f4 (uE d one) k=vt d one k:=fun k hk=>by
  unfold f4;rw[nH ho hk,nH ho hk,nH ho hk,nH ho hk,Yi]
 have L0:∀k,k<4->f4 (vE d one) k=vt d k one:=fun k hk=>by
  unfold f4;rw[oD ho hk,oD ho hk,oD ho hk,oD ho hk,Yi]
 have ME:∀k,k<4->f4 (zE d one) k=Ks d 0+Ks d 1+Ks d 2+Ks d 3-vt d one k-vt d k one:=fun k hk=>by
  unfold f4;rw[lR ho hk,lR ho hk,lR ho hk,lR ho hk,Yi,Yi]
  lia
 have eA:Qw d one=vt d one x+vt d one y+vt d one w:=by
  unfold Qw;simp only[Rz,Pf]
  lia
 have eB:Uk d one=vt d x one+vt d y one+vt d w one:=by
  unfold Uk;simp only[Rz,Pf]
  lia
 have eW:fT d=3*(Ks d 0+Ks d 1+Ks d 2+Ks d 3):=by
  unfold fT;simp only[Rz,Pf]
  lia
 refine ⟨?_,?_,?_,?_,?_⟩
 ·rw[e];unfold oW;dsimp only;rw[GQ x hx,GQ y hy,GQ w hw]
 ·rw[e];show fs (uE d one) x y w=_;rw[lG,GQ x hx,GQ y hy,GQ w hw,eA]
 ·rw[e];show fs (vE d one) x y w=_;rw[lG,L0 x hx,L0 y hy,L0 w hw,eB]
 ·rw[e];show fs (zE d one) x y w=_;rw[lG,ME x hx,ME y hy,ME w hw,eA,eB,eW]
  lia
 ·rw[e];show fs (fun i Z=>Ks d i) x y w=_;rw[lG,eW];unfold f4
  lia
theorem iR:oP d 0 1 2 3:=lB (by decide) (by decide) (by decide) (by decide) (Qh.trans au) (by rw[Fh];lia) (by rw[Fh];lia)
theorem gV:oP d 1 0 2 3:=lB (by decide) (by decide) (by decide) (by decide) (Qh.trans dl) (by rw[Fh (a:=1)];lia) (by rw[Fh (a:=1)];lia)
theorem ur:oP d 2 0 1 3:=lB (by decide) (by decide) (by decide) (by decide) (Qh.trans zW) (by rw[Fh (a:=2)];lia) (by rw[Fh (a:=2)];lia)
theorem qh:oP d 3 0 1 2:=lB (by decide) (by decide) (by decide) (by decide) (Qh.trans gu) (by rw[Fh (a:=3)];lia) (by rw[Fh (a:=3)];lia)
end
section
section
variable {p:Pos}
theorem bU {k v:O6}{gens:List PA}{scope:Scope}{vs:List V}{l:List (Int×V)}(h:Gd g (Aw g n) e scope gens (Vr (Aw g n) k v) J=some (vs,Ab))(hl:Oh vs=some l):(Aw g (n+1)).ev e (.DictComp k v gens scope p) J=some (.dct (Fq [] l),Ab):=by
 rw[El];show oe2 (Gd g (Aw g n) e scope gens (Vr (Aw g n) k v) J) none _=_;exact (oE2 h).trans (oE1 hl)
end
theorem uQ {J:Aj}{n:Nat}{L':List (Int×(Int×Bool))}:∀{L:List (Int×(Int×Bool))},(∀p∈L,∃y,fV p.1 L'=some y∧p.2.1=y.1)->Ml (Rc J (n+1)) (dI L') (dI L)=some true:=by
 intro X
 induction X with
 |nil=>
  intro Z;exact rfl
 |cons p L ih=>
  intro h;obtain ⟨y,h1,h2⟩:=h p (.head _);show Ml (Rc J (n+1)) (dI L') ((p.1,sv p.2)::dI L)=_;rw[gn,aF,h1];dsimp only[Option.map,oA1];rw[show Rc J (n+1) (sv p.2) (sv y)=some true from by
   show some (p.2.1==y.1)=_;rw[h2];simp]
  rw[ih fun q hq=>h q (.tail _ hq)]
  rfl
theorem af {J:Aj}{n:Nat}{L L':List (Int×(Int×Bool))}(hl:L.length=L'.length)(h:∀p∈L,∃y,fV p.1 L'=some y∧p.2.1=y.1):Rc J (n+2) (.dct (dI L)) (.dct (dI L'))=some true:=by
 show (if (dI L).length==(dI L').length then Ml (Rc J (n+1)) (dI L') (dI L) else some false)=_;have:(dI L).length=(dI L').length:=by unfold dI;rw[wn,wn,hl]
 rw[if_pos (by rw[this];simp)];exact uQ h
theorem uB {J:Aj}{x:En}{a b c e:Int}{za zb zc ze:Bool}{L:List (Int×(Int×Bool))}(ha:x.a.1=a)(hb:x.b.1=b)(hc:x.c.1=c)(hd:x.d.1=e)(hl:x.t.length=L.length)(ht:∀p∈x.t,∃y,fV p.1 L=some y∧p.2.1=y.1) :
 Rc J 8 x.v (.tup [.int a za,.int b zb,.int c zc,.int e ze,.dct (dI L)])=some true:=by
 subst ha hb hc hd;show Ff (Rc J 7) [sv x.a,sv x.b,sv x.c,sv x.d,.dct (dI x.t)] [.int x.a.1 za,.int x.b.1 zb,.int x.c.1 zc,.int x.d.1 ze,.dct (dI L)]=_;have e:∀(y:Int×Bool) z,Rc J 7 (sv y) (.int y.1 z)=some true:=fun y z=>by
  show some (y.1==y.1)=_;simp
 simp only[Wu,eL,e,af hl ht,oA1]
 rfl
def tc:O6->O6
 |.Compare l _ _ _=>l
 |_=>.Constant .none 0 default
def Xe:O6->O6
 |.Compare _ _ [r] _=>r
 |_=>.Constant .none 0 default
def La (x:O6) (i:Nat):O6:=((n9 x)[i]?).getD (.Constant .none 0 default)
def DCC:Ek:=(Kc 99).get (by rfl')
theorem oi:gl.D 99=some DCC:=by kernel_rfl
theorem hZ (n:Nat){J:Aj}(O:Dw J){a b c:Int}{x y z:Int×Bool}:(Aw gl (n+30)).call (.fn 99) [.dct (dI [(a,x),(b,y),(c,z)])] [] J=some (.int (0+x.1+y.1+z.1) false,J):=
 Hn (bs:=[(("callers":O7),.dct (dI [(a,x),(b,y),(c,z)]))]) O oi rfl rfl (by
  rw[Ah];show (Fe _ _&&_)=true;rw[He];rfl) (by kernel_rfl)
variable {d:Nat->Int}{ds:Nat->Bool}{AB:V}{o:Option V}
abbrev Nw (d:Nat->Int) (o:Option V):Cs:={ ranks:=some (lk (rk d) Om),casts:=some (Ny (Ks d) Nv),one:=o,columns:=some (lk (Dp d) (Tk d)),rows:=some (eY (Pl d) (Pb d)),way:=some (.int (Kh (d 4)) true),votes:=some (lk (vt d) cI) }
theorem gH {k:Nat}(ho:∀k,Ht k o=true):(Nw d o).ok k=true:=by
 unfold Cs.ok;simp only[show ∀v,Ht k (some v)=Ar k v from fun Z=>rfl,show Ht k none=true from rfl,Cu,Cw,Jb,Ev,ho]
 rfl
theorem kL {J:Aj}{k:Nat}{s:Bool}(h:k<4):Eb J (pR d) (.int (k:Int) s)=some (Ko d k).v:=by
 exact k4 h rfl rfl rfl rfl
theorem Qp {J:Aj}{c:Nat->Int}{cb:Nat->Bool}{k:Nat}{s:Bool}(h:k<4):Eb J (Ny c cb) (.int (k:Int) s)=some (.int (c k) (cb k)):=by
 exact k4 h rfl rfl rfl rfl
def f12 (n:Nat):V->Aj->Option (Fl×Aj):=fun v J=>oe1 (Cy (tE Cm) (Ee (Bs Cm.body 12)) v J) none fun Ai=>Dm (Aw gl (n+59)) (tE Cm) (Bq (Bs Cm.body 12)) Ai
def dL (d:Nat->Int) (one:Nat) (l:List Nat):List (Int×(Int×Bool)):=l.map fun k:Nat=>((k:Int),(vt d one k,false))
theorem Qa (n:Nat)(hs:∀k,Ar k AB=true){k x y w:Nat}(hk:k<4)(S:oP d k x y w)(EY:(PF 4).filter (fun j=>!decide (j=k))=[x,y,w])(FN:Fq [] (([x,y,w]:List Nat).map fun j:Nat=>((j:Int),V.int (vt d k j) (cI k j)))=dI (dL d k [x,y,w]))(CP:∀p∈dL d k [x,y,w],fV p.1 (dL d k [x,y,w])=some p.2)
 (KY:Qw d k=vt d k x+vt d k y+vt d k w) (ho:∀k,Ht k o=true) :
 f12 n (Bi k) (Bt (Ca AB d ds) (Nw d o) [])=some (.next,Bt (Ca AB d ds) (Nw d (some (Bi k))) []):=by
 have O:Dw (Bt (Ca AB d ds) (Nw d (some (Bi k))) []):=Fx (Fs hs) (gH (fun j=>rfl)) rfl;have e1:Dx (Bt (Ca AB d ds) (Nw d (some (Bi k))) []) .NotEq (Ko d k).v (.tup [.int (Qw d k) false,.int (Uk d k) false,.int (fT d-Qw d k-Uk d k) false,.int (fT d) false,.dct (dI (dL d k [x,y,w]))])=some false:=
  Of (uB S.a S.b S.c S.d (by rw[S.t];rfl) (by
   rw[S.t];exact fun p hp=>(Mine.w12 p.2 (CP p hp) rfl)))
 have hd:∀N,(Aw gl (N+40)).ev (tE Cm) (Oc (Xe (La (Ed (Bs (Bq (Bs Cm.body 12)) 0)) 0)) 4) (Bt (Ca AB d ds) (Nw d (some (Bi k))) [])=some (.dct (dI (dL d k [x,y,w])),Bt (Ca AB d ds) (Nw d (some (Bi k))) []):=fun N=>by
  rw[← FN];refine bU (vs:=([x,y,w]:List Nat).map fun j:Nat=>V.tup [.int (j:Int) (Ep j),.int (vt d k j) (cI k j)]) ?_ rfl;rw[← EY];refine Qn (fun j:Nat=>Bi (j:Int)) (fun j=>!decide (j=k)) (fun j:Nat=>V.tup [.int (j:Int) (Ep j),.int (vt d k j) (cI k j)]) (fun j=>[("other",Bi (j:Int))]) (by exact Dl (Az rfl rfl) (Ae rfl Aq Al) rfl) (by rfl) (fun r k=>Cr _ k 4) (by rfl) (by decide) (by rfl) (by rfl) (by rfl) (fun j Z m hm=>?_) (fun j hj=>?_) (fun j hj Z=>?_) (fun Z Z Z Z=>rfl) O.cl
  ·refine Ap (Au rfl rfl ?_);rcases hm with rfl|⟨u,_,rfl⟩<;>rfl
  ·refine Lj (Bd rfl (Ad rfl Af rfl) (Bc rfl rfl rfl) ?_);show some (!((j:Int)==(k:Int)))=_;congr 2
   lia
  ·exact Vq (Ad rfl Af rfl) (Bj rfl (Bj rfl (Bc rfl rfl rfl) (Bc rfl rfl rfl) (Ie hk)) (Ad rfl Af rfl) (Ew (wq.mp hj)))
 have hcn:(Aw gl (n+56)).ev (tE Cm) (tc (La (Ed (Bs (Bq (Bs Cm.body 12)) 0)) 1)) (Bt (Ca AB d ds) (Nw d (some (Bi k))) [])=some (.int (0+vt d k x+vt d k y+vt d k w) false,Bt (Ca AB d ds) (Nw d (some (Bi k))) []):=by
  refine (Cl rfl rfl rfl (Ae (v:=.dct (dI [((x:Int),(vt d k x,false)),((y:Int),(vt d k y,false)),((w:Int),(vt d k w,false))])) rfl (Bj rfl (Bj rfl (Ad rfl rfl rfl) (Bc rfl rfl rfl) (kL hk)) Aq ?_) Al) Bf).trans (hZ (n+25) O (a:=(x:Int)) (b:=(y:Int)) (c:=(w:Int)) (x:=(vt d k x,false)) (y:=(vt d k y,false)) (z:=(vt d k w,false)));show some (V.dct (dI (Ko d k).t))=_;rw[S.t]
 have e2:Dx (Bt (Ca AB d ds) (Nw d (some (Bi k))) []) .NotEq (.int (0+vt d k x+vt d k y+vt d k w) false) (.int (Qw d k) false)=some false:=by
  rw[show (0+vt d k x+vt d k y+vt d k w)=Qw d k by rw[KY];lia];exact Of (c:=true) (by
   show some (Qw d k==Qw d k)=some true;simp)
 have AS:(Aw gl (n+58)).ts (tE Cm) (Ed (Bs (Bq (Bs Cm.body 12)) 0)) (Bt (Ca AB d ds) (Nw d (some (Bi k))) [])=some (false,Bt (Ca AB d ds) (Nw d (some (Bi k))) []):=
  Hl (Yt (b:=false) (c:=false) (Bd rfl (Bj rfl (Ad rfl rfl rfl) (Bc rfl rfl rfl) (kL hk)) (Go rfl (Ae rfl (Bj rfl (Ad rfl rfl rfl) (Bc rfl rfl rfl) (Qp hk)) (Ae rfl (Bj rfl (Ad rfl rfl rfl) (Bc rfl rfl rfl) (Qp hk))
   (Ae rfl (Bw (Bw (Ad rfl rfl rfl) (Bj rfl (Ad rfl rfl rfl) (Bc rfl rfl rfl) (Qp hk)) rfl) (Bj rfl (Ad rfl rfl rfl) (Bc rfl rfl rfl) (Qp hk)) rfl) (Ae rfl (Ad rfl rfl rfl) (Ae rfl (hd (n+15)) Al)))))) e1) fun Z=>
   Ir (Bd rfl hcn (Bj rfl (Ad rfl rfl rfl) (Bc rfl rfl rfl) (Qp hk)) e2))
 exact (Am ((Cb AS).trans Ax)).trans Ax
theorem lw12 (n:Nat)(hs:∀k,Ar k AB=true):∃o,(∀k,Ht k o=true)∧(Aw gl (n+60)).ex (tE Cm) (Bs Cm.body 12) (Bt (Ca AB d ds) (Xk d) [])=some (.next,Bt (Ca AB d ds) (Nw d o) []):=by
 have turn:∀k o,k<4->(∀j,Ht j o=true)->f12 n (Bi (k:Nat)) (Bt (Ca AB d ds) (Nw d o) [])=some (.next,Bt (Ca AB d ds) (Nw d (some (Bi k))) []):=fun k o hk ho=>by
  have A:∀k,Qw d k=vt d k 0+vt d k 1+vt d k 2+vt d k 3:=fun k=>by
   unfold Qw;simp only[Rz,Pf]
   lia
  have L:∀(one x y w:Nat),x≠y->x≠w->y≠w->∀p∈dL d one [x,y,w],fV p.1 (dL d one [x,y,w])=some p.2:=fun one x y w h1 h2 h3 p hp=>by
   simp only[dL,List.map_cons,List.map_nil,List.mem_cons,List.not_mem_nil,or_false] at hp;rcases hp with rfl|rfl|rfl
   ·simp[dL,lC]
   ·simp[dL,lC,h1]
    lia
   ·simp[dL,lC];rw[if_neg (by lia),if_neg (by lia)]
  exact k4 hk (Qa n hs (by decide) iR (by decide) rfl (L _ _ _ _ (by decide) (by decide) (by decide)) (by rw[A,Fh];lia) ho) (Qa n hs (by decide) gV (by decide) rfl (L _ _ _ _ (by decide) (by decide) (by decide)) (by rw[A,Fh (a:=1)];lia) ho) (Qa n hs (by decide) ur (by decide) rfl (L _ _ _ _ (by decide) (by decide) (by decide)) (by rw[A,Fh (a:=2)];lia) ho) (Qa n hs (by decide) qh (by decide) rfl (L _ _ _ _ (by decide) (by decide) (by decide)) (by rw[A,Fh (a:=3)];lia) ho)
 obtain ⟨Av,e,o,rfl,ho⟩:=Im (ι:=fun k:Nat=>Bi (k:Int)) (body:=f12 n) (s:=.rng 0 4) (l:=PF 4) (St:=fun pre J=>∃o,J=Bt (Ca AB d ds) (Nw d o) []∧∀k,Ht k o=true) (fun Z J k Z=>Cr J k 4) (fun pre k J S hp=>by
  obtain ⟨o,rfl,ho⟩:=S;obtain ⟨B3,hp⟩:=hp;have hk:k<4:=wq.mp (by rw[hp];simp);exact ⟨_,turn k o hk ho,some (Bi k),rfl,fun Z=>rfl⟩) (PF 4) [] (Bt (Ca AB d ds) (Xk d) []) rfl ⟨none,rfl,fun Z=>rfl⟩
 exact ⟨o,ho,(Hs (Dl (Az rfl rfl) (Ae rfl Aq Al) rfl) rfl).trans e⟩
end
section
variable {d:Nat->Int}{ds:Nat->Bool}{AB:V}{o:Option V}
def bT (d:Nat->Int):List (Int×(Int×Bool)):=[(1,(vt d 0 1,false)),(2,(vt d 0 2+vt d 1 2,false)),(3,(vt d 0 3+vt d 1 3,false)),(0,(vt d 1 0,false))]
theorem jf:(rM d).t=bT d:=by
 unfold rM En.add;dsimp only;rw[iR.t,gV.t]
 kernel_rfl
def bL (d:Nat->Int):List (Int×(Int×Bool)):=[(0,(vt d 0 0+vt d 1 0,false)),(1,(vt d 0 1+vt d 1 1,false)),(2,(vt d 0 2+vt d 1 2,false)),(3,(vt d 0 3+vt d 1 3,false))]
theorem uc:∀p∈(rM d).t,∃y,fV p.1 (bL d)=some y∧p.2.1=y.1:=by
 rw[jf];intro p hp;simp only[bT,List.mem_cons,List.not_mem_nil,or_false] at hp;rcases hp with rfl|rfl|rfl|rfl
 ·exact ⟨_,rfl,by rw[Fh (a:=1)];show vt d 0 1=vt d 0 1+0;lia⟩
 ·exact ⟨_,rfl,rfl⟩
 ·exact ⟨_,rfl,rfl⟩
 ·exact ⟨_,rfl,by rw[Fh (a:=0)];show vt d 1 0=0+vt d 1 0;lia⟩
theorem lw13 (n:Nat)(hs:∀k,Ar k AB=true)(ho:∀k,Ht k o=true):(Aw gl (n+60)).ex (tE Cm) (Bs Cm.body 13) (Bt (Ca AB d ds) (Nw d o) [])=some (.next,Bt (Ca AB d ds) (Nw d o) []):=by
 have O:Dw (Bt (Ca AB d ds) (Nw d o) []):=Fx (Fs hs) (gH ho) rfl;have e1:Dx (Bt (Ca AB d ds) (Nw d o) []) .NotEq (rM d).v (.tup [.int (Qw d 0+Qw d 1) false,.int (Uk d 0+Uk d 1) false,.int (2*fT d-Ju 0 [Qw d 0,Qw d 1]-Ju 0 [Uk d 0,Uk d 1]) false,.int (2*fT d) false,.dct (dI (bL d))])=some false:=by
  refine Of (c:=true) (uB ?_ ?_ ?_ ?_ (by rw[jf];rfl) uc)
  ·show (Ko d 1).a.1+(Ko d 0).a.1=_;rw[iR.a,gV.a];lia
  ·show (Ko d 1).b.1+(Ko d 0).b.1=_;rw[iR.b,gV.b];lia
  ·show (Ko d 1).c.1+(Ko d 0).c.1=_;rw[iR.c,gV.c];simp only[Rz,Pf]
   lia
  ·show (Ko d 1).d.1+(Ko d 0).d.1=_;rw[iR.d,gV.d];lia
 have hd:(Aw gl (n+57)).ev (tE Cm) (Oc (Xe (Ed (Bs Cm.body 13))) 4) (Bt (Ca AB d ds) (Nw d o) [])=some (.dct (dI (bL d)),Bt (Ca AB d ds) (Nw d o) []):=by
  have hb:dI (bL d)=Fq [] ((PF 4).map fun j:Nat=>((j:Int),V.int (vt d 0 j+vt d 1 j) false)):=rfl;rw[hb];refine bU (vs:=(PF 4).map fun j:Nat=>V.tup [.int (j:Int) (Ep j),.int (vt d 0 j+vt d 1 j) false]) ?_ rfl;refine Do (fun j:Nat=>Bi (j:Int)) (fun j:Nat=>V.tup [.int (j:Int) (Ep j),.int (vt d 0 j+vt d 1 j) false]) (fun j=>[("other",Bi (j:Int))]) (by exact Dl (Az rfl rfl) (Ae rfl Aq Al) rfl) (by rfl) (fun r k=>Cr _ k 4) (by rfl) (by decide) (by rfl) (by rfl) (by rfl) (fun j Z m hm=>?_) (fun j hj=>?_) (fun Z Z Z=>rfl) O.cl
  ·refine Ap (Au rfl rfl ?_);rcases hm with rfl|⟨u,_,rfl⟩<;>rfl
  ·have DA:=wq.mp hj;exact Vq (Ad rfl Af rfl) (Bw (Bj rfl (Bj rfl (Bc rfl rfl rfl) Aq (Ie (i:=0) (by decide))) (Ad rfl Af rfl) (Ew DA)) (Bj rfl (Bj rfl (Bc rfl rfl rfl) Aq (Ie (i:=1) (by decide))) (Ad rfl Af rfl) (Ew DA)) rfl)
 have hsA:(Aw gl (n+55)).ev (tE Cm) (yH (zZ (Oc (Xe (Ed (Bs Cm.body 13))) 2))) (Bt (Ca AB d ds) (Nw d o) [])=some (.int (Ju 0 [Qw d 0,Qw d 1]) false,Bt (Ca AB d ds) (Nw d o) []):=
  (Cl rfl rfl rfl (Ae rfl (Kn (v:=.lst [.int (Qw d 0) false,.int (Qw d 1) false]) (Ad rfl rfl rfl) (by rfl) (Jh Aq) (by rfl)) Al) Bf).trans (It rfl)
 have hsB:(Aw gl (n+56)).ev (tE Cm) (yH (Oc (Xe (Ed (Bs Cm.body 13))) 2)) (Bt (Ca AB d ds) (Nw d o) [])=some (.int (Ju 0 [Uk d 0,Uk d 1]) false,Bt (Ca AB d ds) (Nw d o) []):=
  (Cl rfl rfl rfl (Ae rfl (Kn (v:=.lst [.int (Uk d 0) false,.int (Uk d 1) false]) (Ad rfl rfl rfl) (by rfl) (Jh Aq) (by rfl)) Al) Bf).trans (It rfl)
 have AS:(Aw gl (n+59)).ts (tE Cm) (Ed (Bs Cm.body 13)) (Bt (Ca AB d ds) (Nw d o) [])=some (false,Bt (Ca AB d ds) (Nw d o) []):=
  Bd rfl (Ad rfl rfl rfl) (Go rfl (Ae rfl (Bw (Bj rfl (Ad rfl rfl rfl) Aq (by rfl)) (Bj rfl (Ad rfl rfl rfl) Aq (by rfl)) rfl) (Ae rfl (Bw (Bj rfl (Ad rfl rfl rfl) Aq (by rfl)) (Bj rfl (Ad rfl rfl rfl) Aq (by rfl)) rfl)
   (Ae rfl (Bw (Bw (Bw Aq (Ad rfl rfl rfl) rfl) hsA rfl) hsB rfl) (Ae rfl (Bw Aq (Ad rfl rfl rfl) rfl) (Ae rfl hd Al)))))) e1
 exact (Cb AS).trans Ax
def mz (d:Nat->Int):V:=.lst [.dct (dI (Ko d 0).t),.dct (dI (Ko d 1).t),.dct (dI (Ko d 2).t),.dct (dI (Ko d 3).t)]
theorem Ru {k:Nat}:Ar k (mz d)=true:=by simp[mz,Pn,Pc,Ow,Ox,Ph,Ou,Pg,Ol,Fw,Gx,He]
abbrev vq (d:Nat->Int) (o:Option V):Cs:={ Nw d o with tables:=some (mz d) }
theorem kl {k:Nat}(ho:∀k,Ht k o=true):(vq d o).ok k=true:=by
 unfold Cs.ok;simp only[show ∀v,Ht k (some v)=Ar k v from fun Z=>rfl,show Ht k none=true from rfl,Cu,Cw,Jb,Ev,ho,Ru]
 rfl
theorem lw14 (n:Nat)(hs:∀k,Ar k AB=true)(ho:∀k,Ht k o=true):(Aw gl (n+60)).ex (tE Cm) (Bs Cm.body 14) (Bt (Ca AB d ds) (Nw d o) [])=some (.next,Bt (Ca AB d ds) (vq d o) []):=by
 have O:Dw (Bt (Ca AB d ds) (Nw d o) []):=Fx (Fs hs) (gH ho) rfl;refine Ij (v:=mz d) rfl (Iu (vs:=(PF 4).map fun i=>V.dct (dI (Ko d i).t)) (Do (fun i=>(Ko d i).v) (fun i=>V.dct (dI (Ko d i).t)) (fun i=>[("entry",(Ko d i).v)]) (s:=.seq (pR d)) (by exact Eo (Ad rfl rfl rfl) rfl) (by rfl) (fun r k=>rfl) (by rfl) (by decide) (by rfl) (by rfl) (by rfl) (fun j Z m hm=>?_) (fun j hj=>?_) (fun Z Z mm=>Zg mm) O.cl)) (Bn (i:=10) (o:=none) rfl rfl rfl)
 ·refine Ap (Au rfl rfl ?_);rcases hm with rfl|⟨u,_,rfl⟩<;>rfl
 ·exact Bo (Bj rfl (Ad rfl Af rfl) Aq (by rfl))
def lc (d:Nat->Int) (a b:Nat):Bool:=!decide (a=b)&&decide (vt d a b>vt d b a)
def lm (d:Nat->Int) (a b:Nat):Int:=if lc d a b then vt d a b else 0
def lb (d:Nat->Int) (a b:Nat):Bool:=!lc d a b
theorem Qg {J:Aj}{i:Nat}{s:Bool}(h:i<4):Eb J (mz d) (.int (i:Int) s)=some (.dct (dI (Ko d i).t)):=by
 exact k4 h rfl rfl rfl rfl
theorem Nc {J:Aj}{i j:Nat}{s:Bool}(hi:i<4)(hj:j<4)(AO:i≠j):Eb J (.dct (dI (Ko d i).t)) (.int (j:Int) s)=some (.int (vt d i j) false):=by
 revert AO;show i≠j->Eu (j:Int) (dI (Ko d i).t)=_;refine k4 hi ?_ ?_ ?_ ?_
 ·rw[iR.t];exact k4 hj (absurd rfl) (fun Z=>rfl) (fun Z=>rfl) fun Z=>rfl
 ·rw[gV.t];exact k4 hj (fun Z=>rfl) (absurd rfl) (fun Z=>rfl) fun Z=>rfl
 ·rw[ur.t];exact k4 hj (fun Z=>rfl) (fun Z=>rfl) (absurd rfl) fun Z=>rfl
 ·rw[qh.t];exact k4 hj (fun Z=>rfl) (fun Z=>rfl) (fun Z=>rfl) (absurd rfl)
abbrev w9 (d:Nat->Int) (o:Option V):Cs:={ Nw d o with tables:=some (mz d),links:=some (lk (lm d) (lb d)) }
theorem p7 {k:Nat}(ho:∀k,Ht k o=true):(w9 d o).ok k=true:=by
 unfold Cs.ok;simp only[show ∀v,Ht k (some v)=Ar k v from fun Z=>rfl,show Ht k none=true from rfl,Cu,Cw,Jb,Ev,ho,Ru]
 rfl
theorem lw15 (n:Nat)(hs:∀k,Ar k AB=true)(ho:∀k,Ht k o=true):(Aw gl (n+60)).ex (tE Cm) (Bs Cm.body 15) (Bt (Ca AB d ds) (vq d o) [])=some (.next,Bt (Ca AB d ds) (w9 d o) []):=by
 have O:Dw (Bt (Ca AB d ds) (vq d o) []):=Fx (Fs hs) (kl ho) rfl;refine Ij (v:=lk (lm d) (lb d)) rfl (Iu (vs:=(PF 4).map fun i=>Hq (lm d) (lb d) i) (Fd (fun k:Nat=>Bi (k:Int)) (fun i=>Hq (lm d) (lb d) i) [.fr [],.cell none] (fun i=>[.fr [],.cell (some (Bi (i:Int)))])
  (by exact Dl (Az rfl rfl) (Ae rfl Aq Al) rfl) (by rfl) (fun r k=>Cr _ k 4) (by rfl) (by decide) (by rfl) (by rfl) (by rfl) ⟨_,_,rfl⟩ (fun Z=>⟨_,_,rfl⟩) (fun i Z x hx=>?_) (fun i hi=>Bo ?_) (fun i Z Z=>rfl) O.cl)) (Bn (i:=11) (o:=none) rfl rfl rfl)
 ·rcases hx with rfl|⟨u,_,rfl⟩
  ·exact Ap (Bn (i:=15) rfl rfl rfl)
  ·exact Ap (Bn (i:=15) rfl rfl rfl)
 ·have CE:i<4:=wq.mp hi;have O2:Dw (Bt (Ca AB d ds) (vq d o) []++[.fr [],.cell (some (Bi (i:Int)))]):=by
   have:=(O.push (o:=.fr []) rfl).push (o:=.cell (some (Bi (i:Int)))) rfl;rwa [xj] at this
  rw[Qb (m:=lm d)];refine Cq (Do (fun k:Nat=>Bi (k:Int)) (fun j=>V.int (lm d i j) (lb d i j)) (fun j=>[("other",Bi (j:Int))])
   (by exact Dl (Az rfl rfl) (Ae rfl Aq Al) rfl) (by rfl) (fun r k=>Cr _ k 4) (by rfl) (by decide) (by rfl) (by rfl) (by rfl) (fun j Z m hm=>?_) (fun j hj=>Bo ?_) (fun i Z Z=>rfl) O2.cl)
  ·refine Ap (Au rfl rfl ?_);rcases hm with rfl|⟨u,_,rfl⟩<;>rfl
  ·have DA:j<4:=wq.mp hj;have AX:∀J,Dx J .NotEq (Bi (i:Int)) (Bi (j:Int))=some (!decide (i=j)):=fun J=>by
    show some (!((i:Int)==(j:Int)))=_;congr 2;rw[Bool.eq_iff_iff,beq_iff_eq,decide_eq_true_eq]
    lia
   by_cases AO:i=j
   ·have hc:lc d i j=false:=by unfold lc;rw[decide_eq_true AO];rfl
    have h1:lm d i j=0:=by unfold lm;rw[hc];rfl
    have h2:lb d i j=true:=by unfold lb;rw[hc];rfl
    rw[h1,h2];exact Gk (c:=false) (Hl (Vo (b:=false) (c:=false) (Bd rfl (Bc rfl rfl rfl) (Ad rfl Af rfl) ((AX _).trans (by rw[decide_eq_true AO];rfl))) fun z=>by cases z)) Aq
   ·have EO:∀{N:Nat}{c:Bool},lc d i j=c->True:=fun Z=>trivial;have ht:∀J,Dx J .Gt (.int (vt d i j) false) (.int (vt d j i) false)=some (lc d i j):=fun J=>by
     unfold lc;rw[decide_eq_false AO]
     rfl
    have OP:j≠i:=fun z=>AO z.symm;cases hc:lc d i j with
    |true=>
     have h1:lm d i j=vt d i j:=by unfold lm;rw[hc];rfl
     have h2:lb d i j=false:=by unfold lb;rw[hc];rfl
     rw[h1,h2];exact Gk (c:=true) (Hl (Vo (b:=true) (c:=true) (Bd rfl (Bc rfl rfl rfl) (Ad rfl Af rfl) ((AX _).trans (by rw[decide_eq_false AO];rfl))) fun Z=>
      Ir (Bd rfl (Bj rfl (Bj rfl (Bc rfl rfl rfl) (Bc rfl rfl rfl) (Qg CE)) (Ad rfl Af rfl) (Nc CE DA AO)) (Bj rfl (Bj rfl (Bc rfl rfl rfl) (Ad rfl Af rfl) (Qg DA)) (Bc rfl rfl rfl) (Nc DA CE OP)) ((ht _).trans (by rw[hc])))))
      (Bj rfl (Bj rfl (Bc rfl rfl rfl) (Bc rfl rfl rfl) (Qg CE)) (Ad rfl Af rfl) (Nc CE DA AO))
    |false=>
     have h1:lm d i j=0:=by unfold lm;rw[hc];rfl
     have h2:lb d i j=true:=by unfold lb;rw[hc];rfl
     rw[h1,h2];exact Gk (c:=false) (Hl (Vo (b:=true) (c:=false) (Bd rfl (Bc rfl rfl rfl) (Ad rfl Af rfl) ((AX _).trans (by rw[decide_eq_false AO];rfl))) fun Z=>
      Ir (Bd rfl (Bj rfl (Bj rfl (Bc rfl rfl rfl) (Bc rfl rfl rfl) (Qg CE)) (Ad rfl Af rfl) (Nc CE DA AO)) (Bj rfl (Bj rfl (Bc rfl rfl rfl) (Ad rfl Af rfl) (Qg DA)) (Bc rfl rfl rfl) (Nc DA CE OP)) ((ht _).trans (by rw[hc])))))
      Aq
end
section
abbrev pO (l:List Int):Prop:=l.Pairwise (· < ·)
theorem qK {i:Int}:∀{l:List Int},pO l->pO (Ch i l)∧∀x,x∈Ch i l↔x=i∨x∈l:=by
 intro X
 induction X with
 |nil=>
  intro Z;exact ⟨List.pairwise_singleton _ _,fun x=>by simp[Ch]⟩
 |cons j l ih=>
  intro h;have h':=yf.mp h;obtain ⟨h1,h2⟩:=ih h'.2;rw[Ji];by_cases c1:j<i
  ·rw[if_pos c1];refine ⟨yf.mpr ⟨fun y hy=>?_,h1⟩,fun x=>?_⟩
   ·rcases (h2 y).mp hy with rfl|hy
    ·exact c1
    ·exact h'.1 y hy
   ·rw[wk,h2,wk];constructor
    ·rintro (h|h|h)
     ·exact .inr (.inl h)
     ·exact .inl h
     ·exact .inr (.inr h)
    ·rintro (h|h|h)
     ·exact .inr (.inl h)
     ·exact .inl h
     ·exact .inr (.inr h)
  ·rw[if_neg c1];by_cases c2:i<j
   ·rw[if_pos c2];refine ⟨yf.mpr ⟨fun y hy=>?_,h⟩,fun x=>wk⟩;rcases wk.mp hy with rfl|hy
    ·exact c2
    ·have:=h'.1 y hy;lia
   ·rw[if_neg c2];have:i=j:=by lia
    subst this;exact ⟨h,fun x=>⟨.inr,fun z=>z.elim (fun e=>e ▸ .head _) id⟩⟩
theorem ay:∀(q AD:List Int),pO AD->pO (q.foldl (fun s i=>Ch i s) AD)∧∀x,x∈q.foldl (fun s i=>Ch i s) AD↔x∈AD∨x∈q:=by
 intro X
 induction X with
 |nil=>
  intro AD h;exact ⟨h,fun x=>by simp⟩
 |cons i q ih=>
  intro AD h;obtain ⟨h1,h2⟩:=qK (i:=i) h;obtain ⟨h3,h4⟩:=ih (Ch i AD) h1;refine ⟨h3,fun x=>?_⟩;rw[zk,h4,h2,wk];constructor
  ·rintro ((h|h)|h)
   ·exact .inr (.inl h)
   ·exact .inl h
   ·exact .inr (.inr h)
  ·rintro (h|h|h)
   ·exact .inl (.inr h)
   ·exact .inl (.inl h)
   ·exact .inr h
theorem l4 {l:List Int}:∀{l':List Int},pO l->pO l'->(∀x,x∈l↔x∈l')->l=l':=by
 induction l with
 |nil=>
  intro l' Z Z h
  induction l' with
  |nil=>rfl
  |cons y l'=>exact absurd ((h y).mpr (.head _)) (y7)
 |cons x l ih=>
  intro l' h1 h2 h
  induction l' with
  |nil=>exact absurd ((h x).mp (.head _)) (y7)
  |cons y l'=>
   have a:=yf.mp h1;have b:=yf.mp h2;have e:x=y:=by
    rcases wk.mp ((h x).mp (.head _)) with e|e
    ·exact e
    ·rcases wk.mp ((h y).mpr (.head _)) with e'|e'
     ·exact e'.symm
     ·have:=a.1 y e';have:=b.1 x e
      lia
   subst e;rw (config:={}) [ih a.2 b.2 fun z=>?_];constructor
   ·intro hz;rcases wk.mp ((h z).mp (.tail _ hz)) with e|e
    ·have:=a.1 z hz;lia
    ·exact e
   ·intro hz;rcases wk.mp ((h z).mpr (.tail _ hz)) with e|e
    ·have:=b.1 z hz;lia
    ·exact e
variable {d:Nat->Int}{ds:Nat->Bool}{AB:V}{o:Option V}{R:List (Int×Bool)}
abbrev wg (d:Nat->Int):List Int:=((Tn (lm d) (lb d)).map (·.1)).foldl (fun s i=>Ch i s) []
theorem lS (I:zO R (Tn (lm d) (lb d))):R.map (·.1)=wg d:=by
 obtain ⟨h1,h2⟩:=ay ((Tn (lm d) (lb d)).map (·.1)) [] List.Pairwise.nil;refine l4 (List.pairwise_map.mpr I.st) h1 fun x=>?_;rw[h2,I.mm];simp
abbrev Df (d:Nat->Int) (o:Option V) (R:List (Int×Bool)):Cs:={ Nw d o with tables:=some (mz d),links:=some (lk (lm d) (lb d)),row:=some (.lst (R.map sv)) }
theorem Ug {k:Nat}(ho:∀k,Ht k o=true):(Df d o R).ok k=true:=by
 unfold Cs.ok;simp only[show ∀v,Ht k (some v)=Ar k v from fun Z=>rfl,show Ht k none=true from rfl,Cu,Cw,Jb,Ev,ho,Ru,show Ar k (.lst (R.map sv))=true from by exact Hh]
 rfl
theorem lw16 (n:Nat)(hs:∀k,Ar k AB=true)(ho:∀k,Ht k o=true):∃R,zO R (Tn (lm d) (lb d))∧(Aw gl (n+60)).ex (tE Cm) (Bs Cm.body 16) (Bt (Ca AB d ds) (w9 d o) [])=some (.next,Bt (Ca AB d ds) (Df d o R) []):=by
 have O:Dw (Bt (Ca AB d ds) (w9 d o) []):=Fx (Fs hs) (p7 ho) rfl;obtain ⟨R,e,I⟩:=pP (n+26) O (m:=lm d) (b:=lb d);exact ⟨R,I,Cz rfl rfl ((Cl rfl rfl rfl (Ae rfl (Bc rfl rfl rfl) Al) Bf).trans e) (Bn (i:=12) (o:=none) rfl rfl rfl)⟩
section
variable {p:Pos}
theorem uX {AW:O6}{gens:List PA}{scope:Scope}{vs:List V}{q:List Int}(h:Gd g (Aw g n) e scope gens (eI (Aw g n) AW) J=some (vs,Ab))(hq:Fk vs=some q):(Aw g (n+1)).ev e (.SetComp AW gens scope p) J=some (.set (q.foldl (fun s i=>Ch i s) []),Ab):=by
 rw[El];show oe2 (Gd g (Aw g n) e scope gens (eI (Aw g n) AW) J) none _=_;exact (oE2 h).trans (oE1 hq)
end
theorem bw:∀{l:List (Int×Bool)},Fk (l.map sv)=some (l.map (·.1)):=fun {l}=>by
 induction l with
 |nil=>rfl
 |cons x l ih=>exact Fa rfl ih
theorem vh (n:Nat)(O:Dw (Bt (Ca AB d ds) (Df d o R) []))(I:zO R (Tn (lm d) (lb d))):(Aw gl (n+57)).ev (tE Cm) (Xe (La (Ed (Bs Cm.body 17)) 0)) (Bt (Ca AB d ds) (Df d o R) [])=some (.lst ((wg d).map Bi),Bt (Ca AB d ds) (Df d o R) []):=by
 have hl:(wg d).length<64:=by
  rw[← lS I,wn];have:=I.ln;have:=Pw (m:=lm d) (b:=lb d)
  lia
 have h:(Tn (lm d) (lb d)).map sv=(PF 4).flatMap fun i=>((gd (lm d) (lb d) i).filter fun x=>x.1 != 0).map sv:=by
  unfold Tn;rw[List.map_flatMap]
 refine Rn (Az rfl rfl) rfl (uX (vs:=(Tn (lm d) (lb d)).map sv) ?_ bw) hl;rw[h];refine dD "link" "strength" (Hq (lm d) (lb d)) sv (fun i=>.seq (Hq (lm d) (lb d) i)) (fun Z x=>x.1 != 0) (fun Z x=>sv x) (s1:=.seq (lk (lm d) (lb d))) (by exact Eo (Bc rfl rfl rfl) rfl) (by rfl) (fun r k=>rfl) (by rfl) (by decide) (fun a Z=>by show 4≤30;decide)
  (by rfl) (by rfl) (by rfl) (by rfl) (by rfl) (by rfl') (fun a Z m h=>?_) (fun Z Z=>rfl) (fun a Z r k=>rfl) (fun Z Z Z=>rfl) (fun a Z x Z=>?_) (fun a Z x Z Z=>?_) (fun a Z x Z Z m=>rfl) O.cl
 ·exact Eo (Ad rfl Af h) rfl
 ·exact Lj (Gv rfl (Ad rfl Af rfl) rfl)
 ·exact rC (Ad rfl Af rfl)
end
section
variable {d:Nat->Int}{ds:Nat->Bool}{AB:V}{o:Option V}{R:List (Int×Bool)}
def pz (z:Bool×Bool×Bool) (j:Nat):V:=.tup [.int ((j+1:Nat):Int) z.1,.int ((j / 2:Nat):Int) z.2.1,.int (j:Int) z.2.2]
def gR (R:List (Int×Bool)) (j:Nat):Int×Bool:=(R[j]?).getD (0,true)
theorem Vs {j:Nat}(h:j<R.length):R[j]?=some (gR R j):=by
 unfold gR;rw[x7 h];rfl
theorem jV (st:R.Pairwise fun x y=>x.1<y.1){i j:Nat}(hi:i<R.length)(hj:j<R.length):(gR R i).1<(gR R j).1↔i<j:=by
 constructor
 ·intro h;rcases Nat.lt_trichotomy i j with h1|h1|h1
  ·exact h1
  ·subst h1;lia
  ·have:=Sa st (Vs hj) (Vs hi) h1;lia
 ·exact Sa st (Vs hi) (Vs hj)
theorem dg (n:Nat){J:Aj}(O:Dw J)(st:R.Pairwise fun x y=>x.1<y.1)(hl:R.length≤1000){j:Nat}(hj:j<R.length){s1 s2 s3:Bool}:∃z:Bool×Bool×Bool,
 (Aw gl (n+15)).call (.fn 50) [.lst (R.map sv),sv (gR R j),.int ((j+1:Nat):Int) s1] [] J=some (.int ((j+1:Nat):Int) z.1,J) ∧
 (Aw gl (n+15)).call (.fn 50) [.lst (R.map sv),sv (gR R j),Bi 0,.int ((j / 2:Nat):Int) s2] [] J=some (.int ((j / 2:Nat):Int) z.2.1,J) ∧
 (Aw gl (n+15)).call (.fn 32) [.lst (R.map sv),sv (gR R j),Bi 0,.int (j:Int) s3] [] J=some (.int (j:Int) z.2.2,J):=by
 have hz:(R.map sv).length≤1000000:=by rw[wn];lia
 have EA:Bu J (.lst (R.map sv))=some (R.map sv):=rfl
 let c1:Nat->Bool:=fun i=>decide (i<j)
 have E9:∀i v,(R.map sv)[i]?=some v->Mf v (sv (gR R j))=some (c1 i):=fun i v h=>by
  rw[x6] at h;cases hx:R[i]? with
  |none=>rw[hx] at h;cases h
  |some y=>
   have hi:i<R.length:=(wv.mp hx).1;rw[Vs hi] at h;cases h;show some (decide ((gR R i).1<(gR R j).1))=some (decide (i<j));rw[decide_eq_decide.mpr (jV st hi hj)]
 have FJ:∀i k,i≤k->k<(R.map sv).length->c1 k=true->c1 i=true:=fun i k FV Z h=>by
  show decide (i<j)=true;rw[decide_eq_true_eq] at *
  ac_rfl
 let c2:Nat->Bool:=fun i=>decide (i≤j)
 have E2:∀i v,(R.map sv)[i]?=some v->Mf (sv (gR R j)) v=some (!c2 i):=fun i v h=>by
  rw[x6] at h;cases hx:R[i]? with
  |none=>rw[hx] at h;cases h
  |some y=>
   have hi:i<R.length:=(wv.mp hx).1;rw[Vs hi] at h;cases h;show some (decide ((gR R j).1<(gR R i).1))=some (!decide (i≤j));have hh:decide ((gR R j).1<(gR R i).1) = !decide (i≤j):=by
    by_cases c:i≤j
    ·rw[decide_eq_true c,decide_eq_false (fun z=>by have:=(jV st hj hi).mp z;lia)];rfl
    ·rw[decide_eq_false c,decide_eq_true ((jV st hj hi).mpr (by lia))];rfl
   rw[hh]
 have D0:∀i k,i≤k->k<(R.map sv).length->c2 k=true->c2 i=true:=fun i k FV Z h=>by
  show decide (i≤j)=true;rw[decide_eq_true_eq] at *
  ac_rfl
 obtain ⟨r1,p1,e1,a1,b1,t1,-⟩:=Vi (lo:=j+1) (hi:=(R.map sv).length) (p:=s1) (q:=true) n (args:=[.lst (R.map sv),sv (gR R j),.int ((j+1:Nat):Int) s1]) (AJ:=[]) (hv:=.none) O EA hz E9 FJ rfl (.inl ⟨rfl,rfl⟩);obtain ⟨r2,p2,e2,-,b2,-,u2⟩:=Vi (lo:=0) (hi:=j / 2) (p:=true) (q:=s2) n (args:=[.lst (R.map sv),sv (gR R j),Bi 0,.int ((j / 2:Nat):Int) s2]) (AJ:=[]) (hv:=.int ((j / 2:Nat):Int) s2) O EA hz E9 FJ rfl (.inr ⟨rfl,by rw[wn];lia⟩);obtain ⟨r3,p3,e3,-,b3,-,u3⟩:=fD (lo:=0) (hi:=j) (p:=true) (q:=s3) n (args:=[.lst (R.map sv),sv (gR R j),Bi 0,.int (j:Int) s3]) (AJ:=[]) (hv:=.int (j:Int) s3) O EA hz E2 D0 rfl (.inr ⟨rfl,by rw[wn];lia⟩);have h1:r1=j+1:=by
  by_cases h:j+1<r1
  ·have h:=t1 (j+1) (wu _) h;rw[decide_eq_true_eq] at h
   lia
  ·lia
 have h2:r2=j / 2:=by
  have:=b2 (wz _);by_cases h:r2<j / 2
  ·have h:=u2 r2 (wu _) h;rw[decide_eq_false_iff_not] at h
   lia
  ·lia
 have h3:r3=j:=by
  have:=b3 (wz _);by_cases h:r3<j
  ·have h:=u3 r3 (wu _) h;have h:decide (r3≤j)=false:=h;rw[decide_eq_false_iff_not] at h
   lia
  ·lia
 rw[h1] at e1;rw[h2] at e2;rw[h3] at e3;exact ⟨(p1,p2,p3),e1,e2,e3⟩
theorem gO {J:Aj}{k:Nat}:Da J (.enum (.lst (R.map sv))) k=some ((PF R.length).map fun j:Nat=>V.tup [Bi (j:Int),sv (gR R j)])[k]?:=by
 show some (((R.map sv)[k]?).map fun x=>V.tup [Bi k,x])=_;rw[x6,x6];by_cases h:k<R.length
 ·rw[Vs h,List.getElem?_range h];rfl
 ·rw[List.getElem?_eq_none (by lia),List.getElem?_eq_none (by rw[yx];lia)];rfl
theorem jj (j:Nat):(j:Int).fdiv 2=((j / 2:Nat):Int):=by
 rw[zz _ (by decide)];rfl
theorem kn (n:Nat)(O:Dw (Bt (Ca AB d ds) (Df d o R) []))(st:R.Pairwise fun x y=>x.1<y.1)(hl:R.length≤16):∃z:Nat->Bool×Bool×Bool,(Aw gl (n+57)).ev (tE Cm) (tc (La (Ed (Bs Cm.body 17)) 1)) (Bt (Ca AB d ds) (Df d o R) [])=some (.lst ((PF R.length).map fun j=>pz (z j) j),Bt (Ca AB d ds) (Df d o R) []):=by
 have BH:∀j,∃z:Bool×Bool×Bool,j<R.length ->
  (Aw gl (n+54)).call (.fn 50) [.lst (R.map sv),sv (gR R j),.int ((j+1:Nat):Int) false] [] (Bt (Ca AB d ds) (Df d o R) []++[.fr [("at",Bi (j:Int)),("one",sv (gR R j))]])=some (.int ((j+1:Nat):Int) z.1,Bt (Ca AB d ds) (Df d o R) []++[.fr [("at",Bi (j:Int)),("one",sv (gR R j))]]) ∧
  (Aw gl (n+54)).call (.fn 50) [.lst (R.map sv),sv (gR R j),Bi 0,.int ((j / 2:Nat):Int) (Ep (j:Int)&&decide ((0:Int)≤2))] [] (Bt (Ca AB d ds) (Df d o R) []++[.fr [("at",Bi (j:Int)),("one",sv (gR R j))]])=some (.int ((j / 2:Nat):Int) z.2.1,Bt (Ca AB d ds) (Df d o R) []++[.fr [("at",Bi (j:Int)),("one",sv (gR R j))]]) ∧
  (Aw gl (n+54)).call (.fn 32) [.lst (R.map sv),sv (gR R j),Bi 0,Bi (j:Int)] [] (Bt (Ca AB d ds) (Df d o R) []++[.fr [("at",Bi (j:Int)),("one",sv (gR R j))]])=some (.int (j:Int) z.2.2,Bt (Ca AB d ds) (Df d o R) []++[.fr [("at",Bi (j:Int)),("one",sv (gR R j))]]):=fun j=>by
  by_cases hj:j<R.length
  ·have O2:Dw (Bt (Ca AB d ds) (Df d o R) []++[.fr [("at",Bi (j:Int)),("one",sv (gR R j))]]):=O.push (by
    show Bg _ [(("at":O7),Bi (j:Int)),(("one":O7),sv (gR R j))]=true;rw[Ah,Ah];unfold Bi;rw[Ev];rfl)
   obtain ⟨z,h⟩:=dg (n+39) O2 st (by lia) hj (s1:=false) (s2:=Ep (j:Int)&&decide ((0:Int)≤2)) (s3:=Ep (j:Int));exact ⟨z,fun Z=>h⟩
  ·exact ⟨(true,true,true),fun h=>absurd h hj⟩
 refine ⟨fun j=>Classical.choose (BH j),?_⟩;refine Cq (Do (fun j:Nat=>V.tup [Bi (j:Int),sv (gR R j)]) (fun j=>pz (Classical.choose (BH j)) j) (fun j=>[("at",Bi (j:Int)),("one",sv (gR R j))]) (by exact Vn (Az rfl rfl) (Ae rfl (Bc rfl rfl rfl) Al) rfl) (by rfl) (fun r k=>gO) (by
  show (R.map sv).length=_;rw[wn,yx]) (by rw[yx];lia) (by rfl) (by rfl) (by rfl) (fun j Z m hm=>?_) (fun j hj=>Bo ?_) (fun Z Z Z=>rfl) O.cl)
 ·rcases hm with rfl|⟨u,_,rfl⟩
  ·exact Fo rfl (Br rfl (Ap (Au rfl rfl rfl)) (Br rfl (Ap (Au rfl rfl rfl)) rfl))
  ·exact Fo rfl (Br rfl (Ap (Au rfl rfl rfl)) (Br rfl (Ap (Au rfl rfl rfl)) rfl))
 ·obtain ⟨h1,h2,h3⟩:=Classical.choose_spec (BH j) (wq.mp hj);have IP:∀J,Nz J .FloorDiv (Bi (j:Int)) (Bi 2)=some (.int ((j / 2:Nat):Int) (Ep (j:Int)&&decide ((0:Int)≤2)),J):=fun J=>by
   show some (V.int ((j:Int).fdiv 2) (Ep (j:Int)&&decide ((0:Int)≤2)),J)=_;rw[jj]
  exact Go rfl (Ae rfl ((Cl rfl rfl rfl (Ae rfl (Bc rfl rfl rfl) (Ae rfl (Ad rfl Af rfl) (Ae rfl (Bw (Ad rfl Af rfl) Aq rfl) Al))) Bf).trans h1)
   (Ae rfl ((Cl rfl rfl rfl (Ae rfl (Bc rfl rfl rfl) (Ae rfl (Ad rfl Af rfl) (Ae rfl Aq (Ae rfl (Bw (Ad rfl Af rfl) Aq (IP _)) Al)))) Bf).trans h2)
   (Ae rfl ((Cl rfl rfl rfl (Ae rfl (Bc rfl rfl rfl) (Ae rfl (Ad rfl Af rfl) (Ae rfl Aq (Ae rfl (Ad rfl Af rfl) Al)))) Bf).trans h3) Al)))
end
section
variable {d:Nat->Int}{ds:Nat->Bool}{AB:V}{o:Option V}{R:List (Int×Bool)}
theorem lw17 (n:Nat)(hs:∀k,Ar k AB=true)(ho:∀k,Ht k o=true)(I:zO R (Tn (lm d) (lb d))):(Aw gl (n+60)).ex (tE Cm) (Bs Cm.body 17) (Bt (Ca AB d ds) (Df d o R) [])=some (.next,Bt (Ca AB d ds) (Df d o R) []):=by
 have O:Dw (Bt (Ca AB d ds) (Df d o R) []):=Fx (Fs hs) (Ug ho) rfl;have hl:R.length≤16:=wp I.ln Pw;obtain ⟨z,hL⟩:=kn (n+0) O I.st hl;have e1:Dx (Bt (Ca AB d ds) (Df d o R) []) .NotEq (.lst (R.map sv)) (.lst ((wg d).map Bi))=some false:=by
  refine Of (c:=true) ?_;rw[← lS I,z6];refine To (by rw[wn,wn]) fun i x y hx hy=>?_;rw[x6] at hx hy;cases hr:R[i]? with
  |none=>rw[hr] at hx;cases hx
  |some v=>
   rw[hr] at hx hy;cases hx;cases hy;show some (v.1==v.1)=_;simp
 have e2:Dx (Bt (Ca AB d ds) (Df d o R) []) .NotEq (.lst ((PF R.length).map fun j=>pz (z j) j)) (.lst ((PF R.length).map fun j:Nat=>pz (false,Ep (j:Int)&&decide ((0:Int)≤2),Ep (j:Int)) j))=some false:=by
  refine Of (c:=true) ?_;refine To (by rw[wn,wn]) fun i x y hx hy=>?_;rw[x6] at hx hy;cases hr:(PF R.length)[i]? with
  |none=>rw[hr] at hx;cases hx
  |some j=>
   rw[hr] at hx hy;cases hx;cases hy;show Ff (Rc (Bt (Ca AB d ds) (Df d o R) []) 6) [.int ((j+1:Nat):Int) (z j).1,.int ((j / 2:Nat):Int) (z j).2.1,.int (j:Int) (z j).2.2] [.int ((j+1:Nat):Int) false,.int ((j / 2:Nat):Int) (Ep (j:Int)&&decide ((0:Int)≤2)),.int (j:Int) (Ep (j:Int))]=_;simp only[Wu,eL,kP,beq_self_eq_true]
   rfl
 have hR:(Aw gl (n+57)).ev (tE Cm) (Xe (La (Ed (Bs Cm.body 17)) 1)) (Bt (Ca AB d ds) (Df d o R) [])=some (.lst ((PF R.length).map fun j:Nat=>pz (false,Ep (j:Int)&&decide ((0:Int)≤2),Ep (j:Int)) j),Bt (Ca AB d ds) (Df d o R) []):=by
  have IS:Ud [.int ((R.map sv).length:Int) true]=some (.rng 0 R.length):=by
   show (if Ln ((R.map sv).length:Int) then some (Gh.rng 0 ((R.map sv).length:Int).toNat) else none)=_;rw[wn,if_pos (show Ln (R.length:Int)=true from xg (show R.length+1≤2 ^ 61 from wp (z7 hl) (by decide)))]
   rfl
  refine Cq (Do (fun j:Nat=>Bi (j:Int)) (fun j:Nat=>pz (false,Ep (j:Int)&&decide ((0:Int)≤2),Ep (j:Int)) j) (fun j=>[("at",Bi (j:Int))]) (by exact Dl (Az rfl rfl) (Ae rfl ((Cl rfl rfl rfl (Ae rfl (Bc rfl rfl rfl) Al) Bf).trans (Jo (a:=.lst (R.map sv)) (l:=R.map sv) rfl (by rw[wn];lia))) Al) IS) (by rfl) (fun r k=>Cr _ k _) (by exact yx.symm) (by rw[yx];lia) (by rfl) (by rfl) (by rfl) (fun j Z m hm=>?_) (fun j hj=>Bo ?_) (fun Z Z Z=>rfl) O.cl)
  ·refine Ap (Au rfl rfl ?_);rcases hm with rfl|⟨u,_,rfl⟩<;>rfl
  ·have IP:∀J,Nz J .FloorDiv (Bi (j:Int)) (Bi 2)=some (.int ((j / 2:Nat):Int) (Ep (j:Int)&&decide ((0:Int)≤2)),J):=fun J=>by
    show some (V.int ((j:Int).fdiv 2) (Ep (j:Int)&&decide ((0:Int)≤2)),J)=_;rw[jj]
   exact Go rfl (Ae rfl (Bw (Ad rfl Af rfl) Aq rfl) (Ae rfl (Bw (Ad rfl Af rfl) Aq (IP _)) (Ae rfl (Ad rfl Af rfl) Al)))
 have AS:(Aw gl (n+59)).ts (tE Cm) (Ed (Bs Cm.body 17)) (Bt (Ca AB d ds) (Df d o R) [])=some (false,Bt (Ca AB d ds) (Df d o R) []):=
  Hl (Yt (b:=false) (c:=false) (Bd rfl (Bc rfl rfl rfl) (vh n O I) e1) fun Z=>Ir (Bd rfl hL hR e2))
 exact (Cb AS).trans Ax
theorem mt {a b:Nat}:0≤vt d a b:=by
 have hc:∀i,0≤Ks d i:=fun i=>by
  unfold Ks;have h1:0≤((d i).fdiv 256).fmod 5:=by rw[zq _ (by decide)];exact Int.emod_nonneg _ (by decide)
  bv_omega
 have hg:∀i,0≤gv d i a b:=fun i=>by
  unfold gv;have:=hc i;split<;>bv_omega
 rw[Yi];have h0:=hg 0;have h1:=hg 1;have h2:=hg 2;have h3:=hg 3
 lia
theorem gL {a b:Nat}:0≤lm d a b:=by
 unfold lm;split
 ·exact mt
 ·exact z9 _
theorem gi (I:zO R (Tn (lm d) (lb d))):∀y,y∈R.map (·.1)↔∃a b,a<4∧b<4∧lm d a b=y∧y≠0:=fun y=>by
 rw[I.mm];rw[xr];constructor
 ·rintro ⟨x,hx,rfl⟩;obtain ⟨a,ha,hx⟩:=List.mem_flatMap.mp hx;obtain ⟨hx,hn⟩:=zs.mp hx;have hn:x.1≠0:=by simpa using hn
  simp only[gd,List.mem_cons,List.not_mem_nil,or_false] at hx;rcases hx with rfl|rfl|rfl|rfl
  ·exact ⟨a,0,wq.mp ha,by decide,rfl,hn⟩
  ·exact ⟨a,1,wq.mp ha,by decide,rfl,hn⟩
  ·exact ⟨a,2,wq.mp ha,by decide,rfl,hn⟩
  ·exact ⟨a,3,wq.mp ha,by decide,rfl,hn⟩
 ·rintro ⟨a,b,ha,hb,rfl,hn⟩;refine ⟨(lm d a b,lb d a b),List.mem_flatMap.mpr ⟨a,wq.mpr ha,zs.mpr ⟨?_,by simpa using hn⟩⟩,rfl⟩;refine k4 hb ?_ ?_ ?_ ?_
  ·simp[gd]
  ·simp[gd]
  ·simp[gd]
  ·simp[gd]
def sI (d:Nat->Int) (i j:Nat):Int:=if i=j then 0 else Qm (lm d) i j
theorem lq (st:R.Pairwise fun x y=>x.1<y.1):w8 R:=fun i j x y AO hx hy=>by
 by_cases h:i=j
 ·subst h;rw[hx] at hy;cases hy;exact z9 _
 ·have:=Sa st hx hy (by lia)
  lia
abbrev Hz (AB:V) (d:Nat->Int) (ds:Nat->Bool) (sb:Nat->Nat->Bool):List (O7×V):=[("script",AB),("drawn",rB d ds),("texts",rV d),("entries",pR d),("both",(rM d).v),("whole",.int (fT d) false),("behind",Ny (Uk d) Nv),("ahead",Ny (Qw d) Nv),("strong",lk (sI d) sb)]
theorem fN (hs:∀k,Ar k AB=true){sb:Nat->Nat->Bool}{k:Nat}:Bg k (Hz AB d ds sb)=true:=by rw[Ah,Ah,Ah,Ah,Ah,Ah,Ah,Ah,Ah,hs,Fv,Gz,Iw,Fm,Ev,Cw,Cw,Cu];rfl
theorem lw18 (n:Nat)(hs:∀k,Ar k AB=true)(ho:∀k,Ht k o=true)(I:zO R (Tn (lm d) (lb d))):∃sb,(Aw gl (n+60)).ex (tE Cm) (Bs Cm.body 18) (Bt (Ca AB d ds) (Df d o R) [])=some (.next,Bt (Hz AB d ds sb) (Df d o R) []):=by
 have O:Dw (Bt (Ca AB d ds) (Df d o R) []):=Fx (Fs hs) (Ug ho) rfl;have hl:R.length≤16:=wp I.ln Pw;have BH:∀i j:Nat,∃s:Bool,i<4->j<4->(Aw gl (n+57)).call (.fn 159) [.lst (R.map sv),lk (lm d) (lb d),Bi (i:Int),Bi (j:Int)] [] (Bt (Ca AB d ds) (Df d o R) []++[.fr [],.cell (some (Bi (i:Int)))]++[.fr [("other",Bi (j:Int))]])=some (.int (sI d i j) s,Bt (Ca AB d ds) (Df d o R) []++[.fr [],.cell (some (Bi (i:Int)))]++[.fr [("other",Bi (j:Int))]]):=fun i j=>by
  by_cases h:i<4∧j<4
  ·have O3:Dw (Bt (Ca AB d ds) (Df d o R) []++[.fr [],.cell (some (Bi (i:Int)))]++[.fr [("other",Bi (j:Int))]]):=by
    have:=(O.push (o:=.fr []) rfl).push (o:=.cell (some (Bi (i:Int)))) rfl;exact Dw.push this rfl
   obtain ⟨x,s,e,h1,h2⟩:=Ul (n+16) O3 h.1 h.2 (lq I.st) (by lia) (m:=lm d) (b:=lb d) (sf:=Ep (i:Int)) (sl:=Ep (j:Int));refine ⟨s,fun Z Z=>?_⟩;have hx:x=sI d i j:=by
    unfold sI;by_cases AO:i=j
    ·rw[if_pos AO];exact h1 AO
    ·rw[if_neg AO];exact Xh (fun Z Z Z Z=>gL) (gi I) h.1 h.2 AO (h2 AO)
   rw[← hx];exact e
  ·exact ⟨true,fun a b=>absurd ⟨a,b⟩ h⟩
 refine ⟨fun i j=>Classical.choose (BH i j),?_⟩;refine Ij (v:=lk (sI d) fun i j=>Classical.choose (BH i j)) rfl (Iu (vs:=(PF 4).map fun i=>Hq (sI d) (fun i j=>Classical.choose (BH i j)) i) (Fd (fun k:Nat=>Bi (k:Int)) (fun i=>Hq (sI d) (fun i j=>Classical.choose (BH i j)) i) [.fr [],.cell none] (fun i=>[.fr [],.cell (some (Bi (i:Int)))])
  (by exact Dl (Az rfl rfl) (Ae rfl Aq Al) rfl) (by rfl) (fun r k=>Cr _ k 4) (by rfl) (by decide) (by rfl) (by rfl) (by rfl) ⟨_,_,rfl⟩ (fun Z=>⟨_,_,rfl⟩) (fun i Z x hx=>?_) (fun i hi=>Bo ?_) (fun i Z Z=>rfl) O.cl)) (Au (J:=Bb) rfl rfl rfl)
 ·rcases hx with rfl|⟨u,_,rfl⟩
  ·exact Ap (Bn (i:=15) rfl rfl rfl)
  ·exact Ap (Bn (i:=15) rfl rfl rfl)
 ·have CE:i<4:=wq.mp hi;have O2:Dw (Bt (Ca AB d ds) (Df d o R) []++[.fr [],.cell (some (Bi (i:Int)))]):=by
   have:=(O.push (o:=.fr []) rfl).push (o:=.cell (some (Bi (i:Int)))) rfl;rwa [xj] at this
  refine Cq (Do (fun k:Nat=>Bi (k:Int)) (fun j=>V.int (sI d i j) (Classical.choose (BH i j))) (fun j=>[("other",Bi (j:Int))])
   (by exact Dl (Az rfl rfl) (Ae rfl Aq Al) rfl) (by rfl) (fun r k=>Cr _ k 4) (by rfl) (by decide) (by rfl) (by rfl) (by rfl) (fun j Z m hm=>?_) (fun j hj=>Bo ?_) (fun i Z Z=>rfl) O2.cl)
  ·refine Ap (Au rfl rfl ?_);rcases hm with rfl|⟨u,_,rfl⟩<;>rfl
  ·exact (Cl rfl rfl rfl (Ae rfl (Bc rfl rfl rfl) (Ae rfl (Bc rfl rfl rfl) (Ae rfl (Bc rfl rfl rfl) (Ae rfl (Ad rfl Af rfl) Al)))) Bf).trans (Classical.choose_spec (BH i j) CE (wq.mp hj))
end
section
variable {d:Nat->Int}{ds:Nat->Bool}{AB:V}{o:Option V}{R:List (Int×Bool)}{sb:Nat->Nat->Bool}
theorem ak:V.lst ((PF 4).map fun i=>V.lst ((PF 4).map fun j=>pF (lm d) i j))=lk (sI d) fun i j=>decide (i=j):=by
 have h:∀i j,pF (lm d) i j = .int (sI d i j) (decide (i=j)):=fun i j=>by
  unfold pF sI;by_cases AO:i=j
  ·rw[if_pos AO,if_pos AO,decide_eq_true AO]
  ·rw[if_neg AO,if_neg AO,decide_eq_false AO]
 have e:(fun i=>V.lst ((PF 4).map fun j=>pF (lm d) i j))=fun i=>Hq (sI d) (fun i j=>decide (i=j)) i:=funext fun i=>by
  rw[Qb];congr 1;exact Aag fun j Z=>h i j
 rw[e]
 rfl
theorem lw19 (n:Nat)(hs:∀k,Ar k AB=true)(ho:∀k,Ht k o=true):(Aw gl (n+60)).ex (tE Cm) (Bs Cm.body 19) (Bt (Hz AB d ds sb) (Df d o R) [])=some (.next,Bt (Hz AB d ds sb) (Df d o R) []):=by
 have O:Dw (Bt (Hz AB d ds sb) (Df d o R) []):=Fx (fN hs) (Ug ho) rfl;have hc:=oV (n+26) O (m:=lm d) (b:=lb d);rw[ak] at hc;have BH:∀i:Nat,∃f:Nat->Bool,i<4->(Aw gl (n+55)).call (.fn 164) [lk (lm d) (lb d),Bi (i:Int),wC (Kh (d 4)) true,.int (Kh (d 4)) true] [] (Bt (Hz AB d ds sb) (Df d o R) []++[.fr [("one",Bi (i:Int))]])=some (.lst ((PF 4).map fun k=>V.int (sI d i k) (f k)),Bt (Hz AB d ds sb) (Df d o R) []++[.fr [("one",Bi (i:Int))]]):=fun i=>by
  by_cases h:i<4
  ·have O2:Dw (Bt (Hz AB d ds sb) (Df d o R) []++[.fr [("one",Bi (i:Int))]]):=O.push rfl;obtain ⟨dd,e,h1,h2⟩:=eH (n+19) O2 (Zn (x:=d 4)) (fun Z Z Z Z=>gL) h (m:=lm d) (b:=lb d) (sf:=Ep (i:Int)) (s:=true);have H1:((PF 4).map fun k=>sv (dd k))=(PF 4).map fun k=>V.int (sI d i k) (dd k).2:=Aag fun k hk=>by
    have B5:k<4:=wq.mp hk;unfold sv;have:(dd k).1=sI d i k:=by
     unfold sI;by_cases FV:i=k
     ·rw[if_pos FV];subst FV;exact h1
     ·rw[if_neg FV];obtain ⟨h3,h4⟩:=h2 k B5 (fun z=>FV z.symm);exact gX (fun Z Z Z Z=>gL) h B5 FV h3 h4
    rw[this]
   rw[H1] at e;exact ⟨fun k=>(dd k).2,fun Z=>e⟩
  ·exact ⟨fun Z=>true,fun z=>absurd z h⟩
 have hW:(Aw gl (n+57)).ev (tE Cm) (Xe (La (Ed (Bs Cm.body 19)) 1)) (Bt (Hz AB d ds sb) (Df d o R) [])=some (lk (sI d) fun i j=>Classical.choose (BH i) j,Bt (Hz AB d ds sb) (Df d o R) []):=by
  refine Cq (Do (fun k:Nat=>Bi (k:Int)) (fun i=>Hq (sI d) (fun i j=>Classical.choose (BH i) j) i) (fun i=>[("one",Bi (i:Int))])
   (by exact Dl (Az rfl rfl) (Ae rfl Aq Al) rfl) (by rfl) (fun r k=>Cr _ k 4) (by rfl) (by decide) (by rfl) (by rfl) (by rfl) (fun j Z m hm=>?_) (fun i hi=>Bo ?_) (fun i Z Z=>rfl) O.cl)
  ·refine Ap (Au rfl rfl ?_);rcases hm with rfl|⟨u,_,rfl⟩<;>rfl
  ·skip
   exact (Cl rfl rfl rfl (Ae rfl (Bc rfl rfl rfl) (Ae rfl (Ad rfl Af rfl) (Ae (v:=wC (Kh (d 4)) true) rfl ((Cl rfl rfl rfl (Ae rfl (Qr rfl (Ae rfl (Go rfl (Ae rfl Aq (Ae rfl (Xu (Bc rfl rfl rfl) rfl) Al))) (Ae rfl (Go rfl (Ae rfl Aq (Ae rfl (Bc rfl rfl rfl) Al))) Al))) Al) Bf).trans bO) (Ae rfl (Bc rfl rfl rfl) Al)))) Bf).trans (Classical.choose_spec (BH i) (wq.mp hi))
 have AS:(Aw gl (n+59)).ts (tE Cm) (Ed (Bs Cm.body 19)) (Bt (Hz AB d ds sb) (Df d o R) [])=some (false,Bt (Hz AB d ds sb) (Df d o R) []):=
  Hl (Yt (b:=false) (c:=false) (Bd rfl (Ad rfl rfl rfl) ((Cl rfl rfl rfl (Ae rfl (Bc rfl rfl rfl) Al) Bf).trans hc) (Of (jH fun Z Z Z Z=>rfl))) fun Z=>
   Ir (Bd rfl (Ad rfl rfl rfl) hW (Of (jH fun Z Z Z Z=>rfl))))
 exact (Cb AS).trans Ax
end
def cB (k:Int) (x:Int):List (Int×Int)->List (Int×Int)
 |[]=>[(k,x)]
 |(k',x')::r=>if k'<k then (k',x')::cB k x r else (k,x)::(k',x')::r
theorem hY {k x k1 x1:Int}{r:List (Int×Int)}:cB k x ((k1,x1)::r)=if k1<k then (k1,x1)::cB k x r else (k,x)::(k1,x1)::r:=rfl
theorem f7 {k x:Int}{L:List (Int×Int)}:∀{r:Nat},r≤L.length->(∀i p,i<r->L[i]?=some p->p.1≤k)->(∀i p,r≤i->L[i]?=some p->k<p.1)->L.take r++(k,x)::L.drop r=Mm k x L:=by
 induction L with
 |nil=>
  intro r h Z Z;have:r=0:=by simpa using h
  subst this
  rfl
 |cons p L ih=>
  intro r h h1 h2;obtain ⟨k',x'⟩:=p
  induction r with
  |zero=>rw[Wp,if_pos (h2 0 _ (wu _) rfl)];rfl
  |succ r=>
   have:=h1 0 _ (Nat.succ_pos _) rfl;rw[Wp,if_neg (by show ¬k<k';have:k'≤k:=this;lia)];rw[← ih (r:=r) (Nat.le_of_succ_le_succ h) (fun i p hi hp=>h1 (i+1) p (by lia) hp) (fun i p hi hp=>h2 (i+1) p (by lia) hp)]
   rfl
theorem c6 {k x:Int}{L:List (Int×Int)}:∀{r:Nat},r≤L.length->(∀i p,i<r->L[i]?=some p->p.1<k)->(∀i p,r≤i->L[i]?=some p->¬p.1<k)->L.take r++(k,x)::L.drop r=cB k x L:=by
 induction L with
 |nil=>
  intro r h Z Z;have:r=0:=by simpa using h
  subst this
  rfl
 |cons p L ih=>
  intro r h h1 h2;obtain ⟨k',x'⟩:=p
  induction r with
  |zero=>rw[hY,if_neg (h2 0 _ (wu _) rfl)];rfl
  |succ r=>
   rw[hY,if_pos (h1 0 _ (Nat.succ_pos _) rfl)];rw[← ih (r:=r) (Nat.le_of_succ_le_succ h) (fun i p hi hp=>h1 (i+1) p (by lia) hp) (fun i p hi hp=>h2 (i+1) p (by lia) hp)]
   rfl
def Hy (P:Nat->Int) (j:Nat):List (Int×Int):=(PF j).foldl (fun AD i=>Mm (P i) (i:Int) AD) []
def Ke (P:Nat->Int) (j:Nat):List (Int×Int):=(PF j).foldl (fun AD i=>cB (P (3-i)) (3-(i:Int)) AD) []
def aB:List (Int×Int)->Bool
 |[]=>true
 |p::r=>r.all (fun q=>decide (p.1≤q.1))&&aB r
theorem dA:∀{L:List (Int×Int)},aB L=true->∀{i j:Nat}{p q:Int×Int},i≤j->L[i]?=some p->L[j]?=some q->p.1≤q.1:=by
 intro X
 induction X with
 |nil=>
  intro Z i j p q Z hp Z;cases hp
 |cons x L ih=>
  intro h i j p q AO hp hq;rw[aB,wm] at h
  match i,j,AO,hp,hq with
  |0,0,_,hp,hq=>cases hp;cases hq;exact z9 _
  |0,j+1,_,hp,hq=>
   cases hp;exact of_decide_eq_true (xo.mp h.1 q (xt hq))
  |i+1,j+1,AO,hp,hq=>exact ih h.2 (by lia) hp hq
def oy (P:Nat->Int) (L:List (Int×Int)):Bool:=L.all fun p=>decide (0≤p.2)&&decide (p.2<4)&&(P p.2.toNat==p.1)
def v9 (a b c d:Nat):Bool:=
 let P:=q4 a b c d
 (PF 5).all (fun j=>aB (Hy P j)&&aB (Ke P j)&&oy P (Hy P j)&&oy P (Ke P j))&&((Hy P 4).map (·.2)==(Ke P 4).map (·.2))
theorem tS:((PF 4).all fun a=>(PF 4).all fun b=>(PF 4).all fun c=>(PF 4).all fun d=>v9 a b c d)=true:=by decide +kernel
theorem Uh {α β:Type}{f g:β->α->β}:∀{l:List α}{b:β},(∀b,∀a∈l,f b a=g b a)->l.foldl f b=l.foldl g b:=by
 intro X
 induction X with
 |nil=>
  intro Z Z;exact rfl
 |cons a l ih=>
  intro b h;rw[zk,zk,h b a (.head _),ih fun b a ha=>h b a (.tail _ ha)]
theorem Xz {P P':Nat->Int}(h:∀k,k<4->P k=P' k){j:Nat}(hj:j≤4):Hy P j=Hy P' j:=Uh fun b a ha=>by
 have:=wq.mp ha;rw[h a (by ac_rfl)]
theorem Yd {P P':Nat->Int}(h:∀k,k<4->P k=P' k){j:Nat}:Ke P j=Ke P' j:=Uh fun b a ha=>by
 rw[h (3-a) (by bv_omega)]
structure tr (P:Nat->Int):Prop where
 su:∀j,j≤4->aB (Hy P j)=true
 sd:∀j,j≤4->aB (Ke P j)=true
 ku:∀j,j≤4->∀p∈Hy P j,0≤p.2∧p.2<4∧P p.2.toNat=p.1
 kd:∀j,j≤4->∀p∈Ke P j,0≤p.2∧p.2<4∧P p.2.toNat=p.1
 eq:(Hy P 4).map (·.2)=(Ke P 4).map (·.2)
theorem iU {P:Nat->Int}(h:Rk P):tr P:=by
 obtain ⟨a,ha,ea⟩:=h 0 (by decide);obtain ⟨b,hb,eb⟩:=h 1 (by decide);obtain ⟨c,hc,ec⟩:=h 2 (by decide);obtain ⟨d,hd,ed⟩:=h 3 (by decide);have hr:∀k,k<4->P k=q4 a b c d k:=fun k hk=>by
  exact k4 hk (ea) (eb) (ec) (ed)
 have hk:=xo.mp (xo.mp (xo.mp (xo.mp tS a (wq.mpr ha)) b (wq.mpr hb)) c (wq.mpr hc)) d (wq.mpr hd);unfold v9 at hk;simp only[Bool.and_eq_true,beq_iff_eq] at hk;obtain ⟨h1,h2⟩:=hk;have hh:∀j,j≤4->aB (Hy P j)=true∧aB (Ke P j)=true∧(∀p∈Hy P j,0≤p.2∧p.2<4∧P p.2.toNat=p.1)∧∀p∈Ke P j,0≤p.2∧p.2<4∧P p.2.toNat=p.1:=fun j hj=>by
  have:=xo.mp h1 j (wq.mpr (by lia));simp only[Bool.and_eq_true] at this;obtain ⟨⟨⟨g1,g2⟩,g3⟩,g4⟩:=this;rw[← Xz hr hj] at g1 g3;rw[← Yd hr] at g2 g4;have key:∀L:List (Int×Int),oy (q4 a b c d) L=true->∀p∈L,0≤p.2∧p.2<4∧P p.2.toNat=p.1:=fun L hL p hp=>by
   have:=xo.mp hL p hp;simp only[Bool.and_eq_true,decide_eq_true_eq,beq_iff_eq] at this;refine ⟨this.1.1,this.1.2,?_⟩;rw[hr _ ((Int.toNat_lt this.1.1).mpr this.1.2)];exact this.2
  exact ⟨g1,g2,key _ g3,key _ g4⟩
 refine ⟨fun j hj=>(hh j hj).1,fun j hj=>(hh j hj).2.1,fun j hj=>(hh j hj).2.2.1,fun j hj=>(hh j hj).2.2.2,?_⟩;rw[← Xz hr (wu _),← Yd hr] at h2;exact h2
section
variable {d:Nat->Int}{ds:Nat->Bool}{AB:V}{o:Option V}{R:List (Int×Bool)}{sb:Nat->Nat->Bool}
theorem gE {i:Nat}:Rk (Dp d i):=fun k hk=>by
 refine ⟨pos (rk d i) k,?_,rfl⟩;have h:=(Xy (Zc (d:=d) (i:=i))).ix k hk;have h2:=List.of_findIdx?_eq_some h;cases hg:(Oq (rk d i))[pos (rk d i) k]? with
 |none=>rw[hg] at h2;cases h2
 |some x=>
  have:=(wv.mp hg).1;have:=Mz (r:=rk d i)
  ac_rfl
def s7:O6->List O6
 |.Tuple es _ _=>es
 |_=>[]
def vU (p:Int×Int):V:=Bi p.2
def vD (p:Int×Int):V:=.int p.2 false
def ij (d:Nat->Int) (x:Int):Int:=Dp d 3 x.toNat
def jR:V:=pQ (tE Cm) (Hv (Un (Bs (Bq (Bs Cm.body 21)) 0)))
def iE:V:=pQ (tE Cm) (Hv (Un (Bs (Bq (Bs Cm.body 21)) 1)))
theorem aZ (n:Nat){F:List (O7×V)}{x r:List Cv}(O:Dw (Bt F (Df d o R) x++r)){kv:V}(hk:kv=jR∨kv=iE){i:Int}{s:Bool}(h0:0≤i)(h4:i<4) :
 (Aw gl (n+10)).call kv [.int i s] [] (Bt F (Df d o R) x++r)=some (.int (ij d i) (Tk d 3 i.toNat),Bt F (Df d o R) x++r):=by
 have hi:i=((i.toNat:Nat):Int):=by lia
 have hit:∀J,Eb J (Hq (Dp d) (Tk d) 3) (.int i s)=some (.int (ij d i) (Tk d 3 i.toNat)):=fun J=>by
  have:=Ew (m:=Dp d) (b:=Tk d) (J:=J) (i:=3) (j:=i.toNat) (s:=s) (by lia);rw[← hi] at this;exact this
 have main:∀kv,kv=jR∨kv=iE->(Aw gl (n+10)).call kv [.int i s] [] (Bt F (Df d o R) x++r)=some (.int (ij d i) (Tk d 3 i.toNat),Bt F (Df d o R) x++r):=by
  rintro kv (rfl|rfl)
  ·exact Kl (x:="name") rfl rfl rfl rfl (Bj rfl (Bj rfl (Dk (Es rfl rfl rfl)) Aq (Ie (i:=3) (by decide))) (Ad rfl Af rfl) (hit _)) rfl O.cl
  ·exact Kl (x:="name") rfl rfl rfl rfl (Bj rfl (Bj rfl (Dk (Es rfl rfl rfl)) Aq (Ie (i:=3) (by decide))) (Ad rfl Af rfl) (hit _)) rfl O.cl
 exact main kv hk
abbrev Dd (AB:V) (d:Nat->Int) (ds:Nat->Bool) (sb:Nat->Nat->Bool):List (O7×V):=[("script",AB),("drawn",rB d ds),("texts",rV d),("entries",pR d),("both",(rM d).v),("whole",.int (fT d) false),("behind",Ny (Uk d) Nv),("ahead",Ny (Qw d) Nv),("strong",lk (sI d) sb),("down",.ref 15),("up",.ref 14)]
theorem eF (hs:∀k,Ar k AB=true){k:Nat}:Bg (16+k) (Dd AB d ds sb)=true:=by
 have hr:∀i,i<16->Ar (16+k) (.ref i)=true:=fun i hi=>by
  exact xg (by lia)
 rw[Ah,Ah,Ah,Ah,Ah,Ah,Ah,Ah,Ah,Ah,Ah,hs,Fv,Gz,Iw,Fm,Ev,Cw,Cw,Cu,hr 15 (by decide),hr 14 (by decide)]
 rfl
theorem lw20 (n:Nat):(Aw gl (n+60)).ex (tE Cm) (Bs Cm.body 20) (Bt (Hz AB d ds sb) (Df d o R) [])=some (.next,Bt (Dd AB d ds sb) (Df d o R) [.lst [],.lst []]):=by
 have he:Uw (Aw gl (n+59)) (tE Cm) [true,true] (s7 (Mc (Bs Cm.body 20))) (Bt (Hz AB d ds sb) (Df d o R) [])=some ([.ref 14,.ref 15],Bt (Hz AB d ds sb) (Df d o R) [.lst [],.lst []]):=by kernel_rfl
 exact Nb (names:=["up","down"]) (l:=[.ref 14,.ref 15]) (Ab:=Bt (Hz AB d ds sb) (Df d o R) [.lst [],.lst []]) rfl (Tq rfl he) (by kernel_rfl) rfl
  (Gf (Au (J:=Bb) rfl rfl rfl) (Gf (Au (J:=Bb) rfl rfl rfl) rfl))
def Jr (U D:List (Int×Int)):List Cv:=[.lst (U.map vU),.lst (D.map vD)]
theorem jZ (hs:∀k,Ar k AB=true)(ho:∀k,Ht k o=true){U D:List (Int×Int)}:Dw (Bt (Dd AB d ds sb) (Df d o R) (Jr U D)):=by
 have h1:∀(k:Nat) (L:List (Int×Int)),Di k (L.map vU)=true:=fun k L=>by
  induction L with
  |nil=>rw[yl,Gx]
  |cons x L ih=>
   rw[x8,Fw,ih];unfold vU Bi;rw[Ev];rfl
 have h2:∀(k:Nat) (L:List (Int×Int)),Di k (L.map vD)=true:=fun k L=>by
  induction L with
  |nil=>rw[yl,Gx]
  |cons x L ih=>
   rw[x8,Fw,ih];unfold vD;rw[Ev];rfl
 refine Fx (eF (k:=0) hs) (Ug ho) ?_;unfold Jr;simp only[Ia,Tx,Cg,h1,h2]
 rfl
theorem dE (n:Nat){F:List (O7×V)}{x:List Cv}(O:Dw (Bt F (Df d o R) x)){kv:V}(hk:kv=jR∨kv=iE){vX:Int×Int->V}(hv:∀p,∃s,vX p = .int p.2 s){L:List (Int×Int)}(AU:∀p∈L,0≤p.2∧p.2<4∧Dp d 3 p.2.toNat=p.1){Q:Nat->V->Prop}(hQ:∀i p z,L[i]?=some p->Q i (.int p.1 z))
 {o':Cv} (BP:Cg ((Bt F (Df d o R) x).length+1) o'=true):Ic (n+10) (Bt F (Df d o R) x++[o']) kv (L.map vX) Q:=by
 intro i v HT;rw[x6] at HT;cases hp:L[i]? with
 |none=>rw[hp] at HT;cases HT
 |some p=>
  rw[hp] at HT;cases HT;obtain ⟨s,hs⟩:=hv p;obtain ⟨h1,h2,h3⟩:=AU p (xt hp);refine ⟨.int p.1 (Tk d 3 p.2.toNat),hQ i p _ hp,fun o2 HY=>?_⟩;have O3:=(O.push BP).push HY;rw[xj] at O3;have:=aZ n (i:=p.2) (s:=s) O3 hk h1 h2;rw[show ij d p.2=p.1 from h3,← xj,← hs] at this;exact this
def f21 (n:Nat):V->Aj->Option (Fl×Aj):=fun v J=>oe1 (Cy (tE Cm) (Ee (Bs Cm.body 21)) v J) none fun Ai=>Dm (Aw gl (n+59)) (tE Cm) (Bq (Bs Cm.body 21)) Ai
theorem tK {a b:Int}:∀{l:List (Int×Int)},(Mm a b l).length=l.length+1:=by
 intro X
 induction X with
 |nil=>
  exact rfl
 |cons p l ih=>
  rw[Wp];split
  ·rfl
  ·rw[x9,ih,x9]
theorem xI {a b:Int}:∀{l:List (Int×Int)},(cB a b l).length=l.length+1:=by
 intro X
 induction X with
 |nil=>
  exact rfl
 |cons p l ih=>
  rw[hY];split
  ·rw[x9,ih,x9]
  ·rfl
theorem Wb {f:List (Int×Int)->Nat->List (Int×Int)}(h:∀a b,(f a b).length=a.length+1):∀(l:List Nat)(AD:List (Int×Int)),(l.foldl f AD).length=AD.length+l.length:=by
 intro X
 induction X with
 |nil=>
  intro AD;exact rfl
 |cons a l ih=>
  intro AD;rw[zk,ih,h,x9]
  lia
theorem nR {P:Nat->Int}{j:Nat}:(Hy P j).length=j:=by
 have:=Wb (f:=fun AD i=>Mm (P i) (i:Int) AD) (fun Z Z=>tK) (PF j) [];rw[yx] at this;simpa [Hy] using this
theorem lW {P:Nat->Int}{j:Nat}:(Ke P j).length=j:=by
 have:=Wb (f:=fun AD i=>cB (P (3-i)) (3-(i:Int)) AD) (fun Z Z=>xI) (PF j) [];rw[yx] at this;simpa [Ke] using this
theorem l9 {L:List (Int×Int)}{r:Nat}{k:Nat}{P:Int}:(L.map vU).take r++Bi (k:Int)::(L.map vU).drop r=(L.take r++(P,(k:Int))::L.drop r).map vU:=by
 rw[yc,x8,List.map_take,List.map_drop];rfl
theorem nh {L:List (Int×Int)}{r:Nat}{x:Int}{P:Int}:(L.map vD).take r++V.int x false::(L.map vD).drop r=(L.take r++(P,x)::L.drop r).map vD:=by
 rw[yc,x8,List.map_take,List.map_drop];rfl
theorem mn (n:Nat)(hs:∀k,Ar k AB=true){k:Nat}(hk:k<4){D:List (Int×Int)} :
 (Aw gl (n+59)).ex (tE Cm) (Bs (Bq (Bs Cm.body 21)) 0) (Bt (Dd AB d ds sb) (Df d (some (Bi (k:Int))) R) (Jr (Hy (Dp d 3) k) D))=some (.next,Bt (Dd AB d ds sb) (Df d (some (Bi (k:Int))) R) (Jr (Hy (Dp d 3) (k+1)) D)):=by
 have L:=iU (gE (d:=d) (i:=3));have O:Dw (Bt (Dd AB d ds sb) (Df d (some (Bi (k:Int))) R) (Jr (Hy (Dp d 3) k) D)):=jZ hs fun Z=>rfl;have DS:Hy (Dp d 3) (k+1)=Mm (Dp d 3 k) (k:Int) (Hy (Dp d 3) k):=by
  unfold Hy;rw[List.range_succ,z8];rfl
 have LZ:(Hy (Dp d 3) k).length=k:=nR;have AU:=L.ku k (by lia);have C2:=L.su k (by lia);rw[DS];generalize Hy (Dp d 3) k=U at O LZ AU C2;have hz:(U.map vU).length≤1000000:=by rw[wn];lia
 let c:Nat->Bool:=fun i=>match U[i]? with|some p=>decide (p.1≤Dp d 3 k)|none=>false
 have ec:∀{i:Nat}{p:Int×Int},U[i]?=some p->c i=decide (p.1≤Dp d 3 k):=fun {i p} h=>by
  show (match U[i]? with|some p=>decide (p.1≤Dp d 3 k)|none=>false)=_;rw[h]
 have hm:∀i j,i≤j->j<(U.map vU).length->c j=true->c i=true:=fun i j AO hj h=>by
  rw[wn] at hj;have e1:U[j]?=some U[j]:=x7 hj;have e2:U[i]?=some (U[i]'(by ac_rfl)):=x7 _;rw[ec e1,decide_eq_true_eq] at h;rw[ec e2,decide_eq_true_eq];have:=dA C2 AO e2 e1
  lia
 have hx:ij d (k:Int)=Dp d 3 k:=by unfold ij;rw[zp]
 have GX:∀o',Cg ((Bt (Dd AB d ds sb) (Df d (some (Bi (k:Int))) R) (Jr U D)).length+1) o'=true ->
  Ic (n+47) (Bt (Dd AB d ds sb) (Df d (some (Bi (k:Int))) R) (Jr U D)++[o']) jR (U.map vU) (fun i v=>Mf (.int (Dp d 3 k) (Tk d 3 k)) v=some (!c i))∧(Aw gl (n+52)).call jR [Bi (k:Int)] [] (Bt (Dd AB d ds sb) (Df d (some (Bi (k:Int))) R) (Jr U D)++[o'])=some (.int (Dp d 3 k) (Tk d 3 k),Bt (Dd AB d ds sb) (Df d (some (Bi (k:Int))) R) (Jr U D)++[o']):=fun o' BP=>by
  refine ⟨dE (n+37) O (.inl rfl) (fun p=>⟨_,rfl⟩) AU (fun i p z hp=>?_) BP,?_⟩
  ·rw[ec hp];show some (decide (Dp d 3 k<p.1))=_;congr 1;by_cases h:p.1≤Dp d 3 k
   ·rw[decide_eq_true h,decide_eq_false (by lia)];rfl
   ·rw[decide_eq_false h,decide_eq_true (by lia)];rfl
  ·have:=aZ (n+42) (i:=(k:Int)) (s:=Ep (k:Int)) (O.push BP) (.inl rfl) (by lia) (by lia);rw[hx,zp] at this;exact this
 obtain ⟨r,er,hr,h3,h4⟩:=wP (n+36) (x:=Bi (k:Int)) (j:=14) (l:=U.map vU) (kx:=.int (Dp d 3 k) (Tk d 3 k)) (kv:=jR) O rfl (by decide) hz (by unfold Bi;exact Ev) GX rfl rfl rfl rfl Ev hm;rw[wn] at hr h4;rw[← f7 (L:=U) (r:=r) hr (fun i p hi hp=>by
  have:=h3 i hi;rw[ec hp,decide_eq_true_eq] at this;exact this) (fun i p hi hp=>by
  have:=h4 i hi (wv.mp hp).1;rw[ec hp,decide_eq_false_iff_not] at this
  lia)]
 have CV:(Aw gl (n+57)).ev (tE Cm) (Hv (Un (Bs (Bq (Bs Cm.body 21)) 0))) (Bt (Dd AB d ds sb) (Df d (some (Bi (k:Int))) R) (Jr U D))=some (jR,Bt (Dd AB d ds sb) (Df d (some (Bi (k:Int))) R) (Jr U D)):=by rfl
 refine (Lo rfl ((Cl rfl rfl rfl (Ae rfl (Ad rfl rfl rfl) (Ae rfl (Bc rfl rfl rfl) Al)) (Ho CV Bf)).trans er)).trans ?_;unfold Jr;rw[← l9]
 rfl
theorem ne (n:Nat)(hs:∀k,Ar k AB=true){k:Nat}(hk:k<4){U:List (Int×Int)} :
 (Aw gl (n+59)).ex (tE Cm) (Bs (Bq (Bs Cm.body 21)) 1) (Bt (Dd AB d ds sb) (Df d (some (Bi (k:Int))) R) (Jr U (Ke (Dp d 3) k)))=some (.next,Bt (Dd AB d ds sb) (Df d (some (Bi (k:Int))) R) (Jr U (Ke (Dp d 3) (k+1)))):=by
 have L:=iU (gE (d:=d) (i:=3));have O:Dw (Bt (Dd AB d ds sb) (Df d (some (Bi (k:Int))) R) (Jr U (Ke (Dp d 3) k))):=jZ hs fun Z=>rfl;have DS:Ke (Dp d 3) (k+1)=cB (Dp d 3 (3-k)) (3-(k:Int)) (Ke (Dp d 3) k):=by
  unfold Ke;rw[List.range_succ,z8];rfl
 have LZ:(Ke (Dp d 3) k).length=k:=lW;have AU:=L.kd k (by lia);have C2:=L.sd k (by lia);rw[DS];generalize Ke (Dp d 3) k=D at O LZ AU C2;have hz:(D.map vD).length≤1000000:=by rw[wn];lia
 let c:Nat->Bool:=fun i=>match D[i]? with|some p=>decide (p.1<Dp d 3 (3-k))|none=>false
 have ec:∀{i:Nat}{p:Int×Int},D[i]?=some p->c i=decide (p.1<Dp d 3 (3-k)):=fun {i p} h=>by
  show (match D[i]? with|some p=>decide (p.1<Dp d 3 (3-k))|none=>false)=_;rw[h]
 have hm:∀i j,i≤j->j<(D.map vD).length->c j=true->c i=true:=fun i j AO hj h=>by
  rw[wn] at hj;have e1:D[j]?=some D[j]:=x7 hj;have e2:D[i]?=some (D[i]'(by ac_rfl)):=x7 _;rw[ec e1,decide_eq_true_eq] at h;rw[ec e2,decide_eq_true_eq];have:=dA C2 AO e2 e1
  lia
 have ht:(3-(k:Int)).toNat=3-k:=congrArg Int.toNat (Int.ofNat_sub (y8 hk)).symm;have hx:ij d (3-(k:Int))=Dp d 3 (3-k):=by unfold ij;rw[ht]
 have GX:∀o',Cg ((Bt (Dd AB d ds sb) (Df d (some (Bi (k:Int))) R) (Jr U D)).length+1) o'=true ->
  Ic (n+47) (Bt (Dd AB d ds sb) (Df d (some (Bi (k:Int))) R) (Jr U D)++[o']) iE (D.map vD) (fun i v=>Mf v (.int (Dp d 3 (3-k)) (Tk d 3 (3-k)))=some (c i))∧(Aw gl (n+52)).call iE [.int (3-(k:Int)) false] [] (Bt (Dd AB d ds sb) (Df d (some (Bi (k:Int))) R) (Jr U D)++[o'])=some (.int (Dp d 3 (3-k)) (Tk d 3 (3-k)),Bt (Dd AB d ds sb) (Df d (some (Bi (k:Int))) R) (Jr U D)++[o']):=fun o' BP=>by
  refine ⟨dE (n+37) O (.inr rfl) (fun p=>⟨_,rfl⟩) AU (fun i p z hp=>?_) BP,?_⟩
  ·rw[ec hp]
   rfl
  ·have:=aZ (n+42) (i:=3-(k:Int)) (s:=false) (O.push BP) (.inr rfl) (by lia) (by lia);rw[hx,ht] at this;exact this
 obtain ⟨r,er,hr,h3,h4⟩:=eM (n+36) (x:=.int (3-(k:Int)) false) (j:=15) (l:=D.map vD) (kx:=.int (Dp d 3 (3-k)) (Tk d 3 (3-k))) (kv:=iE) O rfl (by decide) hz Ev GX rfl rfl rfl rfl Ev hm;rw[wn] at hr h4;rw[← c6 (L:=D) (r:=r) hr (fun i p hi hp=>by
  have:=h3 i hi;rw[ec hp,decide_eq_true_eq] at this;exact this) (fun i p hi hp=>by
  have:=h4 i hi (wv.mp hp).1;rw[ec hp,decide_eq_false_iff_not] at this;exact this)]
 have CV:(Aw gl (n+57)).ev (tE Cm) (Hv (Un (Bs (Bq (Bs Cm.body 21)) 1))) (Bt (Dd AB d ds sb) (Df d (some (Bi (k:Int))) R) (Jr U D))=some (iE,Bt (Dd AB d ds sb) (Df d (some (Bi (k:Int))) R) (Jr U D)):=by rfl
 refine (Lo rfl ((Cl rfl rfl rfl (Ae rfl (Ad rfl rfl rfl) (Ae rfl (Bw Aq (Bc rfl rfl rfl) rfl) Al)) (Ho CV Bf)).trans er)).trans ?_;unfold Jr;rw[← nh]
 rfl
end
section
variable {d:Nat->Int}{ds:Nat->Bool}{AB:V}{o:Option V}{R:List (Int×Bool)}{sb:Nat->Nat->Bool}
theorem lw21 (n:Nat)(hs:∀k,Ar k AB=true)(ho:∀k,Ht k o=true):∃o',(∀k,Ht k o'=true)∧(Aw gl (n+60)).ex (tE Cm) (Bs Cm.body 21) (Bt (Dd AB d ds sb) (Df d o R) [.lst [],.lst []])=some (.next,Bt (Dd AB d ds sb) (Df d o' R) (Jr (Hy (Dp d 3) 4) (Ke (Dp d 3) 4))):=by
 obtain ⟨Av,e,o',rfl,BP⟩:=Im (ι:=fun k:Nat=>Bi (k:Int)) (body:=f21 n) (s:=.rng 0 4) (l:=PF 4) (St:=fun pre J=>∃o,J=Bt (Dd AB d ds sb) (Df d o R) (Jr (Hy (Dp d 3) pre.length) (Ke (Dp d 3) pre.length))∧∀k,Ht k o=true) (fun Z J k Z=>Cr J k 4) (fun pre k J S hp=>by
  obtain ⟨o,rfl,ho⟩:=S;obtain ⟨B3,hp⟩:=hp;have hk:k<4:=wq.mp (by rw[hp];simp);have OR:pre.length=k:=by
   have h1:(PF 4)[pre.length]?=some k:=by rw[hp];simp
   have h2:=(wv.mp h1);obtain ⟨h3,h4⟩:=h2;rw[List.getElem_range] at h4;exact h4
  rw[OR];refine ⟨Bt (Dd AB d ds sb) (Df d (some (Bi (k:Int))) R) (Jr (Hy (Dp d 3) (k+1)) (Ke (Dp d 3) (k+1))),?_,some (Bi (k:Int)),by rw[xb,OR];rfl,fun Z=>rfl⟩;refine oA1.trans ?_;exact (Dr (s:=Bs (Bq (Bs Cm.body 21)) 0) (mn n hs hk) ((Am (s:=Bs (Bq (Bs Cm.body 21)) 1) (ne n hs hk)).trans Ax))) (PF 4) [] (Bt (Dd AB d ds sb) (Df d o R) [.lst [],.lst []]) rfl ⟨o,rfl,ho⟩
 exact ⟨o',BP,(Hs (Dl (Az rfl rfl) (Ae rfl Aq Al) rfl) rfl).trans e⟩
section
variable {p q p2 p3:Pos}
theorem iD {nm n2:O7}{as:List O6}{kw:Keyword}{vs:List V}{c:Nat}{f:V}{ks:List Int}(h0:Dc g e nm J=some (.bi "sorted"))(h1:Dc g e n2 J=some (.ty "range"))(h2:Kb (Aw g n) e as J=some (vs,J))(h3:Ud vs=some (.rng 0 c))(h4:Nat.ble c 60=true)
 (h5:dG (Aw g n) e [kw] J=some ([(("key":O7),f)],J)) (h6:Nq f=true) (h7:Jp (Aw g n) f 0 J c 0=some (ks,J)):(Aw g (n+1)).ev e (.Call (.Name nm q) [.Call (.Name n2 p2) as [] p3] [kw] p) J=some (.lst ((((ks.zip (PF c)).foldl (fun AD p=>Mm p.1 (0+(p.2:Int)) AD) []).map fun p=>Bi p.2)),J):=by
 rw[El];show Wt g (Aw g n) e nm _ [kw] J=_;refine (oE1 h0).trans ((if_pos (show Dv (.bi "sorted")=true from by decide)).trans ?_);show uM g (Aw g n) e _ [kw] J=_;refine (oE2 (show iL [.Call (.Name n2 p2) as [] p3]=some (n2,as) from rfl)).trans ((oE1 ((oE1 h1).trans (show Jk (.ty "range")=some "range" by decide +kernel))).trans ?_);rw[if_pos (by rfl')];refine (oE2 h2).trans ((oE1 h3).trans ((oE2 (show nu (.rng 0 c)=some (0,c) from rfl)).trans ?_));rw[if_pos h4];refine (oE2 h5).trans ((oE1 (show ml [(("key":O7),f)]=some f from if_pos (by rw[h6];show ((("key":O7)==("key":O7))&&true)=true;decide +kernel))).trans ((oE2 h7).trans rfl))
theorem Zk {L:Lv}{f:V}{lo:Int}{n k:Nat}{x:Int}{z:Bool}{r:List Int}(h:L.call f [Bi (lo+k)] [] J=some (.int x z,J))(h2:Jp L f lo J n (k+1)=some (r,J)):Jp L f lo J (n+1) k=some (x::r,J):=Um.trans ((oE2 h).trans (oE2 h2))
theorem ki {L:Lv}{f:V}{P:Nat->Int}(h:∀k:Nat,k<4->∃z,L.call f [Bi (0+(k:Int))] [] J=some (.int (P k) z,J)):Jp L f 0 J 4 0=some ([P 0,P 1,P 2,P 3],J):=by
 obtain ⟨z0,h0⟩:=h 0 (by decide);obtain ⟨z1,h1⟩:=h 1 (by decide);obtain ⟨z2,h2⟩:=h 2 (by decide);obtain ⟨z3,h3⟩:=h 3 (by decide);exact Zk h0 (Zk h1 (Zk h2 (Zk h3 rfl)))
theorem oM {v:V}{l:List V}(h:Bu J v=some l)(hl:l.length≤1000000):(Aw g (n+1)).call (.ty "list") [v] [] J=some (.ref J.length,J++[.lst l]):=by
 rw[Gn];show wa "list" v J=_;exact (if_neg (by decide)).trans ((if_neg (by decide)).trans ((if_pos (by decide)).trans ((oE1 h).trans (if_pos (xg hl)))))
end
def td:V:=pQ (tE Cm) (Hv (Xe (La (Ed (Bs Cm.body 22)) 0)))
theorem xH (n:Nat){F:List (O7×V)}{x:List Cv}(O:Dw (Bt F (Df d o R) x)){k:Nat}(hk:k<4):∃z,(Aw gl (n+10)).call td [Bi (0+(k:Int))] [] (Bt F (Df d o R) x)=some (.int (Dp d 3 k) z,Bt F (Df d o R) x):=by
 rw[Int.zero_add];exact ⟨_,Kl (x:="name") rfl rfl rfl rfl (Bj rfl (Bj rfl (Dk (Es rfl rfl rfl)) Aq (Ie (i:=3) (by decide))) (Ad rfl Af rfl) (Ew hk)) rfl O.cl⟩
theorem lw22 (n:Nat)(hs:∀k,Ar k AB=true)(ho:∀k,Ht k o=true):(Aw gl (n+60)).ex (tE Cm) (Bs Cm.body 22) (Bt (Dd AB d ds sb) (Df d o R) (Jr (Hy (Dp d 3) 4) (Ke (Dp d 3) 4)))=some (.next,Bt (Dd AB d ds sb) (Df d o R) (Jr (Hy (Dp d 3) 4) (Ke (Dp d 3) 4))):=by
 have O:Dw (Bt (Dd AB d ds sb) (Df d o R) (Jr (Hy (Dp d 3) 4) (Ke (Dp d 3) 4))):=jZ hs ho;have L:=iU (gE (d:=d) (i:=3));have hU:Hy (Dp d 3) 4=(([Dp d 3 0,Dp d 3 1,Dp d 3 2,Dp d 3 3].zip (PF 4)).foldl (fun AD p=>Mm p.1 (0+(p.2:Int)) AD) []):=by
  rfl
 have CV:(Aw gl (n+56)).ev (tE Cm) (Hv (Xe (La (Ed (Bs Cm.body 22)) 0))) (Bt (Dd AB d ds sb) (Df d o R) (Jr (Hy (Dp d 3) 4) (Ke (Dp d 3) 4)))=some (td,Bt (Dd AB d ds sb) (Df d o R) (Jr (Hy (Dp d 3) 4) (Ke (Dp d 3) 4))):=by rfl
 have C2:(Aw gl (n+57)).ev (tE Cm) (Xe (La (Ed (Bs Cm.body 22)) 0)) (Bt (Dd AB d ds sb) (Df d o R) (Jr (Hy (Dp d 3) 4) (Ke (Dp d 3) 4)))=some (.lst ((Hy (Dp d 3) 4).map vU),Bt (Dd AB d ds sb) (Df d o R) (Jr (Hy (Dp d 3) 4) (Ke (Dp d 3) 4))):=by
  refine (iD (Az rfl rfl) (Az rfl rfl) (Ae rfl Aq Al) rfl rfl (Ho CV Bf) rfl (ki fun k hk=>xH (n+46) O hk)).trans ?_;rw[← hU]
  rfl
 have e1:Dx (Bt (Dd AB d ds sb) (Df d o R) (Jr (Hy (Dp d 3) 4) (Ke (Dp d 3) 4))) .NotEq (.ref 14) (.lst ((Hy (Dp d 3) 4).map vU))=some false:=by
  refine Of (c:=true) ?_;show (if ((Hy (Dp d 3) 4).map vU).length==((Hy (Dp d 3) 4).map vU).length then Ff (Rc (Bt (Dd AB d ds sb) (Df d o R) (Jr (Hy (Dp d 3) 4) (Ke (Dp d 3) 4))) 7) ((Hy (Dp d 3) 4).map vU) ((Hy (Dp d 3) 4).map vU) else some false)=_;rw[if_pos (by simp)];refine No rfl fun i x y hx hy=>?_;rw[hx] at hy;cases hy;rw[x6] at hx;cases hp:(Hy (Dp d 3) 4)[i]? with
  |none=>rw[hp] at hx;cases hx
  |some p=>
   rw[hp] at hx;cases hx;show some (p.2==p.2)=_;simp
 have e2:Dx (Bt (Dd AB d ds sb) (Df d o R) (Jr (Hy (Dp d 3) 4) (Ke (Dp d 3) 4))) .NotEq (.ref 15) (.ref 14)=some false:=by
  refine Of (c:=true) ?_;show (if ((Ke (Dp d 3) 4).map vD).length==((Hy (Dp d 3) 4).map vU).length then Ff (Rc (Bt (Dd AB d ds sb) (Df d o R) (Jr (Hy (Dp d 3) 4) (Ke (Dp d 3) 4))) 7) ((Ke (Dp d 3) 4).map vD) ((Hy (Dp d 3) 4).map vU) else some false)=_;have hl:((Ke (Dp d 3) 4).map vD).length=((Hy (Dp d 3) 4).map vU).length:=by rw[wn,wn,nR,lW]
  rw[if_pos (by rw[hl];simp)];refine No hl fun i x y hx hy=>?_;rw[x6] at hx hy;have he:((Hy (Dp d 3) 4).map (·.2))[i]?=((Ke (Dp d 3) 4).map (·.2))[i]?:=by rw[L.eq]
  rw[x6,x6] at he;cases hp:(Hy (Dp d 3) 4)[i]? with
  |none=>rw[hp] at hy;cases hy
  |some p=>
   cases hq:(Ke (Dp d 3) 4)[i]? with
   |none=>rw[hq] at hx;cases hx
   |some q=>
    rw[hp] at hy he;rw[hq] at hx he;cases hx;cases hy;have he:p.2=q.2:=by simpa using he
    show some (q.2==p.2)=_;rw[he];simp
 have AS:(Aw gl (n+59)).ts (tE Cm) (Ed (Bs Cm.body 22)) (Bt (Dd AB d ds sb) (Df d o R) (Jr (Hy (Dp d 3) 4) (Ke (Dp d 3) 4)))=some (false,Bt (Dd AB d ds sb) (Df d o R) (Jr (Hy (Dp d 3) 4) (Ke (Dp d 3) 4))):=
  Hl (Yt (b:=false) (c:=false) (Bd rfl (Ad rfl rfl rfl) C2 e1) fun Z=>Ir (Bd rfl (Ad rfl rfl rfl) (Ad rfl rfl rfl) e2))
 exact (Cb AS).trans Ax
abbrev uN (AB:V) (d:Nat->Int) (ds:Nat->Bool) (sb:Nat->Nat->Bool):List (O7×V):=[("script",AB),("drawn",rB d ds),("texts",rV d),("entries",pR d),("both",(rM d).v),("whole",.int (fT d) false),("behind",Ny (Uk d) Nv),("ahead",Ny (Qw d) Nv),("strong",lk (sI d) sb),("down",.ref 15),("up",.ref 14),("before",.ref 16)]
theorem lw23 (n:Nat){U D:List (Int×Int)}(hl:R.length≤16):(Aw gl (n+60)).ex (tE Cm) (Bs Cm.body 23) (Bt (Dd AB d ds sb) (Df d o R) (Jr U D))=some (.next,Bt (uN AB d ds sb) (Df d o R) (Jr U D++[.lst (R.map sv)])):=by
 have hc:(Aw gl (n+58)).call (.ty "list") [.lst (R.map sv)] [] (Bt (Dd AB d ds sb) (Df d o R) (Jr U D))=some (.ref 16,Bt (Dd AB d ds sb) (Df d o R) (Jr U D++[.lst (R.map sv)])):=
  (oM rfl (by rw[wn];lia)).trans rfl
 exact Cz rfl rfl ((Cl rfl rfl rfl (Ae rfl (Bc rfl rfl rfl) Al) Bf).trans hc) (Au (J:=Bb) rfl rfl rfl)
end
def q5 (a b c d e:Int):Nat->Int
 |0=>a
 |1=>b
 |2=>c
 |3=>d
 |_=>e
def q5b (a b c d e:Bool):Nat->Bool
 |0=>a
 |1=>b
 |2=>c
 |3=>d
 |_=>e
abbrev Wk (ns:List Int):V:=.lst (ns.map fun i=>.int i false)
theorem Xp (ns:List Int):∀k,Ar k (Wk ns)=true:=fun k=>by
 exact Wf
theorem aw (ns:List Int)(hl:ns.length≤63):∃(d:Nat->Int)(ds:Nat->Bool)(o:Option V)(sb:Nat->Nat->Bool)(R:List (Int×Bool))(U D:List (Int×Int)),0≤d 4∧(∀k,Ht k o=true)∧R.length≤16 ∧
 Dm (Aw gl 60) (tE Cm) (Cm.body.take 24) (Bt [("script",Wk ns)] {} [])=some (.next,Bt (uN (Wk ns) d ds sb) (Df d o R) (Jr U D++[.lst (R.map sv)])):=by
 have hs:=Xp ns;have O0:Dw (Bt [("script",Wk ns)] {} []):=Fx (by rw[Ah,hs];rfl) rfl rfl;obtain ⟨d0,d1,d2,d3,d4,s0,s1,s2,s3,s4,e,-,-,-,-,h4⟩:=iT 44 _ O0 ns hl
 let d:=q5 d0 d1 d2 d3 d4
 let ds:=q5b s0 s1 s2 s3 s4
 have w0:(Aw gl 60).ex (tE Cm) (Bs Cm.body 0) (Bt [("script",Wk ns)] {} [])=some (.next,Bt (Lb (Wk ns) d ds) {} []):=
  Cz (n:=59) rfl rfl ((Ka (n:=58) (Az rfl rfl) rfl (Ae rfl (Dk (n:=57) (Dy rfl rfl rfl)) Al) Bf).trans e) (Au (J:=Bb) rfl rfl rfl)
 obtain ⟨o,ho,w12⟩:=lw12 (d:=d) (ds:=ds) 0 hs;obtain ⟨R,I,w16⟩:=lw16 (d:=d) (ds:=ds) 0 hs ho;obtain ⟨sb,w18⟩:=lw18 (ds:=ds) 0 hs ho I;obtain ⟨o',BP,w21⟩:=lw21 (d:=d) (ds:=ds) (R:=R) (sb:=sb) 0 hs ho;have hR:R.length≤16:=wp I.ln Pw;refine ⟨d,ds,o',sb,R,Hy (Dp d 3) 4,Ke (Dp d 3) 4,z4 (by decide) h4,BP,hR,?_⟩;have jo:∀i,i<4->JOk (rk d i):=fun i Z=>(Xy Zc).jo;exact Dg (l:=Cm.body.take 24) (s:=Bs Cm.body 0) 0 rfl w0 (Dg (s:=Bs Cm.body 1) 1 rfl (lw1 0 hs) (Dg (s:=Bs Cm.body 2) 2 rfl (lw2 0 hs) (Dg (s:=Bs Cm.body 3) 3 rfl (lw3 0 hs jo) (Dg (s:=Bs Cm.body 4) 4 rfl (lw4 0 hs) (Dg (s:=Bs Cm.body 5) 5 rfl (lw5 0 hs) (Dg (s:=Bs Cm.body 6) 6 rfl (lw6 0 hs) (Dg (s:=Bs Cm.body 7) 7 rfl (lw7 0 hs) (Dg (s:=Bs Cm.body 8) 8 rfl (lw8 0 hs) (Dg (s:=Bs Cm.body 9) 9 rfl (lw9 0 hs) (Dg (s:=Bs Cm.body 10) 10 rfl (lw10 0 hs) (Dg (s:=Bs Cm.body 11) 11 rfl (lw11 0 hs) (Dg (s:=Bs Cm.body 12) 12 rfl w12 (Dg (s:=Bs Cm.body 13) 13 rfl (lw13 0 hs ho) (Dg (s:=Bs Cm.body 14) 14 rfl (lw14 0 hs ho) (Dg (s:=Bs Cm.body 15) 15 rfl (lw15 0 hs ho) (Dg (s:=Bs Cm.body 16) 16 rfl w16 (Dg (s:=Bs Cm.body 17) 17 rfl (lw17 0 hs ho I) (Dg (s:=Bs Cm.body 18) 18 rfl w18 (Dg (s:=Bs Cm.body 19) 19 rfl (lw19 0 hs ho) (Dg (s:=Bs Cm.body 20) 20 rfl (lw20 0) (Dg (s:=Bs Cm.body 21) 21 rfl w21 (Dg (s:=Bs Cm.body 22) 22 rfl (lw22 0 hs BP) (Dg (s:=Bs Cm.body 23) 23 rfl (lw23 0 hR) Ax)))))))))))))))))))))))
theorem Kj (W:Wd C g)(I:Bh C Y J s)(X:Ba C Y e AA){x:O7}{p:Pos}{v:V}(h:Dc g e x J=some v){A:O8}{Q:OY->OZ->Prop}{E:OY->OZ->Prop}(k:∀x,Bz C Y s.heap v x->Q x s):PD C.md A (eval (.Name x p) AA) Q E s:=
 wpAny_Name (bZ W I X h k) (by
  cases hk:e.kind x with
  |none=>exact nn ((congrArg (Ss g e x J) hk).symm.trans h)
  |some kd=>exact X.noDebug hk)
def rT (h:O9) (l:List O5):O9:={ h with objs:=h.objs.mapIdx fun i o=>if l.contains i then { o with data:=.freed } else o }
theorem yZ {l:List O5}{b:O5}(hb:b∈l):(rT h l).get? b=none:=by
 unfold O9.get? rT;rw[Array.getElem?_mapIdx];cases h.objs[b]? with
 |none=>rfl
 |some o=>
  rw[Option.map_some,if_pos (zu.mpr hb)]
theorem Zu {l:List O5}{b:O5}(hb:b∉l):(rT h l).get? b=h.get? b:=by
 unfold O9.get? rT;rw[Array.getElem?_mapIdx];cases h.objs[b]? with
 |none=>rfl
 |some o=>
  rw[Option.map_some,if_neg (fun z=>hb (zu.mp z))]
theorem qE {l:List O5}:(rT h l).StaysIn h:=fun b o e=>by
 by_cases hb:b∈l
 ·rw[yZ hb] at e;cases e
 ·rwa [Zu hb] at e
def lK (Y:List O5) (J:Aj) (frs:List O5):Prop:=∀L∈frs,∃(i:Nat) (m:List (O7×V)),Y[i]?=some L∧J[i]?=some (Cv.fr m)
theorem uW (I:Bh C Y J s){frs:List O5}(hf:lK Y J frs){s':OZ}(BM:(rT s.heap frs).StaysIn s'.heap)(GT:s.heap.UpToSlots s'.heap)(KR:s'.os=s.os)(hg:s'.gens=s.gens):Ck C Y s Y J s':=by
 have sub:∀L∈frs,L∈Y:=fun L m=>(by obtain ⟨i,_,h,_⟩:=hf L m;exact xt h);have keep:∀b o,b∉frs->s.heap.get? b=some o->s'.heap.get? b=some o:=fun b o hb e=>BM b o (by rw[Zu hb];exact e);have M:Mv Y Y s.heap s'.heap:=⟨⟨[],(xx _).symm⟩,fun Z m=>.inl m,fun b o hb e=>keep b o (fun m=>hb (sub b m)) e⟩;refine ⟨⟨I.len,I.nd,fun b o hb e=>M.keep b o hb (I.base b o hb e),I.fns,fun i a o e1 e2=>?_,KR.trans I.os,by rw[hg];exact I.gens,I.big,fun a m=>?_,I.tb⟩,M⟩
 ·have r:=I.objs i a o e1 e2;by_cases ha:a∈frs
  ·obtain ⟨j,m,q1,q2⟩:=hf a ha;have AO:i=j:=by
    have hi:=(wv.mp e1);have hj:=(wv.mp q1);obtain ⟨NZ,NQ⟩:=hi;obtain ⟨ON,D7⟩:=hj;have nd:=Aaj.mp I.nd;rcases Nat.lt_trichotomy i j with q|q|q
    ·exact absurd (NQ.trans D7.symm) (nd i j NZ ON q)
    ·exact q
    ·exact absurd (D7.trans NQ.symm) (nd j i ON NZ q)
   subst AO;rw[e2] at q2;cases q2;obtain ⟨f,hn,hr⟩:=r;exact ⟨f,GT.ns hn,fun y=>(hr y).mv M⟩
  ·obtain ⟨ob,EE⟩:=fE r;exact r.mv M ((keep a ob ha EE).trans EE.symm)
 ·obtain ⟨x,y,o,z⟩:=I.offs a m;exact ⟨x,y,o,M.keep a o x z⟩
theorem Ve (L':Ce g L n)(W:Wd C g)(I:Bh C Y J s)(X:Ba C Y e AA){nm:O7}{q p:Pos}{args:List O6}{a:O5}{d:Ek}{vs:List V}(h0:Dc g e nm J=some (.fn a))(hd:g.D a=some d)
 (h1:Kb L e args J=some (vs,Ab)){A:O8} (R:Dq A n){Q E:OY->OZ->Prop} (HE:∀Bl Be xs,Ck C Y s Bl Ab Be->Bv C Bl Be.heap vs xs->PD C.md A (call (.ref a) xs) Q E Be) :
 PD C.md A (eval (.Call (.Name nm q) args [] p) AA) Q E s:=by
 refine wpAny_Call_Name_kw (Kj W I X h0 fun vf rf=>?_);have Ay:=Ck.refl I;obtain ⟨rfl,AZ⟩:=rf;have h2:dG L e [] Ab=some ([],Ab):=rfl;obtain ⟨k1,k2,k3⟩:=Ni (AA:=AA) (p:=p) h2;refine callWith_of (P:=fun h=>∃k,(k=Keeper.frame∨k=Keeper.machine∨k=Keeper.boundFrame)∧Looks C.md h (keeperOf (.ref a)) k) (by rw[Hi h1,k1];rfl) (fun Z x=>x) ?_;obtain ⟨o,fd,D⟩:=W.defs _ _ hd;have fin:∀(Bl:List O5) (Be:OZ) (xs:List OY),Ck C Y s Bl Ab Be->Bv C Bl Be.heap vs xs->PD C.md A (evalAll ((backToKw p (keywordEach [] AA)).map (·.2)))
  (fun ys Cf=>(∃k,(k=Keeper.frame∨k=Keeper.machine∨k=Keeper.boundFrame)∧Looks C.md Cf.heap (keeperOf (.ref a)) k)∧PD C.md A (call (.ref a) ([]++xs) (((backToKw p (keywordEach [] AA)).filterMap (·.1)).zip ys)) Q E Cf) E Be:=by
  intro Bl Be xs Bm rs;exact wpAny_evalAll_nil ⟨Ky (W.defAt Bm.inv D) D.dat,HE Bl Be xs Bm rs⟩
 cases args with
 |nil=>
  cases h1;exact evalArgs_kw_nil k2 (fin _ _ _ (.refl I) rfl)
 |cons x r=>
  have hx:noStar x=true:=by
   split at h1
   ·cases h1
   ·rename_i BM;simpa using BM
  have e1:backTo p (starEach (x::r) AA)=(false,eval x AA)::backTo p (starEach r AA):=by rw[Ef hx];rfl
  have z:=Lk L' W (p:=p) I X h1 A _ E R fun Bl Be xs Bm rs=>fin Bl Be xs Bm rs;rw[e1] at z ⊢;exact evalArgs_kw k2 z
def Je (Y:List O5) (J:Aj) (fr:List Env):Prop:=∀AA∈fr,AA.scope.kind = .function∧∃(L:O5) (i:Nat) (m:List (O7×V)),AA.frame=some L∧Y[i]?=some L∧J[i]?=some (Cv.fr m)
theorem Je.ext {fr:List Env}(F:Je Y J fr)(hl:Y.length=J.length){t:List O5}{x:Aj}:Je (Y++t) (J++x) fr:=fun AA m=>by
 obtain ⟨h1,L,i,mm,h2,h3,h4⟩:=F AA m;have hi:=(wv.mp h3).1;exact ⟨h1,L,i,mm,h2,by rw[yu hi];exact h3,by rw[yu (by lia)];exact h4⟩
theorem Je.frs {fr:List Env}(F:Je Y J fr):lK Y J (fr.filterMap (·.frame)):=fun L m=>by
 obtain ⟨AA,he,hf⟩:=Aai.mp m;obtain ⟨_,L',i,mm,h2,h3,h4⟩:=F AA he;rw[h2] at hf;cases hf;exact ⟨i,mm,h3,h4⟩
theorem Je.fun (I:Bh C Y J s){frs:List O5}:∀{fr:List Env},Je Y J fr->(∀AA∈fr,∀L,AA.frame=some L->L∈frs)->s.heap.FunFrames (rT s.heap frs) fr:=by
 intro X
 induction X with
 |nil=>
  intro Z Z;exact trivial
 |cons AA fr ih=>
  intro F hs;obtain ⟨h1,L,i,mm,h2,h3,h4⟩:=F AA (.head _);obtain ⟨f,⟨o,es,ep,ho,hd,_⟩,_⟩:=I.objs _ _ _ h3 h4;exact ⟨by rw[h1];decide,⟨L,o,h2,yZ (hs AA (.head _) L h2),ho,fun vs q=>by rw[hd] at q;cases q⟩,ih (fun e m=>F e (.tail _ m)) fun e m=>hs e (.tail _ m)⟩
def k7:O7:="lo must be non-negative"
def zN (C:Cx) (Y:List O5) (J:Aj) (s:OZ) (fr:List Env) (e:O5) (s':OZ):Prop:=
 ∃(s2:OZ) (bH:List O5) (bD:Aj) (frs:List O5) (t:O5) (tk:Tok),Ck C Y s bH bD s2∧cut bD J.length=some J∧lK bH bD frs∧O9.FlyingW (rT s2.heap frs) fr e (.type "ValueError") (.ref t) s'.heap∧s2.heap.UpToSlots s'.heap ∧
  s'.heap.TupAt t [.str k7 tk]∧s'.os=s2.os∧s'.gens=s2.gens∧(∀AA∈fr,∀L,AA.frame=some L->L∈frs)∧(rT s2.heap frs).get? t=none
theorem Yb (L':Ce g L n)(W:Wd C g)(I:Bh C Y J s){a:O5}{d:Ek}(hd:g.D a=some d){A:O8}(R:Dq A (n+1)){fr:List Env}(BG:A.frames=some fr)(FO:Je Y J fr){args:List V}{xs:List OY}{l:List (O7×V)}{x:Aj}
 (hb:Hr d args []=some l) (ra:Bv C Y s.heap args xs) (ok:okScope d.scope=true) (AL:Fu d.scope.names [] (J++[.fr []])=([],J++[.fr []])) (h1:Em { scope:=d.scope,f:=J.length,cells:=[],tab:=d.tab,muts:=d.muts } l (J++[.fr []])=some (J++x))
 {t fR:O6}{xn:O7}{np KD pos p:Pos}{o AM:List PC} (BF:d.body = .If t [.Raise (some (.Call (.Name xn np) [fR] [] KD)) none pos] o p::AM)
 (ht:L.ts { scope:=d.scope,f:=J.length,cells:=[],tab:=d.tab,muts:=d.muts } t (J++x)=some (true,J++x)) (hx:Dc g { scope:=d.scope,f:=J.length,cells:=[],tab:=d.tab,muts:=d.muts } xn (J++x)=some (.ty "ValueError"))
 (he:Kb L { scope:=d.scope,f:=J.length,cells:=[],tab:=d.tab,muts:=d.muts } [fR] (J++x)=some ([.str k7],J++x)) (CZ:cut (J++x) J.length=some J) (HB:∃m,(J++x)[J.length]?=some (.fr m)) (BM:∀AA:Env,starEach [fR] AA=(false,eval fR AA)::starEach [] AA){Q E:OY->OZ->Prop}
 (K:∀e s',zN C Y J s fr e s'->E (.ref e) s'):PD C.md A (call (.ref a) xs) Q E s:=by
 obtain ⟨ob,fd,D⟩:=W.defs _ _ hd;obtain ⟨bs,EM,rb⟩:=Pv W I D (vkw:=[]) hb ra rfl;have hs:=D.scope;have E4:okScope fd.scope=true:=by rw[hs];exact ok
 obtain ⟨o1,o2,o3,o4,o5⟩:=Cn E4;refine wpAny_call (codeAny_call_function R.depth (W.defAt I D) D.dat o4 o5 D.body (I.codeRec W D.code) (EM _ _ _ _ ?_));rw[D.clos,D.gl,D.bl];refine Ku (n:=n) (tab:=d.tab) (muts:=d.muts) R.in1 I E4 Cd.nil D.tab rb (by rw[hs,AL];exact h1) fun Pr s1 AQ G X AY Z Z Z=>⟨G.inv.noLimit W,codeAny_func ?_⟩;rw[hs,AL] at X;rw[BF];refine wpAny_execs_cons (wpAny_If (L'.ts W G.inv X ht _ _ _ (R.deeper AQ) fun bH s2 r G2 hr=>?_));rw[hr];have GG:=G.trans G2;refine wpAny_execs_cons (Raise_madeB F.excCall_ValueError F.excRaise_ValueError (R.deeper AQ).hd (Kj W GG.inv (X.go G2) hx fun v rv=>⟨rv,Lk L' W GG.inv (X.go G2) he _ _ _ (R.deeper AQ) fun bG s4 ys G4 ry=>?_⟩) (BM AQ) rfl);obtain ⟨v,BB,rfl,rv1,rv2⟩:=ry;obtain ⟨tk,rfl⟩:=rv1;obtain rfl:=rv2;have G5:=GG.trans G4;have X5:=(X.go G2).go G4;refine ⟨by show 1≤sizeLine;decide +kernel,fun h' ex hm=>?_⟩;obtain ⟨tt,DF⟩:=G5.mv.ext;obtain ⟨mfr,J7⟩:=HB;have F5:Je bG (J++x) fr:=by rw[DF];exact FO.ext I.len
 have F6:Je bG (J++x) (AQ::fr):=fun AA m=>by
  rcases wk.mp m with rfl|m
  ·exact ⟨by rw[X5.sc];exact (Cn ok).1,_,_,_,AY,(X5.loc),J7⟩
  ·exact F5 AA m
 have BI:∀AA∈AQ::fr,∀Lx,AA.frame=some Lx->Lx∈(AQ::fr).filterMap (·.frame):=fun AA m Lx e=>Aai.mpr (Mine.w12 AA m e);refine wpAny_leaves_madeW (base:=rT s4.heap ((AQ::fr).filterMap (·.frame))) (h:=s4.heap) (by show A.frames.map _=_;rw[BG];rfl) AY qE (Je.fun G5.inv F6 BI) hm.of fun D1 t' fl tup tn sl=>K ex _ ⟨s4,bG,J++x,_,t',tk,G5,CZ,F6.frs,fl,?_,tup,rfl,rfl,fun AA m=>BI AA (.tail _ m),tn⟩;exact (O9.UpToSlots.of_keeps hm.keeps).trans sl
theorem g6 {x:Aj}(h1:cut Ai (J++x).length=some (J++x))(h2:cut (J++x) J.length=some J):cut Ai J.length=some J:=by
 unfold cut at *
 split at h1
 ·have e1:=wx h1;split at h2
  ·rename_i c2;have e2:(J++x).take J.length=J:=by simp
   have e4:(Ai.take (J++x).length).take J.length=Ai.take J.length:=by rw[List.take_take,Nat.min_eq_left (by rw[xb];lia)]
   have e3:Ai.take J.length=J:=by
    rw[← e4,e1];simp
   rw[e2] at c2;rw[e3,c2];rfl
  ·cases h2
 ·cases h1
theorem Oe (L':Ce g L n)(W:Wd C g)(I:Bh C Y J s){a:O5}{d:Ek}(hd:g.D a=some d){A:O8}(R:Dq A (n+1)){fr:List Env}(BG:A.frames=some fr)(FO:Je Y J fr){args:List V}{xs:List OY}{l:List (O7×V)}{x:Aj}
 (hb:Hr d args []=some l) (ra:Bv C Y s.heap args xs) (ok:okScope d.scope=true) (AL:Fu d.scope.names [] (J++[.fr []])=([],J++[.fr []])) (h1:Em { scope:=d.scope,f:=J.length,cells:=[],tab:=d.tab,muts:=d.muts } l (J++[.fr []])=some (J++x))
 {t:O6}{nm bn:O7}{q bq bp ap p:Pos}{FB:List O6}{r1 o AM:List PC} (BF:d.body = .If t (.Assign [.Name nm q] (.Call (.Name bn bq) FB [] bp) ap::r1) o p::AM)
 (ht:L.ts { scope:=d.scope,f:=J.length,cells:=[],tab:=d.tab,muts:=d.muts } t (J++x)=some (true,J++x)){b:O5}{bd:Ek}{vs:List V} (hbn:Dc g { scope:=d.scope,f:=J.length,cells:=[],tab:=d.tab,muts:=d.muts } bn (J++x)=some (.fn b)) (D9:g.D b=some bd)
 (he:Kb L { scope:=d.scope,f:=J.length,cells:=[],tab:=d.tab,muts:=d.muts } FB (J++x)=some (vs,J++x)) (CZ:cut (J++x) J.length=some J) (HB:∃m,(J++x)[J.length]?=some (.fr m))
 (BI:∀{An:List O5}{Ao:OZ}{ys:List OY}{A':O8}{C3:List Env}{Q E:OY->OZ->Prop},Bh C An (J++x) Ao->Dq A' n->A'.frames=some C3->Je An (J++x) C3->Bv C An Ao.heap vs ys->(∀e s',zN C An (J++x) Ao C3 e s'->E (.ref e) s')->PD C.md A' (call (.ref b) ys) Q E Ao)
 {Q E:OY->OZ->Prop} (K:∀e s',zN C Y J s fr e s'->E (.ref e) s'):PD C.md A (call (.ref a) xs) Q E s:=by
 obtain ⟨ob,fd,D⟩:=W.defs _ _ hd;obtain ⟨bs,EM,rb⟩:=Pv W I D (vkw:=[]) hb ra rfl;have hs:=D.scope;have E4:okScope fd.scope=true:=by rw[hs];exact ok
 obtain ⟨o1,o2,o3,o4,o5⟩:=Cn E4;refine wpAny_call (codeAny_call_function R.depth (W.defAt I D) D.dat o4 o5 D.body (I.codeRec W D.code) (EM _ _ _ _ ?_));rw[D.clos,D.gl,D.bl];refine Ku (n:=n) (tab:=d.tab) (muts:=d.muts) R.in1 I E4 Cd.nil D.tab rb (by rw[hs,AL];exact h1) fun Pr s1 AQ G X AY Z Z Z=>⟨G.inv.noLimit W,codeAny_func ?_⟩;rw[hs,AL] at X;rw[BF];refine wpAny_execs_cons (wpAny_If (L'.ts W G.inv X ht _ _ _ (R.deeper AQ) fun bH s2 r G2 hr=>?_));rw[hr];have GG:=G.trans G2;have X2:=X.go G2;refine wpAny_execs_cons (wpAny_Assign_Name (Ve L' W GG.inv X2 hbn D9 he (R.deeper AQ) fun Bl Be ys Bm ry=>?_) (Ez rfl));have G5:=GG.trans Bm;have X5:=X2.go Bm;obtain ⟨tt,DF⟩:=G5.mv.ext;obtain ⟨mfr,J7⟩:=HB;have F6:Je Bl (J++x) (AQ::fr):=fun AA m=>by
  rcases wk.mp m with rfl|m
  ·exact ⟨by rw[X5.sc];exact (Cn ok).1,_,_,_,AY,(X5.loc),J7⟩
  ·have:Je Bl (J++x) fr:=by rw[DF];exact FO.ext I.len
   exact this AA m
 refine BI G5.inv (R.deeper AQ) (by show A.frames.map _=_;rw[BG];rfl) F6 ry fun ex s' T=>?_;obtain ⟨s3,Td,Su,frs,t',tk,T1,T2,T3,T4,T5,T6,T7,T8,T9,KX⟩:=T;refine wpAny_leaves_onW (by show A.frames.map _=_;rw[BG];rfl) AY T4 fun D1 fl sl=>K ex _ ⟨s3,Td,Su,frs,t',tk,G5.trans T1,g6 T2 CZ,T3,fl,T5.trans sl,T6.of_slots sl,T7,T8,fun AA m=>T9 AA (.tail _ m),KX⟩
theorem Yo (I:Bh C Y J s){frs:List O5}(hf:lK Y J frs){a:O5}{o:Obj}(h0:(rT s.heap frs).get? a=none)(hu:s.heap.UpToSlots h')(ho:h'.get? a=some o)(hd:∀es n,o.data≠.dict es n):a∉Y:=fun m=>by
 obtain ⟨o2,h2⟩:=I.at m;by_cases hb:a∈frs
 ·obtain ⟨i,mm,q1,q2⟩:=hf a hb;obtain ⟨f,⟨o3,es,ep,h3,hdat,_⟩,_⟩:=I.objs _ _ _ q1 q2;obtain ⟨sl,h4⟩:=hu a o3 h3 fun vs q=>by rw[hdat] at q;cases q
  rw[ho] at h4;cases h4;exact hd _ _ hdat
 ·rw[Zu hb,h2] at h0;cases h0
theorem vH {Bl:List O5}(I:Bh C Y J s)(G:Ck C Y s Bl Av s')(hl:Av.length=J.length):Bl=Y:=by
 obtain ⟨t,rfl⟩:=G.mv.ext;have h1:=G.inv.len;rw[xb,I.len,hl] at h1;have:t=[]:=Aak (by lia);rw[this,xx]
theorem uR {A:O8}(hu:A.units+64<cLine)(W:Wd C g)(I:Bh C Y J s)(X:Ba C Y e AA){DW rn:O7}{p1 p2 p3:Pos}{ex t:O5}{tk:Tok}(hs:Dc g e DW J=some (.ty "str"))(hl:e.kind rn=some .local){f:O7->Option OY}(hn:s.heap.Ns AA.locals f)(hf:f rn=some (.ref ex))
 (hx:s.heap.ExcAt ex "ValueError" (.ref t)) (ht:s.heap.TupAt t [.str k7 tk]){Q E:OY->OZ->Prop} (K:Q (.str k7 tk) s):PD C.md A (eval (.Call (.Name DW p1) [.Name rn p2] [] p3) AA) Q E s:=by
 refine wpAny_Call_Name_kw (Kj W I X hs fun vf rf=>?_);obtain rfl:=rf;have h2:dG (Aw g 0) e [] J=some ([],J):=rfl;obtain ⟨k1,k2,k3⟩:=Ni (L:=Aw g 0) (AA:=AA) (p:=p3) h2;refine callWith_of (P:=fun Z=>True) (by rw[k1];rfl) (fun Z Z=>⟨.machine,.inr (.inl rfl),.now⟩) ?_;have e1:backTo p3 (starEach [.Name rn p2] AA)=(false,eval (.Name rn p2) AA)::backTo p3 (starEach [] AA):=rfl;rw[e1];have J3:∀{Q':OY->OZ->Prop},Q' (.ref ex) s->PD C.md A (eval (.Name rn p2) AA) Q' E s:=fun q=>
  wpAny_Name (wpAny_loadName_local X.fn ((X.kind rn).trans hl) hn hf q) (X.noDebug hl)
 refine evalArgs_kw k2 (wpAny_items_cons (J3 (wpAny_items_nil (wpAny_evalAll_nil ⟨trivial,?_⟩))) rfl);exact P.str_of_exc_one F.excStr_ValueError (by lia) hx ht K
theorem Sn {x:O7}:∀(m:List (O7×V))(y:O7),(m.filter fun p=>!(p.1==x)).lookup y=if y=x then none else m.lookup y:=by
 intro X
 induction X with
 |nil=>
  intro y;simp[List.lookup]
 |cons X r ih=>
  obtain ⟨z,u⟩:=X;intro y;rw[List.filter_cons];by_cases hz:z=x
  ·subst hz;rw[if_neg (by simp),ih y,y6];by_cases h:y=z
   ·rw[if_pos h,if_pos h]
   ·rw[if_neg h,if_neg h,beq_eq_false_iff_ne.mpr h]
  ·rw[if_pos (by simpa using hz),y6,y6,ih y];by_cases h:y=z
   ·subst h;simp[hz]
   ·rw[beq_eq_false_iff_ne.mpr h]
theorem iC {k:Nat}{x:O7}:∀{m:List (O7×V)},Bg k m=true->Bg k (m.filter fun p=>!(p.1==x))=true:=by
 intro X
 induction X with
 |nil=>
  intro h;exact h
 |cons X r ih=>
  obtain ⟨z,u⟩:=X;intro h;rw[Gu] at h;rw[wm] at h;rw[List.filter_cons];split
  ·rw[Gu];rw[h.1,ih h.2];rfl
  ·exact ih h.2
theorem zV {k:Nat}{x:O7}:∀{m:List (O7×V)},Bg k m=true->Bg k (put m x .opq)=true:=by
 intro X
 induction X with
 |nil=>
  intro Z
  rfl
 |cons X r ih=>
  obtain ⟨z,u⟩:=X;intro h;rw[Gu] at h;rw[wm] at h;rw[Kk];split
  ·show (true&&Bg _ _)=true;rw[h.2];rfl
  ·rw[Gu];rw[h.1,ih h.2];rfl
theorem o7 (L':Ce g L n)(W:Wd C g)(I:Bh C Y J s)(X:Ba C Y e AA){A:O8}(R:Dq A n)(BG:A.frames=some [AA])(AY:AA.frame=some AA.locals){m:List (O7×V)}(hm:J[e.f]?=some (.fr m))
 {sn vn rn DW IN HV:O7}{sq cp ep vp sp1 rp cp2 mp p1 rp1 bp1 p2 bop ip hp tp:Pos}{ck:Nat}{args:List O6}{b1 b2:PC}{a:O5}{d:Ek}{vs:List V}{rv bv:V}
 (h0:Dc g e sn J=some (.fn a)) (hd:g.D a=some d) (h1:Kb L e args J=some (vs,J)) (hv:Dc g e vn J=some (.ty "ValueError")) (EG:e.kind rn=some .local) (BM:Dj e rn .opq J=some (J.set e.f (.fr (put m rn .opq))))
 (LM:Dc g e DW (J.set e.f (.fr (put m rn .opq)))=some (.ty "str")) (BZ:Dc g e IN (J.set e.f (.fr (put m rn .opq)))=some rv) (FX:Dc g e HV (J.set e.f (.fr (put m rn .opq)))=some bv) (DK:Rc (J.set e.f (.fr (put m rn .opq))) 8 rv bv=some true)
 (BI:∀{An:List O5}{Ao:OZ}{ys:List OY}{A':O8}{C3:List Env}{Q E:OY->OZ->Prop},Bh C An J Ao->Dq A' n->A'.frames=some C3->Je An J C3->Bv C An Ao.heap vs ys->(∀e s',zN C An J Ao C3 e s'->E (.ref e) s')->PD C.md A' (call (.ref a) ys) Q E Ao)
 {Q:Flow->OZ->Prop}{E:OY->OZ->Prop} (K:∀s' m',(∀x,(x==rn)=false->m'.lookup x=m.lookup x)->(∀k,Bg k m=true->Bg k m'=true)->Ck C Y s Y (J.set e.f (.fr m')) s'->Q .next s') :
 PD C.md A (exec (.Try [.Expr (.Call (.Name sn sq) args [] cp) ep,b1] [.ExceptHandler (some (.Name vn vp)) (some rn) [.If (.BoolOp .Or [.Compare (.Call (.Name DW sp1) [.Name rn rp] [] cp2) [.NotEq] [.Constant (.str k7) ck mp] p1,.Compare (.Name IN rp1) [.NotEq] [.Name HV bp1] p2] bop) [b2] [] ip] hp] [] [] tp) AA) Q E s:=by
 refine wpAny_Try_except (wpAny_execs_cons (wpAny_Expr (Ve L' W I X h0 hd h1 R fun Bl Be xs Bm rs=>?_) (by unfold interactive;rw[X.fn];rfl) (Ez rfl)));obtain rfl:=vH I Bm rfl;have FO:Je Bl J [AA]:=fun AQ DU=>by
  rw[wl] at DU;rw[DU];exact ⟨(show AA.scope.kind = .function from by rw[X.sc];exact (Cn X.ok).1),_,_,_,AY,X.loc,hm⟩
 refine BI Bm.inv R BG FO rs fun ex s' T=>?_;obtain ⟨s2,bH,bD,frs,t,tk,T1,T2,T3,T4,T5,T6,T7,T8,T9,KX⟩:=T;have go:∀{h5:O9},O9.FlyingW (rT s2.heap frs) [AA] ex (.type "ValueError") (.ref t) h5->s2.heap.UpToSlots h5->Ck C Bl s Bl J { s' with heap:=h5 }:=fun {h5} F5 U5=>
  (Nt I ((Bm.trans T1).trans (uW T1.inv T3 (s':={ s' with heap:=h5 }) F5.1 U5 T7 T8)) T2).1
 refine wpAny_looks_onW BG AY T4 fun h4 H4 U4=>?_;refine wpAny_landsW (s:={ s' with heap:=h4 }) H4 fun h5 F5 U5=>?_;have MV:s2.heap.UpToSlots h5:=T5.trans (U4.trans U5);have G5:=go F5 MV;refine wpAny_handleBy_builtin_as (X:="ValueError") (T:="ValueError") (b:=true) F.isExc_ValueError F.notTuple_ValueError (by rw[isSubtype_type];kernel_rfl) (Kj W G5.inv (X.go G5) hv fun c hc=>?_);obtain ⟨ob,EE,MQ⟩:=F5.there;refine ⟨hc,(Mine.w12 ob EE MQ),?_⟩;refine lands_againW F5 fun h6 F6 U6=>?_;have KU:s2.heap.UpToSlots h6:=MV.trans U6;have G6:=go F6 KU;have X6:=X.go G6;obtain ⟨oe,ws,OT,LA,IX,KO⟩:=F6.first;obtain ⟨ot,nt,OD,LU,G9⟩:=T6.of_slots (U4.trans (U5.trans U6));have sub:∀x,x∉bH->x∉Bl:=fun x hx m=>by
  obtain ⟨tt,DF⟩:=T1.mv.ext;exact hx (by rw[DF];exact xp _ m)
 obtain ⟨f6,hn6,MB⟩:=(G6.inv.objs _ _ _ X6.loc hm);refine wpAny_storeName_local ((X6.kind rn).trans EG) hn6 (fun h7 J9 hs7=>?_) (by rw[X6.fn];rfl);have MX:=G6.inv.update (h':=h7) X6.loc (fun b o hb e=>(hs7.2 b hb).trans e) (ao:=.fr (put m rn .opq)) fun M=>⟨_,J9,fun y=>by
  rw[Lf];by_cases q:y=rn
  ·rw[if_pos q,if_pos q];exact trivial
  ·rw[if_neg q,if_neg q];exact (MB y).mv M⟩
 have U7:Ck C Bl { s' with heap:=h6 } Bl (J.set e.f (.fr (put m rn .opq))) { s' with heap:=h7,toks:=s'.toks+1 }:=⟨MX.inv.tok _,MX.mv⟩;have I7:=U7.inv;have X7:=X6.go U7;have huM:(A.mark (some (.ref ex))).units+64<cLine:=(R.units64);refine wpAny_execs_cons (wpAny_If (wpAny_isTrue_BoolOp (wpAny_allTrue_Or_cons (wpAny_isTrue_Compare1 (uR huM W I7 X7 LM EG J9 (by rw[if_pos rfl]) ((Mine.e2 oe ws ⟨U7.mv.keep _ _ (sub _ (Yo T1.inv T3 F6.2.1 KU OT fun es n q=>by rw[IX] at q;cases q)) OT,LA,IX,KO⟩)) ((Mine.e2 ot nt ⟨U7.mv.keep _ _ (sub _ (Yo T1.inv T3 KX KU OD fun es n q=>by rw[G9] at q;cases q)) OD,LU,G9⟩)) (wpAny_Constant_str ?_)) rfl))));have I8:=I7.tok (s'.toks+1+1);have X8:Ba C Bl e AA:=X7;refine (kU I8 8 (A.mark (some (.ref ex))) (.str k7) (.str k7) _ _ true (by lia) rfl ⟨_,rfl⟩ ⟨_,rfl⟩).1.2 C.prog C.w _ _ (wpAny_truthy_bool ?_);refine wpAny_allTrue_Or_cons (wpAny_isTrue_Compare1 (Kj W I8 X8 BZ fun v1 r1=>Kj W I8 X8 FX fun v2 r2=>?_) rfl);refine (kU I8 8 (A.mark (some (.ref ex))) rv bv _ _ true (by lia) DK r1 r2).1.2 C.prog C.w _ _ (wpAny_truthy_bool ?_);refine wpAny_allTrue_Or_nil ?_;refine wpAny_execs_nil (wpAny_execs_nil ?_);refine wpAny_nameGoes_keeps ((X8.kind rn).trans EG) J9 (by rw[X8.fn];rfl) fun h9 v M8 NL=>?_;have hm7:((fun y=>if y=rn then v else (fun y=>if y=rn then some (OY.ref ex) else f6 y) y):O7->Option OY)=fun y=>if y=rn then v else f6 y:=funext fun y=>by
  by_cases q:y=rn
  ·simp only[if_pos q]
  ·simp only[if_neg q]
 cases v with
 |none=>
  have U9:=I8.update (h':=h9) X8.loc (fun b o hb e=>(NL.2 b hb).trans e) (ao:=.fr (m.filter fun p=>!(p.1==rn))) fun M=>⟨_,M8,fun y=>by
   rw[Sn];by_cases q:y=rn
   ·rw[if_pos q,if_pos q];exact trivial
   ·rw[if_neg q,if_neg q,if_neg q];exact ((MB y).mv U7.mv).mv M⟩
  rw[List.set_set] at U9;exact K _ (m.filter fun p=>!(p.1==rn)) (fun x hx=>by rw[Sn,if_neg (fun q=>by rw[q] at hx;simp at hx)]) (fun k hk=>iC hk) (((G6.trans U7).trans (Ck.tok I7 _)).trans ⟨U9.inv.tok _,U9.mv⟩)
 |some w=>
  have U9:=I8.update (h':=h9) X8.loc (fun b o hb e=>(NL.2 b hb).trans e) (ao:=.fr (put m rn .opq)) fun M=>⟨_,M8,fun y=>by
   rw[Lf];by_cases q:y=rn
   ·rw[if_pos q,if_pos q];exact trivial
   ·rw[if_neg q,if_neg q,if_neg q];exact ((MB y).mv U7.mv).mv M⟩
  rw[List.set_set] at U9;exact K _ (put m rn .opq) (fun x hx=>by rw[Lf,if_neg (fun q=>by rw[q] at hx;simp at hx)]) (fun k hk=>zV hk) (((G6.trans U7).trans (Ck.tok I7 _)).trans ⟨U9.inv.tok _,U9.mv⟩)
theorem aq (L':Ce g L n)(W:Wd C g)(I:Bh C Y J s)(X:Ba C Y e AA){A:O8}(R:Dq A n){t i:O6}{b:List PC}{p:Pos}(h0:Hx g L e i J=some (sr,Ab))(ht:okTgt sr t=true){St:Nat->Aj->Prop}{N:Nat}{vf:Nat->V}(S0:St 0 Ab)
 (hn:∀k J,St k J->Da J sr k=some (if k<N then some (vf k) else none))
 (hb:∀k J,k<N->St k J->∃bD,Cy e t (vf k) J=some bD∧∀{C':Cx}{Bx:List O5}{s':OZ}{Q:Flow->OZ->Prop}{E:OY->OZ->Prop},Wd C' g->Bh C' Bx bD s'->Ba C' Bx e AA->(∀DQ Su,St (k+1) Su->Ck C' Bx s' Bx Su DQ->Q .next DQ)->PD C'.md A (execs b AA) Q E s')
 {Q:Flow->OZ->Prop}{E:OY->OZ->Prop} (K:∀Bx s' Av,St N Av->Ck C Y s Bx Av s'->Q .next s'):PD C.md A (exec (.For t i b [] p) AA) Q E s:=by
 refine wpAny_For (aD L' W I X h0 R fun An Cj hp tk AH it G kx E0 NY=>?_) (Nf h0);have LQ:Bh (C.wo (AH++C.off)) An Ab { Cj with heap:=hp,toks:=tk }:=G.inv.enter kx fun a m=>⟨E0 a m,NY.live a m⟩;have I0:=G.inv.apart E0;refine codeAny_forLoop_any (fun m sk=>∃Hw Pu k,Bh (C.wo (AH++C.off)) Hw Pu sk∧Mv An Hw Cj.heap sk.heap∧Ge (C.wo (AH++C.off)) Hw sk.heap sr AH it k∧St k Pu∧k+m=N+1∧k≤N) ?_ (N+1)
  ⟨An,Ab,0,LQ,⟨⟨[],(xx _).symm⟩,fun Z m=>.inl m,fun b o Z e=>kx b o e⟩,NY,S0,by lia,wz _⟩
 rintro m sk ⟨Hw,Pu,k,Ik,Mk,Sk,hk,hkm,hkl⟩;cases m with
 |zero=>exact absurd hkm (by lia)
 |succ m=>
  by_cases AZ:k<N
  ·have hv:Da Pu sr k=some (some (vf k)):=by rw[hn k Pu hk,if_pos AZ]
   refine Tp I0 E0 Ik Mk Sk hv ht R.hd (fun q=>by cases q) fun v' h2 FG x q I2 M2 rx S2=>?_;cases q;have X2:Ba (C.wo (AH++C.off)) Hw e AA:=((X.go G).wo _).mv M2;obtain ⟨bD,LC,BF⟩:=hb k Pu AZ hk;refine Qy (C:=C.wo (AH++C.off)) t X2 I2 rx LC A _ _ R fun Td s3 Z g3 Z=>?_;refine BF (C':=C.wo (AH++C.off)) (W.off _) g3.inv (X2.go g3) fun s4 Su hs4 g4=>?_;have CH:=g3.trans g4;exact ⟨m,z5 _,Td,Su,k+1,g4.inv,M2.trans CH.mv,S2.gen (AC:=AH++C.off) CH.mv.kp fun a m o e=>CH.mv.keep a o ((fun a m=>(I2.offs a (xp _ m)).1) a m) e,hs4,by lia,by assumption⟩
  ·have hv:Da Pu sr k=some none:=by rw[hn k Pu hk,if_neg AZ]
   refine Tp I0 E0 Ik Mk Sk hv ht R.hd (fun Z h2 FG I2 M2=>?_) (fun v' h2 FG x q=>by cases q);exact wpAny_execs_nil (K _ _ _ ((show k=N from by lia) ▸ hk) (G.trans ⟨I2,M2⟩))
section
variable {a x hv:V}{lo:Int}{p:Bool}
theorem Zy (O:Dw J){o:Cv}:cut (J++[o]) J.length=some J:=by
 unfold cut;rw[show (J++[o]).take J.length=J by simp,O.cl]
 rfl
theorem dN {m:Aj}(BC:lo<0):Dx m .Lt (.int lo p) (Bi 0)=some true:=by
 show some (decide (lo<0))=_;rw[decide_eq_true BC]
theorem bN (n:Nat)(W:Wd C gl){Y:List O5}{s:OZ}(I:Bh C Y J s)(O:Dw J){A:O8}(R:Dq A (n+10)){fr:List Env}(BG:A.frames=some fr)(FO:Je Y J fr){args:List V}{xs:List OY}(BC:lo<0)(hb:Hr Gi args []=some (aT a x (.int lo p) hv .none))
 (ra:Bv C Y s.heap args xs){Q E:OY->OZ->Prop} (K:∀e s',zN C Y J s fr e s'->E (.ref e) s'):PD C.md A (call (.ref 50) xs) Q E s:=
 Yb (d:=Gi) (x:=[.fr (bF a x .none (.int lo p) hv none)]) (Mu gl (n+9)) W I Rs R BG FO hb ra rfl rfl (Jn _ [] rfl rfl) rfl (Bd rfl (Ad rfl Af rfl) Aq (dN BC)) (Az rfl rfl) (Ae rfl aN Al) (Zy O) ⟨_,Af⟩ (fun Z=>rfl) K
theorem fA (n:Nat)(W:Wd C gl){Y:List O5}{s:OZ}(I:Bh C Y J s)(O:Dw J){A:O8}(R:Dq A (n+10)){fr:List Env}(BG:A.frames=some fr)(FO:Je Y J fr){args:List V}{xs:List OY}(BC:lo<0)(hb:Hr Gj args []=some (aT a x (.int lo p) hv .none))
 (ra:Bv C Y s.heap args xs){Q E:OY->OZ->Prop} (K:∀e s',zN C Y J s fr e s'->E (.ref e) s'):PD C.md A (call (.ref 32) xs) Q E s:=
 Yb (d:=Gj) (x:=[.fr (bF a x .none (.int lo p) hv none)]) (Mu gl (n+9)) W I Ry R BG FO hb ra rfl rfl (Jn _ [] rfl rfl) rfl (Bd rfl (Ad rfl Af rfl) Aq (dN BC)) (Az rfl rfl) (Ae rfl aN Al) (Zy O) ⟨_,Af⟩ (fun Z=>rfl) K
theorem xB (n:Nat)(W:Wd C gl){Y:List O5}{s:OZ}(I:Bh C Y J s)(O:Dw J){A:O8}(R:Dq A (n+20)){fr:List Env}(BG:A.frames=some fr)(FO:Je Y J fr){args:List V}{xs:List OY}(BC:lo<0)(hb:Hr fo args []=some (aT a x (.int lo p) .none .none))(AL:Cg (J.length+1) (.fr (bF a x .none (.int lo p) .none none))=true)
 (ra:Bv C Y s.heap args xs){Q E:OY->OZ->Prop} (K:∀e s',zN C Y J s fr e s'->E (.ref e) s'):PD C.md A (call (.ref 41) xs) Q E s:=
 Oe (d:=fo) (x:=[.fr (bF a x .none (.int lo p) .none none)]) (vs:=[a,x,.int lo p,.none]) (Mu gl (n+19)) W I gQ R BG FO hb ra rfl rfl (Jn _ [] rfl rfl) rfl (Bd rfl (Ad rfl Af rfl) Ds (c:=true) rfl) (Az rfl rfl) Rs
  (Ae rfl (Ad rfl Af rfl) (Ae rfl (Ad rfl Af rfl) (Ae rfl (Ad rfl Af rfl) (Ae rfl (Ad rfl Af rfl) Al)))) (Zy O) ⟨_,Af⟩
  (fun I' R' BV DT D8 K'=>bN (n+9) (a:=a) (x:=x) (hv:=.none) (lo:=lo) (p:=p) W I' (O.push AL) R' BV DT BC rfl D8 K') K
theorem uP (n:Nat)(W:Wd C gl){Y:List O5}{s:OZ}(I:Bh C Y J s)(O:Dw J){A:O8}(R:Dq A (n+20)){fr:List Env}(BG:A.frames=some fr)(FO:Je Y J fr){args:List V}{xs:List OY}(BC:lo<0)(hb:Hr nL args []=some (aT a x (.int lo p) .none .none))(AL:Cg (J.length+1) (.fr (bF a x .none (.int lo p) .none none))=true)
 (ra:Bv C Y s.heap args xs){Q E:OY->OZ->Prop} (K:∀e s',zN C Y J s fr e s'->E (.ref e) s'):PD C.md A (call (.ref 23) xs) Q E s:=
 Oe (d:=nL) (x:=[.fr (bF a x .none (.int lo p) .none none)]) (vs:=[a,x,.int lo p,.none]) (Mu gl (n+19)) W I Zh R BG FO hb ra rfl rfl (Jn _ [] rfl rfl) rfl (Bd rfl (Ad rfl Af rfl) Ds (c:=true) rfl) (Az rfl rfl) Ry
  (Ae rfl (Ad rfl Af rfl) (Ae rfl (Ad rfl Af rfl) (Ae rfl (Ad rfl Af rfl) (Ae rfl (Ad rfl Af rfl) Al)))) (Zy O) ⟨_,Af⟩
  (fun I' R' BV DT D8 K'=>fA (n+9) (a:=a) (x:=x) (hv:=.none) (lo:=lo) (p:=p) W I' (O.push AL) R' BV DT BC rfl D8 K') K
end
section
variable {d:Nat->Int}{ds:Nat->Bool}{o:Option V}{R:List (Int×Bool)}{U D:List (Int×Int)}
structure LF (d:Nat->Int)(ds:Nat->Bool)(F:List (O7×V)):Prop where
 dr:F.lookup ("drawn":O7)=some (rB d ds)
 bf:F.lookup ("before":O7)=some (.ref 16)
 cl:Bg 17 F=true
theorem LF.put {F:List (O7×V)}(W:LF d ds F){x:O7}{v:V}(hv:Ar 17 v=true)(h1:(("drawn":O7)==x)=false)(h2:(("before":O7)==x)=false):LF d ds (put F x v):=
 ⟨by rw[Bp h1];exact W.dr,by rw[Bp h2];exact W.bf,Kz hv W.cl⟩
def Sw (U D:List (Int×Int)) (R:List (Int×Bool)):List Cv:=Jr U D++[.lst (R.map sv)]
theorem cu (ho:∀k,Ht k o=true){F:List (O7×V)}(hF:Bg 17 F=true):Dw (Bt F (Df d o R) (Sw U D R)):=by
 have h1:∀(k:Nat) (L:List (Int×Int)),Di k (L.map vU)=true:=fun k L=>by
  induction L with
  |nil=>rw[yl,Gx]
  |cons x L ih=>
   rw[x8,Fw,ih];unfold vU Bi;rw[Ev];rfl
 have h2:∀(k:Nat) (L:List (Int×Int)),Di k (L.map vD)=true:=fun k L=>by
  induction L with
  |nil=>rw[yl,Gx]
  |cons x L ih=>
   rw[x8,Fw,ih];unfold vD;rw[Ev];rfl
 refine Fx hF (Ug ho) ?_;unfold Sw Jr;simp only[List.cons_append,List.nil_append,Ia,Tx,Cg,h1,h2,Hh]
 rfl
def bc:PC->List PC
 |.Try b _ _ _ _=>b
 |_=>[]
def bB (k:Nat):V:=match k with
 |0=>.fn 50
 |1=>.fn 32
 |2=>.fn 41
 |_=>.fn 23
def Vh (d:Nat->Int):Int:=-1-(d 4).fmod 3
theorem Ra:Vh d<0:=by
 have h1:0≤(d 4).fmod 3:=by rw[zq _ (by decide)];exact Int.emod_nonneg _ (by decide)
 unfold Vh
 bv_omega
def St24 (d:Nat->Int) (ds:Nat->Bool) (o:Option V) (R:List (Int×Bool)) (U D:List (Int×Int)) (k:Nat) (J:Aj):Prop:=∃F,J=Bt F (Df d o R) (Sw U D R)∧LF d ds F
def pw:PC:=Bs Cm.body 24
theorem ph {C:Cx}(W:Wd C gl){Y:List O5}{s:OZ}{AA:Env}{F:List (O7×V)}(I:Bh C Y (Bt F (Df d o R) (Sw U D R)) s)(X:Ba C Y (tE Cm) AA){A:O8}(Rm:Dq A 60)(BG:A.frames=some [AA])(AY:AA.frame=some AA.locals)(ho:∀k,Ht k o=true)(hR:R.length≤16)
 (hF:LF d ds F){a:Nat}{dd:Ek} (hs:F.lookup ("search":O7)=some (.fn a)) (hd:gl.D a=some dd)
 (BI:∀{An:List O5}{Ao:OZ}{ys:List OY}{A':O8}{C3:List Env}{Q E:OY->OZ->Prop},Bh C An (Bt F (Df d o R) (Sw U D R)) Ao->Dq A' 60->A'.frames=some C3->Je An (Bt F (Df d o R) (Sw U D R)) C3->Bv C An Ao.heap [.lst (R.map sv),.int (d 4) (ds 4),.int (Vh d) false] ys->(∀e s',zN C An (Bt F (Df d o R) (Sw U D R)) Ao C3 e s'->E (.ref e) s')->PD C.md A' (call (.ref a) ys) Q E Ao)
 {Q:Flow->OZ->Prop}{E:OY->OZ->Prop} (K:∀s' F',LF d ds F'->Ck C Y s Y (Bt F' (Df d o R) (Sw U D R)) s'->Q .next s'):PD C.md A (exec (Bs (Bq pw) 0) AA) Q E s:=by
 have BZ:∀F',Dc gl (tE Cm) "row" (Bt F' (Df d o R) (Sw U D R))=some (.lst (R.map sv)):=fun F'=>Sc rfl rfl rfl;have FX:∀F',F'.lookup ("before":O7)=some (.ref 16)->Dc gl (tE Cm) "before" (Bt F' (Df d o R) (Sw U D R))=some (.ref 16):=fun F' h=>Dy rfl rfl h;have HI:Kb (Aw gl 60) (tE Cm) (Vf (Un (Bs (bc (Bs (Bq pw) 0)) 0))) (Bt F (Df d o R) (Sw U D R))=some ([.lst (R.map sv),.int (d 4) (ds 4),.int (Vh d) false],Bt F (Df d o R) (Sw U D R)):=
  Ae rfl (Dk (n:=59) (BZ F)) (Ae rfl (Bj (n:=59) rfl (Dk (n:=58) (Dy rfl rfl hF.dr)) (Aq (n:=58)) rfl) (Ae rfl (Bw (n:=59) (by rfl) (Bw (n:=58) (Bj (n:=57) rfl (Dk (n:=56) (Dy rfl rfl hF.dr)) (Aq (n:=56)) rfl) (Aq (n:=57)) rfl) rfl) Al))
 have DK:Rc (Bt (put F ("refused":O7) .opq) (Df d o R) (Sw U D R)) 8 (.lst (R.map sv)) (.ref 16)=some true:=by
  show (if (R.map sv).length==(R.map sv).length then Ff (Rc (Bt (put F ("refused":O7) .opq) (Df d o R) (Sw U D R)) 7) (R.map sv) (R.map sv) else some false)=_;rw[if_pos (by simp)];refine No rfl fun i x y hx hy=>?_;rw[hx] at hy;cases hy;rw[x6] at hx;cases hp:R[i]? with
  |none=>rw[hp] at hx;cases hx
  |some p=>
   rw[hp] at hx;cases hx;show some (p.1==p.1)=_;simp
 have DP:(put F ("refused":O7) V.opq).lookup ("before":O7)=some (.ref 16):=by rw[Bp (by rfl')];exact hF.bf
 exact o7 (Mu gl 60) W I X Rm BG AY (m:=F) rfl (Dy rfl rfl hs) hd HI (Az rfl rfl) rfl rfl (Az rfl rfl) (BZ _) (FX _ DP) DK BI fun s' m' NX CB G=>K s' m' ⟨by rw[NX _ (by rfl')];exact hF.dr,by rw[NX _ (by rfl')];exact hF.bf,CB _ hF.cl⟩ G
theorem m6 {C:Cx}(W:Wd C gl){Y:List O5}{s:OZ}{AA:Env}{F:List (O7×V)}(I:Bh C Y (Bt F (Df d o R) (Sw U D R)) s)(X:Ba C Y (tE Cm) AA){A:O8}(Rm:Dq A 60)(BG:A.frames=some [AA])(AY:AA.frame=some AA.locals)(ho:∀k,Ht k o=true)(hR:R.length≤16)(hF:LF d ds F)
 {Q:Flow->OZ->Prop}{E:OY->OZ->Prop} (K:∀Bx s' F',LF d ds F'->Ck C Y s Bx (Bt F' (Df d o R) (Sw U D R)) s'->Q .next s'):PD C.md A (exec pw AA) Q E s:=by
 have GA:∀F,Hx gl (Aw gl 60) (tE Cm) (Rj pw) (Bt F (Df d o R) (Sw U D R))=some (.seq (.tup [.fn 50,.fn 32,.fn 41,.fn 23]),Bt F (Df d o R) (Sw U D R)):=fun F=>
  lA (Go (n:=59) rfl (Ae rfl (Dk (n:=58) (Az rfl rfl)) (Ae rfl (Dk (n:=58) (Az rfl rfl)) (Ae rfl (Dk (n:=58) (Az rfl rfl)) (Ae rfl (Dk (n:=58) (Az rfl rfl)) Al))))) rfl
 refine aq (Mu gl 60) W I X Rm (GA F) rfl (St:=St24 d ds o R U D) (N:=4) (vf:=bB) (Mine.w12 F rfl hF) (fun k J S=>?_) (fun k J hk S=>?_) fun Bx s' Av S G=>by
  obtain ⟨F',rfl,JX⟩:=S;exact K Bx s' F' JX G
 ·match k with
  |0=>rfl
  |1=>rfl
  |2=>rfl
  |3=>rfl
  |k+4=>rw[if_neg (by lia)];rfl
 ·obtain ⟨F1,rfl,hF1⟩:=S;have ID:Ar 17 (bB k)=true:=by
   unfold bB;split<;>rfl
  have MW:LF d ds (put F1 ("search":O7) (bB k)):=hF1.put ID (by rfl') (by rfl');refine ⟨Bt (put F1 ("search":O7) (bB k)) (Df d o R) (Sw U D R),Ap (Au (J:=Bb) rfl rfl rfl),fun {C'} {Bx} {s'} {Q'} {E'} W' I' X' K'=>?_⟩;have O:=cu (d:=d) (R:=R) (U:=U) (D:=D) ho MW.cl;have AL:∀J:Aj,Cg (J.length+1) (.fr (bF (.lst (R.map sv)) (.int (d 4) (ds 4)) .none (.int (Vh d) false) .none none))=true:=fun J=>by
   show Bg _ (bF (.lst (R.map sv)) (.int (d 4) (ds 4)) .none (.int (Vh d) false) .none none)=true;unfold bF;simp[Gu,Sg,Pn,Pc,Ow,Ox,Ph,Ou,Pg,Ol,Hh]
  have go:∀(a:Nat) (dd:Ek),bB k = .fn a->gl.D a=some dd->(∀{An:List O5}{Ao:OZ}{ys:List OY}{A':O8}{C3:List Env}{Q E:OY->OZ->Prop},Bh C' An (Bt (put F1 ("search":O7) (bB k)) (Df d o R) (Sw U D R)) Ao->Dq A' 60->A'.frames=some C3->Je An (Bt (put F1 ("search":O7) (bB k)) (Df d o R) (Sw U D R)) C3->Bv C' An Ao.heap [.lst (R.map sv),.int (d 4) (ds 4),.int (Vh d) false] ys->(∀e s',zN C' An (Bt (put F1 ("search":O7) (bB k)) (Df d o R) (Sw U D R)) Ao C3 e s'->E (.ref e) s')->PD C'.md A' (call (.ref a) ys) Q E Ao) ->
   PD C'.md A (execs (Bq pw) AA) Q' E' s':=fun a dd hv hd BI=>
   wpAny_execs_cons (ph W' I' X' Rm BG AY ho hR MW ((Ej).trans (congrArg some hv)) hd BI fun DQ F' JX G=>wpAny_execs_nil (K' DQ _ (Mine.w12 F' rfl JX) G))
  rcases (show k=0∨k=1∨k=2∨k=3 from by lia) with rfl|rfl|rfl|rfl
  ·exact go 50 Gi rfl Rs fun I' R' BV DT D8 GF=>bN 50 (a:=.lst (R.map sv)) (x:=.int (d 4) (ds 4)) (hv:=.none) (lo:=Vh d) (p:=false) W' I' O R' BV DT Ra rfl D8 GF
  ·exact go 32 Gj rfl Ry fun I' R' BV DT D8 GF=>fA 50 (a:=.lst (R.map sv)) (x:=.int (d 4) (ds 4)) (hv:=.none) (lo:=Vh d) (p:=false) W' I' O R' BV DT Ra rfl D8 GF
  ·exact go 41 fo rfl gQ fun I' R' BV DT D8 GF=>xB 40 (a:=.lst (R.map sv)) (x:=.int (d 4) (ds 4)) (lo:=Vh d) (p:=false) W' I' O R' BV DT Ra rfl (AL _) D8 GF
  ·exact go 23 nL rfl Zh fun I' R' BV DT D8 GF=>uP 40 (a:=.lst (R.map sv)) (x:=.int (d 4) (ds 4)) (lo:=Vh d) (p:=false) W' I' O R' BV DT Ra rfl (AL _) D8 GF
end
theorem cg {C:Cx}{g:Gl}{L:Lv}{n:Nat}{e:As}{AA:Env}{b2:List PC}(L':Ce g L n)(W:Wd C g):∀{b1:List PC}{Y:List O5}{J Av:Aj}{s:OZ},Bh C Y J s->Ba C Y e AA->Dm L e b1 J=some (.next,Av) ->
 ∀{A:O8}{Q:Flow->OZ->Prop}{E:OY->OZ->Prop},Dq A n->(∀Bx s',Ck C Y s Bx Av s'->PD C.md A (execs b2 AA) Q E s')->PD C.md A (execs (b1++b2) AA) Q E s:=fun {b1}=>by
 induction b1 with
 |nil=>
  intro Y J Av s I X h A Q E R K;cases h;exact K _ _ (.refl I)
 |cons x r ih=>
  intro Y J Av s I X h A Q E R K;refine oC2 (kG.symm.trans h) fun f Ab h1 h=>wpAny_execs_cons (L'.ex W I X h1 A _ E R fun An Ao fl Ay hf=>?_)
  induction f using Fl.casesOn with
  |next=>
   have hf:fl = .next:=hf;rw[hf];exact ih Ay.inv (X.go Ay) h R fun Bl Be Bm=>K _ _ (Ay.trans Bm)
  |_=>cases (show some _=some _ from h)
theorem sY {C:Cx}(W:Wd C gl){Y:List O5}{s:OZ}(I:Bh C Y Bb s){ns:List Int}(hl:ns.length≤63){b:OY}(rb:Bz C Y s.heap (Wk ns) b){A:O8}(R:Dq A 61)(BG:A.frames=some []){Q E:OY->OZ->Prop}
 (K:∀s',Ck C Y s Y Bb s'->Q (.bool true) s'):PD C.md A (call (.ref 174) [b]) Q E s:=by
 obtain ⟨ob,fd,D⟩:=W.defs _ _ m1;obtain ⟨bs,EM,rb⟩:=Pv W I D (args:=[Wk ns]) (AJ:=[]) (vkw:=[]) (l:=[(("script":O7),Wk ns)]) rfl (AR:=[b]) ⟨_,_,rfl,rb,rfl⟩ rfl;have hs:=D.scope;have ok:okScope Cm.scope=true:=by rfl
 have E4:okScope fd.scope=true:=by rw[hs];exact ok
 obtain ⟨o1,o2,o3,o4,o5⟩:=Cn E4;refine wpAny_call (codeAny_call_function R.depth (W.defAt I D) D.dat o4 o5 D.body (I.codeRec W D.code) (EM _ _ _ _ ?_));rw[D.clos,D.gl,D.bl];refine Ku (n:=60) (tab:=Cm.tab) (muts:=Cm.muts) (Av:=Bt [("script",Wk ns)] {} []) R.in1 I E4 Cd.nil D.tab rb (by rw[hs];rfl) fun Pr s1 AQ G X AY Z Z Z=>⟨G.inv.noLimit W,codeAny_func ?_⟩;rw[hs] at X;have X:Ba C Pr (tE Cm) AQ:=X;obtain ⟨d,ds,o,sb,Rr,U,Dn,hd4,ho,hR,MO⟩:=aw ns hl;have BF:Cm.body=Cm.body.take 24++[pw,Bs Cm.body 25]:=by rfl
 rw[BF];refine cg (Mu gl 60) W G.inv X MO (R.deeper AQ) fun bH s2 G2=>?_;have X2:=X.go G2;have hF:LF d ds (uN (Wk ns) d ds sb):=⟨rfl,rfl,by
  have hr:∀i,i<17->Ar 17 (.ref i)=true:=fun i hi=>by
   exact xg (by assumption)
  rw[Ah,Ah,Ah,Ah,Ah,Ah,Ah,Ah,Ah,Ah,Ah,Ah,Xp,Fv,Gz,Iw,Fm,Ev,Cw,Cw,Cu,hr 15 (by decide),hr 14 (by decide)]
  rfl⟩
 refine wpAny_execs_cons (m6 W G2.inv X2 (R.deeper AQ) (by show A.frames.map _=_;rw[BG];rfl) AY ho hR hF fun Td s3 F' JX G3=>?_);have X3:=X2.go G3;have KZ:Dm (Aw gl 60) (tE Cm) [Bs Cm.body 25] (Bt F' (Df d o Rr) (Sw U Dn Rr))=some (.ret (.bool true),Bt F' (Df d o Rr) (Sw U Dn Rr)):=
  Cp (Fb (n:=59) (by rfl)) (by simp)
 refine Rg (Mu gl 60) W G3.inv X3 KZ _ _ _ (R.deeper AQ) fun bG s4 fl4 G4 J2=>?_;obtain ⟨x,rfl,rx⟩:=J2;obtain rfl:x = .bool true:=rx;have GG:=((G.trans G2).trans G3).trans G4;have CZ:cut (Bt F' (Df d o Rr) (Sw U Dn Rr)) Bb.length=some Bb:=by rfl
 exact K s4 (Nt I GG CZ).1
theorem yG {Pm:Params}{h:O9}{vals:List OY}{xs:List WData}(r:WellAll Pm h vals [.list xs]):∃b vs,vals=[.ref b]∧h.get? b=some { cls:=.type "list",data:=.seq vs.toArray }∧WellAll Pm h vs xs:=by
 cases r with
 |cons hw KV=>
  cases KV;cases hw with
  |list e MM=>exact ⟨_,_,rfl,e,MM⟩
set_option tactic.hygienic true in
theorem law_holds:rw_xh0038_03.Holds:=by
 refine head fun w Cj Ao mg mb G OX a o pm cd doc dV kV ho hd JC hD I9 hg args vals as MD hlay hrd hwl BC=>?_;have F:=G.X.2;have W:=wd (os:=Ao.os) OX F G.T.g G.T.b G.T.nolimit G.T.builtins G.T.bmain;have ha:a=174:=by
  have h1:=F.globs (("law":O7),.ref 174) (by
   exact zu.mp (by rfl'))
  have h1:=(vS ▸ I9) ▸ h1;cases h1;rfl
 rw[ha];obtain ⟨xs,rfl,hx,hl⟩:=gA MD;obtain ⟨b,vs,rfl,e,MM⟩:=yG hwl;obtain ⟨ns,hr,FQ⟩:=oU (C:=cx w Ao.heap Ao.os) (Y:=[154,161,171]) MM hx;have hb:(b∉([154,161,171]:List O5)):=fun m=>by
  have:Ao.heap.get? b=some (Jz #[]):=W.tabs b m;rw[e] at this;cases this
 refine sY W (inv0 OX F W hg) (ns:=ns) (by rw[FQ];exact hl) ((Mine.e2 b vs.toArray (Mine.w14 0 rfl ⟨hb,y7⟩ e (by simpa using hr)))) ⟨rfl,?_,?_⟩ rfl fun s' Gs=>?_
 ·have:callerA.depth=301:=by kernel_rfl
  lia
 ·have:callerA.units=4:=by kernel_rfl
  lia
 ·refine ⟨.inl ⟨.bool true,.bool true,[],rfl,fun cls=>rfl,.bool true,?_,fun Z=>⟨.nil,fun Z m=>by cases m⟩⟩,oldK OX W Gs (fun i hi=>?_),Gs.inv.os,Gs.inv.gens⟩
  ·kernel_rfl
  ·exact k3 hi (⟨_,rfl⟩) (⟨_,rfl⟩) (⟨_,rfl⟩)
end Mine
theorem PySem.Challenge.cw_xh0038_03_holds : PySem.Challenge.rw_xh0038_03.Holds :=
  Mine.law_holds
