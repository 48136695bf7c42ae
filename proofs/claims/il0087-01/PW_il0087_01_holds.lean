import PyProof.Rows.All
import Wide.All
import OpenK.AllK
import Wide.FinOn
import PyProof.ListIndexOut
import KE.KStopIter
import Lean
import PySem.Challenge.RW_il0087_01
set_option Elab.async false
set_option autoImplicit false
set_option maxRecDepth 1000000
set_option linter.all false
set_option genSizeOf false
set_option genInjectivity false
set_option bootstrap.genMatcherCode false
set_option backward.match.sparseCases false
set_option tactic.hygienic false
open PySem PySem.W PySem.Calls PyProof.Rows
namespace Mine
section
theorem nos{α:Type}{x:α}{P:Prop}(h:none=some x):P:=nomatch h
theorem nso{α:Type}{x:α}{P:Prop}(h:some x=none):P:=nomatch h
theorem ntf{P:Prop}(h:true=false):P:=nomatch h
theorem nft{P:Prop}(h:false=true):P:=nomatch h
theorem Lv{α:Type}{x:α}{P:Prop}(h:x∈([]:List α)):P:=nomatch h
theorem bC{α:Type}{c:Prop}{d:Decidable c}{x:Option α}{y:α}(e:(if c then x else none)=some y):c/\x=some y:=by
 by_cases h:c
 ·rw[if_pos h] at e;exact⟨h,e⟩
 ·rw[if_neg h] at e;exact nos e
theorem bnd{α β:Type}{x:Option α}{f:α->Option β}{y:β}(h:x.bind f=some y):∃ a,x=some a/\f a=some y:=Option.bind_eq_some_iff.mp h
theorem dD{α β γ:Type}{a x:α}{b y:β}{c z:γ}(h:some (a,b,c)=some (x,y,z)):x=a/\y=b/\z=c:=by cases h;exact⟨rfl,rfl,rfl⟩
theorem fmn{α:Type}{P:α->Prop}:∀ x∈([]:List α),P x:=λ _ h=>Lv h
theorem fmc{α:Type}{P:α->Prop}{a:α}{l:List α}(h:P a)(t:∀ x∈l,P x):∀ x∈a::l,P x:=List.forall_mem_cons.mpr ⟨h,t⟩
theorem kM{h:Heap}{a:Addr}(e:h.objs.size≤a):h.get? a=none:=by
 cases q:h.get? a with
 | none=>rfl
 | some o=>exact absurd (Heap.lt_size q) (Nat.not_lt.mpr e)
section
variable{G:Prop}{P Q R S U V W Y:Prop}
theorem aK(h:P/\Q)(k:P->Q->G):G:=k h.1 h.2
theorem aY(a:P)(b:Q):P/\Q:=⟨a,b⟩
theorem bU(h:P/\Q/\R)(k:P->Q->R->G):G:=k h.1 h.2.1 h.2.2
theorem fP(a:P)(b:Q)(c:R):P/\Q/\R:=⟨a,b,c⟩
theorem kR(h:P/\Q/\R/\S)(k:P->Q->R->S->G):G:=k h.1 h.2.1 h.2.2.1 h.2.2.2
theorem Us(a:P)(b:Q)(c:R)(d:S):P/\Q/\R/\S:=⟨a,b,c,d⟩
theorem Qb(h:P/\Q/\R/\S/\U)(k:P->Q->R->S->U->G):G:=k h.1 h.2.1 h.2.2.1 h.2.2.2.1 h.2.2.2.2
theorem aD7(a:P)(b:Q)(c:R)(d:S)(e:U):P/\Q/\R/\S/\U:=⟨a,b,c,d,e⟩
theorem Bx(h:P/\Q/\R/\S/\U/\V/\W)(k:P->Q->R->S->U->V->W->G):G:=k h.1 h.2.1 h.2.2.1 h.2.2.2.1 h.2.2.2.2.1 h.2.2.2.2.2.1 h.2.2.2.2.2.2
theorem Ut(a:P)(b:Q)(c:R)(d:S)(e:U)(f:V)(g:W):P/\Q/\R/\S/\U/\V/\W:=⟨a,b,c,d,e,f,g⟩
theorem aBq(h:P/\Q/\R/\S/\U/\V/\W/\Y)(k:P->Q->R->S->U->V->W->Y->G):G:=k h.1 h.2.1 h.2.2.1 h.2.2.2.1 h.2.2.2.2.1 h.2.2.2.2.2.1 h.2.2.2.2.2.2.1 h.2.2.2.2.2.2.2
theorem aC7(a:P)(b:Q)(c:R)(d:S)(e:U)(f:V)(g:W)(h:Y):P/\Q/\R/\S/\U/\V/\W/\Y:=⟨a,b,c,d,e,f,g,h⟩
end
section
variable{G:Prop}{α:Type}{P Q R S U V W:α->Prop}
theorem aB(h:∃ x,P x)(k:∀ x,P x->G):G:=h.elim λ x a=>k x a
theorem bM(x:α)(a:P x):∃ x,P x:=⟨x,a⟩
theorem aE(h:∃ x,P x/\Q x)(k:∀ x,P x->Q x->G):G:=h.elim λ x a=>k x a.1 a.2
theorem bK(x:α)(a:P x)(b:Q x):∃ x,P x/\Q x:=⟨x,a,b⟩
theorem fQ(h:∃ x,P x/\Q x/\R x)(k:∀ x,P x->Q x->R x->G):G:=h.elim λ x a=>k x a.1 a.2.1 a.2.2
theorem rA(x:α)(a:P x)(b:Q x)(c:R x):∃ x,P x/\Q x/\R x:=⟨x,a,b,c⟩
theorem rB(h:∃ x,P x/\Q x/\R x/\S x)(k:∀ x,P x->Q x->R x->S x->G):G:=h.elim λ x a=>k x a.1 a.2.1 a.2.2.1 a.2.2.2
theorem yM(x:α)(a:P x)(b:Q x)(c:R x)(d:S x):∃ x,P x/\Q x/\R x/\S x:=⟨x,a,b,c,d⟩
theorem aEa(h:∃ x,P x/\Q x/\R x/\S x/\U x)(k:∀ x,P x->Q x->R x->S x->U x->G):G:=h.elim λ x a=>k x a.1 a.2.1 a.2.2.1 a.2.2.2.1 a.2.2.2.2
theorem aD8(x:α)(a:P x)(b:Q x)(c:R x)(d:S x)(e:U x):∃ x,P x/\Q x/\R x/\S x/\U x:=⟨x,a,b,c,d,e⟩
theorem aBr(h:∃ x,P x/\Q x/\R x/\S x/\U x/\V x/\W x)(k:∀ x,P x->Q x->R x->S x->U x->V x->W x->G):G:=h.elim λ x a=>k x a.1 a.2.1 a.2.2.1 a.2.2.2.1 a.2.2.2.2.1 a.2.2.2.2.2.1 a.2.2.2.2.2.2
end
section
variable{G:Prop}{α β:Type}{P Q R S U V:α->β->Prop}
theorem gM(h:∃ x y,P x y)(k:∀ x y,P x y->G):G:=h.elim λ x a=>a.elim λ y b=>k x y b
theorem Uu(x:α)(y:β)(a:P x y):∃ x y,P x y:=⟨x,y,a⟩
theorem eX(h:∃ x y,P x y/\Q x y)(k:∀ x y,P x y->Q x y->G):G:=h.elim λ x a=>a.elim λ y b=>k x y b.1 b.2
theorem rR(x:α)(y:β)(a:P x y)(b:Q x y):∃ x y,P x y/\Q x y:=⟨x,y,a,b⟩
theorem bB(h:∃ x y,P x y/\Q x y/\R x y)(k:∀ x y,P x y->Q x y->R x y->G):G:=h.elim λ x a=>a.elim λ y b=>k x y b.1 b.2.1 b.2.2
theorem dR(x:α)(y:β)(a:P x y)(b:Q x y)(c:R x y):∃ x y,P x y/\Q x y/\R x y:=⟨x,y,a,b,c⟩
theorem kS(h:∃ x y,P x y/\Q x y/\R x y/\S x y)(k:∀ x y,P x y->Q x y->R x y->S x y->G):G:=h.elim λ x a=>a.elim λ y b=>k x y b.1 b.2.1 b.2.2.1 b.2.2.2
theorem aBo(x:α)(y:β)(a:P x y)(b:Q x y)(c:R x y)(d:S x y):∃ x y,P x y/\Q x y/\R x y/\S x y:=⟨x,y,a,b,c,d⟩
theorem rT(h:∃ x y,P x y/\Q x y/\R x y/\S x y/\U x y)(k:∀ x y,P x y->Q x y->R x y->S x y->U x y->G):G:=h.elim λ x a=>a.elim λ y b=>k x y b.1 b.2.1 b.2.2.1 b.2.2.2.1 b.2.2.2.2
theorem Uv(x:α)(y:β)(a:P x y)(b:Q x y)(c:R x y)(d:S x y)(e:U x y):∃ x y,P x y/\Q x y/\R x y/\S x y/\U x y:=⟨x,y,a,b,c,d,e⟩
theorem aEb(h:∃ x y,P x y/\Q x y/\R x y/\S x y/\U x y/\V x y)(k:∀ x y,P x y->Q x y->R x y->S x y->U x y->V x y->G):G:=h.elim λ x a=>a.elim λ y b=>k x y b.1 b.2.1 b.2.2.1 b.2.2.2.1 b.2.2.2.2.1 b.2.2.2.2.2
theorem aC8(x:α)(y:β)(a:P x y)(b:Q x y)(c:R x y)(d:S x y)(e:U x y)(f:V x y):∃ x y,P x y/\Q x y/\R x y/\S x y/\U x y/\V x y:=⟨x,y,a,b,c,d,e,f⟩
end
section
variable{G:Prop}{α β γ:Type}{P Q R S U:α->β->γ->Prop}
theorem Qc(h:∃ x y z,P x y z)(k:∀ x y z,P x y z->G):G:=h.elim λ x a=>a.elim λ y b=>b.elim λ z c=>k x y z c
theorem aD9(x:α)(y:β)(z:γ)(a:P x y z):∃ x y z,P x y z:=⟨x,y,z,a⟩
theorem jE(h:∃ x y z,P x y z/\Q x y z)(k:∀ x y z,P x y z->Q x y z->G):G:=h.elim λ x a=>a.elim λ y b=>b.elim λ z c=>k x y z c.1 c.2
theorem vE(x:α)(y:β)(z:γ)(a:P x y z)(b:Q x y z):∃ x y z,P x y z/\Q x y z:=⟨x,y,z,a,b⟩
theorem bQ(h:∃ x y z,P x y z/\Q x y z/\R x y z)(k:∀ x y z,P x y z->Q x y z->R x y z->G):G:=h.elim λ x a=>a.elim λ y b=>b.elim λ z c=>k x y z c.1 c.2.1 c.2.2
theorem rS(x:α)(y:β)(z:γ)(a:P x y z)(b:Q x y z)(c:R x y z):∃ x y z,P x y z/\Q x y z/\R x y z:=⟨x,y,z,a,b,c⟩
theorem rC(h:∃ x y z,P x y z/\Q x y z/\R x y z/\S x y z)(k:∀ x y z,P x y z->Q x y z->R x y z->S x y z->G):G:=h.elim λ x a=>a.elim λ y b=>b.elim λ z c=>k x y z c.1 c.2.1 c.2.2.1 c.2.2.2
theorem Pz(x:α)(y:β)(z:γ)(a:P x y z)(b:Q x y z)(c:R x y z)(d:S x y z):∃ x y z,P x y z/\Q x y z/\R x y z/\S x y z:=⟨x,y,z,a,b,c,d⟩
theorem Uw(h:∃ x y z,P x y z/\Q x y z/\R x y z/\S x y z/\U x y z)(k:∀ x y z,P x y z->Q x y z->R x y z->S x y z->U x y z->G):G:=h.elim λ x a=>a.elim λ y b=>b.elim λ z c=>k x y z c.1 c.2.1 c.2.2.1 c.2.2.2.1 c.2.2.2.2
theorem aBp(x:α)(y:β)(z:γ)(a:P x y z)(b:Q x y z)(c:R x y z)(d:S x y z)(e:U x y z):∃ x y z,P x y z/\Q x y z/\R x y z/\S x y z/\U x y z:=⟨x,y,z,a,b,c,d,e⟩
end
section
variable{G:Prop}{α β γ δ:Type}{P Q R S:α->β->γ->δ->Prop}
theorem aDc(h:∃ x y z u,P x y z u/\Q x y z u)(k:∀ x y z u,P x y z u->Q x y z u->G):G:=h.elim λ x a=>a.elim λ y b=>b.elim λ z c=>c.elim λ u d=>k x y z u d.1 d.2
theorem gS(h:∃ x y z u,P x y z u/\Q x y z u/\R x y z u/\S x y z u)(k:∀ x y z u,P x y z u->Q x y z u->R x y z u->S x y z u->G):G:=h.elim λ x a=>a.elim λ y b=>b.elim λ z c=>c.elim λ u d=>k x y z u d.1 d.2.1 d.2.2.1 d.2.2.2
theorem jD(x:α)(y:β)(z:γ)(u:δ)(a:P x y z u)(b:Q x y z u)(c:R x y z u)(d:S x y z u):∃ x y z u,P x y z u/\Q x y z u/\R x y z u/\S x y z u:=⟨x,y,z,u,a,b,c,d⟩
end
section
variable{G:Prop}{α β γ δ ε:Type}{P Q R:α->β->γ->δ->ε->Prop}
theorem aDd(h:∃ x y z u v,P x y z u v)(k:∀ x y z u v,P x y z u v->G):G:=h.elim λ x a=>a.elim λ y b=>b.elim λ z c=>c.elim λ u d=>d.elim λ v e=>k x y z u v e
theorem aC9(x:α)(y:β)(z:γ)(u:δ)(v:ε)(a:P x y z u v):∃ x y z u v,P x y z u v:=⟨x,y,z,u,v,a⟩
theorem Ux(h:∃ x y z u v,P x y z u v/\Q x y z u v/\R x y z u v)(k:∀ x y z u v,P x y z u v->Q x y z u v->R x y z u v->G):G:=h.elim λ x a=>a.elim λ y b=>b.elim λ z c=>c.elim λ u d=>d.elim λ v e=>k x y z u v e.1 e.2.1 e.2.2
theorem aDa(x:α)(y:β)(z:γ)(u:δ)(v:ε)(a:P x y z u v)(b:Q x y z u v)(c:R x y z u v):∃ x y z u v,P x y z u v/\Q x y z u v/\R x y z u v:=⟨x,y,z,u,v,a,b,c⟩
end
section
variable{G:Prop}{α β γ δ ε ζ:Type}{P Q:α->β->γ->δ->ε->ζ->Prop}
theorem aEc(h:∃ x y z u v w,P x y z u v w/\Q x y z u v w)(k:∀ x y z u v w,P x y z u v w->Q x y z u v w->G):G:=h.elim λ x a=>a.elim λ y b=>b.elim λ z c=>c.elim λ u d=>d.elim λ v e=>e.elim λ w f=>k x y z u v w f.1 f.2
theorem aDb(x:α)(y:β)(z:γ)(u:δ)(v:ε)(w:ζ)(a:P x y z u v w)(b:Q x y z u v w):∃ x y z u v w,P x y z u v w/\Q x y z u v w:=⟨x,y,z,u,v,w,a,b⟩
end
section
variable{G:Prop}{α β γ δ ε ζ η:Type}{P:α->β->γ->δ->ε->ζ->η->Prop}
theorem kT(h:∃ x y z u v w t,P x y z u v w t)(k:∀ x y z u v w t,P x y z u v w t->G):G:=h.elim λ x a=>a.elim λ y b=>b.elim λ z c=>c.elim λ u d=>d.elim λ v e=>e.elim λ w f=>f.elim λ t g=>k x y z u v w t g
theorem Hh(x:α)(y:β)(z:γ)(u:δ)(v:ε)(w:ζ)(t:η)(a:P x y z u v w t):∃ x y z u v w t,P x y z u v w t:=⟨x,y,z,u,v,w,t,a⟩
end
theorem mc2{α:Type}{a b:α}{l:List α}{G:Prop}(h:a∈b::l)(k:a=b->G)(k':a∈l->G):G:=(List.mem_cons.mp h).elim k k'
theorem mc3{α:Type}{a b c:α}{l:List α}{G:Prop}(h:a∈b::c::l)(k:a=b->G)(k1:a=c->G)(k':a∈l->G):G:=mc2 h k λ h=>mc2 h k1 k'
theorem bN{α:Type}{a:α}{l m:List α}{G:Prop}(h:a∈l++m)(k:a∈l->G)(k':a∈m->G):G:=(List.mem_append.mp h).elim k k'
theorem xm1{α:Type}{a b:α}(h:a∈[b]):a=b:=List.mem_singleton.mp h
theorem ll1{a b c:Nat}(h:a<b)(k:b.ble c=true):a<c:=Nat.lt_of_lt_of_le h (Nat.le_of_ble_eq_true k)
theorem ll2{a b c:Nat}(h:a<b)(k:b.ble (c+1)=true):a≤c:=Nat.le_of_lt_succ (ll1 h k)
theorem ll3{a b c}(h:a≤b)(k:(b+1).ble c=true):a<c:=Nat.lt_of_le_of_lt h (Nat.le_of_ble_eq_true k)
theorem ll4{a b c:Nat}(h:a≤b)(k:b.ble c=true):a≤c:=Nat.le_trans h (Nat.le_of_ble_eq_true k)
theorem ll5{a b c d:Nat}(h:a+c<b)(k:d.ble c=true):a+d<b:=Nat.lt_of_le_of_lt (Nat.add_le_add_left (Nat.le_of_ble_eq_true k) a) h
theorem ll6{a b c:Nat}(h:a+c<b):a<b:=Nat.lt_of_le_of_lt (Nat.le_add_right a c) h
theorem lq1{a b c d:Nat}(e:a=b)(h:b<c)(k:c.ble d=true):a<d:=e▸ll1 h k
theorem lq2{a b c d:Nat}(e:a=b)(h:b<c)(k:c.ble (d+1)=true):a≤d:=e▸ll2 h k
theorem lx1{a b c d:Nat}(e:a≤b)(h:b<c)(k:c.ble d=true):a<d:=Nat.lt_of_le_of_lt e (ll1 h k)
theorem lx2{a b c d:Nat}(e:a≤b)(h:b<c)(k:c.ble (d+1)=true):a≤d:=Nat.le_trans e (ll2 h k)
theorem lx3{a b c d}(e:a≤b)(h:b≤c)(k:(c+1).ble d=true):a<d:=Nat.lt_of_le_of_lt e (ll3 h k)
theorem lx4{a b c d:Nat}(e:a≤b)(h:b≤c)(k:c.ble d=true):a≤d:=Nat.le_trans e (ll4 h k)
theorem aAZ{n i}(h:i<n):n+1 - (i+1)<n+1 - i:=Nat.sub_lt_sub_left (Nat.lt_succ_of_lt h) (Nat.lt_succ_self i)
theorem Wp{n i}(h:i<n):n - (i+1)<n - i:=Nat.sub_lt_sub_left h (Nat.lt_succ_self i)
theorem Pg{n i k}(e:n - i=k+1):n - (i+1)=k:=by rw[<- Nat.sub_sub,e];rfl
theorem aL0{M:Nat->Prop}(h:M 0):∀ k,k≤0->M k:=λ _ q=>(Nat.le_zero.mp q)▸h
theorem aLS{M:Nat->Prop}{n:Nat}(h:∀ k,k≤n->M k)(h':M (n+1)):∀ k,k≤n+1->M k:=λ k q=>(Nat.le_or_eq_of_le_succ q).elim (h k) λ e=>e▸h'
theorem xC{α:Type}{n:Nat}{l:List α}(h:l.length=n+1):∃ a r,l=a::r/\r.length=n:=by
 cases l with
 | nil=>exact absurd h (Nat.succ_ne_zero _).symm
 | cons a r=>exact⟨a,r,rfl,Nat.succ.inj h⟩
theorem lL0{α:Type}{M:List α->Prop}(h:M []):∀ l,l.length≤0->M l:=λ _ q=>List.eq_nil_of_length_eq_zero (Nat.le_zero.mp q)▸h
theorem lLS{α:Type}{M:List α->Prop}{n:Nat}(h0:M [])(h:∀ a l,l.length≤n->M (a::l)):∀ l,l.length≤n+1->M l:=λ l q=>by
 cases l with
 | nil=>exact h0
 | cons a r=>exact h a r (Nat.le_of_succ_le_succ q)
theorem lL4{α:Type}{M:List α->Prop}(h0:M [])(h1:∀ a,M [a])(h2:∀ a b,M [a,b])(h3:∀ a b c,M [a,b,c])(h4:∀ a b c d,M [a,b,c,d]):∀ l,l.length≤4->M l :=
 lLS h0 λ a=>lLS (h1 a) λ b=>lLS (h2 a b) λ c=>lLS (h3 a b c) λ d=>lL0 (h4 a b c d)
theorem aZ{α β:Type}{x:Option α}{f:α->Option β}{y:β}{G:Prop}(h:x.bind f=some y)(k:∀ a,x=some a->f a=some y->G):G:=(bnd h).elim λ a q=>k a q.1 q.2
theorem Qa{α:Type}{c:Prop}{d:Decidable c}{x:Option α}{y:α}{G:Prop}(e:(if c then x else none)=some y)(k:c->x=some y->G):G:=k (bC e).1 (bC e).2
theorem aDy{n k m:Nat}(h:k≤n):n - k+k+m=n+m:=by rw[Nat.sub_add_cancel h]
theorem mL{α:Type}{a:α}{l m:List α}(h:a∈l):a∈l++m:=List.mem_append_left _ h
theorem mR{α:Type}{a:α}{l m:List α}(h:a∈m):a∈l++m:=List.mem_append_right _ h
theorem sj{α:Type}{a b:α}(h:some a=some b):a=b:=Option.some.inj h
theorem wB{M:Model}{A:Around}{α β:Type}{m:Sem α}{f:α->Sem β}{Q:β->Shared->Prop}{E:Value->Shared->Prop}{s:Shared}(h:wpAny M A m (λ a s'=>wpAny M A (f a) Q E s') E s):wpAny M A (m >>= f) Q E s:=wpAny_bind h
theorem wP{M:Model}{A:Around}{α:Type}{a:α}{Q:α->Shared->Prop}{E:Value->Shared->Prop}{s:Shared}(h:Q a s):wpAny M A (pure a) Q E s:=wpAny_pure h
end
variable{α:Type}{m tok x y:Str}{r:Bool}{rvs vs:List Value}{s:Shared}{c:Addr}{elt iter t:Expr}{it rv:Value}{R:Result->Shared->Prop}{w:World}{d i n:Nat}{ap cp p p1 p2 pos:Pos}{g g' h':Heap}{H N X fp:List Addr}{sc scope:Scope}{E Q:Value->Shared->Prop}{env:Env}{oc:List (Str×Addr)}{P:Params}{St:Nat->Heap->Prop}{args ifs:List Expr}{gens rest:List Comprehension}{A:Around}{prog:Program}{fd:FuncData}{body:List Stmt}{st:Stmt}{ls:List Str}
section
inductive PV where
 | none
 | bool (b:Bool)
 | int (i:Int)
 | str (s:Str)
 | list (xs:List PV)
 | tuple (xs:List PV)
 | fn (v:Value)
 | obj (cls:String)
 | mref (i:Nat)
noncomputable abbrev LV:=List (Str×PV)
inductive MObj where
 | list (xs:List PV)
 | mat (rows:List (List PV))
 | inst (cls:Addr) (attrs:LV)
noncomputable abbrev Ro:=List (Addr×List Addr)
noncomputable abbrev cK(vs:List Value)(n:Nat):Obj:={ cls:=.type "list",data:=.seq vs.toArray n }
noncomputable abbrev gX(C d:Addr):Obj:={ cls:=.ref C,dict:=some d,data:=.plain }
noncomputable abbrev Pi(vs:List Value)(n:Nat):Obj:={ cls:=.type "tuple",data:=.seq vs.toArray n }
mutual
inductive VRel(g:Heap):PV->Value->Prop
 | none:VRel g .none .none
 | bool (b:Bool):VRel g (.bool b) (.bool b)
 | int (i:Int) (t:Tok):VRel g (.int i) (.int i t)
 | str (x:Str) (t:Tok):VRel g (.str x) (.str x t)
 | list {a:Addr} {xs:List PV} {vs:List Value} {n:Nat}:g.get? a=some (cK vs n)->VRels g xs vs->VRel g (.list xs) (.ref a)
 | tuple {a:Addr} {xs:List PV} {vs:List Value} {n:Nat}:g.get? a=some (Pi vs n)->VRels g xs vs->VRel g (.tuple xs) (.ref a)
 | fn (v:Value):VRel g (.fn v) v
 | obj {a:Addr} {o:Obj} {c:String}:g.get? a=some o->o.cls=.type c->(∀ ov,o.data≠.cell ov)->(c="collections.deque"->∃ vs,o.data=.fields vs/\vs.size=2)->VRel g (.obj c) (.ref a)
inductive VRels(g:Heap):List PV->List Value->Prop
 | nil:VRels g [] []
 | cons {x:PV} {v:Value} {xs:List PV} {vs:List Value}:VRel g x v->VRels g xs vs->VRels g (x::xs) (v::vs)
end
theorem VRel.mono(k:g.StaysIn g'){x v}(h:VRel g x v):VRel g' x v:=by
 apply VRel.rec (motive_1:=λ x v _=>VRel g' x v) (motive_2:=λ xs vs _=>VRels g' xs vs) .none .bool .int .str (λ e _ i=>.list (k _ _ e) i) (λ e _ i=>.tuple (k _ _ e) i) .fn (λ e c d z=>.obj (k _ _ e) c d z) .nil (λ _ _ a b=>.cons a b) h
theorem VRels.mono(k:g.StaysIn g'){xs}(h:VRels g xs vs):VRels g' xs vs:=by
 apply VRels.rec (motive_1:=λ x v _=>VRel g' x v) (motive_2:=λ xs vs _=>VRels g' xs vs) .none .bool .int .str (λ e _ i=>.list (k _ _ e) i) (λ e _ i=>.tuple (k _ _ e) i) .fn (λ e c d z=>.obj (k _ _ e) c d z) .nil (λ _ _ a b=>.cons a b) h
noncomputable abbrev fz(h:Heap)(H:List Addr):Heap:=hideAll h H
theorem dT{h b o}(e:(fz h H).get? b=some o):h.get? b=some o/\b∉H :=
 ⟨of_hideAll H e,λ m=>by rw[hideAll_none H m] at e;exact nos e⟩
theorem dG{h b o}(e:h.get? b=some o)(n:b∉H):(fz h H).get? b=some o:=hideAll_get H e n
theorem aP{h}:(fz h H).StaysIn h:=λ _ _ e=>(dT e).1
theorem aU{h H'}(k:∀ b o,h.get? b=some o->b∉H->h'.get? b=some o/\b∉H'):(fz h H).StaysIn (fz h' H') :=
 λ b o e=>let z:=dT e;let y:=k b o z.1 z.2;dG y.1 y.2
noncomputable def cN(o:Obj):Bool:=match o.data with
 | .dict ..=>true
 | _=>false
structure Up(H:List Addr)(h h':Heap):Prop where
 out:∀ b o,b∉H->h.get? b=some o->h'.get? b=some o
 nd:∀ b o,cN o=false->h.get? b=some o->h'.get? b=some o
 sl:∀ b o,h.get? b=some o->∃ s,h'.get? b=some { o with slots:=s }
theorem Up.of{h}(k:h.StaysIn h'):Up H h h':=⟨λ b o _ e=>k b o e,λ b o _ e=>k b o e,λ b o e=>⟨o.slots,k b o e⟩⟩
theorem Up.refl(h:Heap):Up H h h:=.of λ _ _ e=>e
theorem Up.trans{a b c}(x:Up H a b)(y:Up H b c):Up H a c :=
 ⟨λ p o n e=>y.out p o n (x.out p o n e),λ p o n e=>y.nd p o n (x.nd p o n e),λ p o e=>let⟨_,e1⟩:=x.sl p o e;let⟨s,e2⟩:=y.sl p _ e1;⟨s,e2⟩⟩
theorem Up.live{h}(k:Up H h h'){b}(q:∃ o,h.get? b=some o):∃ o,h'.get? b=some o:=q.elim λ o e=>(k.sl b o e).elim λ _ q=>⟨_,q⟩
theorem Up.ns{h}(k:Up H h h'){a m}(q:h.Ns a m):h'.Ns a m:=by
 refine jE q ?_;intro o es ep e r;refine aB (k.sl a o e) λ _ q=>?_;exact vE _ es ep q r
theorem Up.fz{h}(k:Up H h h'):(fz h H).StaysIn (fz h' H):=aU λ b o e n=>⟨k.out b o n e,n⟩
theorem Up.cell{h}(k:Up H h h'){ov}(q:h.IsCell c ov):h'.IsCell c ov:=q.imp λ o q=>⟨k.nd c o (by unfold cN;rw[q.2]) q.1,q.2⟩
noncomputable def Ro.all(ρ:Ro):List Addr:=ρ.flatMap λ p=>p.1::p.2
theorem Ro.all_append(ρ ρ':Ro):Ro.all (ρ++ρ')=Ro.all ρ++Ro.all ρ':=by simp[Ro.all]
theorem Ro.mem_all{ρ p}(h:p∈ρ){a}(ha:a∈p.1::p.2):a∈Ro.all ρ:=List.mem_flatMap.mpr ⟨p,h,ha⟩
inductive XRel(g:Heap)(ρ:Ro):PV->Value->Prop
 | frozen {v:PV} {rv:Value}:VRel g v rv->XRel g ρ v rv
 | mr {i:Nat} {p:Addr×List Addr}:ρ[i]? = some p->XRel g ρ (.mref i) (.ref p.1)
theorem XRel.mono{ρ}(k:g.StaysIn g'){v}:XRel g ρ v rv->XRel g' ρ v rv
 | .frozen r=>.frozen (r.mono k)
 | .mr e=>.mr e
theorem XRel.more{ρ ρ' v}:XRel g ρ v rv->XRel g (ρ++ρ') v rv
 | .frozen r=>.frozen r
 | .mr e=>.mr (by rw[List.getElem?_append_left (List.getElem?_eq_some_iff.mp e).1];exact e)
inductive RowAt(g h:Heap)(b:Addr)(xs:List PV):Prop
 | mk (vs:List Value) (n:Nat):h.get? b=some (cK vs n)->VRels g xs vs->RowAt g h b xs
theorem RowAt.mono{h b xs}(k:g.StaysIn g')(e:h'.get? b=h.get? b):RowAt g h b xs->RowAt g' h' b xs
 | ⟨vs,n,q,r⟩=>⟨vs,n,e.trans q,r.mono k⟩
inductive RowsAt(g h:Heap):List Addr->List (List PV)->Prop
 | nil:RowsAt g h [] []
 | cons {b:Addr} {bs:List Addr} {xs:List PV} {r:List (List PV)}:RowAt g h b xs->RowsAt g h bs r->RowsAt g h (b::bs) (xs::r)
theorem RowsAt.mono{h}(k:g.StaysIn g'){bs r}(e:∀ b∈bs,h'.get? b=h.get? b)(q:RowsAt g h bs r):RowsAt g' h' bs r:=by
 induction q with
 | nil=>exact .nil
 | cons a r ih=>exact .cons (a.mono k (e _ (.head _))) (ih λ b hb=>e b (.tail _ hb))
inductive NsB(h:Heap)(d:Addr)(m:Str->Option Value)(n:Nat):Prop
 | mk (o:Obj) (es:Array DictEntry) (ep:Nat):h.get? d=some o->o.data=.dict es ep->StrKeys es->(∀ x,nsFind es x=m x)->es.size≤n->NsB h d m n
theorem NsB.ns{h d m}(q:NsB h d m n):h.Ns d m:=by
 obtain⟨o,es,ep,a,b,c,e,_⟩:=q;exact Pz o es ep a b c e
theorem NsB.eq{h d m}(e:h'.get? d=h.get? d)(q:NsB h d m n):NsB h' d m n:=by
 obtain⟨o,es,ep,a,r1,r2,r3,r4⟩:=q;exact⟨o,es,ep,e.trans a,r1,r2,r3,r4⟩
theorem NsB.up{h}(k:Up H h h'){d m}(q:NsB h d m n):NsB h' d m n:=by
 obtain⟨o,es,ep,e,hd,r1,r2,r3⟩:=q;refine aB (k.sl d o e) λ _ q=>?_;exact⟨_,es,ep,q,hd,r1,r2,r3⟩
noncomputable def MRel(g:Heap)(R:Ro)(h:Heap)(p:Addr×List Addr):MObj->Prop
 | .list xs=>p.2=[]/\RowAt g h p.1 xs
 | .mat rows=>(∃ n,h.get? p.1=some (cK (p.2.map Value.ref) n))/\RowsAt g h p.2 rows
 | .inst C attrs=>∃ d m,p.2=[d]/\h.get? p.1=some (gX C d)/\NsB h d m attrs.length/\(∀ x v,attrs.lookup x=some v->∃ rv,m x=some rv/\XRel g R v rv)/\∀ x,attrs.lookup x=none->m x=none
theorem MRel.mono{h R p}(k:g.StaysIn g')(e:∀ b∈p.1::p.2,h'.get? b=h.get? b){o}(q:MRel g R h p o):MRel g' R h' p o:=by
 cases o with
 | list=>exact aY q.1 (q.2.mono k (e _ (.head _)))
 | mat =>
  refine aK q ?_;intro q1;refine aB q1 ?_;intro n a;intro b;exact aY ⟨n,(e _ (.head _)).trans a⟩ (b.mono k λ x hx=>e x (.tail _ hx))
 | inst =>
  refine rT q ?_;intro d m a b c f z;exact Uv d m a ((e _ (.head _)).trans b) (NsB.eq (e d (by rw[a];exact .tail _ (.head _))) c) (λ x v q=>(f x v q).imp λ rv q=>⟨q.1,q.2.mono k⟩) z
theorem MRel.more{h R R' p o}(q:MRel g R h p o):MRel g (R++R') h p o:=by
 cases o with
 | list=>exact q
 | mat=>exact q
 | inst =>
  refine rT q ?_;intro d m a b c f z;exact Uv d m a b c (λ x v q=>(f x v q).imp λ rv q=>⟨q.1,q.2.more⟩) z
inductive MRels(g:Heap)(R:Ro)(h:Heap):Ro->List MObj->Prop
 | nil:MRels g R h [] []
 | cons {p:Addr×List Addr} {ρ:Ro} {o:MObj} {σ:List MObj}:MRel g R h p o->MRels g R h ρ σ->MRels g R h (p::ρ) (o::σ)
theorem MRels.more{h R R' ρ σ}(q:MRels g R h ρ σ):MRels g (R++R') h ρ σ:=by
 induction q with
 | nil=>exact .nil
 | cons a r ih=>exact .cons a.more ih
theorem MRels.mono{h R}(k:g.StaysIn g'){ρ σ}(e:∀ b∈Ro.all ρ,h'.get? b=h.get? b)(q:MRels g R h ρ σ):MRels g' R h' ρ σ:=by
 induction q with
 | nil=>exact .nil
 | cons a r ih =>
  dsimp only [Ro.all,List.flatMap_cons] at e;exact .cons (a.mono k λ b hb=>e b (mL hb)) (ih λ b hb=>e b (mR hb))
theorem RowAt.up{h b xs}(k:g.StaysIn g')(u:Up H h h'):RowAt g h b xs->RowAt g' h' b xs
 | ⟨vs,n,q,r⟩=>⟨vs,n,u.nd _ _ rfl q,r.mono k⟩
theorem RowsAt.up{h}(k:g.StaysIn g')(u:Up H h h'){bs r}(q:RowsAt g h bs r):RowsAt g' h' bs r:=by
 induction q with
 | nil=>exact .nil
 | cons a r ih=>exact .cons (a.up k u) ih
theorem MRel.up{h R p}(k:g.StaysIn g')(u:Up H h h'){o}(q:MRel g R h p o):MRel g' R h' p o:=by
 cases o with
 | list=>exact aY q.1 (q.2.up k u)
 | mat =>
  refine aK q ?_;intro q2;refine aB q2 ?_;intro n a;intro b;exact aY ⟨n,u.nd _ _ rfl a⟩ (b.up k u)
 | inst =>
  refine rT q ?_;intro d m a b c f z;exact Uv d m a (u.nd _ _ rfl b) (NsB.up u c) (λ x v q=>(f x v q).imp λ rv q=>⟨q.1,q.2.mono k⟩) z
theorem MRels.up{h R}(k:g.StaysIn g')(u:Up H h h'){ρ σ}(q:MRels g R h ρ σ):MRels g' R h' ρ σ:=by
 induction q with
 | nil=>exact .nil
 | cons a r ih=>exact .cons (a.up k u) ih
theorem MRels.get{h R ρ σ p}(q:MRels g R h ρ σ)(e:ρ[i]? = some p):∃ o,σ[i]? = some o/\MRel g R h p o:=by
 induction q generalizing i with
 | nil=>simp at e
 | cons a r ih =>
  cases i with
  | zero=>cases sj e;exact bK _ rfl a
  | succ i=>have z:=ih e;exact z
theorem MRels.snoc{h R ρ σ p o}(q:MRels g R h ρ σ)(m:MRel g R h p o):MRels g R h (ρ++[p]) (σ++[o]):=by
 induction q with
 | nil=>exact .cons m .nil
 | cons a r ih=>exact .cons a ih
noncomputable def aH(env:Env)(oc:List (Str×Addr))(ρ:Ro):List Addr:=env.locals::(oc.map (·.2)++Ro.all ρ)
structure Inv(X:List Addr)(env:Env)(oc:List (Str×Addr))(ρ:Ro)(h:Heap)(lv:LV)(σ:List MObj):Prop where
 ns:∃ m,h.Ns env.locals m/\∀ x v,lv.lookup x=some v->env.kindOf x=some .local->∃ rv,m x=some rv/\XRel (fz h (X++aH env oc ρ)) ρ v rv
 cell:∀ x c,oc.lookup x=some c->∃ ov,h.IsCell c ov/\∀ v,lv.lookup x=some v->∃ rv,ov=some rv/\XRel (fz h (X++aH env oc ρ)) ρ v rv
 free:∀ x v,lv.lookup x=some v->env.kindOf x≠some .local->oc.lookup x=none->∃ c rv,env.cells.lookup x=some c/\(fz h (X++aH env oc ρ)).IsCell c (some rv)/\VRel (fz h (X++aH env oc ρ)) v rv
 oce:∀ x c,oc.lookup x=some c->env.cells.lookup x=some c/\env.kindOf x=some .cell
 chg:MRels (fz h (X++aH env oc ρ)) ρ h ρ σ
 nd:(aH env oc ρ).Nodup
 live:∀ a∈X++aH env oc ρ,∃ o,h.get? a=some o
 off:∀ a∈X,a∉aH env oc ρ
 ocn:(oc.map (·.1)).Nodup
section
variable{ρ:Ro}{h:Heap}{lv:LV}{σ:List MObj}
theorem dO:∀{l:List (Str×Addr)} {x:Str} {c:Addr},l.lookup x=some c->(x,c)∈l:=by
 intro l9;induction l9 with
 | nil=>intros;first|contradiction|(rename_i h;exact nomatch h)
 | cons x9 r ih =>
  obtain⟨y,d⟩:=x9;intro x c e;dsimp only [List.lookup_cons] at e;cases q:(x==y) with
  | true=>rw[q] at e;simp only[Option.some.injEq] at e;rw[eq_of_beq q,e];exact .head _
  | false=>rw[q] at e;exact .tail _ (ih e)
theorem gP(e:oc.lookup x=some c):c∈aH env oc ρ :=
 .tail _ (mL (List.mem_map.mpr ⟨(x,c),dO e,rfl⟩))
theorem aN{a}(e:a∈Ro.all ρ):a∈aH env oc ρ:=.tail _ (mR e)
theorem jL{ov}(e:h'.get? c=h.get? c)(q:h.IsCell c ov):h'.IsCell c ov:=q.imp λ _ q=>⟨e.trans q.1,q.2⟩
theorem cQ{ov}(k:g.StaysIn g')(q:g.IsCell c ov):g'.IsCell c ov:=q.imp λ _ q=>⟨k _ _ q.1,q.2⟩
theorem Inv.gen{X'}(I:Inv X env oc ρ h lv σ)(k:(fz h (X++aH env oc ρ)).StaysIn (fz h' (X'++aH env oc ρ)))(e:∀ b∈aH env oc ρ,h'.get? b=h.get? b)(l:∀ a∈X',∃ o,h'.get? a=some o)(f:∀ a∈X',a∉aH env oc ρ):Inv X' env oc ρ h' lv σ where
 ns:=by
  refine aE I.ns λ m hn hm=>?_;refine bK m ?_ λ x v hx hk=>(hm x v hx hk).imp λ rv q=>⟨q.1,q.2.mono k⟩;refine jE hn ?_;intro o es ep ho r;exact vE o es ep ((e _ (.head _)).trans ho) r
 cell:=λ x c hc=>let⟨ov,a,b⟩:=I.cell x c hc;⟨ov,jL (e _ (gP hc)) a,λ v hv=>(b v hv).imp λ rv q=>⟨q.1,q.2.mono k⟩⟩
 free:=λ x v hv hk ho=>let⟨c,rv,a,b,d⟩:=I.free x v hv hk ho;⟨c,rv,a,cQ k b,d.mono k⟩
 oce:=I.oce
 chg:=I.chg.mono k λ b hb=>e b (aN hb)
 nd:=I.nd
 live:=λ a ha=>by
  refine bN ha (λ q=>?_) λ q=>?_
  ·exact l a q
  ·refine aB (I.live a (mR q)) λ o ho=>?_;exact bM o ((e a q).trans ho)
 off:=f
 ocn:=I.ocn
theorem Inv.hid(I:Inv X env oc ρ h lv σ)(k:∀ b o,b∉X->h.get? b=some o->h'.get? b=some o)(l:∀ a∈X,∃ o,h'.get? a=some o):Inv X env oc ρ h' lv σ:=by
 refine I.gen (aU λ b o e n=>⟨k b o (λ q=>n (mL q)) e,n⟩) (λ b hb=>?_) l I.off;refine aB (I.live b (mR hb)) λ o ho=>?_;rw[ho];exact k b o (λ q=>I.off b q hb) ho
theorem Inv.genU{X'}(I:Inv X env oc ρ h lv σ)(k:(fz h (X++aH env oc ρ)).StaysIn (fz h' (X'++aH env oc ρ)))(u:Up H h h')(l:∀ a∈X',∃ o,h'.get? a=some o)(f:∀ a∈X',a∉aH env oc ρ):Inv X' env oc ρ h' lv σ where
 ns:=I.ns.imp λ m q=>⟨u.ns q.1,λ x v hx hk=>(q.2 x v hx hk).imp λ rv q=>⟨q.1,q.2.mono k⟩⟩
 cell:=λ x c hc=>let⟨ov,a,b⟩:=I.cell x c hc;⟨ov,u.cell a,λ v hv=>(b v hv).imp λ rv q=>⟨q.1,q.2.mono k⟩⟩
 free:=λ x v hv hk ho=>let⟨c,rv,a,b,d⟩:=I.free x v hv hk ho;⟨c,rv,a,cQ k b,d.mono k⟩
 oce:=I.oce
 chg:=I.chg.up k u
 nd:=I.nd
 live:=λ a ha=>by
  refine bN ha (λ q=>?_) λ q=>?_
  ·exact l a q
  ·exact u.live (I.live a (mR q))
 off:=f
 ocn:=I.ocn
theorem Inv.ext(I:Inv X env oc ρ h lv σ)(k:Up (X++aH env oc ρ) h h'):Inv X env oc ρ h' lv σ :=
 I.genU k.fz k (λ a ha=>k.live (I.live a (mL ha))) I.off
theorem Inv.hide(I:Inv X env oc ρ h lv σ){as}(f:∀ a∈as,h.get? a=none)(k:Up (X++aH env oc ρ) h h')(l:∀ a∈as,∃ o,h'.get? a=some o):Inv (as++X) env oc ρ h' lv σ:=by
 refine I.genU (aU λ b o e n=>⟨k.out b o n e,λ q=>?_⟩) k (λ a ha=>?_) λ a ha hm=>?_
 ·refine bN q (λ q=>?_) λ q=>?_
  ·refine bN q (λ q=>?_) λ q=>?_
   ·rw[f b q] at e;exact nos e
   ·exact n (mL q)
  ·exact n (mR q)
 ·refine bN ha (λ q=>?_) λ q=>?_
  ·exact l a q
  ·exact k.live (I.live a (mL q))
 ·refine bN ha (λ q=>?_) λ q=>?_
  ·refine aB (I.live a (mR hm)) λ o ho=>?_;rw[f a q] at ho;exact nos ho
  ·exact I.off a q hm
theorem Inv.unhide{as}(I:Inv (as++X) env oc ρ h lv σ):Inv X env oc ρ h lv σ :=
 I.gen (aU λ b o e n=>⟨e,λ q=>n (by
   refine bN q (λ q=>?_) λ q=>?_
   ·exact mL (mR q)
   ·exact mR q)⟩) (λ _ _=>rfl) (λ a ha=>I.live a (mL (mR ha))) λ a ha=>I.off a (mR ha)
theorem iB(k:h.StaysIn h'):(fz h H).StaysIn (fz h' H):=aU λ b o e n=>⟨k b o e,n⟩
theorem fL(k:Up H h h'):(fz h H).StaysIn (fz h' H):=k.fz
theorem hZ(h:¬ y=x):(y==x)=false:=by
 cases q:(y==x) with
 | false=>rfl
 | true=>exact absurd (eq_of_beq q) h
theorem bE{v}(lv:LV):((x,v)::lv).lookup y=if y=x then some v else lv.lookup y:=by
 dsimp only [List.lookup_cons];by_cases e:y=x
 ·subst e;simp
 ·rw[if_neg e,hZ e]
theorem Inv.setLocal{v m}(I:Inv X env oc ρ h lv σ)(hx:env.kindOf x=some .local)(hm:h.Ns env.locals m)(r:XRel (fz h (X++aH env oc ρ)) ρ v rv)(hn:h'.Ns env.locals (λ y=>if y=x then some rv else m y))(hs:Heap.SameBut env.locals h h'):Inv X env oc ρ h' ((x,v)::lv) σ:=by
 have k:(fz h (X++aH env oc ρ)).StaysIn (fz h' (X++aH env oc ρ)):=aU λ b o e n=>⟨(hs.2 b λ q=>n (by rw[q];exact mR (.head _))).trans e,n⟩
 have nodup:=List.nodup_cons.mp I.nd;have e:∀ b∈oc.map (·.2)++Ro.all ρ,h'.get? b=h.get? b:=λ b hb=>hs.2 b λ q=>nodup.1 (q▸hb);have noc:oc.lookup x=none:=by
  cases q:oc.lookup x with
  | none=>rfl
  | some c=>have:=(I.oce x c q).2;rw[hx] at this;cases this
 refine⟨⟨_,hn,λ y w hy hk=>?_⟩,λ y c hc=>?_,λ y w hy hk ho=>?_,I.oce,I.chg.mono k λ b hb=>e b (mR hb),I.nd,λ a ha=>?_,I.off,I.ocn⟩
 ·rw[bE] at hy;by_cases q:y=x
  ·rw[if_pos q] at hy ⊢;obtain rfl:=sj hy;exact bK rv rfl (r.mono k)
  ·rw[if_neg q] at hy ⊢;refine aE I.ns λ m' hm' hv=>?_;refine aE (hv y w hy hk) λ rw' a b=>?_;refine bK rw' ?_ (b.mono k);refine rC hm ?_;clear hm;intro o es ep ho hd _ hf;refine rC hm' ?_;clear hm';intro o' es' ep' ho' hd' _ hf';rw[ho] at ho';obtain rfl:=sj ho';rw[hd] at hd';cases hd';rw[<- hf y,hf' y,a]
 ·refine aE (I.cell y c hc) λ ov a b=>?_;refine bK ov (jL (e c (mL (List.mem_map.mpr ⟨(y,c),dO hc,rfl⟩))) a) λ w hw=>?_;rw[bE] at hw;by_cases q:y=x
  ·clear hx hn hw;subst q;rw[noc] at hc;exact nos hc
  ·rw[if_neg q] at hw;refine aE (b w hw) λ rw' p z=>?_;exact bK rw' p (z.mono k)
 ·rw[bE] at hy;by_cases q:y=x
  ·clear hn noc hy;subst q;exact absurd hx hk
  ·rw[if_neg q] at hy;refine bB (I.free y w hy hk ho) λ c rw' a b d=>?_;exact dR c rw' a (cQ k b) (d.mono k)
 ·refine aB (I.live a ha) λ o ho=>?_;by_cases q:a=env.locals
  ·clear ha ho;subst q;refine jE hn ?_;clear hn;intro o' _ _ ho' _;exact bM o' ho'
  ·exact bM o ((hs.2 a q).trans ho)
theorem Fy{β:Type}{f:α->β}{l:List α}(n:(l.map f).Nodup){a b:α}(ha:a∈l)(hb:b∈l)(e:f a=f b):a=b:=by
 induction l with
 | nil=>exact Lv ha
 | cons x r ih =>
  rw[List.map_cons,List.nodup_cons] at n;refine mc2 ha (λ ea=>?_) λ ha'=>?_
  ·refine mc2 hb (λ eb=>?_) λ hb'=>?_
   ·rw[ea,eb]
   ·exact absurd (ea▸e▸List.mem_map_of_mem hb') n.1
  ·refine mc2 hb (λ eb=>?_) λ hb'=>?_
   ·exact absurd (eb▸e▸List.mem_map_of_mem ha') n.1
   ·exact ih n.2 ha' hb'
theorem Inv.setCell{v:PV}(I:Inv X env oc ρ h lv σ)(hx:oc.lookup x=some c)(r:XRel (fz h (X++aH env oc ρ)) ρ v rv)(hc:h'.IsCell c (some rv))(hs:Heap.SameBut c h h'):Inv X env oc ρ h' ((x,v)::lv) σ:=by
 have hm:c∈aH env oc ρ:=gP hx;have k:(fz h (X++aH env oc ρ)).StaysIn (fz h' (X++aH env oc ρ)):=aU λ b o e n=>⟨(hs.2 b λ q=>n (by rw[q];exact mR hm)).trans e,n⟩
 have nd:=List.nodup_cons.mp I.nd;have nd2:=List.nodup_append.mp nd.2;have hcm:c∈oc.map (·.2):=List.mem_map.mpr ⟨(x,c),dO hx,rfl⟩;have nl:env.locals≠c:=λ q=>nd.1 (q▸mL hcm);refine⟨?_,λ y d hd=>?_,λ y w hy hk ho=>?_,I.oce,I.chg.mono k λ b hb=>hs.2 b λ q=>nd2.2.2 c hcm b hb q.symm,I.nd,λ a ha=>?_,I.off,I.ocn⟩
 ·refine aE I.ns λ m hn hv=>?_;refine bK m (hn.sameBut hs nl) λ y w hy hk=>?_;rw[bE] at hy;by_cases q:y=x
  ·clear hy;subst q;have:=(I.oce y c hx).2;rw[hk] at this;cases this
  ·rw[if_neg q] at hy;refine aE (hv y w hy hk) λ rw' a b=>?_;exact bK rw' a (b.mono k)
 ·by_cases q:y=x
  ·subst q;rw[hx] at hd;have q:=sj hd;clear hd;subst q;refine bK (some rv) hc λ w hw=>⟨rv,rfl,?_⟩;rw[bE,if_pos rfl] at hw;have q:=sj hw;clear hw;subst q;exact r.mono k
  ·have hdc:d≠c:=λ z=>q (by
    have:=Fy (f:=λ p:Str×Addr=>p.2) nd2.1 (dO hd) (dO hx) z;exact congrArg Prod.fst this)
   refine aE (I.cell y d hd) λ ov a b=>?_;refine bK ov (jL (hs.2 d hdc) a) λ w hw=>?_;rw[bE,if_neg q] at hw;refine aE (b w hw) λ rw' p z=>?_;exact bK rw' p (z.mono k)
 ·rw[bE] at hy;by_cases q:y=x
  ·clear hy;subst q;rw[hx] at ho;exact nso ho
  ·rw[if_neg q] at hy;refine bB (I.free y w hy hk ho) λ c' rw' a b d=>?_;exact dR c' rw' a (cQ k b) (d.mono k)
 ·refine aB (I.live a ha) λ o ho=>?_;by_cases q:a=c
  ·clear hx hs hm hcm nl;subst q;refine aE hc ?_;clear hc;intro o' ho' _;exact bM o' ho'
  ·exact bM o ((hs.2 a q).trans ho)
theorem MRels.set{R d o'}(hs:∀ b,b≠d->h'.get? b=h.get? b){ρ σ p}(q:MRels g R h ρ σ)(nd:(Ro.all ρ).Nodup)(e:ρ[i]? = some p)(hd:d∈p.1::p.2)(m:MRel g R h' p o'):MRels g R h' ρ (σ.set i o'):=by
 induction q generalizing i with
 | nil=>simp at e
 | cons a r ih =>
  dsimp only [Ro.all,List.flatMap_cons] at nd;have nn:=List.nodup_append.mp nd;cases i with
  | zero =>
   cases sj e;exact .cons m (r.mono (λ _ _ e=>e) λ b hb=>hs b λ z=>nn.2.2 d hd b hb z.symm)
  | succ i =>
   dsimp only [List.getElem?_cons_succ] at e;have hdm:=Ro.mem_all (List.mem_of_getElem? e) hd;exact .cons (a.mono (λ _ _ e=>e) λ b hb=>hs b λ z=>nn.2.2 b hb d hdm z) (ih nn.2.1 e)
theorem Inv.setObj{p d o'}(I:Inv X env oc ρ h lv σ)(hi:ρ[i]? = some p)(hd:d∈p.1::p.2)(hs:Heap.SameBut d h h')(m:MRel (fz h (X++aH env oc ρ)) ρ h' p o'):Inv X env oc ρ h' lv (σ.set i o'):=by
 have hdm:d∈Ro.all ρ:=Ro.mem_all (List.mem_of_getElem? hi) hd;have hm:d∈aH env oc ρ:=aN hdm;have k:(fz h (X++aH env oc ρ)).StaysIn (fz h' (X++aH env oc ρ)):=aU λ b o e n=>⟨(hs.2 b λ q=>n (by rw[q];exact mR hm)).trans e,n⟩
 have nd:=List.nodup_cons.mp I.nd;have nd2:=List.nodup_append.mp nd.2;have nl:env.locals≠d:=λ q=>nd.1 (q▸mR hdm);refine⟨?_,λ y c hc=>?_,λ y w hy hk ho=>?_,I.oce,?_,I.nd,λ a ha=>?_,I.off,I.ocn⟩
 ·refine aE I.ns λ m' hn hv=>?_;exact bK m' (hn.sameBut hs nl) λ y w hy hk=>(hv y w hy hk).imp λ rv q=>⟨q.1,q.2.mono k⟩
 ·refine aE (I.cell y c hc) λ ov a b=>?_;have hcd:c≠d:=λ z=>nd2.2.2 c (List.mem_map.mpr ⟨(y,c),dO hc,rfl⟩) d hdm z;exact bK ov (jL (hs.2 c hcd) a) λ w hw=>(b w hw).imp λ rv q=>⟨q.1,q.2.mono k⟩
 ·refine bB (I.free y w hy hk ho) λ c rv a b z=>?_;exact dR c rv a (cQ k b) (z.mono k)
 ·have:=I.chg.set (h':=h') hs.2 nd2.2.1 hi hd m;exact this.mono k λ _ _=>rfl
 ·by_cases q:a=d
  ·subst q;refine mc2 hd (λ z=>?_) λ z=>?_
   ·cases o' with
    | list xs=>refine aK m ?_;rintro _ ⟨vs,n,e,_⟩;exact bM _ (z▸e)
    | mat rows=>refine aK m ?_;intro q3;refine aB q3 ?_;intro n e;intro _;exact bM _ (z▸e)
    | inst C at'=>refine bB m ?_;intro d' _ _ e _;exact bM _ (z▸e)
   ·cases o' with
    | list xs=>refine aK m ?_;intro e _;rw[e] at z;cases z
    | inst C at' =>
     refine kS m ?_;rintro d' _ e _ ⟨o,_,_,q,_⟩ _;rw[e] at z;exact bM o (xm1 z▸q)
    | mat rows =>
     refine aK m ?_;intro _ e;clear hs hi hd hdm hm nl;have:∀{bs:List Addr} {r:List (List PV)},RowsAt (fz h (X++aH env oc ρ)) h' bs r->a∈bs->∃ o,h'.get? a=some o:=by
      intro bs r w;induction w with
      | nil=>intro z;cases z
      | cons x _ ih =>
       intro z;rcases List.mem_cons.mp z with rfl|z
       ·obtain⟨vs,n,e,_⟩:=x;exact bM _ e
       ·exact ih z
     exact this e z
  ·refine aB (I.live a ha) λ o ho=>?_;exact bM o ((hs.2 a q).trans ho)
theorem cI(p:Addr×List Addr):aH env oc (ρ++[p])=aH env oc ρ++(p.1::p.2):=by
 simp[aH,Ro.all_append,Ro.all]
theorem Inv.newObj{p o}(I:Inv X env oc ρ h lv σ)(f:∀ a∈p.1::p.2,h.get? a=none)(pn:(p.1::p.2).Nodup)(k:Up (X++aH env oc ρ) h h')(l:∀ a∈p.1::p.2,∃ o,h'.get? a=some o)(m:MRel (fz h' (X++aH env oc (ρ++[p]))) (ρ++[p]) h' p o):Inv X env oc (ρ++[p]) h' lv (σ++[o]):=by
 have kg:(fz h (X++aH env oc ρ)).StaysIn (fz h' (X++aH env oc (ρ++[p]))):=aU λ b o e n=>⟨k.out b o n e,λ q=>by
  rw[cI,<- List.append_assoc] at q;refine bN q (λ q=>?_) λ q=>?_
  ·exact n q
  ·rw[f b q] at e;exact nos e⟩
 refine⟨?_,λ y c hc=>?_,λ y w hy hk ho=>?_,I.oce,?_,?_,λ a ha=>?_,λ a ha hm=>?_,I.ocn⟩
 ·refine aE I.ns λ m' hn hv=>?_;exact bK m' (k.ns hn) λ y w hy hk=>(hv y w hy hk).imp λ rv q=>⟨q.1,(q.2.mono kg).more⟩
 ·refine aE (I.cell y c hc) λ ov a b=>?_;exact bK ov (k.cell a) λ w hw=>(b w hw).imp λ rv q=>⟨q.1,(q.2.mono kg).more⟩
 ·refine bB (I.free y w hy hk ho) λ c rv a b z=>?_;exact dR c rv a (cQ kg b) (z.mono kg)
 ·exact(I.chg.up kg k).more.snoc m
 ·rw[cI];refine List.nodup_append.mpr ⟨I.nd,pn,λ a ha b hb z=>?_⟩;refine aB (I.live a (mR ha)) λ o ho=>?_;rw[z,f b hb] at ho;exact nos ho
 ·rw[cI,<- List.append_assoc] at ha;refine bN ha (λ q=>?_) λ q=>?_
  ·exact k.live (I.live a q)
  ·exact l a q
 ·rw[cI] at hm;refine bN hm (λ q=>?_) λ q=>?_
  ·exact I.off a ha q
  ·refine aB (I.live a (mL ha)) λ o ho=>?_;rw[f a q] at ho;exact nos ho
end
end
variable{items xs ys:List PV}{ρ:Ro}{σ σ':List MObj}{lv lv':LV}{io:MObj}
noncomputable def Ch(g:Heap)(v:Value):PV->Prop
 | .none=>v=.none
 | .bool b=>v=.bool b
 | .int i=>∃ t,v=.int i t
 | .str x=>∃ t,v=.str x t
 | .list xs=>∃ a vs n,v=.ref a/\g.get? a=some (cK vs n)/\VRels g xs vs
 | .tuple xs=>∃ a vs n,v=.ref a/\g.get? a=some (Pi vs n)/\VRels g xs vs
 | .fn w=>v=w
 | .obj c=>∃ a o,v=.ref a/\g.get? a=some o/\o.cls=.type c/\(∀ ov,o.data≠.cell ov)/\(c="collections.deque"->∃ vs,o.data=.fields vs/\vs.size=2)
 | .mref _=>False
theorem VRel.inv{x v}(h:VRel g x v):Ch g v x:=by
 apply VRel.casesOn (motive_1:=λ x v _=>Ch g v x) h
 case none|bool|fn=>intros;exact rfl
 case int|str=>intro _ t;exact bM t rfl
 case list|tuple=>intros;exact rS _ _ _ rfl ‹_› ‹_›
 case obj=>intro _ _ _ a b c d;exact Uv _ _ rfl a b c d
noncomputable def Hr(g:Heap)(l:List Value):List PV->Prop
 | []=>l=[]
 | x::xs=>∃ v vs,l=v::vs/\VRel g x v/\VRels g xs vs
theorem VRels.inv{x v}(h:VRels g x v):Hr g v x:=by
 apply VRels.casesOn (motive_2:=λ x v _=>Hr g v x) h
 case nil=>exact rfl
 case cons=>intro _ _ _ _ a b;exact dR _ _ rfl a b
theorem VRels.ind{M:List PV->List Value->Prop}(n:M [] [])(c:∀{x:PV} {v:Value} {xs:List PV} {vs:List Value},VRel g x v->VRels g xs vs->M xs vs->M (x::xs) (v::vs)):∀{xs:List PV} {vs:List Value},VRels g xs vs->M xs vs:=by
 intro xs;induction xs with
 | nil=>intro vs h;exact(h.inv:vs=[])▸n
 | cons x xs ih=>intro vs h;refine bB h.inv ?_;clear h;rintro v vs rfl a b;exact c a b (ih b)
noncomputable def Hu(g:Heap)(ρ:Ro)(v:Value):PV->Prop
 | .mref i=>∃ p,ρ[i]? = some p/\v=.ref p.1
 | x=>Ch g v x
theorem VRel.xi{x v}(h:VRel g x v):Hu g ρ v x:=by
 have q:=h.inv;rcases x with⟨⟩<;>first|exact q|exact q.elim
theorem XRel.inv{x v}(h:XRel g ρ x v):Hu g ρ v x:=by
 apply XRel.casesOn (motive:=λ x v _=>Hu g ρ v x) h
 case frozen=>intro _ _ a;exact a.xi
 case mr=>intro _ _ e;exact bK _ e rfl
section
inductive Tg where
 | n (x:Str)
 | p (x y:Str)
inductive BI where
 | len|sum|list|sorted|sortset|type|int|isstr
inductive ME where
 | join|lstrip|lower|upper|startswith|endswith|find
set_option genCtorIdx false in
mutual
inductive Ex where
 | c (v:PV)
 | v (x:Str)
 | bin (o:Operator) (a b:Ex)
 | neg (a:Ex)
 | not (a:Ex)
 | bop (o:BoolOp) (es:List Ex)
 | cmp (o:CmpOp) (a b:Ex)
 | call (f:Str) (as:List Ex)
 | ext (f:Str) (as:List Ex)
 | bi (f:BI) (a:Ex)
 | me (m:ME) (o:Ex) (as:List Ex)
 | orc (p m:Str) (a:Ex)
 | at(o:Ex) (a:Str)
 | deq
 | bad
 | sub (o i:Ex)
 | sl (o l u s:Ex)
 | list (es:List Ex)
 | tuple (es:List Ex)
 | comp (fr:List Str) (elt:Ex) (gs:List Gn)
inductive Gn where
 | mk (t:Tg) (it:It) (ifs:List Ex)
inductive It where
 | e (x:Ex)
 | range (as:List Ex)
 | zip (a b:Ex)
 | enum (a:Ex)
end
set_option genCtorIdx false in
inductive Sx where
 | asg (x:Str) (e:Ex)
 | mk (x:Str) (es:List Ex)
 | mkm (x l:Str)
 | app (x:Str) (e:Ex)
 | st2 (x:Str) (i j e:Ex)
 | aug (x:Str) (o:Operator) (e:Ex)
 | ite (t:Ex) (a b:List Sx)
 | whl (t:Ex) (b:List Sx)
 | forr (t:Tg) (it:It) (b:List Sx)
 | ret (e:Ex)
 | brk
 | cont
 | bad
 | sat (x a:Str) (e:Ex)
 | saug (x a:Str) (o:Operator) (e:Ex)
 | mcall (x:Option Str) (o:Ex) (m:Str) (as:List Ex)
 | satm (x a:Str) (o:Ex) (m:Str) (as:List Ex)
 | new (x:Str) (C:Str) (as:List Ex)
inductive Fl where
 | next|brk|cont
 | ret (v:PV)
structure Fn where
 ps:List Str
 body:List Sx
structure Tab where
 fn:Str->Option Fn
 ext:Str->List PV->Option PV
 orc:Str->Str->PV->Option PV
 plain:Addr->Str->Bool
 prop:Addr->Str->Option Str
 mth:Addr->Str->Option Fn
 cls:Str->Option (Addr×Fn×List PV)
noncomputable def sLt(x y:Str):Bool:=decide (x.cps.toList<y.cps.toList)
noncomputable def iQ(f:PV->PV->Option Bool):List PV->List PV->Option Bool
 | [],[]=>some true
 | x::xs,y::ys=>match f x y,iQ f xs ys with
  | some a,some b=>some (a&&b)
  | _,_=>none
 | _,_=>none
noncomputable def iP:Nat->PV->PV->Option Bool
 | _,.int a,.int b=>some (a==b)
 | _,.str a,.str b=>some (a==b)
 | _,.bool a,.bool b=>some (a==b)
 | d+1,.list xs,.list ys=>if xs.length=ys.length then iQ (iP d) xs ys else some false
 | d+1,.tuple xs,.tuple ys=>if xs.length=ys.length then iQ (iP d) xs ys else none
 | _,_,_=>none
noncomputable abbrev peq:PV->PV->Option Bool:=iP 4
noncomputable def ltS:List Str->List Str->Bool
 | [],[]=>false
 | [],_::_=>true
 | _::_,[]=>false
 | x::xs,y::ys=>if x=y then ltS xs ys else sLt x y
noncomputable def cC:List PV->Option (List Str)
 | []=>some []
 | .str x::r=>(cC r).map (x::·)
 | _=>none
noncomputable def plt:PV->PV->Option Bool
 | .int a,.int b=>some (decide (a<b))
 | .list xs,.list ys=>match cC xs,cC ys with
  | some a,some b=>some (ltS a b)
  | _,_=>none
 | _,_=>none
noncomputable def kO:List PV->Option (List Int)
 | []=>some []
 | .int x::r=>(kO r).map (x::·)
 | _=>none
noncomputable def pin:PV->List PV->Option Bool
 | .str x,ys=>(cC ys).map λ ss=>ss.any (·==x)
 | .int x,ys=>(kO ys).map λ ss=>ss.any (·==x)
 | _,_=>none
noncomputable def pis:PV->PV->Option Bool
 | .bool a,.bool b=>some (a==b)
 | .none,.none=>some true
 | .list _,.none=>some false
 | .str _,.none=>some false
 | .int _,.none=>some false
 | .fn (.type a),.fn (.type b)=>some (a==b)
 | _,_=>none
noncomputable def cO:CmpOp->PV->PV->Option Bool
 | .Eq,.str _,.none=>some false
 | .Eq,.none,.none=>some true
 | .Eq,a,b=>peq a b
 | .NotEq,a,b=>(peq a b).map (!·)
 | .Lt,a,b=>plt a b
 | .Gt,a,b=>plt b a
 | .In,.str a,.list xs=>pin (.str a) xs
 | .NotIn,.str a,.list xs=>(pin (.str a) xs).map (!·)
 | .NotIn,.int a,.tuple xs=>(pin (.int a) xs).map (!·)
 | .In,.str a,.tuple xs=>pin (.str a) xs
 | .In,.str a,.str b=>some (Txt.contains b a)
 | .NotIn,.str a,.str b=>some (!Txt.contains b a)
 | .GtE,.int a,.int b=>some (decide (b≤a))
 | .LtE,.int a,.int b=>some (decide (a≤b))
 | .Is,a,b=>pis a b
 | .IsNot,a,b=>(pis a b).map (!·)
 | _,_,_=>none
noncomputable def fS:Operator->PV->PV->Option PV
 | .Add,.int a,.int b=>some (.int (a+b))
 | .Add,.str a,.str b=>if a.length+b.length≤100000 then some (.str (a++b)) else none
 | .Add,.list a,.list b=>if a.length+b.length≤100000 then some (.list (a++b)) else none
 | .Sub,.int a,.int b=>some (.int (a - b))
 | .Sub,.bool a,.bool b=>some (.int ((if a then 1 else 0) - (if b then 1 else 0)))
 | .Mult,.int a,.int b=>if a.natAbs<2 ^ 16/\b.natAbs<2 ^ 16 then some (.int (a * b)) else none
 | .FloorDiv,.int a,.int b=>if 0<b/\b<2 ^ 16 then some (.int (Int.fdiv a b)) else none
 | .Mod,.int a,.int b=>if 0<b/\b<2 ^ 16 then some (.int (Int.fmod a b)) else none
 | .Pow,.int a,.int b=>if a=4/\0≤b/\b<8 then some (.int (4 ^ b.toNat)) else none
 | _,_,_=>none
noncomputable def bG:PV->Option Bool
 | .none=>some false
 | .bool b=>some b
 | .int i=>some (decide (i≠0))
 | .str x=>if x.length<1000000 then some (decide (x.length≠0)) else none
 | .obj c=>if c="re.Match" then some true else if c="collections.deque" then some false else none
 | _=>none
noncomputable def deref(σ:List MObj):PV->Option PV
 | .mref i=>match σ[i]? with
  | some (.list xs)=>some (.list xs)
  | _=>none
 | v=>some v
noncomputable def fzv:PV->Option PV
 | .mref _=>none
 | v=>some v
noncomputable def fzvs:List PV->Option (List PV)
 | []=>some []
 | x::r=>match fzv x,fzvs r with
  | some y,some s=>some (y::s)
  | _,_=>none
noncomputable def dX(σ:List MObj):PV->Option PV
 | .mref i=>match σ[i]? with
  | some (.list xs)=>some (.list xs)
  | some (.mat rows)=>some (.list (rows.map .list))
  | _=>none
 | v=>some v
noncomputable def iW(xs:List PV)(i:Int):Option PV :=
 if 0≤i then(if i<1000000 then xs[i.toNat]? else none) else if -1000000≤i/\0≤i+xs.length then xs[(i+xs.length).toNat]? else none
noncomputable def dU:PV->PV->Option PV
 | .list xs,.int i=>iW xs i
 | .tuple xs,.int i=>if 0≤i/\i<1000000 then xs[i.toNat]? else none
 | .str s,.int i=>if 0≤i then(if i<1000000 then(s.cps[i.toNat]?).map λ c=>.str ⟨#[c]⟩ else none) else if -1000000≤i/\0≤i+s.length then(s.cps[(i+s.length).toNat]?).map λ c=>.str ⟨#[c]⟩ else none
 | _,_=>none
noncomputable def oY(x:Option Str)(v:PV)(lv:LV):LV:=match x with
 | some x=>(x,v)::lv
 | none=>lv
noncomputable def eM:Option PV->Option PV
 | some (.fn _)=>none
 | v=>v
noncomputable def eN(a b:Int):List PV:=(List.range (b - a).toNat).map λ(k:Nat)=>.int (a+(k:Int))
noncomputable def eE(xs:List α)(lo hi st:Option Int):List α :=
 (sliceRange (sliceBounds lo hi st xs.length).1 (sliceBounds lo hi st xs.length).2.1 (sliceBounds lo hi st xs.length).2.2).filterMap (xs[·]?)
noncomputable def bP:PV->Option (Option Int)
 | .none=>some none
 | .int k=>some (some k)
 | _=>none
noncomputable def qS:PV->PV->PV->PV->Option PV
 | .list xs,a,b,c=>match bP a,bP b,bP c with
  | some lo,some hi,some st=>if st≠some 0/\xs.length≤100000 then some (.list (eE xs lo hi st)) else none
  | _,_,_=>none
 | .str x,a,b,.none=>match bP a,bP b with
  | some lo,some hi=>if x.length≤100000 then some (.str (Txt.slice x lo hi)) else none
  | _,_=>none
 | _,_,_,_=>none
noncomputable def aAV(xs:List PV):Option Int:=(kO xs).map List.sum
noncomputable def zZ(x:Str):List Str->List Str
 | []=>[x]
 | y::r=>if sLt y x then y::zZ x r else x::y::r
noncomputable def cD:List Str->List Str
 | []=>[]
 | x::r=>zZ x (cD r)
noncomputable def zP:List Str->List Str
 | []=>[]
 | x::r=>if(zP r).contains x then zP r else x::zP r
noncomputable def fU:BI->PV->Option PV
 | .len,.list xs=>if xs.length<1000000 then some (.int xs.length) else none
 | .sum,.list xs=>(aAV xs).map .int
 | .list,.list xs=>if xs.length<1000000 then some (.list xs) else none
 | .sorted,.list xs=>(cC xs).bind λ ss=>if ss.length<64 then some (.list ((cD ss).map .str)) else none
 | .type,.int _=>some (.fn (.type "int"))
 | .type,.str _=>some (.fn (.type "str"))
 | .int,.int i=>some (.int i)
 | .isstr,.str _=>some (.bool true)
 | .len,.str x=>if x.length<1000000 then some (.int x.length) else none
 | _,_=>none
noncomputable def jQ:ME->PV->List PV->Option PV
 | .join,.str s,[.list xs]=>(cC xs).bind λ ss=>if ss.length≤100/\s.length≤100/\ss.all (·.length≤1000) then some (.str (Txt.join s ss)) else none
 | .lstrip,.str s,[.str y]=>if s.length≤100000 then some (.str (Txt.lstripChars s y)) else none
 | .lower,.str s,[]=>if s.length≤100000 then some (.str (Txt.lower s)) else none
 | .upper,.str s,[]=>if s.length≤100000 then some (.str (Txt.upper s)) else none
 | .startswith,.str s,[.str y]=>some (.bool (Txt.startswith s y))
 | .endswith,.str s,[.str y]=>some (.bool (Txt.endswith s y))
 | .find,.str s,[.str y]=>some (.int (Txt.find s y))
 | _,_,_=>none
noncomputable def cJ:CmpOp->PV->PV->Option Bool
 | .Is,.mref _,.none=>some false
 | .IsNot,.mref _,.none=>some true
 | _,_,_=>none
noncomputable def fK(σ:List MObj)(o:CmpOp)(x y:PV):Option Bool:=match cJ o x y with
 | some c=>some c
 | none=>do cO o (<- deref σ x) (<- deref σ y)
noncomputable def dS:Tg->PV->LV->Option LV
 | .n x,v,lv=>some ((x,v)::lv)
 | .p x y,.tuple [a,b],lv=>some ((y,b)::(x,a)::lv)
 | _,_,_=>none
noncomputable def bindC:Tg->PV->LV->Option LV
 | .n x,v,lv=>if(lv.lookup x).isNone then some ((x,v)::lv) else none
 | _,_,_=>none
noncomputable def iA:List Str->LV->Option LV
 | [],_=>some []
 | x::r,lv=>match lv.lookup x,iA r lv with
  | some v,some s=>(fzv v).map λ w=>(x,w)::s
  | _,_=>none
noncomputable abbrev R3:=Option (Fl×LV×List MObj)
noncomputable def fN(a:Str)(v:PV):LV->LV
 | []=>[(a,v)]
 | (b,u)::r=>if a=b then(a,v)::r else(b,u)::fN a v r
theorem nP{a v}:∀ l:LV,(fN a v l).lookup x=if x=a then some v else l.lookup x:=by
 intro l9;induction l9 with
 | nil =>
  dsimp only [fN];simp only[bE]
 | cons x9 r ih =>
  obtain⟨b,u⟩:=x9;dsimp only [fN];split
  ·rename_i e;subst e;simp only[bE,bE];by_cases h:x=a<;>simp[h]
  ·rename_i e;simp only[bE,bE,ih];by_cases h:x=b
   ·subst h;have:¬ x=a:=λ q=>e q.symm;simp[this]
   ·simp[h]
theorem Oh{a v}:∀ l:LV,l.length≤(fN a v l).length/\(fN a v l).length≤l.length+1
 | []=>by simp[fN]
 | (b,u)::r=>by
  have ih:=Oh (a:=a) (v:=v) r;dsimp only [fN];split
  ·simp
  ·simp only[List.length_cons];lia
theorem Oi{a v}:∀{l:LV},l.lookup a=none->(fN a v l).length=l.length+1:=by
 intro l9;induction l9 with
 | nil =>
  intro _;exact rfl
 | cons x9 r ih =>
  obtain⟨b,u⟩:=x9;intro e;rw[bE] at e;dsimp only [fN];split
  ·rename_i h;rw[if_pos h] at e;exact nso e
  ·rename_i h;rw[if_neg h] at e;simp only[List.length_cons];rw[ih e]
theorem Oj{a v w}:∀{l:LV},l.lookup a=some w->(fN a v l).length=l.length:=by
 intro l9;induction l9 with
 | nil=>intros;first|contradiction|(rename_i h;exact nomatch h)
 | cons x9 r ih =>
  obtain⟨b,u⟩:=x9;intro e;rw[bE] at e;dsimp only [fN];split
  ·rfl
  ·rename_i h;rw[if_neg h] at e;simp only[List.length_cons];rw[ih e]
noncomputable def eU(step:PV->LV->List MObj->R3):List PV->LV->List MObj->R3
 | [],lv,σ=>some (.next,lv,σ)
 | x::xs,lv,σ=>match step x lv σ with
  | some (.next,lv',σ')=>eU step xs lv' σ'
  | some (.cont,lv',σ')=>eU step xs lv' σ'
  | some (.brk,lv',σ')=>some (.next,lv',σ')
  | r=>r
noncomputable def fE(f:PV->Option (List PV)):List PV->Option (List PV)
 | []=>some []
 | x::xs=>match f x,fE f xs with
  | some a,some b=>some (a++b)
  | _,_=>none
noncomputable def nL:Nat->List PV->List PV
 | _,[]=>[]
 | k,x::r=>.tuple [.int k,x]::nL (k+1) r
noncomputable def nD:List PV->List PV->List PV
 | x::xs,y::ys=>.tuple [x,y]::nD xs ys
 | _,_=>[]
section
variable(T:Tab)
mutual
noncomputable def ev:Nat->Ex->LV->List MObj->Option PV
 | 0,_,_,_=>none
 | n+1,e,lv,σ=>match e with
  | .c v=>some v
  | .v x=>lv.lookup x
  | .bin o a b=>do
   let x <- ev n a lv σ
   let y <- ev n b lv σ
   fS o (<- deref σ x) (<- deref σ y)
  | .neg a=>do
   match <- ev n a lv σ with
   | .int i=>some (.int (-i))
   | _=>none
  | .not a=>do
   let x <- ev n a lv σ
   return .bool (!(<- bG (<- deref σ x)))
  | .bop o es=>evB n o es lv σ
  | .cmp o a b=>do
   let x <- ev n a lv σ
   let y <- ev n b lv σ
   return .bool (<- fK σ o x y)
  | .call f as=>do cG n f (<- fzvs (<- evs n as lv σ))
  | .ext f as=>do if 200≤n then T.ext f (<- fzvs (<- evs n as lv σ)) else none
  | .bi f a=>do fU f (<- deref σ (<- ev n a lv σ))
  | .me m o as=>do
   let x <- ev n o lv σ
   jQ m (<- deref σ x) (<- fzvs (<- evs n as lv σ))
  | .orc p m a=>do T.orc p m (<- fzv (<- ev n a lv σ))
  | .sub o i=>do
   let x <- ev n o lv σ
   let y <- ev n i lv σ
   dU (<- deref σ x) y
  | .sl o l u s=>do
   let x <- ev n o lv σ
   let a <- ev n l lv σ
   let b <- ev n u lv σ
   let c <- ev n s lv σ
   qS (<- deref σ x) a b c
  | .list es=>do return .list (<- fzvs (<- evs n es lv σ))
  | .tuple es=>do return .tuple (<- fzvs (<- evs n es lv σ))
  | .at o a=>do
   match <- ev n o lv σ with
   | .mref i =>
    match σ[i]? with
    | some (.inst C attrs)=>if T.plain C a then eM (attrs.lookup a) else if 8≤n then eM ((T.prop C a).bind λ b=>attrs.lookup b) else none
    | _=>none
   | _=>none
  | .deq=>some (.obj "collections.deque")
  | .bad=>none
  | .comp fr elt gs=>match gs with
   | .mk t it ifs::r=>do
    let items <- eH n it lv σ
    let lvc <- iA fr lv
    let out <- fE (λ x=>do
     let lv' <- bindC t x lvc
     if <- dM n .And ifs lv' [] then iV n elt r lv' else some []) items
    if out.length<100000 then some (.list out) else none
   | []=>none
noncomputable def evs:Nat->List Ex->LV->List MObj->Option (List PV)
 | 0,_,_,_=>none
 | n+1,es,lv,σ=>match es with
  | []=>some []
  | e::r=>do
   let x <- ev n e lv σ
   return x::(<- evs n r lv σ)
noncomputable def evB:Nat->BoolOp->List Ex->LV->List MObj->Option PV
 | 0,_,_,_,_=>none
 | n+1,o,es,lv,σ=>match es with
  | []=>none
  | [e]=>ev n e lv σ
  | e::r=>do
   let x <- ev n e lv σ
   let b <- bG (<- deref σ x)
   match o,b with
   | .And,false=>some x
   | .Or,true=>some x
   | _,_=>evB n o r lv σ
noncomputable def evT:Nat->Ex->LV->List MObj->Option Bool
 | 0,_,_,_=>none
 | n+1,e,lv,σ=>match e with
  | .not a=>(evT n a lv σ).map (!·)
  | .bop o es=>dM n o es lv σ
  | e=>do bG (<- deref σ (<- ev n e lv σ))
noncomputable def dM:Nat->BoolOp->List Ex->LV->List MObj->Option Bool
 | 0,_,_,_,_=>none
 | n+1,o,es,lv,σ=>match es with
  | []=>some (match o with|.And=>true|.Or=>false)
  | e::r=>do
   let b <- evT n e lv σ
   match o,b with
   | .And,false=>some false
   | .Or,true=>some true
   | _,_=>dM n o r lv σ
noncomputable def eH:Nat->It->LV->List MObj->Option (List PV)
 | 0,_,_,_=>none
 | n+1,it,lv,σ=>match it with
  | .e x=>do
   match <- ev n x lv σ with
   | .list xs=>if xs.length<100000 then some xs else none
   | _=>none
  | .range as=>do
   match <- evs n as lv σ with
   | [.int b]=>if 0≤b/\b<1000 then some (eN 0 b) else none
   | [.int a,.int b]=>if 0≤a/\a<1000/\0≤b/\b<1000 then some (eN a b) else none
   | _=>none
  | .zip a b=>do
   match <- ev n a lv σ,<- ev n b lv σ with
   | .list xs,.list ys=>some (nD xs ys)
   | _,_=>none
  | .enum a=>do
   match <- ev n a lv σ with
   | .list xs=>some (nL 0 xs)
   | _=>none
noncomputable def iV:Nat->Ex->List Gn->LV->Option (List PV)
 | 0,_,_,_=>none
 | n+1,elt,gs,lv=>match gs with
  | []=>do return [<- fzv (<- ev n elt lv [])]
  | .mk t it ifs::r=>do
   let items <- eH n it lv []
   fE (λ x=>do
    let lv' <- bindC t x lv
    if <- dM n .And ifs lv' [] then iV n elt r lv' else some []) items
noncomputable def cG:Nat->Str->List PV->Option PV
 | 0,_,_=>none
 | n+1,f,vs=>match T.fn f with
  | none=>none
  | some F=>if F.ps.length=vs.length then do
    match <- exs n F.body ((F.ps.zip vs).reverse) [] with
    | (.ret v,_,σ')=>dX σ' v
    | (.next,_,_)=>some .none
    | _=>none
   else none
noncomputable def ex:Nat->Sx->LV->List MObj->R3
 | 0,_,_,_=>none
 | n+1,s,lv,σ=>match s with
  | .asg x e=>do return (.next,(x,<- ev n e lv σ)::lv,σ)
  | .mk x es=>do return (.next,(x,.mref σ.length)::lv,σ++[.list (<- fzvs (<- evs n es lv σ))])
  | .mkm x l=>match lv.lookup l with
   | some (.list xs)=>if 6≤n/\xs.length<1000 then some (.next,(x,.mref σ.length)::lv,σ++[.mat (List.replicate xs.length (List.replicate xs.length (PV.int 0)))]) else none
   | _=>none
  | .app x e=>do
   match lv.lookup x with
   | some (.mref i) =>
    match σ[i]? with
    | some (.list xs) =>
     let v <- fzv (<- ev n e lv σ)
     if xs.length<100000 then return (.next,lv,σ.set i (.list (xs++[v]))) else none
    | _=>none
   | _=>none
  | .st2 x i j e=>do
   let v <- fzv (<- ev n e lv σ)
   match lv.lookup x,<- ev n i lv σ,<- ev n j lv σ with
   | some (.mref k),.int a,.int b =>
    match σ[k]? with
    | some (.mat rows) =>
     match rows[a.toNat]? with
     | some row=>if 0≤a/\0≤b/\b.toNat<row.length/\rows.length<1000/\row.length<1000 then some (.next,lv,σ.set k (.mat (rows.set a.toNat (row.set b.toNat v)))) else none
     | none=>none
    | _=>none
   | _,_,_=>none
  | .aug x o e=>do
   match o,<- lv.lookup x,<- ev n e lv σ with
   | .Add,.int a,.int b=>some (.next,(x,.int (a+b))::lv,σ)
   | _,_,_=>none
  | .ite t a b=>do
   if <- evT n t lv σ then exs n a lv σ else exs n b lv σ
  | .whl t b=>cT n t b lv σ
  | .forr t it b=>do
   let items <- eH n it lv σ
   eU (λ x lv σ=>do exs n b (<- dS t x lv) σ) items lv σ
  | .ret e=>do return (.ret (<- ev n e lv σ),lv,σ)
  | .brk=>some (.brk,lv,σ)
  | .cont=>some (.cont,lv,σ)
  | .bad=>none
  | .sat x a e=>do
   let v <- ev n e lv σ
   match lv.lookup x with
   | some (.mref i) =>
    match σ[i]? with
    | some (.inst C attrs)=>if T.plain C a/\attrs.length<100000 then some (.next,lv,σ.set i (.inst C (fN a v attrs))) else none
    | _=>none
   | _=>none
  | .saug x a o e=>do
   let v <- ev n e lv σ
   match lv.lookup x with
   | some (.mref i) =>
    match σ[i]? with
    | some (.inst C attrs) =>
     if attrs.length<100000 then
      match T.plain C a,o,attrs.lookup a,v with
      | true,.Add,some (.int p),.int q=>some (.next,lv,σ.set i (.inst C (fN a (.int (p+q)) attrs)))
      | true,.Add,some (.str p),.str q=>if p.length+q.length≤100000 then some (.next,lv,σ.set i (.inst C (fN a (.str (p++q)) attrs))) else none
      | _,_,_,_=>none
     else none
    | _=>none
   | _=>none
  | .satm x a o m as=>do
   match <- ex n (.mcall (some x) o m as) lv σ with
   | (.next,(_,v)::_,σ') =>
    match lv.lookup x with
    | some (.mref i) =>
     match σ'[i]? with
     | some (.inst C attrs)=>if T.plain C a/\attrs.length<100000 then some (.next,lv,σ'.set i (.inst C (fN a v attrs))) else none
     | _=>none
    | _=>none
   | _=>none
  | .mcall x o m as=>do
   match <- ev n o lv σ with
   | .mref i =>
    match σ[i]? with
    | some (.inst C attrs) =>
     match T.mth C m with
     | some F=>do
      let vs <- evs n as lv σ
      if F.ps.length=vs.length+1/\(attrs.lookup m).isNone then
       match <- exs n F.body ((F.ps.zip (.mref i::vs)).reverse) σ with
       | (.ret v,_,σ')=>some (.next,oY x v lv,σ')
       | (.next,_,σ')=>some (.next,oY x .none lv,σ')
       | _=>none
      else none
     | none=>none
    | _=>none
   | _=>none
  | .new x C as=>match n with
   | 0=>none
   | k+1=>do
    match T.cls C with
    | some (c,F,ds)=>do
     let vs <- evs k as lv σ
     if F.ps.length=vs.length+ds.length+1/\8≤k then
      match <- exs k F.body ((F.ps.zip (.mref σ.length::vs++ds)).reverse) (σ++[.inst c []]) with
      | (.next,_,σ')=>some (.next,(x,.mref σ.length)::lv,σ')
      | _=>none
     else none
    | none=>none
noncomputable def cT:Nat->Ex->List Sx->LV->List MObj->R3
 | 0,_,_,_,_=>none
 | n+1,t,b,lv,σ=>do
  if <- evT n t lv σ then
   match <- exs n b lv σ with
   | (.next,lv',σ')=>cT n t b lv' σ'
   | (.cont,lv',σ')=>cT n t b lv' σ'
   | (.brk,lv',σ')=>some (.next,lv',σ')
   | r=>some r
  else some (.next,lv,σ)
noncomputable def exs:Nat->List Sx->LV->List MObj->R3
 | 0,_,_,_=>none
 | n+1,ss,lv,σ=>match ss with
  | []=>some (.next,lv,σ)
  | s::r=>do
   match <- ex n s lv σ with
   | (.next,lv',σ')=>exs n r lv' σ'
   | q=>some q
end
end
end
variable{a b o:Ex}{as bs es:List Ex}{T:Tab}{gs:List Gn}{fl:Fl}{b':List Sx}
section
open PySem.SeqAt Builtin
theorem eO:Slot "collections.deque" "__len__" "collections.deque.__len__" :=
 .of (owner:="collections.deque") (n:="__len__") (by rw[typeLookup_type,builtinLookup_eq_fast];kernel_rfl) (by decide +kernel) (by decide +kernel) (by decide +kernel)
  (by first|exact .inl (by decide +kernel)|exact .inr (by decide +kernel)) (by rw[isSubtype_type];kernel_rfl)
theorem nZ:entryFor table "collections.deque.__len__"=some Builtin.«collections.deque.__len__»:=entryFor_of_tree (by kernel_rfl)
theorem oU(a:Value):argsOk "collections.deque.__len__" ⟨[a],[]⟩:=by unfold argsOk;kernel_rfl
theorem lQ:typeLookup (.type "collections.deque") "__bool__"=pure none:=by rw[typeLookup_type,builtinLookup_eq_fast];kernel_rfl
section
theorem Fm{l o vs}(ho:s.heap.get? l=some o)(hc:o.cls=.type "collections.deque")(hd:o.data=.fields vs)(hn:vs.size=2)(h:Q (.int 0 (s.toks+1)) { s with toks:=s.toks+1+1 }):wpAny (model prog w) A (Builtin.«len» ⟨[.ref l],[]⟩) (λ fin s'=>∃ r,fin=.done (.ret r)/\Q r s') E s:=by
 have hT:s.TypeIs (.ref l) "collections.deque":=⟨o,ho,hc⟩;unfold Builtin.«len»;refine wB (m:=oneArg "len" _) (wP ?_);refine wB (m:=callSpecial? (.ref l) (Str.ofString "__len__")) (wpAny_callSpecial?_slot (name:=Str.ofString "__len__") hT eO
  (wpAny_call_entry eO hT nZ ?_ (oU _)))
 show wpAny _ _ (Deque.size (.ref l) >>= λ n=>retInt n) _ _ s;unfold Deque.size;refine wB (wB (wpAny_fieldsOf ho hd (wP ?_)));rw[hn];refine wB (wpAny_mkInt (wP ⟨_,rfl,?_⟩));refine wB (wpAny_holding (wP ?_));refine wB (wpAny_letGo ?_);show wpAny _ _ (if((2 - 2:Nat):Int)<0 then _ else _) _ _ _
 rw[if_neg (by decide)]
 show wpAny _ _ (if((2 - 2:Nat):Int)≥2 ^ 63 then _ else _) _ _ _
 rw[if_neg (by decide)]
 exact wB (wpAny_mkInt (wP ⟨_,rfl,h⟩))
theorem vC{l o vs Q}(ho:s.heap.get? l=some o)(hc:o.cls=.type "collections.deque")(hd:o.data=.fields vs)(hn:vs.size=2)(h:Q false { s with toks:=s.toks+1+1 }):wpAny (model prog w) A (truthy (.ref l)) Q E s:=by
 have hT:s.TypeIs (.ref l) "collections.deque":=⟨o,ho,hc⟩;have key:wpAny (model prog w) A (runValue (.builtin "len" ⟨[.ref l],[]⟩)) (λ r s'=>r=.int 0 (s.toks+1)/\Q false s') E s:=by
  refine wpAny_runValue (codeAny_builtin entry_len ?_);dsimp only [Around.under_plainId plain_len _];exact wpAny_mono (Fm (Q:=λ r s'=>r=.int 0 (s.toks+1)/\Q false s') ho hc hd hn ⟨rfl,h⟩)
   (λ fin s' h'=>by refine aE h' ?_;clear h';rintro r rfl hq;exact hq) λ _ _ e=>e
 unfold truthy
 first
  | refine wB (wpAny_callSpecial?_none (name:=Str.ofString "__bool__") hT lQ ?_)
  | refine wB (wP (wB (wpAny_callSpecial?_none (name:=Str.ofString "__bool__") hT lQ ?_)))
 first
  | refine wB (wpAny_specialOf (name:=Str.ofString "__len__") hT eO.lookup ?_)
  | refine wB (wP (wB (wpAny_specialOf (name:=Str.ofString "__len__") hT eO.lookup ?_)))
 first
  | exact wB (wpAny_mono key (λ r s' h'=>by refine aK h' ?_;clear h';rintro rfl hq;exact wP hq) λ _ _ e=>e)
  | exact wB (wP (wB (wpAny_mono key (λ r s' h'=>by obtain⟨rfl,hq⟩:=h';exact wP hq) λ _ _ e=>e)))
end
theorem oF:Slot "collections.deque" "__init__" "collections.deque.__init__" :=
 .of (owner:="collections.deque") (n:="__init__") (by rw[typeLookup_type,builtinLookup_eq_fast];kernel_rfl) (by decide +kernel) (by decide +kernel) (by decide +kernel)
  (by first|exact .inl (by decide +kernel)|exact .inr (by decide +kernel)) (by rw[isSubtype_type];kernel_rfl)
theorem mH:entryFor table "collections.deque.__init__"=some Builtin.«collections.deque.__init__»:=entryFor_of_tree (by kernel_rfl)
theorem oA:entryFor table "collections.deque.__new__"=some Builtin.«collections.deque.__new__»:=entryFor_of_tree (by kernel_rfl)
theorem nY(a:Value):argsOk "collections.deque.__init__" ⟨[a],[]⟩:=by unfold argsOk;kernel_rfl
theorem qY:checkTypeCall "collections.deque" ⟨[],[]⟩=pure ():=by kernel_rfl
theorem rJ:checkBuiltinCall "collections.deque.__new__" ⟨[.type "collections.deque"],[]⟩=pure ():=by kernel_rfl
theorem sJ:mroOf (.type "collections.deque")=pure [.type "collections.deque",.type "object"]:=by rw[mroOf_type];kernel_rfl
theorem mN:typeLookup (.type "collections.deque") "__new__"=pure (some (.builtin "collections.deque.__new__")):=by rw[typeLookup_type,builtinLookup_eq_fast];kernel_rfl
theorem sY:isSubtype (.type "collections.deque") (.type "collections.deque")=pure true:=by rw[isSubtype_type];kernel_rfl
theorem tQ:TypeCalled "collections.deque" "collections.deque.__new__" "collections.deque.__init__" :=
 ⟨by decide +kernel,by decide +kernel,⟨_,_,sJ⟩,madeBy_type sJ mN (by decide +kernel),by decide +kernel,sY,oF⟩
noncomputable abbrev rY:Obj:={ cls:=.type "collections.deque",data:=.fields #[.none,rawInt 0] }
theorem oD:Meets (Builtin.«collections.deque.__new__» ⟨[.type "collections.deque"],[]⟩) (λ _ R s=>R (.ok (.ret (.ref s.heap.objs.size))) { s with heap:=s.heap.push rY }) :=
 Meets.of_wp λ prog w A R s h=>by
  unfold Builtin.«collections.deque.__new__» Deque.newArgs;refine wB (wB (wP (wB (wpAny_of_eq sY ?_))));refine wP ?_;show wpAny _ _ (Deque.new (.type "collections.deque") #[] none >>= λ v=>ret v) _ _ _;unfold Deque.new;refine wB ?_;have hd:typeHasDict (.type "collections.deque")=false:=by kernel_rfl
  dsimp only [hd,Bool.false_eq_true,if_false];rw[if_neg (by simp)]
  refine wB (wP ?_);refine wpAny_newObj_type ?_ (by simp[sizeOk])
  exact wP ⟨_,rfl,h⟩
theorem mT{x}:Meets (Builtin.«collections.deque.__init__» ⟨[.ref x],[]⟩) (λ _ R s=>s.heap.get? x=some rY/\∀ h',Heap.SameBut x s.heap h'->h'.get? x=some rY->R (.ok (.ret .none)) { s with heap:=h' }) :=
 Meets.of_wp λ prog w A R s h=>by
  refine aK h ?_;intro hx h;unfold Builtin.«collections.deque.__init__»;refine wB (wP ?_);refine wB (wP ?_);refine wB (wP ?_);show wpAny _ _ (setField (.ref x) 0 .none >>= λ _=>Deque.clear (.ref x) >>= λ _=>ret .none) _ _ _;have he:(s.heap.update x (Obj.mapFields λ y=>y.setIfInBounds 0 .none)).get? x=some rY:=by
   rw[Heap.get?_update_self _ hx (by rfl)];rfl
  refine wB (wpAny_setField hx rfl (by decide) ?_)
  unfold Deque.clear Deque.items;refine wB (wB (wB (wpAny_fieldsOf he rfl (wP ?_))));rw[if_neg (by decide)]
  exact wP (wP ⟨_,rfl,h _ (Heap.SameBut.update ..) he⟩)
section
theorem zH(h:∀ h',s.heap.StaysIn h'->h'.get? s.heap.objs.size=some rY->Q (.ref s.heap.objs.size) { s with heap:=h' }):wpAny (model prog w) A (call (.type "collections.deque") []) Q E s :=
 callType_meets tQ qY rJ oA mH oD
  (Q₁:=λ v s₁=>v=.ref s.heap.objs.size/\s₁={ s with heap:=s.heap.push rY })
  ⟨rfl,rfl⟩ λ obj s₁ hq=>by
   refine aK hq ?_;clear hq;rintro rfl rfl;refine⟨⟨_,Heap.get?_push_size _ rfl,rfl⟩,nY _,_,mT,Heap.get?_push_size _ rfl,λ h' hs he=>⟨rfl,?_⟩⟩;refine h h' (λ b o e=>hs.extBut b o (Nat.ne_of_lt (Heap.lt_size e)) (Heap.get?_push_of_some _ e)) he
end
end
section
open PySem.SeqAt
theorem gW{h:Heap}{a:Addr}{o:Obj}(l:∀ b∈H,∃ o,h.get? b=some o)(n:h.get? a=none)(e:h'.get? a=some o):(fz h' H).get? a=some o :=
 dG e λ m=>by refine aB (l a m) λ o' q=>?_;rw[n] at q;exact nos q
theorem bW(h:Heap):h.get? h.objs.size=none:=by
 cases q:h.get? h.objs.size with
 | none=>rfl
 | some o=>exact absurd (Heap.lt_size q) (Nat.lt_irrefl _)
theorem aS(h:Heap)(o:Obj):h.StaysIn (h.push o):=λ _ _ e=>Heap.get?_push_of_some o e
theorem aQ(h:Heap):h.StaysIn h:=λ _ _ e=>e
theorem aM{a b c:Heap}(x:a.StaysIn b)(y:b.StaysIn c):a.StaysIn c:=λ p o e=>y p o (x p o e)
inductive ARel(g h:Heap):PV->Value->Prop
 | frozen {v:PV} {rv:Value}:VRel g v rv->ARel g h v rv
 | live {a:Addr} {xs:List PV} {vs:List Value} {n:Nat}:h.get? a=some (cK vs n)->VRels g xs vs->ARel g h (.list xs) (.ref a)
section
variable{h:Heap}
theorem ARel.list(k:g.StaysIn h)(r:ARel g h (.list xs) rv):∃ a vs n,rv=.ref a/\h.get? a=some (cK vs n)/\VRels g xs vs:=by
 cases r with
 | frozen r=>refine bQ (r.inv) ?_;clear r;rintro _ _ _ rfl e v;exact rS _ _ _ rfl (k _ _ e) v
 | live e v=>exact rS _ _ _ rfl e v
theorem ARel.v{v}(r:ARel g h v rv)(n:∀ xs,v≠.list xs):VRel g v rv:=by
 cases r with
 | frozen r=>exact r
 | live=>exact absurd rfl (n _)
theorem ARel.up(k:g.StaysIn h){v}:ARel g h v rv->VRel h v rv
 | .frozen r=>r.mono k
 | .live e r=>.list e (r.mono k)
theorem aI{a}(e:h.get? a=some (cK vs n)):h.IsList a vs.toArray:=⟨_,e,rfl,n,rfl⟩
theorem cF{a}(e:h.get? a=some (Pi vs n)):h.IsTuple a vs.toArray:=⟨_,e,rfl,n,rfl⟩
theorem VRels.length:∀{vs:List Value},VRels g xs vs->vs.length=xs.length:=by
 induction xs with
 | nil=>intro vs r;cases r.inv;rfl
 | cons x xs ih=>intro vs r;refine bB (r.inv) ?_;clear r;rintro _ _ rfl _ r2;exact congrArg (·+1) (ih r2)
theorem VRels.get:∀{vs:List Value} {i:Nat} {x:PV},VRels g xs vs->xs[i]? = some x->∃ v,vs[i]? = some v/\VRel g x v:=by
 induction xs with
 | nil=>intro vs i x r e;simp at e
 | cons y xs ih =>
  intro vs i x r e;refine bB (r.inv) ?_;clear r;rintro _ _ rfl a r2;cases i with
  | zero=>cases sj e;exact bK _ rfl a
  | succ i=>have q:=ih r2 e;exact q
theorem VRels.append{ws}(r:VRels g xs vs)(q:VRels g ys ws):VRels g (xs++ys) (vs++ws):=by
 revert vs;induction xs with
 | nil=>intro vs r;cases r.inv;exact q
 | cons x xs ih=>intro vs r;refine bB (r.inv) ?_;clear r;rintro _ _ rfl a r2;have q2:=ih r2;exact .cons a q2
theorem VRels.drop:∀{vs:List Value} (n:Nat),VRels g xs vs->VRels g (xs.drop n) (vs.drop n):=by
 induction xs with
 | nil=>intro vs n r;cases r.inv;simp only[List.drop_nil,List.drop_nil];exact .nil
 | cons x xs ih =>
  intro vs n r;refine bB (r.inv) ?_;rintro _ _ rfl a r2;cases n with
  | zero=>exact r
  | succ n=>exact ih n r2
theorem VRels.set:∀{vs:List Value} (i:Nat) {x:PV} {v:Value},VRels g xs vs->VRel g x v->VRels g (xs.set i x) (vs.set i v):=by
 induction xs with
 | nil=>intro vs i x v r _;cases r.inv;exact .nil
 | cons y xs ih =>
  intro vs i x v r a;refine bB (r.inv) ?_;clear r;rintro _ _ rfl b r2;cases i with
  | zero=>exact .cons a r2
  | succ i=>exact .cons b (ih i r2 a)
end
section
theorem xD{a us m}(e1:g.get? a=some (cK vs n))(e2:g.get? a=some (cK us m)):vs=us :=
 congrArg Array.toList (Data.seq.inj (Obj.mk.inj (sj (e1.symm.trans e2))).2.2.1).1
theorem Pj{a us m}(e1:g.get? a=some (Pi vs n))(e2:g.get? a=some (Pi us m)):vs=us :=
 congrArg Array.toList (Data.seq.inj (Obj.mk.inj (sj (e1.symm.trans e2))).2.2.1).1
theorem sO{f x y b}(e:iQ f (x::xs) (y::ys)=some b):∃ p q,f x y=some p/\iQ f xs ys=some q/\b=(p&&q):=by
 have e':(match f x y,iQ f xs ys with|some a,some b=>some (a&&b)|_,_=>none)=some b:=e
 cases h1:f x y with
 | none=>simp only[h1] at e';exact nos e'
 | some p =>
  cases h2:iQ f xs ys with
  | none=>simp only[h1,h2] at e';exact nos e'
  | some q=>simp only[h1,h2] at e';exact dR p q rfl rfl ((sj e').symm)
inductive PeqC:Nat->PV->PV->Bool->Prop
 | int (d:Nat) (i j:Int):PeqC d (.int i) (.int j) (i==j)
 | str (d:Nat) (i j:Str):PeqC d (.str i) (.str j) (i==j)
 | bool (d:Nat) (i j:Bool):PeqC d (.bool i) (.bool j) (i==j)
 | list {d:Nat} {xs ys:List PV} {b:Bool}:xs.length=ys.length->iQ (iP d) xs ys=some b->PeqC (d+1) (.list xs) (.list ys) b
 | listN {d:Nat} {xs ys:List PV}:xs.length≠ys.length->PeqC (d+1) (.list xs) (.list ys) false
 | tuple {d:Nat} {xs ys:List PV} {b:Bool}:xs.length=ys.length->iQ (iP d) xs ys=some b->PeqC (d+1) (.tuple xs) (.tuple ys) b
set_option tactic.hygienic true in
theorem mV{x y b}(e:iP d x y=some b):PeqC d x y b:=by
 rcases d with⟨⟩<;>rcases x with⟨⟩<;>first|exact nos e|(rcases y with⟨⟩<;>first|exact nos e|((have q:=sj e;clear e;subst q);first|exact .int .. | exact .str .. | exact .bool ..)|skip)
 ·rename_i d xs ys;by_cases h:xs.length=ys.length
  ·exact .list h ((if_pos h).symm.trans e)
  ·cases sj ((if_neg h).symm.trans e);exact .listN h
 ·refine aK (bC e) λ h e=>?_;exact .tuple h e
theorem sP{f}(hf:∀ x y v b,VRel g x v->VRel g y v->f x y=some b->b=true):∀{xs ys:List PV} {vs:List Value} {b:Bool},VRels g xs vs->VRels g ys vs->iQ f xs ys=some b->b=true:=by
 intro xs;induction xs with
 | nil =>
  intro ys vs b r1 r2 e;clear r2;cases ys with
  | nil=>exact(sj e).symm
  | cons y ys=>exact nos e
 | cons x xs ih =>
  intro ys vs b r1 r2 e;cases ys with
  | nil=>exact nos e
  | cons y ys =>
   refine bB (sO e) ?_;rintro p q h1 h2 rfl;refine bB (r1.inv) ?_;rintro v vs rfl a r;refine bB (r2.inv) λ _ _ q1 a' r'=>?_;cases q1;simp only[hf _ _ _ _ a a' h1,ih r r' h2];rfl
theorem mW:∀(d:Nat) (x y:PV) (v:Value) (b:Bool),VRel g x v->VRel g y v->PeqC d x y b->b=true:=by
 intro d;induction d with
 | zero =>
  intro x y v b hx hy c;cases c
  ·refine aB (hx.inv) ?_;clear hx;rintro _ rfl;refine aB (hy.inv) λ _ q=>?_;clear hy;cases q;exact beq_self_eq_true _
  ·refine aB (hx.inv) ?_;clear hx;rintro _ rfl;refine aB (hy.inv) λ _ q=>?_;clear hy;cases q;exact beq_self_eq_true _
  ·have q:_=_:=hx.inv;clear hx;subst q;cases hy.inv;exact beq_self_eq_true _
 | succ d ih =>
  intro x y v b hx hy c;cases c with
  | int=>refine aB (hx.inv) ?_;clear hx;rintro _ rfl;refine aB (hy.inv) λ _ q=>?_;clear hy;cases q;exact beq_self_eq_true _
  | str=>refine aB (hx.inv) ?_;clear hx;rintro _ rfl;refine aB (hy.inv) λ _ q=>?_;clear hy;cases q;exact beq_self_eq_true _
  | bool=>have q:_=_:=hx.inv;clear hx;subst q;cases hy.inv;exact beq_self_eq_true _
  | list h e =>
   refine bQ (hx.inv) ?_;rintro _ _ _ rfl e1 r1;refine bQ (hy.inv) λ _ _ _ q e2 r2=>?_;cases q;cases xD e1 e2;exact sP (λ x y v b p q s=>ih x y v b p q (mV s)) r1 r2 e
  | listN h =>
   refine bQ (hx.inv) ?_;rintro _ _ _ rfl e1 r1;refine bQ (hy.inv) λ _ _ _ q e2 r2=>?_;cases q;cases xD e1 e2;exact absurd (r1.length.symm.trans r2.length) h
  | tuple h e =>
   refine bQ (hx.inv) ?_;rintro _ _ _ rfl e1 r1;refine bQ (hy.inv) λ _ _ _ q e2 r2=>?_;cases q;cases Pj e1 e2;exact sP (λ x y v b p q s=>ih x y v b p q (mV s)) r1 r2 e
end
theorem Td{f}:∀{xs ys:List PV} {b:Bool},iQ f xs ys=some b->∃ es:List Bool,es.length=xs.length/\xs.length=ys.length/\b=es.all id /\
  ∀(j:Nat) (x y:PV),xs[j]? = some x->ys[j]? = some y->∃ c,es[j]? = some c/\f x y=some c:=by
 intro xs;induction xs with
 | nil =>
  intro ys b e;cases ys with
  | nil=>exact yM [] rfl rfl ((sj e).symm) λ j x y q=>by simp at q
  | cons y ys=>exact nos e
 | cons x xs ih =>
  intro ys b e;cases ys with
  | nil=>exact nos e
  | cons y ys =>
   refine bB (sO e) ?_;rintro p q h1 h2 rfl;refine rB (ih h2) ?_;clear h2 e;rintro es a1 a2 rfl a4;refine yM (p::es) (congrArg (·+1) a1) (congrArg (·+1) a2) rfl λ j u v hu hv=>?_;cases j with
   | zero =>
    have q:=sj hu;clear hu;subst q;have q:=sj hv;clear hv;subst q;exact bK p rfl h1
   | succ j=>exact a4 j u v hu hv
theorem Xd(es:List Bool):((List.range es.length).all λ j=>es.getD j false)=es.all id:=by
 have e:((List.range es.length).map λ j=>es.getD j false)=es:=by
  apply List.ext_getElem?;intro i;simp only[List.getElem?_map];by_cases h:i<es.length
  ·simp[h,List.getElem?_range h]
  ·have h':es.length≤i:=Nat.le_of_not_lt h;simp[List.getElem?_eq_none h',h']
 conv=>rhs;rw[<- e]
 simp only[List.all_map];rfl
theorem oQ{f}(hf:∀ x y v u b,VRel s.heap x v->VRel s.heap y u->f x y=some b->EqAt A s v u b){us b}(r1:VRels s.heap xs vs)(r2:VRels s.heap ys us)(e:iQ f xs ys=some b) :
  ∃ k:Nat->Bool,(∀ j (h1:j<vs.toArray.size) (h2:j<us.toArray.size),EqAt A s vs.toArray[j] us.toArray[j] (k j))/\(List.range vs.toArray.size).all k=b/\vs.toArray.size=us.toArray.size:=by
 refine rB (Td e) λ es a1 a2 a3 a4=>?_;have l1:=r1.length;have l2:=r2.length;refine rA (λ j=>es.getD j false) (λ j h1 h2=>?_) ?_ (by simp;lia)
 ·simp only[List.size_toArray] at h1 h2;have hx:xs[j]? = some (xs[j]'(by omega)):=List.getElem?_eq_getElem _
  have hy:ys[j]? = some (ys[j]'(by omega)):=List.getElem?_eq_getElem _
  refine aE (r1.get hx) λ v v1 v2=>?_;refine aE (r2.get hy) λ u u1 u2=>?_;refine aE (a4 j _ _ hx hy) λ c c1 c2=>?_;have ev:vs[j]=v:=by simp only[List.getElem?_eq_getElem h1] at v1;exact sj v1
  have eu:us[j]=u:=by simp only[List.getElem?_eq_getElem h2] at u1;exact sj u1
  have ec:es.getD j false=c:=by simp only[List.getD_eq_getElem?_getD,c1];rfl
  simp only[List.getElem_toArray,ev,eu,ec];exact hf _ _ _ _ _ v2 u2 c2
 ·simp only[List.size_toArray,l1,<- a1,Xd,a3]
theorem Tc:∀(d:Nat) {A:Around} {x y:PV} {v u:Value} {b:Bool},A.units+d<cLine->VRel s.heap x v->VRel s.heap y u->PeqC d x y b->EqAt A s v u b:=by
 intro d;induction d with
 | zero =>
  intro A x y v u b hu hx hy c;cases c
  ·refine aB hx.inv ?_;clear hx;rintro _ rfl;refine aB hy.inv ?_;clear hy;rintro _ rfl;exact EqAt.int_int _ _ _ _
  ·refine aB hx.inv ?_;clear hx;rintro _ rfl;refine aB hy.inv ?_;clear hy;rintro _ rfl;exact EqAt.str_str _ _ _ _
  ·have q:_=_:=hx.inv;clear hx;subst q;have q:_=_:=hy.inv;clear hy;subst q;exact EqAt.bool_bool _ _
 | succ d ih =>
  intro A x y v u b hu hx hy c;have hu':A.in1.units+d<cLine:=by show A.units+1+d<cLine;lia
  have c0:=c;cases c with
  | int=>refine aB hx.inv ?_;clear hx;rintro _ rfl;refine aB hy.inv ?_;clear hy;rintro _ rfl;exact EqAt.int_int _ _ _ _
  | str=>refine aB hx.inv ?_;clear hx;rintro _ rfl;refine aB hy.inv ?_;clear hy;rintro _ rfl;exact EqAt.str_str _ _ _ _
  | bool=>have q:_=_:=hx.inv;clear hx;subst q;have q:_=_:=hy.inv;clear hy;subst q;exact EqAt.bool_bool _ _
  | list h e =>
   refine bQ (hx.inv) ?_;rintro a vs n rfl e1 r1;refine bQ (hy.inv) ?_;rintro a' us n' rfl e2 r2;by_cases ha:a=a'
   ·subst ha;simp only[mW (d+1) _ _ _ _ hx hy c0];exact EqAt.same _
   ·refine fQ (oQ (A:=A.in1) (λ x y v u b p q s=>ih hu' p q (mV s)) r1 r2 e) λ k k1 k2 k3=>?_;simp only[<- k2];exact EqAt.of_refs ha (RcAt.lists (aI e1) (aI e2) k3 (by exact ll6 ‹_›) k1)
  | listN h =>
   refine bQ (hx.inv) ?_;rintro a vs n rfl e1 r1;refine bQ (hy.inv) ?_;rintro a' us n' rfl e2 r2;by_cases ha:a=a'
   ·subst ha;simp only[mW (d+1) _ _ _ _ hx hy c0];exact EqAt.same _
   ·refine EqAt.of_refs ha (RcAt.lists_lengths (aI e1) (aI e2) ?_ (by exact ll6 ‹_›))
    simp only[List.size_toArray,List.size_toArray,r1.length,r2.length];simpa using h
  | tuple h e =>
   refine bQ (hx.inv) ?_;rintro a vs n rfl e1 r1;refine bQ (hy.inv) ?_;rintro a' us n' rfl e2 r2;by_cases ha:a=a'
   ·subst ha;simp only[mW (d+1) _ _ _ _ hx hy c0];exact EqAt.same _
   ·refine EqAt.of_refs ha ?_;refine fQ (oQ (A:=A.in1) (λ x y v u b p q s=>ih hu' p q (mV s)) r1 r2 e) λ k k1 k2 k3=>?_;have:=RcAt.tuples (cF e1) (cF e2) (by exact ll6 ‹_›) k1
    simp only[<- k3,Nat.min_self,k2] at this;simpa using this
end
noncomputable def Hl(g h:Heap)(v:Value):PV->Prop
 | .list xs=>∃ a vs n,v=.ref a/\(g.get? a=some (cK vs n)∨h.get? a=some (cK vs n))/\VRels g xs vs
 | x=>Ch g v x
theorem VRel.ai{h x v}(r:VRel g x v):Hl g h v x:=by
 have q:=r.inv;rcases x with⟨⟩<;>first|exact q|((refine bQ q ?_;intro a b c e f i);exact rS a b c e (.inl f) i)
theorem ARel.inv{h x v}(r:ARel g h x v):Hl g h v x:=by
 apply ARel.casesOn (motive:=λ x v _=>Hl g h v x) r
 case frozen=>intro _ _ a;exact a.ai
 case live=>intro _ _ _ _ a b;exact rS _ _ _ rfl (.inr a) b
section
open PySem.SeqAt
theorem eP:∀{xs:List PV} {vs:List Value} {ss:List Str},VRels g xs vs->cC xs=some ss->StrsAre vs ss:=by
 intro xs;induction xs with
 | nil=>intro vs ss r e;cases r.inv;cases sj e;exact .nil
 | cons x xs ih =>
  intro vs ss r e;refine bB (r.inv) ?_;rintro _ _ rfl a r2;rcases x with⟨⟩<;>first|exact nos e|skip
  refine aE (Option.map_eq_some_iff.mp e) ?_;clear e;rintro q q1 rfl;refine aB a.inv ?_;clear a;clear r;rintro _ rfl;exact .cons _ _ (ih r2 q1)
theorem wS:∀{xs:List PV} {vs:List Value} {ss:List Int},VRels g xs vs->kO xs=some ss->IntsAre vs ss:=by
 intro xs;induction xs with
 | nil=>intro vs ss r e;cases r.inv;cases sj e;exact .nil
 | cons x xs ih =>
  intro vs ss r e;refine bB (r.inv) ?_;rintro _ _ rfl a r2;rcases x with⟨⟩<;>first|exact nos e|skip
  refine aE (Option.map_eq_some_iff.mp e) ?_;clear e;rintro q q1 rfl;refine aB a.inv ?_;clear a;clear r;rintro _ rfl;exact .cons _ _ (ih r2 q1)
section
noncomputable abbrev VPost(H:List Addr)(s:Shared)(Q:Value->Shared->Prop)(r:PV):Prop :=
 ∀ h' tk rv,s.heap.StaysIn h'->VRel (fz h' H) r rv->Q rv { s with heap:=h',toks:=tk }
theorem aDT(s:Shared)(tk:Nat):({ s with toks:=tk }:Shared)={ s with heap:=s.heap,toks:=tk }:=rfl
noncomputable def uE(x:Int):Value->Bool
 | .int y _=>y==x
 | _=>false
theorem vK(x:Int){ns}(h:IntsAre vs ns):vs.any (uE x)=ns.any (·==x):=by
 induction h with
 | nil=>rfl
 | cons n t r ih=>rw[List.any_cons,List.any_cons,ih];rfl
theorem zC(x:Int)(u:Tok){ns}(h:IntsAre vs ns):∀ y∈vs,EqAt A s y (.int x u) (uE x y):=by
 induction h with
 | nil=>intro y h;exact Lv h
 | cons n t r ih =>
  intro y h;rcases List.mem_cons.mp h with rfl|h
  ·exact EqAt.int_int _ _ _ _
  ·exact ih y h
theorem aCf{v u b}(h:RcNeAt A s v u b)(q:Q (.bool b) s):wpAny (model prog w) A (compareOp .NotEq v u) Q E s:=h prog w E Q q
theorem aBP{v u b}(h:RcAt A s v u b)(q:Q (.bool b) s):wpAny (model prog w) A (compareOp .Eq v u) Q E s:=h prog w E Q q
theorem Nj{x y v u b}(hu:A.units+d+1<cLine)(hx:VRel s.heap x v)(hy:VRel s.heap y u)(e:iP (d+1) x y=some b):RcAt A s v u b/\RcNeAt A s v u (!b):=by
 have hu':A.in1.units+d<cLine:=by show A.units+1+d<cLine;omega
 have ih:∀ x y v u b,VRel s.heap x v->VRel s.heap y u->iP d x y=some b->EqAt A.in1 s v u b:=λ x y v u b p q s=>Tc d hu' p q (mV s);cases mV e with
 | int=>refine aB hx.inv ?_;clear hx;rintro _ rfl;refine aB hy.inv ?_;clear hy;rintro _ rfl;exact aY (λ prog w E Q h=>eq_int h) (RcNeAt.int_int _ _ _ _)
 | str=>refine aB hx.inv ?_;clear hx;rintro _ rfl;refine aB hy.inv ?_;clear hy;rintro _ rfl;exact aY (λ prog w E Q h=>eq_str h) (RcNeAt.str_str _ _ _ _)
 | bool=>have q:_=_:=hx.inv;clear hx;subst q;have q:_=_:=hy.inv;clear hy;subst q;exact aY (λ prog w E Q h=>eq_bool h) λ prog w E Q h=>ne_bool h
 | list h e =>
  refine bQ (hx.inv) ?_;rintro a vs n rfl e1 r1;refine bQ (hy.inv) ?_;rintro a' us n' rfl e2 r2;refine fQ (oQ (A:=A.in1) ih r1 r2 e) λ k k1 k2 k3=>?_;rw[<- k2];exact aY (RcAt.lists (aI e1) (aI e2) k3 (by omega) k1) (RcNeAt.lists (aI e1) (aI e2) k3 (by omega) k1)
 | listN h =>
  refine bQ (hx.inv) ?_;rintro a vs n rfl e1 r1;refine bQ (hy.inv) ?_;rintro a' us n' rfl e2 r2;have hs:(vs.toArray.size != us.toArray.size)=true:=by
   rw[List.size_toArray,List.size_toArray,r1.length,r2.length];simpa using h
  exact aY (RcAt.lists_lengths (aI e1) (aI e2) hs (by omega)) (RcNeAt.lists_lengths (aI e1) (aI e2) hs (by omega))
 | tuple h e =>
  refine bQ (hx.inv) ?_;rintro a vs n rfl e1 r1;refine bQ (hy.inv) ?_;rintro a' us n' rfl e2 r2;refine fQ (oQ (A:=A.in1) ih r1 r2 e) λ k k1 k2 k3=>?_;have p1:=RcAt.tuples (cF e1) (cF e2) (by omega) k1
  have p2:=RcNeAt.tuples (cF e1) (cF e2) (by omega) k1
  rw[<- k3,Nat.min_self,k2] at p1 p2;exact aY (by simpa using p1) (by simpa using p2)
end
theorem Dc{t u}(h:Q (.bool (sLt y x)) s) :
  wpAny (model prog w) A (compareOp .Gt (.str x t) (.str y u)) Q E s:=by
 exact P.gt_str h
theorem Sd(l b:Addr)(vs us:List Value)(n n2:Nat)(xs ys:List Str)(hv:StrsAre vs xs)(hu:StrsAre us ys)(k:Nat) :
  ∀ i:Nat,xs.length - i=k->i≤xs.length->i≤ys.length->Meets (Builtin.«list.__eq__.loop» ⟨[.ref l,.ref b,rawInt i,rawInt 0],[]⟩)
   (λ A R s=>s.heap.get? l=some (cK vs n)/\s.heap.get? b=some (cK us n2)/\R (.ok (.ret (.bool (ltS (xs.drop i) (ys.drop i))))) s):=by
 have lv:=hv.length;have lu:=hu.length;induction k with
 | zero =>
  intro i hk h1 h2 prog w A R s h;obtain⟨hp,g,d,tk,os⟩:=s;refine bU h ?_;intro hl hb h
  wp_walk using wpAny_loadPart' hl,wpAny_loadPart' hb
  have hi1:vs.toArray[((i:Nat):Int).toNat]? = none:=by simp;omega
  have e1:xs.drop i=[]:=by simp;omega
  rw[hi1];rw[e1] at h
  wp_walk using wpAny_loadPart' hl,wpAny_loadPart' hb
  show R (.ok (.ret (.bool (decide (vs.toArray.size<us.toArray.size))))) _;have q:decide (vs.toArray.size<us.toArray.size)=ltS [] (ys.drop i):=by
   simp only[List.size_toArray,lv,lu];cases hy:ys.drop i with
   | nil =>
    have:ys.length≤i:=by simpa using hy
    simp only[ltS,decide_eq_false_iff_not];omega
   | cons y r =>
    have:i<ys.length:=by
     have:=congrArg List.length hy;simp only[List.length_drop,List.length_cons] at this;omega
    simp only[ltS,decide_eq_true_eq];omega
  rw[q];exact h
 | succ k ih =>
  intro i hk h1 h2 prog w A R s h;obtain⟨hp,g,d,tk,os⟩:=s;refine bU h ?_;intro hl hb h
  wp_walk using wpAny_loadPart' hl,wpAny_loadPart' hb
  have hlt:i<xs.length:=by omega
  refine aB (hv.get i xs[i] (List.getElem?_eq_getElem hlt)) λ t ht=>?_;have hi1:vs.toArray[((i:Nat):Int).toNat]? = some (.str xs[i] t):=by rw[Int.toNat_natCast,List.getElem?_toArray];exact ht
  have hd:xs.drop i=xs[i]::xs.drop (i+1):=List.drop_eq_getElem_cons hlt;by_cases hlt2:i<ys.length
  ·refine aB (hu.get i ys[i] (List.getElem?_eq_getElem hlt2)) λ u hu'=>?_;have hi2:us.toArray[((i:Nat):Int).toNat]? = some (.str ys[i] u):=by rw[Int.toNat_natCast,List.getElem?_toArray];exact hu'
   have hd2:ys.drop i=ys[i]::ys.drop (i+1):=List.drop_eq_getElem_cons hlt2;have hc:((i:Int)+1)=((i+1:Nat):Int):=by push_cast;rfl
   rw[hi1,hi2];rw[hd,hd2] at h;refine wB (EqAt.str_str _ _ _ _ prog w _ _ ?_);by_cases hxy:xs[i]=ys[i]
   ·have hb':(xs[i]==ys[i])=true:=by rw[hxy];exact beq_self_eq_true _
    rw[hb'];simp only[ltS] at h;rw[if_pos hxy] at h
    wp_walk
    dsimp only [hc];exact aY (plainId_quiet MeetsSeq3.plain_eq_loop _) (codeAny_builtin MeetsSeq3.entry_eq_loop (by
     rw[Around.under_plainId MeetsSeq3.plain_eq_loop _];exact ih (i+1) (by exact Pg ‹_›) ‹_› ‹_› prog w A R _ ⟨hl,hb,h⟩))
   ·have hb':(xs[i]==ys[i])=false:=by
     cases q:(xs[i]==ys[i]) with
     | false=>rfl
     | true=>exact absurd (eq_of_beq q) hxy
    rw[hb'];simp only[ltS] at h;rw[if_neg hxy] at h
    wp_walk using wpAny_loadPart' hl,wpAny_loadPart' hb
    rw[hi1,hi2];refine wB ?_;refine lt_str ?_
    wp_walk
    exact h
  ·have hi2:us.toArray[((i:Nat):Int).toNat]? = none:=by simp;omega
   have e2:ys.drop i=[]:=by simp;omega
   rw[hi1,hi2];rw[hd,e2] at h
   wp_walk using wpAny_loadPart' hl,wpAny_loadPart' hb
   show R (.ok (.ret (.bool (decide (vs.toArray.size<us.toArray.size))))) _;have q:decide (vs.toArray.size<us.toArray.size)=ltS (xs[i]::xs.drop (i+1)) []:=by
    simp only[List.size_toArray,lv,lu,ltS,decide_eq_false_iff_not];omega
   rw[q];exact h
theorem Sc(l b:Addr)(vs us:List Value)(n n2:Nat)(xs ys:List Str)(hv:StrsAre vs xs)(hu:StrsAre us ys) :
  Meets (Builtin.«list.__lt__» ⟨[.ref l,.ref b],[]⟩)
   (λ _ R s=>s.heap.get? l=some (cK vs n)/\s.heap.get? b=some (cK us n2)/\R (.ok (.ret (.bool (ltS xs ys)))) s):=by
 intro prog w A R s h;obtain⟨hp,g,d,tk,os⟩:=s;refine bU h ?_;intro hl hb h;have f3:=AutoSeq1.sub_list_list
 wp_walk using wpAny_loadPart' hl,wpAny_loadPart' hb
 exact aY (plainId_quiet MeetsSeq3.plain_eq_loop _) (codeAny_builtin MeetsSeq3.entry_eq_loop (by
  dsimp only [Around.under_plainId MeetsSeq3.plain_eq_loop _];exact Sd l b vs us n n2 xs ys hv hu _ 0 rfl (Nat.zero_le _) (Nat.zero_le _) prog w A R _ ⟨hl,hb,h⟩))
theorem Rj(l b:Addr)(vs us:List Value)(n n2:Nat)(xs ys:List Str)(hv:StrsAre vs xs)(hu:StrsAre us ys)(k:Nat) :
  ∀ i:Nat,xs.length - i=k->i≤xs.length->i≤ys.length->Meets (Builtin.«list.__eq__.loop» ⟨[.ref l,.ref b,rawInt i,rawInt 4],[]⟩)
   (λ A R s=>s.heap.get? l=some (cK vs n)/\s.heap.get? b=some (cK us n2)/\R (.ok (.ret (.bool (ltS (ys.drop i) (xs.drop i))))) s):=by
 have lv:=hv.length;have lu:=hu.length;induction k with
 | zero =>
  intro i hk h1 h2 prog w A R s h;obtain⟨hp,g,d,tk,os⟩:=s;refine bU h ?_;intro hl hb h
  wp_walk using wpAny_loadPart' hl,wpAny_loadPart' hb
  have hi1:vs.toArray[((i:Nat):Int).toNat]? = none:=by simp;omega
  have e1:xs.drop i=[]:=by simp;omega
  rw[hi1];rw[e1] at h
  wp_walk using wpAny_loadPart' hl,wpAny_loadPart' hb
  show R (.ok (.ret (.bool (decide (vs.toArray.size > us.toArray.size))))) _;have q:decide (vs.toArray.size > us.toArray.size)=ltS (ys.drop i) []:=by
   simp only[List.size_toArray,lv,lu];cases hy:ys.drop i with
   | nil =>
    have:ys.length≤i:=by simpa using hy
    simp only[ltS,decide_eq_false_iff_not];omega
   | cons y r =>
    have:i<ys.length:=by
     have:=congrArg List.length hy;simp only[List.length_drop,List.length_cons] at this;omega
    simp only[ltS,decide_eq_false_iff_not];omega
  rw[q];exact h
 | succ k ih =>
  intro i hk h1 h2 prog w A R s h;obtain⟨hp,g,d,tk,os⟩:=s;refine bU h ?_;intro hl hb h
  wp_walk using wpAny_loadPart' hl,wpAny_loadPart' hb
  have hlt:i<xs.length:=by omega
  refine aB (hv.get i xs[i] (List.getElem?_eq_getElem hlt)) λ t ht=>?_;have hi1:vs.toArray[((i:Nat):Int).toNat]? = some (.str xs[i] t):=by rw[Int.toNat_natCast,List.getElem?_toArray];exact ht
  have hd:xs.drop i=xs[i]::xs.drop (i+1):=List.drop_eq_getElem_cons hlt;by_cases hlt2:i<ys.length
  ·refine aB (hu.get i ys[i] (List.getElem?_eq_getElem hlt2)) λ u hu'=>?_;have hi2:us.toArray[((i:Nat):Int).toNat]? = some (.str ys[i] u):=by rw[Int.toNat_natCast,List.getElem?_toArray];exact hu'
   have hd2:ys.drop i=ys[i]::ys.drop (i+1):=List.drop_eq_getElem_cons hlt2;have hc:((i:Int)+1)=((i+1:Nat):Int):=by push_cast;rfl
   rw[hi1,hi2];rw[hd,hd2] at h;refine wB (EqAt.str_str _ _ _ _ prog w _ _ ?_);by_cases hxy:xs[i]=ys[i]
   ·have hb':(xs[i]==ys[i])=true:=by rw[hxy];exact beq_self_eq_true _
    rw[hb'];simp only[ltS] at h;rw[if_pos hxy.symm] at h
    wp_walk
    dsimp only [hc];exact aY (plainId_quiet MeetsSeq3.plain_eq_loop _) (codeAny_builtin MeetsSeq3.entry_eq_loop (by
     rw[Around.under_plainId MeetsSeq3.plain_eq_loop _];exact ih (i+1) (by exact Pg ‹_›) ‹_› ‹_› prog w A R _ ⟨hl,hb,h⟩))
   ·have hb':(xs[i]==ys[i])=false:=by
     cases q:(xs[i]==ys[i]) with
     | false=>rfl
     | true=>exact absurd (eq_of_beq q) hxy
    rw[hb'];simp only[ltS] at h;rw[if_neg (λ e=>hxy e.symm)] at h
    wp_walk using wpAny_loadPart' hl,wpAny_loadPart' hb
    rw[hi1,hi2];refine wB ?_;refine Dc ?_
    wp_walk
    exact h
  ·have hi2:us.toArray[((i:Nat):Int).toNat]? = none:=by simp;omega
   have e2:ys.drop i=[]:=by simp;omega
   rw[hi1,hi2];rw[hd,e2] at h
   wp_walk using wpAny_loadPart' hl,wpAny_loadPart' hb
   show R (.ok (.ret (.bool (decide (vs.toArray.size > us.toArray.size))))) _;have q:decide (vs.toArray.size > us.toArray.size)=ltS [] (xs[i]::xs.drop (i+1)):=by
    simp only[List.size_toArray,lv,lu,ltS,decide_eq_true_eq];omega
   rw[q];exact h
theorem Sb(l b:Addr)(vs us:List Value)(n n2:Nat)(xs ys:List Str)(hv:StrsAre vs xs)(hu:StrsAre us ys) :
  Meets (Builtin.«list.__gt__» ⟨[.ref l,.ref b],[]⟩)
   (λ _ R s=>s.heap.get? l=some (cK vs n)/\s.heap.get? b=some (cK us n2)/\R (.ok (.ret (.bool (ltS ys xs)))) s):=by
 intro prog w A R s h;obtain⟨hp,g,d,tk,os⟩:=s;refine bU h ?_;intro hl hb h;have f3:=AutoSeq1.sub_list_list
 wp_walk using wpAny_loadPart' hl,wpAny_loadPart' hb
 exact aY (plainId_quiet MeetsSeq3.plain_eq_loop _) (codeAny_builtin MeetsSeq3.entry_eq_loop (by
  dsimp only [Around.under_plainId MeetsSeq3.plain_eq_loop _];exact Rj l b vs us n n2 xs ys hv hu _ 0 rfl (Nat.zero_le _) (Nat.zero_le _) prog w A R _ ⟨hl,hb,h⟩))
end
section
open PySem.SeqAt
section
variable{a b:PV}{ra rb:Value}
theorem Le{ss tt}(hu:A.units+8<cLine)(k:g.StaysIn s.heap)(ha:ARel g s.heap (.list xs) ra)(hb:ARel g s.heap (.list ys) rb)(e1:cC xs=some ss)(e2:cC ys=some tt)(h:Q (.bool (ltS ss tt)) s) :
  wpAny (model prog w) A (compareOp .Lt ra rb) Q E s:=by
 refine bQ (ha.list k) ?_;clear ha;rintro l vs n rfl e v;refine bQ (hb.list k) ?_;clear hb;rintro l' vs' n' rfl e' v';exact richCompare_meets_room (op:=.Lt) ⟨_,e,rfl⟩ ⟨_,e',rfl⟩ F.slot_list_lt F.entry_list_lt (F.args_list_lt_2 _ _) (Sc l l' vs vs' n n' ss tt (eP v e1) (eP v' e2))
  ⟨e,e',show Value.bool _≠Value.notImplemented/\Q (.bool _) s from⟨(λ x=>nomatch x),h⟩⟩ (by exact ll6 ‹_›)
theorem Ld{ss tt}(hu:A.units+8<cLine)(k:g.StaysIn s.heap)(ha:ARel g s.heap (.list xs) ra)(hb:ARel g s.heap (.list ys) rb)(e1:cC xs=some ss)(e2:cC ys=some tt)(h:Q (.bool (ltS tt ss)) s) :
  wpAny (model prog w) A (compareOp .Gt ra rb) Q E s:=by
 refine bQ (ha.list k) ?_;clear ha;rintro l vs n rfl e v;refine bQ (hb.list k) ?_;clear hb;rintro l' vs' n' rfl e' v';exact richCompare_meets_room (op:=.Gt) ⟨_,e,rfl⟩ ⟨_,e',rfl⟩ F.slot_list_gt F.entry_list_gt (F.args_list_gt_2 _ _) (Sb l l' vs vs' n n' ss tt (eP v e1) (eP v' e2))
  ⟨e,e',show Value.bool _≠Value.notImplemented/\Q (.bool _) s from⟨(λ x=>nomatch x),h⟩⟩ (by exact ll6 ‹_›)
theorem sR(e:plt a b=some r):(∃ x y,a=.int x/\b=.int y/\r=decide (x<y))∨(∃ xs ys ss tt,a=.list xs/\b=.list ys/\cC xs=some ss/\cC ys=some tt/\r=ltS ss tt):=by
 unfold plt at e;split at e
 ·have q:=sj e;clear e;subst q;exact .inl ⟨_,_,rfl,rfl,rfl⟩
 ·split at e
  ·rename_i p q;have q:=sj e;clear e;subst q;exact .inr ⟨_,_,_,_,rfl,rfl,p,q,rfl⟩
  ·exact nos e
 ·exact nos e
theorem wT{x y c}(h:wpAny (model prog w) A (compareOp .Is x y) (λ v s'=>v=.bool c/\s'=s) (λ _ _=>False) s)(q:Q (.bool (!c)) s):wpAny (model prog w) A (compareOp .IsNot x y) Q E s:=by
 have e1:compareOp .Is x y=(do return .bool (<- isSame x y)):=rfl
 have e2:compareOp .IsNot x y=(do return .bool (!(<- isSame x y))):=rfl
 rw[e1] at h;rw[e2];intro Γ p hΓ;have:=h Γ p hΓ;rw[Sem.wp_bind'] at this;rw[Sem.wp_bind'];refine Sem.wp_mono _ _ _ (λ x p' s' hx=>?_) (λ _ _ _ hx=>hx.elim) _ _ this;simp only[Sem.wp_pure'] at hx ⊢;refine aK hx ?_;clear hx;clear h this;rintro hv rfl;rcases hv with⟨⟩;exact q
set_option tactic.hygienic true in
theorem wU(ha:ARel g s.heap a ra)(hb:ARel g s.heap b rb)(e:pis a b=some r)(h:Q (.bool r) s):wpAny (model prog w) A (compareOp .Is ra rb) Q E s:=by
 rcases a with⟨⟩
 case fn x =>
  rcases x with⟨⟩
  case type x =>
   rcases b with⟨⟩
   case fn y =>
    rcases y with⟨⟩
    case type y =>
     have q:=sj e;clear e;subst q;have q:_=_:=hb.inv;clear hb;subst q;have q:_=_:=ha.inv;clear ha;subst q;have q:(Value.type x==Value.type y)=(x==y):=by
      by_cases z:x=y
      ·clear h;subst z;simp
      ·have z':Value.type x≠Value.type y:=λ e=>z (by injection e)
       rw[beq_eq_false_iff_ne.mpr z,beq_eq_false_iff_ne.mpr z']
     exact wpAny_is_plain rfl (by rw[q];exact h)
    all_goals exact nos e
   all_goals exact nos e
  all_goals exact nos e
 all_goals first|exact nos e|(rcases b with⟨⟩<;>first|exact nos e|((have q:=sj e;clear e;subst q);have q:_=_:=hb.inv;clear hb;subst q))
 ·have q:_=_:=ha.inv;clear ha;subst q;exact is_none_none h
 ·have q:_=_:=ha.inv;clear ha;subst q;exact is_bool h
 ·refine aB ha.inv ?_;clear ha;rintro _ rfl;exact is_none_ne (by intro x;cases x) h
 ·refine aB ha.inv ?_;clear ha;rintro _ rfl;exact is_none_ne (by intro x;cases x) h
 ·refine jE (ha.inv) ?_;clear ha;rintro _ _ _ rfl _;exact is_none_ne (by intro x;cases x) h
noncomputable def pV(x:Str):Value->Bool
 | .str y _=>y==x
 | _=>false
theorem vL(x:Str){ns}(h:StrsAre vs ns):vs.any (pV x)=ns.any (·==x):=by
 induction h with
 | nil=>rfl
 | cons n t r ih=>rw[List.any_cons,List.any_cons,ih];rfl
theorem zD(x:Str)(u:Tok){ns}(h:StrsAre vs ns):∀ y∈vs,EqAt A s y (.str x u) (pV x y):=by
 induction h with
 | nil=>intro y h;exact Lv h
 | cons n t r ih =>
  intro y h;rcases List.mem_cons.mp h with rfl|h
  ·exact EqAt.str_str _ _ _ _
  ·exact ih y h
theorem rX{o}(hu:A.units+8<cLine)(k:g.StaysIn s.heap)(ha:ARel g s.heap a ra)(hb:ARel g s.heap b rb)(e:cO o a b=some r)(h:Q (.bool r) s) :
  wpAny (model prog w) A (compareOp o ra rb) Q E s:=by
 rcases o with⟨⟩
 case Eq =>
  have peqs (e:peq a b=some r):wpAny (model prog w) A (compareOp .Eq ra rb) Q E s:=aBP (Nj (d:=3) (by omega) (ha.up k) (hb.up k) e).1 h
  rcases a with⟨⟩<;>first|exact peqs e|(rcases b with⟨⟩<;>first|exact peqs e|((have q:=sj e;clear e;subst q);(first|(have q:_=_:=ha.inv;clear ha;subst q)|(refine aB ha.inv ?_;clear ha;rintro _ rfl));have q:_=_:=hb.inv;clear hb;clear peqs;subst q))
  ·exact EqNone.eq_none_none h
  ·exact EqNone.eq_str_none h
 case NotEq =>
  refine aE (Option.map_eq_some_iff.mp e) ?_;clear e;rintro c e1 rfl;exact aCf (Nj (d:=3) (by omega) (ha.up k) (hb.up k) e1).2 h
 case Lt =>
  rcases sR e with⟨x,y,rfl,rfl,rfl⟩|⟨xs,ys,ss,tt,rfl,rfl,e1,e2,rfl⟩
  ·refine aB ha.inv ?_;clear ha;rintro _ rfl;refine aB hb.inv ?_;clear hb;rintro _ rfl;exact lt_int h
  ·exact Le hu k ha hb e1 e2 h
 case Gt =>
  rcases sR e with⟨x,y,rfl,rfl,rfl⟩|⟨xs,ys,ss,tt,rfl,rfl,e1,e2,rfl⟩
  ·refine aB ha.inv ?_;clear ha;rintro _ rfl;refine aB hb.inv ?_;clear hb;rintro _ rfl;exact gt_int h
  ·exact Ld hu k ha hb e2 e1 h
 case In =>
  rcases a with⟨⟩<;>first|exact nos e|(rcases b with⟨⟩<;>first|exact nos e|skip)
  ·have q:=sj e;clear e;subst q;refine aB ha.inv ?_;clear ha;rintro _ rfl;refine aB hb.inv ?_;clear hb;rintro _ rfl;exact SB.contains h
  ·refine aE (Option.map_eq_some_iff.mp e) ?_;clear e;rintro ss e1 rfl;refine bQ (hb.list k) ?_;clear hb;rintro l vs n rfl e' v;refine aB ha.inv ?_;clear ha;rintro _ rfl;exact in_list_strs (aI e') (eP v e1) h
  ·refine aE (Option.map_eq_some_iff.mp e) ?_;clear e;rintro ss e1 rfl;refine bQ (hb.inv) ?_;clear hb;rintro _ _ _ rfl e' v;have v:=eP v e1;refine aB ha.inv ?_;clear ha;rintro _ rfl;refine in_tupleAt (pV _) (cF (k _ _ e')) (λ y hy=>zD _ _ v y (by simpa using hy)) ?_
   rw[<- Array.any_toList,show(List.toArray _).toList=_ from rfl,vL _ v];exact h
 case NotIn =>
  rcases a with⟨⟩<;>first|exact nos e|(rcases b with⟨⟩<;>first|exact nos e|skip)
  ·refine aE (Option.map_eq_some_iff.mp e) ?_;rintro _ e2 rfl;refine aE (Option.map_eq_some_iff.mp e2) ?_;clear e2 e;rintro ss e1 rfl;refine bQ (hb.inv) ?_;clear hb;rintro _ _ _ rfl e' v;have v:=wS v e1;refine aB ha.inv ?_;clear ha;rintro _ rfl;refine notIn_tupleAt (uE _) (cF (k _ _ e')) (λ y hy=>zC _ _ v y (by simpa using hy)) ?_
   rw[<- Array.any_toList,show(List.toArray _).toList=_ from rfl,vK _ v];exact h
  ·have q:=sj e;clear e;subst q;refine aB ha.inv ?_;clear ha;rintro _ rfl;refine aB hb.inv ?_;clear hb;rintro _ rfl;exact SB.notContains h
  ·refine aE (Option.map_eq_some_iff.mp e) ?_;rintro _ e2 rfl;refine aE (Option.map_eq_some_iff.mp e2) ?_;clear e2 e;rintro ss e1 rfl;refine bQ (hb.list k) ?_;clear hb;rintro l vs n rfl e' v;refine aB ha.inv ?_;clear ha;rintro _ rfl;exact notin_list_strs (aI e') (eP v e1) h
 case GtE =>
  rcases a with⟨⟩<;>first|exact nos e|(rcases b with⟨⟩<;>first|exact nos e|((have q:=sj e;clear e;subst q);refine aB ha.inv ?_;clear ha;rintro _ rfl;refine aB hb.inv ?_;clear hb;rintro _ rfl;exact ge_int h))
 case LtE =>
  rcases a with⟨⟩<;>first|exact nos e|(rcases b with⟨⟩<;>first|exact nos e|((have q:=sj e;clear e;subst q);refine aB ha.inv ?_;clear ha;rintro _ rfl;refine aB hb.inv ?_;clear hb;rintro _ rfl;exact le_int h))
 case Is=>exact wU ha hb e h
 case IsNot =>
  refine aE (Option.map_eq_some_iff.mp e) ?_;clear e;rintro c e1 rfl;exact wT (wU ha hb e1 ⟨rfl,rfl⟩) h
theorem uR:typeLookup (.type "re.Match") "__bool__"=pure none:=by rw[typeLookup_type,builtinLookup_eq_fast];kernel_rfl
theorem xK:typeLookup (.type "re.Match") "__len__"=pure none:=by rw[typeLookup_type,builtinLookup_eq_fast];kernel_rfl
set_option tactic.hygienic true in
theorem iJ{v Q}(k:g.StaysIn s.heap)(hv:ARel g s.heap v rv)(e:bG v=some r)(h:∀ tk,Q r { s with toks:=tk }):wpAny (model prog w) A (truthy rv) Q E s:=by
 rcases v with⟨⟩<;>first|exact nos e|skip
 ·have q:=sj e;clear e;subst q;have q:_=_:=hv.inv;clear hv;subst q;exact truthy_none (h _)
 ·have q:=sj e;clear e;subst q;have q:_=_:=hv.inv;clear hv;subst q;exact wpAny_truthy_bool (h _)
 ·rename_i i;have q:=sj e;clear e;subst q;refine aB hv.inv ?_;clear hv;rintro _ rfl;have q:(i != 0)=decide (i≠0):=by by_cases z:i=0<;>simp[z]
  exact truthy_int (by rw[q];exact h s.toks)
 ·rename_i x;refine aK (bC e) λ hx e=>?_;have q:=sj e;clear e;clear e;subst q;refine aB hv.inv ?_;clear hv;rintro _ rfl;refine P.truthy_str (by lia) ?_
  have q:((x.length:Int) != 0)=decide (x.length≠0):=by by_cases z:x.length=0<;>simp[z]
  rw[q];exact h _
 ·rename_i c;refine rT (hv.inv) ?_;rintro _ o rfl eo hc' hd hz;by_cases hc:c="re.Match"
  ·clear hv hz;subst hc;obtain rfl:true=r:=sj e;have hT:s.TypeIs (.ref _) "re.Match":=⟨_,k _ _ eo,hc'⟩;unfold truthy;refine wB (wpAny_callSpecial?_none (name:=Str.ofString "__bool__") hT uR ?_);refine wB (wpAny_specialOf (name:=Str.ofString "__len__") hT xK ?_);exact wP (h s.toks)
  ·refine aK (bC ((if_neg hc).symm.trans e)) λ hc e=>?_;subst hc;have q:=sj e;clear e;clear e;subst q;refine aE (hz rfl) λ vs q1 q2=>?_;exact vC (k _ _ eo) hc' q1 q2 (h _)
theorem Gg{y}(h0:0≤y)(h8:y<8):(Builtin.Int.intBits 4:Int) * y≤2 ^ 27:=by
 have:Builtin.Int.intBits 4=3:=by decide +kernel
 rw[this];lia
theorem vU{o r}(k:g.StaysIn s.heap)(l:∀ b∈H,∃ o,s.heap.get? b=some o)(kg:g.StaysIn (fz s.heap H))(ha:ARel g s.heap a ra)(hb:ARel g s.heap b rb)(e:fS o a b=some r)(h:VPost H s Q r) :
  wpAny (model prog w) A (binaryOp o ra rb) Q E s:=by
 rcases o with⟨⟩<;>first|exact nos e|skip
 all_goals (rcases a with⟨⟩<;>first|exact nos e|skip)
 all_goals (rcases b with⟨⟩<;>first|exact nos e|skip)
 ·have q:=sj e;clear e;subst q;refine aB ha.inv ?_;clear ha;rintro _ rfl;refine aB hb.inv ?_;clear hb;rintro _ rfl;exact add_int (h _ _ _ (aQ _) (.int _ _))
 ·refine aK (bC e) λ hz e=>?_;have q:=sj e;clear e;clear e;subst q;refine aB ha.inv ?_;clear ha;rintro _ rfl;refine aB hb.inv ?_;clear hb;rintro _ rfl;exact SBL.add (λ t' k _=>h _ _ _ (aQ _) (.str _ _)) (by rw[sizeLine_eq];exact ll4 ‹_› (by rfl))
 ·refine aK (bC e) λ hz e=>?_;have q:=sj e;clear e;clear e;subst q;refine bQ (ha.list k) ?_;clear ha;rintro p vs n rfl e v;refine bQ (hb.list k) ?_;clear hb;rintro q us n' rfl e' v';have hvs:=v.length;have hus:=v'.length;have e2:vs.toArray++us.toArray=(vs++us).toArray:=by simp
  refine concat_meets ⟨_,e,rfl⟩ ⟨_,e',rfl⟩ noFill_list_add seq_list_add PySem.F.slot_list_add PySem.F.entry_list_add (PySem.F.args_list_add_2 _ _) (list_addW p q vs.toArray us.toArray n n' none none #[] #[] (by simp only[List.size_toArray];rw[sizeLine_eq];lia)) ⟨e,e',?_⟩
  rw[e2];exact h _ s.toks _ (aS _ _) (.list (gW l (bW _) (Heap.get?_push_size _ rfl)) ((v.append v').mono (aM kg (iB (aS _ _)))))
 ·have q:=sj e;clear e;subst q;have q:_=_:=ha.inv;clear ha;subst q;have q:_=_:=hb.inv;clear hb;subst q;exact sub_bool (h _ _ _ (aQ _) (.int _ _))
 ·have q:=sj e;clear e;subst q;refine aB ha.inv ?_;clear ha;rintro _ rfl;refine aB hb.inv ?_;clear hb;rintro _ rfl;exact sub_int (h _ _ _ (aQ _) (.int _ _))
 ·refine aK (bC e) λ hz e=>?_;have q:=sj e;clear e;clear e;subst q;refine aB ha.inv ?_;clear ha;rintro _ rfl;refine aB hb.inv ?_;clear hb;rintro _ rfl;exact mul_int (h _ _ _ (aQ _) (.int _ _)) (IntMulOk.of_left (intBits_le_64 (by omega) (by omega)))
 ·refine aK (bC e) λ hz e=>?_;have q:=sj e;clear e;clear e;subst q;refine aB ha.inv ?_;clear ha;rintro _ rfl;refine aB hb.inv ?_;clear hb;rintro _ rfl;exact mod_int' (by omega) (h _ _ _ (aQ _) (.int _ _))
 ·refine aK (bC e) λ y1 e=>bU y1 λ hx h0 h8=>?_;have q:=sj e;clear e;subst q;clear y1 e;subst hx;refine aB ha.inv ?_;clear ha;rintro _ rfl;refine aB hb.inv ?_;clear hb;rintro _ rfl;exact pow_int h0 (Gg h0 h8) (h _ _ _ (aQ _) (.int _ _))
 ·refine aK (bC e) λ hz e=>?_;have q:=sj e;clear e;clear e;subst q;refine aB ha.inv ?_;clear ha;rintro _ rfl;refine aB hb.inv ?_;clear hb;rintro _ rfl;exact floordiv_int (by omega) (h _ _ _ (aQ _) (.int _ _)) (.inl (PyProof.noPylong_small (by omega)))
end
end
section
open PySem.SeqAt
section
variable{a b:PV}{ra rb:Value}
theorem VPost.same{r}(kg:g.StaysIn (fz s.heap H))(h:VPost H s Q r)(v:VRel g r rv)(tk:Nat):Q rv { s with toks:=tk } :=
 h s.heap tk rv (aQ _) (v.mono kg)
theorem sW{i}(h0:0≤i)(h1:i<(n:Int)):seqIndex? i n=some i.toNat:=by
 unfold seqIndex?;have:¬ i<0:=by omega
 simp[this,h0,h1]
theorem Be{i}(h0:i<0)(h1:0≤i+(n:Int)):seqIndex? i n=some (i+(n:Int)).toNat:=by
 unfold seqIndex?;have h2:i+(n:Int)<n:=by omega
 simp[h0,h1,h2]
set_option tactic.hygienic true in
theorem Gu{r i ri}(k:g.StaysIn s.heap)(kg:g.StaysIn (fz s.heap H))(ha:ARel g s.heap a ra)(hi:VRel g i ri)(e:dU a i=some r)(h:VPost H s Q r):SubscriptOn (model prog w) A ra ri Q E s:=by
 rcases a with⟨⟩<;>first|exact nos e|skip
 all_goals (rcases i with⟨⟩<;>first|exact nos e|skip)
 all_goals refine aB hi.inv ?_;clear hi;rintro _ rfl
 ·rename_i x i _;refine aB ha.inv ?_;clear ha;rintro _ rfl;refine dR "str" _ F.slot_str_getitem.lookup (typeIs_str _ _ _) ?_;by_cases h0:0≤i
  ·refine aK (bC ((if_pos h0).symm.trans e)) λ h1 e=>?_;refine aE (Option.map_eq_some_iff.mp e) ?_;clear e;clear e;rintro c e1 rfl;have hlt:=(Array.getElem?_eq_some_iff.mp e1).1;refine P.getItem_str (c:=c) (by simp;omega) ?_ (h _ _ _ (aQ _) (.str _ _))
   simp only[show seqIndex? i x.length=some i.toNat from sW h0 (by show i<(x.cps.size:Int);lia)]
   exact e1
  ·refine aK (bC ((if_neg h0).symm.trans e)) λ h1 e=>?_;refine aE (Option.map_eq_some_iff.mp e) ?_;clear e;clear e;rintro c e1 rfl;refine P.getItem_str (c:=c) (by simp;omega) ?_ (h _ _ _ (aQ _) (.str _ _))
   simp only[show seqIndex? i x.length=some (i+x.length).toNat from Be (by lia) (by lia)]
   exact e1
 ·rename_i xs i _;refine bQ (ha.list k) ?_;clear ha;rintro l vs n rfl e' v;refine dR "list" _ slot_list_getitem.lookup ⟨_,e',rfl⟩ ?_;by_cases h0:0≤i
  ·refine aK (bC ((if_pos h0).symm.trans e)) λ h1 e=>?_;refine aE (v.get e) λ x hx hr=>?_;exact wpAny_getItem_list (aI e') h0 (by omega) (by simp only[List.getElem?_toArray];exact hx) (VPost.same kg h hr s.toks)
  ·refine aK (bC ((if_neg h0).symm.trans e)) λ h1 e=>?_;have hl:=v.length;refine aE (v.get e) λ x hx hr=>?_;exact wpAny_getItem_list_neg (aI e') (by omega) (by simp only[List.size_toArray,hl];lia) (by omega) (by simp only[List.getElem?_toArray,List.size_toArray,hl];exact hx) (VPost.same kg h hr s.toks)
 ·rename_i xs i _;refine bQ (ha.inv) ?_;clear ha;rintro l vs n rfl e' v;refine dR "tuple" _ slot_tuple_getitem.lookup ⟨_,k _ _ e',rfl⟩ ?_;refine aK (bC e) λ h0 e=>?_;have hl:=v.length;have hlt:=(List.getElem?_eq_some_iff.mp e).1;refine aE (v.get e) λ x hx hr=>?_;refine getItem_tuple (cF (k _ _ e')) (by omega) (by omega) (j:=i.toNat) ?_ (by simp only[List.getElem?_toArray];exact hx) (VPost.same kg h hr s.toks)
  simp only[List.size_toArray,hl];exact sW h0.1 (by lia)
theorem gA{x v o}(r:VRel g x v)(e:bP x=some o):IsPart v o:=by
 rcases x with⟨⟩<;>first|exact nos e|((have q:=sj e;clear e;subst q);(first|(have q:_=_:=r.inv;clear r;subst q)|(refine aB r.inv ?_;clear r;rintro _ rfl));first|exact .none|exact .int _ _)
theorem VRels.pick(r:VRels g xs vs)(is:List Nat):VRels g (is.filterMap (xs[·]?)) (is.filterMap (vs[·]?)):=by
 induction is with
 | nil=>exact .nil
 | cons i is ih =>
  dsimp only [List.filterMap_cons,List.filterMap_cons];cases q:xs[i]? with
  | none =>
   have:vs[i]? = none:=by
    rw[List.getElem?_eq_none_iff] at q ⊢;rw[r.length];exact q
   rw[this];exact ih
  | some x =>
   refine aE (r.get q) λ v e hv=>?_;rw[e];exact .cons hv ih
theorem Ng{x y z:PV}{f:Option Int->Option Int->Option Int->Option PV}{r:PV}(e:(match bP x,bP y,bP z with|some lo,some hi,some st=>f lo hi st|_,_,_=>none)=some r):∃ lo hi st,bP x=some lo/\bP y=some hi/\bP z=some st/\f lo hi st=some r:=by
 cases h1:bP x with
 | none=>simp only[h1] at e;exact nos e
 | some lo=>cases h2:bP y with
  | none=>simp only[h1,h2] at e;exact nos e
  | some hi=>cases h3:bP z with
   | none=>simp only[h1,h2,h3] at e;exact nos e
   | some st=>simp only[h1,h2,h3] at e;exact Pz _ _ _ rfl rfl rfl e
theorem Nf{x y:PV}{f:Option Int->Option Int->Option PV}{r:PV}(e:(match bP x,bP y with|some lo,some hi=>f lo hi|_,_=>none)=some r):∃ lo hi,bP x=some lo/\bP y=some hi/\f lo hi=some r:=by
 cases h1:bP x with
 | none=>simp only[h1] at e;exact nos e
 | some lo=>cases h2:bP y with
  | none=>simp only[h1,h2] at e;exact nos e
  | some hi=>simp only[h1,h2] at e;exact dR _ _ rfl rfl e
set_option tactic.hygienic true in
theorem Ol{r x y z}{rx ry rz}{sl:Addr}(l:∀ b∈H,∃ o,s.heap.get? b=some o)(k:g.StaysIn s.heap)(kg:g.StaysIn (fz s.heap H))(ha:ARel g s.heap a ra)(hx:VRel g x rx)(hy:VRel g y ry)(hz:VRel g z rz)(hs:s.heap.IsSliceOf sl rx ry rz)(e:qS a x y z=some r)(h:VPost H s Q r):SubscriptOn (model prog w) A ra (.ref sl) Q E s:=by
 rcases a with⟨⟩<;>first|exact nos e|skip
 ·rename_i xx;rcases z with⟨⟩<;>first|exact nos e|skip
  refine bB (Nf e) λ lo hi e1 e2 e=>?_;refine aK (bC e) λ hlen e=>?_;have q:=sj e;clear e;subst q;refine aB ha.inv ?_;clear ha;rintro _ rfl;have q:_=_:=hz.inv;clear hz;subst q;have bd:(Txt.slice xx lo hi).length≤sizeLine:=Nat.le_trans (Txt.slice_le xx _ _) (by rw[sizeLine_eq];exact ll4 ‹_› (by rfl))
  refine dR "str" _ F.slot_str_getitem.lookup (typeIs_str _ _ _) ?_;have fin:∀(t':Tok) (k:Nat),Q (.str (Txt.slice xx lo hi) t') { s with toks:=k }:=λ t' k=>h s.heap k _ (aQ _) (.str _ _);cases gA hx e1 with
  | none=>cases gA hy e2 with
   | none=>exact wpAny_getItem_str_slice (l:=none) (u:=none) (st:=none) hs rfl (post_val_or_str ⟨bd,fin⟩)
   | int j tj=>exact wpAny_getItem_str_slice (l:=none) (u:=some (j,tj)) (st:=none) hs rfl (post_val_or_str ⟨bd,fin⟩)
  | int i ti=>cases gA hy e2 with
   | none=>exact wpAny_getItem_str_slice (l:=some (i,ti)) (u:=none) (st:=none) hs rfl (post_val_or_str ⟨bd,fin⟩)
   | int j tj=>exact wpAny_getItem_str_slice (l:=some (i,ti)) (u:=some (j,tj)) (st:=none) hs rfl (post_val_or_str ⟨bd,fin⟩)
 ·refine rC (Ng (f:=λ lo hi st=>if st≠some 0/\_ then some (.list (eE _ lo hi st)) else none) e) λ lo hi st e1 e2 e3 e=>?_
  refine aK (bC e) λ hc e=>?_;have q:=sj e;clear e;subst q;refine bQ (ha.list k) ?_;rintro p vs n rfl e' v;have hl:=v.length;refine dR "list" _ slot_list_getitem.lookup ⟨_,e',rfl⟩ ?_;have ep:slicePick vs.toArray lo hi st=(eE vs lo hi st).toArray:=by
   unfold slicePick eE;simp only[List.size_toArray,List.getElem?_toArray]
  refine wpAny_getItem_list_slice (aI e') hs (gA hx e1) (gA hy e2) (gA hz e3) hc.1 ?_ (by rw[List.size_toArray,sizeLine_eq];lia)
  rw[ep];refine h _ s.toks _ (aS _ _) (.list (vs:=eE vs lo hi st) (n:=0) (gW l (bW _) (Heap.get?_push_size _ rfl)) ?_);unfold eE;rw[hl];exact(v.pick _).mono (aM kg (iB (aS _ _)))
end
end
section
open PySem.SeqAt
theorem Bd(x:Str):sLt x x=false:=by simp[sLt]
theorem sV(h:sLt x y=true):sLt y x=false:=by
 simp only[sLt,decide_eq_true_eq,decide_eq_false_iff_not] at *;exact List.lt_asymm h
theorem eB(h1:sLt x y=false)(h2:sLt y x=false):x=y:=by
 simp only[sLt,decide_eq_false_iff_not] at *;have:x.cps.toList=y.cps.toList:=by
  have a:=List.not_lt.mp h1;have b:=List.not_lt.mp h2;exact List.le_antisymm b a
 rcases x with⟨⟩;rcases y with⟨⟩;simp only at this ⊢;exact congrArg Str.mk (Array.toList_inj.mp this)
theorem sU{z}(h1:sLt y x=false)(h2:sLt z y=false):sLt z x=false:=by
 simp only[sLt,decide_eq_false_iff_not,List.not_lt] at *;exact List.le_trans h1 h2
theorem sD(x:Str):∀ l:List Str,(zZ x l).Perm (x::l):=by
 intro l9;induction l9 with
 | nil =>
  exact List.Perm.refl _
 | cons y r ih =>
  dsimp only [zZ];split
  ·exact((ih).cons y).trans (List.Perm.swap x y r)
  ·exact List.Perm.refl _
theorem dB:∀ l:List Str,(cD l).Perm l:=by
 intro l9;induction l9 with
 | nil =>
  exact List.Perm.refl _
 | cons x r ih =>
  exact(sD x _).trans ((ih).cons x)
noncomputable abbrev sLe(x y:Str):Prop:=sLt y x=false
theorem wR(x:Str):∀{l:List Str},l.Pairwise sLe->(zZ x l).Pairwise sLe:=by
 intro l9;induction l9 with
 | nil =>
  intro _;dsimp only [zZ];exact List.pairwise_singleton _ _
 | cons y r ih =>
  intro h;have h':=List.pairwise_cons.mp h;dsimp only [zZ];split
  ·rename_i q;refine List.pairwise_cons.mpr ⟨λ z hz=>?_,ih h'.2⟩;rcases List.mem_cons.mp ((sD x r).mem_iff.mp hz) with rfl|hz
   ·exact sV q
   ·exact h'.1 z hz
  ·rename_i q;have q':sLe x y:=by simpa using q
   refine List.pairwise_cons.mpr ⟨λ z hz=>?_,h⟩;rcases List.mem_cons.mp hz with rfl|hz
   ·exact q'
   ·exact sU q' (h'.1 z hz)
theorem lY:∀ l:List Str,(cD l).Pairwise sLe:=by
 intro l9;induction l9 with
 | nil =>
  exact .nil
 | cons x r ih =>
  exact wR x (ih)
theorem lZ{l l'}(h:l'.Pairwise sLe)(p:l'.Perm l):l'=cD l :=
 List.Perm.eq_of_pairwise (λ _ _ _ _ h1 h2=>(eB h1 h2).symm) h (lY l) (p.trans (dB l).symm)
theorem xS:∀{l:List Str} {p:Str},risingS p l=true->(p::l).Pairwise sLe:=by
 intro l9;induction l9 with
 | nil =>
  intro _ _;exact List.pairwise_singleton _ _
 | cons x r ih =>
  intro p h;dsimp only [risingS] at h;simp only[Bool.and_eq_true] at h;have ih:=ih h.2;have h1:sLe p x:=by
   have:=h.1;simp only[ltCps_eq] at this;show decide _=false;simpa using this
  refine List.pairwise_cons.mpr ⟨λ z hz=>?_,ih⟩;rcases List.mem_cons.mp hz with rfl|hz
  ·exact h1
  ·exact sU h1 ((List.pairwise_cons.mp ih).1 z hz)
theorem nW:∀{l:List Str},sortedS l=true->l.Pairwise sLe:=by
 intro l9;induction l9 with
 | nil =>
  intro _;exact .nil
 | cons _ _ ih =>
  intro h;exact xS h
theorem yE{ss}(h:StrsAre vs ss):VRels g (ss.map .str) vs:=by
 induction h with
 | nil=>exact .nil
 | cons _ _ _ ih=>exact .cons (.str _ _) ih
section
variable{a b:PV}{ra rb:Value}
noncomputable def Io:BI->Value
 | .len=>.builtin "len"
 | .sum=>.builtin "sum"
 | .list=>.type "list"
 | .sorted=>.builtin "sorted"
 | .sortset=>.builtin "sorted"
 | .type=>.type "type"
 | .int=>.type "int"
 | .isstr=>.builtin "isinstance"
theorem Iq{f r}(hf:f≠.sortset)(hf2:f≠.isstr)(hh:A.handled=none)(l:∀ b∈H,∃ o,s.heap.get? b=some o)(k:g.StaysIn s.heap)(kg:g.StaysIn (fz s.heap H))(ha:ARel g s.heap a ra)(e:fU f a=some r)(h:VPost H s Q r) :
  wpAny (model prog w) A (call (Io f) [ra]) Q E s:=by
 rcases f with⟨⟩<;>first|exact absurd rfl hf|exact absurd rfl hf2|skip
 all_goals (rcases a with⟨⟩<;>first|exact nos e|skip)
 ·refine aK (bC e) λ hz e=>?_;have q:=sj e;clear e;clear e;subst q;refine aB ha.inv ?_;clear ha;rintro _ rfl;exact P.len_str (by omega) (h _ _ _ (aQ _) (.int _ _))
 ·refine aK (bC e) λ hz e=>?_;have q:=sj e;clear e;clear e;subst q;refine bQ (ha.list k) ?_;clear ha;rintro p vs n rfl e' v;have hl:=v.length;refine call_len_list (aI e') (by simp only[List.size_toArray];omega) ?_
  simp only[List.size_toArray,hl];exact h _ _ _ (aQ _) (.int _ _)
 ·refine aE (Option.map_eq_some_iff.mp e) ?_;rintro _ e1 rfl;refine aE (Option.map_eq_some_iff.mp e1) ?_;clear e1 e;rintro ns e2 rfl;refine bQ (ha.list k) ?_;clear ha;rintro p vs n rfl e' v;have hi:=wS v e2;refine aB hi.allInts.items λ xs hx=>?_;have hl:=aI e';simp only[hx] at hl;refine PySem.sum_intListG hh hl λ h' tk t' hk=>?_;have es:preSum (numAt xs) xs.size=ns.sum:=by
   rw[preSum_eq,List.take_of_length_le (by simp),<- nums_intItems,<- hx]
   exact congrArg List.sum hi.numsOf
  simp only[es];exact h _ _ _ hk (.int _ _)
 ·refine aK (bC e) λ hz e=>?_;have q:=sj e;clear e;clear e;subst q;refine bQ (ha.list k) ?_;clear ha;rintro p vs n rfl e' v;have hl:=v.length;refine call_list_seq (hsz:=by simp only[List.size_toArray,sizeLine_eq];exact lq2 ‹_› ‹_› (by rfl)) p (.inl rfl) e' rfl rfl λ h' c' hk hD=>?_
  refine h _ s.toks _ hk (.list (gW l (bW _) hD) (v.mono (aM kg (iB hk))))
 ·refine aE (Option.bind_eq_some_iff.mp e) λ ss e1 e2=>?_;refine aK (bC e2) λ h64 e2=>?_;have q:=sj e2;clear e2;clear e e2;subst q;refine bQ (ha.list k) ?_;clear ha;rintro p vs n rfl e' v;have hi:=eP v e1;refine sorted_strs (aI e') hi (by simp only[hi.length];exact h64) λ out ss' a1 a2 a3=>?_
  refine aB (sortedAll_at s.heap vs out) λ c hc=>?_;have hu:ss'=cD ss:=lZ (nW a3) a2;clear a2 a3;subst hu;have hn:s.heap.get? (s.heap.objs.size+1)=none:=by
   cases q:s.heap.get? (s.heap.objs.size+1) with
   | none=>rfl
   | some o=>exact absurd (Heap.lt_size q) (Nat.not_lt.mpr (Nat.le_succ _))
  refine h _ s.toks _ (λ b o q=>sortedAll_old q) (.list (vs:=out.toList) (n:=c) ?_ (yE a1));refine gW l hn ?_;simp only[hc]
 ·have q:=sj e;clear e;subst q;refine aB ha.inv ?_;clear ha;rintro _ rfl;exact call_type_of (typeIs_int _ _ _) rfl (h _ s.toks _ (aQ _) (.fn _))
 ·have q:=sj e;clear e;subst q;refine aB ha.inv ?_;clear ha;rintro _ rfl;exact call_type_of (typeIs_str _ _ _) rfl (h _ s.toks _ (aQ _) (.fn _))
 ·have q:=sj e;clear e;subst q;refine aB ha.inv ?_;clear ha;rintro _ rfl;exact call_int_int (h _ s.toks _ (aQ _) (.int _ _))
noncomputable def aAd:ME->String
 | .join=>"str.join"
 | .lstrip=>"str.lstrip"
 | .lower=>"str.lower"
 | .upper=>"str.upper"
 | .startswith=>"str.startswith"
 | .endswith=>"str.endswith"
 | .find=>"str.find"
theorem Ub(l:List Str)(q:l.all (λ x=>decide (x.length≤1000))=true):(l.map (·.length)).sum≤l.length * 1000:=by
 induction l with
 | nil=>simp
 | cons x t ih =>
  simp only[List.all_cons,Bool.and_eq_true,decide_eq_true_eq] at q;have:=ih q.2;simp only[List.map_cons,List.sum_cons,List.length_cons]
  lia
theorem oP{rs}(hx:VRels g xs rs)(e:xs=[.str y]):∃ t,rs=[.str y t]:=by
 subst e;refine bB (hx.inv) ?_;rintro _ _ rfl h1 h2;refine aB (h1.inv) ?_;clear h1;rintro t rfl;have q:_=_:=h2.inv;clear h2;clear hx;subst q;exact bM t rfl
noncomputable def aDW:ME->Bool
 | .join=>false
 | .lower=>false
 | .upper=>false
 | _=>true
theorem uL{m z r}(h:aDW m=true)(e:jQ m (.str z) xs=some r):∃ y,xs=[.str y]:=by
 cases xs with
 | nil=>rcases m with⟨⟩<;>first|exact nos e|exact nft h
 | cons y ys=>cases ys with
  | cons _ _=>rcases m with⟨⟩<;>first|exact nos e|(rcases y with⟨⟩<;>exact nos e)
  | nil=>rcases y with⟨⟩<;>first|exact bM _ rfl|(rcases m with⟨⟩<;>first|exact nos e|exact nft h)
set_option tactic.hygienic true in
theorem Ll{m r rs}(k:g.StaysIn s.heap)(ha:VRel g a ra)(hx:VRels g xs rs)(e:jQ m a xs=some r)(h:VPost H s Q r) :
  wpAny (model prog w) A (call (.builtin (aAd m)) (ra::rs)) Q E s:=by
 rcases a with⟨⟩<;>first|(exact nos e)|(rcases m with⟨⟩<;>exact nos e)|skip
 refine aB ha.inv ?_;clear ha;rintro _ rfl;rename_i z _;rcases m with⟨⟩
 case join =>
  cases xs with
  | nil=>exact nos e
  | cons y ys =>
   cases ys with
   | cons _ _=>rcases y with⟨⟩<;>exact nos e
   | nil =>
    rcases y with⟨⟩<;>first|exact nos e|skip
    refine aE (Option.bind_eq_some_iff.mp e) λ ss e1 e2=>?_;refine aK (bC e2) λ q1 e2=>bU q1 λ c1 c2 c3=>?_;have q:=sj e2;clear e2;subst q;refine bB (hx.inv) ?_;rintro _ _ rfl hx1 hn;have q:_=_:=hn.inv;clear hn;subst q;refine bQ (hx1.inv) ?_;clear hx1 hx;rintro _ _ _ rfl e' v;refine join_list (aI (k _ _ e')) (by simpa using eP v e1) ?_ λ t' kk=>h _ kk _ (aQ _) (.str _ _)
    have h1:=Ub ss c3;have h2:ss.length * Str.length _≤100 * 100:=Nat.mul_le_mul c1 c2
    lia
 case lstrip =>
  refine aB (uL rfl e) ?_;rintro y rfl;refine aB (oP hx rfl) ?_;clear hx;rintro t rfl;refine aK (bC e) λ hz e=>?_;have q:=sj e;clear e;clear e;subst q;exact SC.lstripChars (λ t' kk=>h _ kk _ (aQ _) (.str _ _)) (by simp only[sizeLine_eq];exact ll4 ‹_› (by rfl))
 case lower =>
  cases xs with
  | cons _ _=>exact nos e
  | nil =>
   refine aK (bC e) λ hz e=>?_;have q:=sj e;clear e;subst q;have q:_=_:=hx.inv;clear hx;subst q;exact SC.lower (fit_lower (by exact ll4 ‹_› (by rfl))) (h _ _ _ (aQ _) (.str _ _))
 case upper =>
  cases xs with
  | cons _ _=>exact nos e
  | nil =>
   refine aK (bC e) λ hz e=>?_;have q:=sj e;clear e;subst q;have q:_=_:=hx.inv;clear hx;subst q;exact SC.upper (fit_upper (by exact ll4 ‹_› (by rfl))) (h _ _ _ (aQ _) (.str _ _))
 case startswith =>
  refine aB (uL rfl e) ?_;rintro y rfl;refine aB (oP hx rfl) ?_;clear hx;rintro t rfl;have q:=sj e;clear e;subst q;exact SC.startswith (h _ s.toks _ (aQ _) (.bool _))
 case endswith =>
  refine aB (uL rfl e) ?_;rintro y rfl;refine aB (oP hx rfl) ?_;clear hx;rintro t rfl;have q:=sj e;clear e;subst q;exact SC.endswith (h _ s.toks _ (aQ _) (.bool _))
 case find =>
  refine aB (uL rfl e) ?_;rintro y rfl;refine aB (oP hx rfl) ?_;clear hx;rintro t rfl;have q:=sj e;clear e;subst q;exact SC.find (h _ _ _ (aQ _) (.int _ _))
end
end
section
open PySem.SeqAt
noncomputable abbrev fY(sc:Scope)(x:Str):Prop:=sc.names.lookup x=some .local∨sc.names.lookup x=some .cell∨sc.names.lookup x=some .free
noncomputable abbrev aR(sc:Scope)(x:Str):Prop:=sc.names.lookup x=some .globalImplicit
noncomputable def gB:BI->Str
 | .len=>"len"
 | .sum=>"sum"
 | .list=>"list"
 | .sorted=>"sorted"
 | .sortset=>"sorted"
 | .type=>"type"
 | .int=>"int"
 | .isstr=>"isinstance"
noncomputable def iF:ME->Str
 | .join=>"join"
 | .lstrip=>"lstrip"
 | .lower=>"lower"
 | .upper=>"upper"
 | .startswith=>"startswith"
 | .endswith=>"endswith"
 | .find=>"find"
noncomputable def bZ(scope:Scope):List Str:=(scope.names.filter λ p=>p.2==.free).map (·.1)
inductive TrT(sc:Scope):Expr->Tg->Prop
 | n {x:Str} {p:Pos}:sc.names.lookup x=some .local∨sc.names.lookup x=some .cell->TrT sc (.Name x p) (.n x)
 | p {x y:Str} {p1 p2 p:Pos} {k:Nat}:sc.names.lookup x=some .local∨sc.names.lookup x=some .cell->sc.names.lookup y=some .local∨sc.names.lookup y=some .cell->x≠y ->
   TrT sc (.Tuple [.Name x p1,.Name y p2] k p) (.p x y)
noncomputable def gI:It->Prop
 | .e _=>True
 | .range _=>True
 | _=>False
noncomputable def Cv:Tg->It->Prop
 | .n _,.e _=>True
 | .n _,.range _=>True
 | .p _ _,.zip _ _=>True
 | .p _ _,.enum _=>True
 | _,_=>False
noncomputable def mU:Expr->Bool
 | .Constant ..=>true
 | .Name ..=>true
 | .BinOp ..=>true
 | .UnaryOp ..=>true
 | .BoolOp ..=>true
 | .Compare ..=>true
 | .Call ..=>true
 | .Attribute ..=>true
 | .Subscript ..=>true
 | .List ..=>true
 | .Tuple ..=>true
 | .ListComp ..=>true
 | _=>false
abbrev yP:=Scope->Expr->Ex->Prop
noncomputable def REs(R:yP)(sc:Scope):List Ex->List Expr->Prop
 | [],es=>es=[]
 | x::xs,es=>∃ e r,es=e::r/\R sc e x/\REs R sc xs r
noncomputable def RP(R:yP)(sc:Scope)(o:Option Expr)(x:Ex):Prop:=(o=none/\x=.c .none)∨∃ e,o=some e/\R sc e x
noncomputable def RIt(R:yP)(sc:Scope)(e:Expr):It->Prop
 | .e x=>R sc e x
 | .range as=>∃ p1 args p,e=.Call (.Name "range" p1) args [] p/\aR sc "range"/\REs R sc as args
 | .zip a b=>∃ p1 e1 e2 p,e=.Call (.Name "zip" p1) [e1,e2] [] p/\aR sc "zip"/\R sc e1 a/\R sc e2 b
 | .enum a=>∃ p1 x p,e=.Call (.Name "enumerate" p1) [x] [] p/\aR sc "enumerate"/\R sc x a
noncomputable def RGs(R:yP)(sc:Scope):List Gn->List Comprehension->Prop
 | [],l=>l=[]
 | g::gs,l=>∃ t iter ifs rest x it ifs',l=⟨t,iter,ifs,0⟩::rest/\g=.mk (.n x) it ifs'/\RIt R sc iter it/\gI it/\TrT sc t (.n x)/\REs R sc ifs' ifs/\RGs R sc gs rest
inductive RE(R:yP)(sc:Scope):Expr->Ex->Prop
 | int {i:Int} {k:Nat} {p:Pos}:RE R sc (.Constant (.int i) k p) (.c (.int i))
 | str {x:Str} {k:Nat} {p:Pos}:RE R sc (.Constant (.str x) k p) (.c (.str x))
 | none {k:Nat} {p:Pos}:RE R sc (.Constant .none k p) (.c .none)
 | bool {b:Bool} {k:Nat} {p:Pos}:RE R sc (.Constant (.bool b) k p) (.c (.bool b))
 | v {x:Str} {p:Pos}:fY sc x->(x==("__debug__":Str))=false->(x==("__classdict__":Str))=false->RE R sc (.Name x p) (.v x)
 | glob {x:Str} {p:Pos}:aR sc x->x=("int":Str)->RE R sc (.Name x p) (.c (.fn (.type "int")))
 | globb {x:Str} {p:Pos}:aR sc x->x=("bool":Str)->RE R sc (.Name x p) (.c (.fn (.type "bool")))
 | globs {x:Str} {p:Pos}:aR sc x->x=("str":Str)->RE R sc (.Name x p) (.c (.fn (.type "str")))
 | bin {l r:Expr} {o:Operator} {p:Pos} {a b:Ex}:R sc l a->R sc r b->RE R sc (.BinOp l o r p) (.bin o a b)
 | neg {x:Expr} {p:Pos} {a:Ex}:R sc x a->RE R sc (.UnaryOp .USub x p) (.neg a)
 | not {x:Expr} {p:Pos} {a:Ex}:R sc x a->RE R sc (.UnaryOp .Not x p) (.not a)
 | bop {o:BoolOp} {es:List Expr} {p:Pos} {xs:List Ex}:REs R sc xs es->RE R sc (.BoolOp o es p) (.bop o xs)
 | cmp {l r:Expr} {o:CmpOp} {p:Pos} {a b:Ex}:R sc l a->R sc r b->RE R sc (.Compare l [o] [r] p) (.cmp o a b)
 | call {f:Str} {p1 p:Pos} {args:List Expr} {as:List Ex}:aR sc f->(f==("__debug__":Str))=false->REs R sc as args->RE R sc (.Call (.Name f p1) args [] p) (.call f as)
 | ext {f:Str} {p1 p:Pos} {args:List Expr} {as:List Ex}:aR sc f->(f==("__debug__":Str))=false->REs R sc as args->RE R sc (.Call (.Name f p1) args [] p) (.ext f as)
 | bi {f:BI} {p1 p:Pos} {e:Expr} {a:Ex}:f≠.sortset->f≠.isstr->aR sc (gB f)->R sc e a->RE R sc (.Call (.Name (gB f) p1) [e] [] p) (.bi f a)
 | sortset {p1 p2 p3 p:Pos} {e:Expr} {a:Ex}:aR sc "sorted"->aR sc "set"->R sc e a->RE R sc (.Call (.Name "sorted" p1) [.Call (.Name "set" p2) [e] [] p3] [] p) (.bi .sortset a)
 | me {m:ME} {o:Expr} {ap p:Pos} {args:List Expr} {a:Ex} {as:List Ex}:R sc o a->REs R sc as args->(∀ env t,attributeBase o (iF m) env t=t)->(ap.endLine==p.line)=true->args.length<8 ->
   RE R sc (.Call (.Attribute o (iF m) ap) args [] p) (.me m a as)
 | orc {pn m:Str} {p1 ap p:Pos} {e:Expr} {a:Ex}:aR sc pn->(pn==("__debug__":Str))=false->R sc e a->(ap.endLine==p.line)=true->RE R sc (.Call (.Attribute (.Name pn p1) m ap) [e] [] p) (.orc pn m a)
 | attr {o:Expr} {name:Str} {p:Pos} {a:Ex}:R sc o a->(∀ env t,attributeBase o name env t=t)->RE R sc (.Attribute o name p) (.at a name)
 | deq {p1 p:Pos}:aR sc "deque"->RE R sc (.Call (.Name "deque" p1) [] [] p) .deq
 | isstr {p1 p2 p:Pos} {e:Expr} {a:Ex}:aR sc "isinstance"->aR sc "str"->R sc e a->RE R sc (.Call (.Name "isinstance" p1) [e,.Name "str" p2] [] p) (.bi .isstr a)
 | sub {o i:Expr} {p:Pos} {a b:Ex}:R sc o a->R sc i b->RE R sc (.Subscript o i p) (.sub a b)
 | sl {o:Expr} {l u st:Option Expr} {p1 p:Pos} {a x y z:Ex}:R sc o a->RP R sc l x->RP R sc u y->RP R sc st z->RE R sc (.Subscript o (.Slice l u st p1) p) (.sl a x y z)
 | list {es:List Expr} {p:Pos} {xs:List Ex}:REs R sc xs es->xs.length<1000->RE R sc (.List es p) (.list xs)
 | tuple {es:List Expr} {k:Nat} {p:Pos} {xs:List Ex}:REs R sc xs es->xs.length<1000->RE R sc (.Tuple es k p) (.tuple xs)
 | comp {scope:Scope} {elt t iter:Expr} {ifs:List Expr} {rest:List Comprehension} {p:Pos} {x:Str} {it:It} {ifs':List Ex} {gs:List Gn} {elt':Ex} :
   scope.kind=.function->(∀ y∈scope.names,y.2=.local->scope.names.lookup y.1=some .local)->(scope.names.map (·.1)).Nodup->(∀ y∈bZ scope,sc.names.lookup y=some .cell∨sc.names.lookup y=some .free) ->
   RIt R sc iter it->gI it->TrT scope t (.n x)->REs R scope ifs' ifs->RGs R scope gs rest->R scope elt elt' ->
   RE R sc (.ListComp elt (⟨t,iter,ifs,0⟩::rest) scope p) (.comp (bZ scope) elt' (.mk (.n x) it ifs'::gs))
noncomputable def TrE(sc:Scope)(e:Expr)(x:Ex):Prop:=∃ R:yP,(∀ sc e x,R sc e x->mU e=true/\RE R sc e x)/\R sc e x
noncomputable abbrev cM(sc:Scope)(es:List Expr)(xs:List Ex):Prop:=REs TrE sc xs es
noncomputable abbrev TrP(sc:Scope)(o:Option Expr)(x:Ex):Prop:=RP TrE sc o x
noncomputable abbrev hY(sc:Scope)(e:Expr)(x:It):Prop:=RIt TrE sc e x
noncomputable abbrev tL(sc:Scope)(l:List Comprehension)(g:List Gn):Prop:=RGs TrE sc g l
section
variable{R R':yP}(k:∀ sc e x,R sc e x->R' sc e x)
include k
theorem REs.mono{xs}:∀{es:List Expr},REs R sc xs es->REs R' sc xs es:=by
 induction xs with
 | nil=>exact λ h=>h
 | cons x xs ih=>intro es h;refine bB h ?_;intro e r q a b;exact dR e r q (k _ _ _ a) (ih b)
theorem RP.mono{o x}(h:RP R sc o x):RP R' sc o x:=h.imp id λ h=>h.imp λ _ h=>⟨h.1,k _ _ _ h.2⟩
theorem RIt.mono{e}:∀{x:It},RIt R sc e x->RIt R' sc e x:=by
 intro x;cases x with
 | e=>exact k _ _ _
 | range=>exact λ h=>h.imp λ _ h=>h.imp λ _ h=>h.imp λ _ h=>⟨h.1,h.2.1,h.2.2.mono k⟩
 | zip=>exact λ h=>h.imp λ _ h=>h.imp λ _ h=>h.imp λ _ h=>h.imp λ _ h=>⟨h.1,h.2.1,k _ _ _ h.2.2.1,k _ _ _ h.2.2.2⟩
 | enum=>exact λ h=>h.imp λ _ h=>h.imp λ _ h=>h.imp λ _ h=>⟨h.1,h.2.1,k _ _ _ h.2.2⟩
theorem RGs.mono:∀{l:List Comprehension},RGs R sc gs l->RGs R' sc gs l:=by
 induction gs with
 | nil=>exact λ h=>h
 | cons g gs ih=>intro l h;refine kT h ?_;intro t iter ifs rest x it ifs' y1;refine Bx y1 ?_;intro q1 q2 a b c d e;exact Hh t iter ifs rest x it ifs' (Ut q1 q2 (a.mono k) b c (d.mono k) (ih e))
theorem RE.mono{e x}(h:RE R sc e x):RE R' sc e x:=by
 apply RE.casesOn (motive:=λ e x _=>RE R' sc e x) h
 case int=>exact .int
 case str=>exact .str
 case none=>exact .none
 case bool=>exact .bool
 case v=>exact .v
 case glob=>exact .glob
 case globb=>exact .globb
 case globs=>exact .globs
 case bin=>exact λ a b=>.bin (k _ _ _ a) (k _ _ _ b)
 case neg=>exact λ a=>.neg (k _ _ _ a)
 case not=>exact λ a=>.not (k _ _ _ a)
 case bop=>exact λ a=>.bop (a.mono k)
 case cmp=>exact λ a b=>.cmp (k _ _ _ a) (k _ _ _ b)
 case call=>exact λ g d a=>.call g d (a.mono k)
 case ext=>exact λ g d a=>.ext g d (a.mono k)
 case bi=>exact λ n m g a=>.bi n m g (k _ _ _ a)
 case sortset=>exact λ g d a=>.sortset g d (k _ _ _ a)
 case me=>exact λ a b c d e=>.me (k _ _ _ a) (b.mono k) c d e
 case orc=>exact λ g d a l=>.orc g d (k _ _ _ a) l
 case attr=>exact λ a b=>.attr (k _ _ _ a) b
 case deq=>exact .deq
 case isstr=>exact λ g d a=>.isstr g d (k _ _ _ a)
 case sub=>exact λ a b=>.sub (k _ _ _ a) (k _ _ _ b)
 case sl=>exact λ a b c d=>.sl (k _ _ _ a) (b.mono k) (c.mono k) (d.mono k)
 case list=>exact λ a l=>.list (a.mono k) l
 case tuple=>exact λ a l=>.tuple (a.mono k) l
 case comp=>exact λ a b c d e f g h i j=>.comp a b c d (e.mono k) f g (h.mono k) (i.mono k) (k _ _ _ j)
end
theorem TrE.raw0{e x}(h:TrE sc e x):mU e=true/\RE TrE sc e x:=by
 refine aE h ?_;intro R h1 h2;exact aY ((h1 _ _ _ h2).1) (RE.mono (λ _ _ _ q=>⟨R,h1,q⟩) (h1 _ _ _ h2).2)
theorem TrE.raw{e x}(h:TrE sc e x):RE TrE sc e x:=h.raw0.2
theorem TrE.head{e x}(h:TrE sc e x):mU e=true:=h.raw0.1
theorem TrE.mk{e x}(o:mU e=true)(h:RE TrE sc e x):TrE sc e x:=⟨λ sc e x=>mU e=true/\RE TrE sc e x,λ _ _ _ q=>⟨q.1,RE.mono (λ _ _ _ q=>q.raw0) q.2⟩,o,h⟩
theorem RIt.e{x}(h:TrE sc x a):hY sc x (.e a):=h
section
variable{p3:Pos}{k:Nat}{f pn name:Str}{e l r o i:Expr}{es:List Expr}{xs:List Ex}
theorem TrE.int{i}:TrE sc (.Constant (.int i) k p) (.c (.int i)):=.mk rfl (.int)
theorem TrE.str:TrE sc (.Constant (.str x) k p) (.c (.str x)):=.mk rfl (.str)
theorem TrE.none:TrE sc (.Constant .none k p) (.c .none):=.mk rfl (.none)
theorem TrE.bool{b}:TrE sc (.Constant (.bool b) k p) (.c (.bool b)):=.mk rfl (.bool)
theorem TrE.v(h1:fY sc x)(h2:(x=="__debug__")=false)(h3:(x=="__classdict__")=false):TrE sc (.Name x p) (.v x):=.mk rfl (.v h1 h2 h3)
theorem TrE.glob(h1:aR sc x)(h2:x="int"):TrE sc (.Name x p) (.c (.fn (.type "int"))):=.mk rfl (.glob h1 h2)
theorem TrE.globb(h1:aR sc x)(h2:x="bool"):TrE sc (.Name x p) (.c (.fn (.type "bool"))):=.mk rfl (.globb h1 h2)
theorem TrE.globs(h1:aR sc x)(h2:x="str"):TrE sc (.Name x p) (.c (.fn (.type "str"))):=.mk rfl (.globs h1 h2)
theorem TrE.bin{op}(h1:TrE sc l a)(h2:TrE sc r b):TrE sc (.BinOp l op r p) (.bin op a b):=.mk rfl (.bin h1 h2)
theorem TrE.neg(h:TrE sc e a):TrE sc (.UnaryOp .USub e p) (.neg a):=.mk rfl (.neg h)
theorem TrE.not(h:TrE sc e a):TrE sc (.UnaryOp .Not e p) (.not a):=.mk rfl (.not h)
theorem TrE.bop{op}(h:cM sc es xs):TrE sc (.BoolOp op es p) (.bop op xs):=.mk rfl (.bop h)
theorem TrE.cmp{op}(h1:TrE sc l a)(h2:TrE sc r b):TrE sc (.Compare l [op] [r] p) (.cmp op a b):=.mk rfl (.cmp h1 h2)
theorem TrE.call(h1:aR sc f)(h2:(f=="__debug__")=false)(h3:cM sc args as):TrE sc (.Call (.Name f p1) args [] p) (.call f as):=.mk rfl (.call h1 h2 h3)
theorem TrE.ext(h1:aR sc f)(h2:(f=="__debug__")=false)(h3:cM sc args as):TrE sc (.Call (.Name f p1) args [] p) (.ext f as):=.mk rfl (.ext h1 h2 h3)
theorem TrE.bi{f}(h1:f≠.sortset)(h2:f≠.isstr)(h3:aR sc (gB f))(h4:TrE sc e a):TrE sc (.Call (.Name (gB f) p1) [e] [] p) (.bi f a):=.mk rfl (.bi h1 h2 h3 h4)
theorem TrE.sortset(h1:aR sc "sorted")(h2:aR sc "set")(h3:TrE sc e a):TrE sc (.Call (.Name "sorted" p1) [.Call (.Name "set" p2) [e] [] p3] [] p) (.bi .sortset a):=.mk rfl (.sortset h1 h2 h3)
theorem TrE.isstr(h1:aR sc "isinstance")(h2:aR sc "str")(h3:TrE sc e a):TrE sc (.Call (.Name "isinstance" p1) [e,.Name "str" p2] [] p) (.bi .isstr a):=.mk rfl (.isstr h1 h2 h3)
theorem TrE.me{m}(h1:TrE sc o a)(h2:cM sc args as)(h3:∀ env t,attributeBase o (iF m) env t=t)(h4:(ap.endLine==p.line)=true)(h5:args.length<8):TrE sc (.Call (.Attribute o (iF m) ap) args [] p) (.me m a as):=.mk rfl (.me h1 h2 h3 h4 h5)
theorem TrE.orc(h1:aR sc pn)(h2:(pn=="__debug__")=false)(h3:TrE sc e a)(h4:(ap.endLine==p.line)=true):TrE sc (.Call (.Attribute (.Name pn p1) m ap) [e] [] p) (.orc pn m a):=.mk rfl (.orc h1 h2 h3 h4)
theorem TrE.attr(h1:TrE sc o a)(h2:∀ env t,attributeBase o name env t=t):TrE sc (.Attribute o name p) (.at a name):=.mk rfl (.attr h1 h2)
theorem TrE.deq(h:aR sc "deque"):TrE sc (.Call (.Name "deque" p1) [] [] p) .deq:=.mk rfl (.deq h)
theorem TrE.sub(h1:TrE sc o a)(h2:TrE sc i b):TrE sc (.Subscript o i p) (.sub a b):=.mk rfl (.sub h1 h2)
theorem TrE.sl{l u st x y z}(h1:TrE sc o a)(h2:TrP sc l x)(h3:TrP sc u y)(h4:TrP sc st z):TrE sc (.Subscript o (.Slice l u st p1) p) (.sl a x y z):=.mk rfl (.sl h1 h2 h3 h4)
theorem TrE.list(h:cM sc es xs)(h2:xs.length<1000):TrE sc (.List es p) (.list xs):=.mk rfl (.list h h2)
theorem TrE.tuple(h:cM sc es xs)(h2:xs.length<1000):TrE sc (.Tuple es k p) (.tuple xs):=.mk rfl (.tuple h h2)
theorem TrE.comp{it ifs' elt'}(h1:scope.kind=.function)(h2:∀ y∈scope.names,y.2=.local->scope.names.lookup y.1=some .local)(h3:(scope.names.map (·.1)).Nodup)(h4:∀ y∈bZ scope,sc.names.lookup y=some .cell∨sc.names.lookup y=some .free)(h5:hY sc iter it)(h6:gI it)(h7:TrT scope t (.n x))(h8:cM scope ifs ifs')(h9:tL scope rest gs)(h10:TrE scope elt elt') :
  TrE sc (.ListComp elt (⟨t,iter,ifs,0⟩::rest) scope p) (.comp (bZ scope) elt' (.mk (.n x) it ifs'::gs)):=.mk rfl (.comp h1 h2 h3 h4 h5 h6 h7 h8 h9 h10)
theorem REs.nil:cM sc [] []:=rfl
theorem REs.cons(h:TrE sc e a)(h2:cM sc es xs):cM sc (e::es) (a::xs):=⟨_,_,rfl,h,h2⟩
theorem RP.none:TrP sc none (.c .none):=.inl ⟨rfl,rfl⟩
theorem RP.some(h:TrE sc e a):TrP sc (some e) a:=.inr ⟨_,rfl,h⟩
theorem RGs.nil:tL sc [] []:=rfl
theorem RGs.cons{it ifs'}(h1:hY sc iter it)(h2:gI it)(h3:TrT sc t (.n x))(h4:cM sc ifs ifs')(h5:tL sc rest gs):tL sc (⟨t,iter,ifs,0⟩::rest) (.mk (.n x) it ifs'::gs):=⟨_,_,_,_,_,_,_,rfl,rfl,h1,h2,h3,h4,h5⟩
theorem RIt.range(h:aR sc "range")(h2:cM sc args as):hY sc (.Call (.Name "range" p1) args [] p) (.range as):=⟨_,_,_,rfl,h,h2⟩
theorem RIt.zip(h:aR sc "zip")(h1:TrE sc l a)(h2:TrE sc r b):hY sc (.Call (.Name "zip" p1) [l,r] [] p) (.zip a b):=⟨_,_,_,_,rfl,h,h1,h2⟩
theorem RIt.enum(h:aR sc "enumerate")(h1:TrE sc e a):hY sc (.Call (.Name "enumerate" p1) [e] [] p) (.enum a):=⟨_,_,_,rfl,h,h1⟩
theorem REs.ind{M:List Expr->List Ex->Prop}(n:M [] [])(c:∀{e:Expr} {x:Ex} {es:List Expr} {xs:List Ex},TrE sc e x->cM sc es xs->M es xs->M (e::es) (x::xs)):∀{xs:List Ex} {es:List Expr},cM sc es xs->M es xs:=by
 intro xs;induction xs with
 | nil=>intro es h;exact(h:es=[])▸n
 | cons x xs ih=>intro es h;refine bB h ?_;clear h;rintro e es rfl a b;exact c a b (ih b)
end
noncomputable def Zg:Expr->Bool
 | .ListComp ..=>true
 | _=>false
structure HeadOk(e:Expr):Prop where
 star:∀(rest:List Expr) (env:Env),starEach (e::rest) env=(false,eval e env)::starEach rest env
 nsl:∀ o i:Value,subscripted e false o i=operate [o,i] (getItem o i)
 nm:∀ op:CmpOp,behindInMarks op e=false
 ns:∀(env:Env) (v:Value),foldedSetIterable e env v=pure v
 sw:Zg e=false->∀(x:Str) (p1:Pos) (line:Nat) (env:Env),swapsWith e (some (.Name x p1)) line env=pure false
theorem lF{e}(h:mU e=true):HeadOk e:=by
 rcases e with⟨⟩<;>first|exact nft h|exact⟨λ _ _=>rfl,λ _ _=>rfl,λ _=>rfl,λ _ _=>rfl,λ _ _ _ _ _=>rfl⟩|exact⟨λ _ _=>rfl,λ _ _=>rfl,λ _=>rfl,λ _ _=>rfl,λ q=>ntf q⟩
section
variable{e:Expr}{x:Ex}(h:TrE sc e x)
include h
theorem TrE.star(rest:List Expr)(env:Env):starEach (e::rest) env=(false,eval e env)::starEach rest env:=(lF h.head).star rest env
theorem TrE.nslice(o i:Value):subscripted e false o i=operate [o,i] (getItem o i):=(lF h.head).nsl o i
theorem TrE.nmark(op:CmpOp):behindInMarks op e=false:=(lF h.head).nm op
theorem TrE.nset(env:Env)(v:Value):foldedSetIterable e env v=pure v:=(lF h.head).ns env v
theorem TrE.noswapName(hn:Zg e=false)(x:Str)(p1:Pos)(line:Nat)(env:Env):swapsWith e (some (.Name x p1)) line env=pure false:=(lF h.head).sw hn x p1 line env
end
theorem RIt.nset{e x}(h:hY sc e x)(env:Env)(v:Value):foldedSetIterable e env v=pure v:=by
 cases x with
 | e=>exact TrE.nset h env v
 | range=>refine jE h ?_;clear h;rintro _ _ _ rfl _;rfl
 | zip=>refine aDc h ?_;clear h;rintro _ _ _ _ rfl _;rfl
 | enum=>refine jE h ?_;clear h;rintro _ _ _ rfl _;rfl
structure Fx(sc:Scope)(env:Env)(oc:List (Str×Addr)):Prop where
 kind:env.scope.kind=.function
 glob:env.globals=mainGlobals
 bi:env.builtins=builtinsNs
 loc:∀ x,sc.names.lookup x=some .local->env.kindOf x=some .local
 gl:∀ x,sc.names.lookup x=some .globalImplicit->env.kindOf x=some .globalImplicit
 cel:∀ x,sc.names.lookup x=some .cell∨sc.names.lookup x=some .free->env.kindOf x=some .cell∨env.kindOf x=some .free
 own:∀ x,sc.names.lookup x=some .cell->∃ c,oc.lookup x=some c
noncomputable abbrev dJ(sc:Scope)(x:Str):Prop:=sc.names.lookup x=some .local∨sc.names.lookup x=some .cell
noncomputable def pU:Ex->Bool
 | .comp ..=>true
 | _=>false
noncomputable def RSs(R:Stmt->Sx->Prop):List Sx->List Stmt->Prop
 | [],l=>l=[]
 | x::xs,l=>∃ s r,l=s::r/\R s x/\RSs R xs r
inductive RS(R:Stmt->Sx->Prop)(sc:Scope):Stmt->Sx->Prop
 | asg {x:Str} {p1 p:Pos} {e:Expr} {a:Ex}:dJ sc x->TrE sc e a->(∀ env,swapsWith e (some (.Name x p1)) p.line env=pure false)->RS R sc (.Assign [.Name x p1] e p) (.asg x a)
 | asgc {scope:Scope} {x:Str} {p1 p cp:Pos} {elt:Expr} {gens:List Comprehension} {a:Ex}:sc.names.lookup x=some .local->TrE sc (.ListComp elt gens scope cp) a->(p1.line==cp.line)=true ->
   (scope.names.any λ y=>y.1==x&&(y.2==.local||y.2==.cell))=false->pU a=true->RS R sc (.Assign [.Name x p1] (.ListComp elt gens scope cp) p) (.asg x a)
 | mk {x:Str} {p1 p2 p:Pos} {es:List Expr} {as:List Ex}:dJ sc x->cM sc es as->as.length<1000->RS R sc (.Assign [.Name x p1] (.List es p2) p) (.mk x as)
 | mkm {scope:Scope} {x l y:Str} {k:Nat} {p1 p2 p3 p4 p5 p6 p7 p8 p9 cp p:Pos}:sc.names.lookup x=some .local->scope.kind=.function->(∀ y∈scope.names,y.2=.local->scope.names.lookup y.1=some .local)->(scope.names.map (·.1)).Nodup ->
   bZ scope=[l]->(sc.names.lookup l=some .cell∨sc.names.lookup l=some .free)->scope.names.lookup y=some .local->aR scope "len"->(l==("__debug__":Str))=false->(l==("__classdict__":Str))=false->y≠l ->
   (p1.line==cp.line)=true->(scope.names.any λ z=>z.1==x&&(z.2==.local||z.2==.cell))=false ->
   RS R sc (.Assign [.Name x p1] (.ListComp (.BinOp (.List [.Constant (.int 0) k p2] p3) .Mult (.Call (.Name "len" p4) [.Name l p5] [] p6) p7) [⟨.Name y p8,.Name l p9,[],0⟩] scope cp) p) (.mkm x l)
 | app {x:Str} {p1 ap p2 p:Pos} {e:Expr} {a:Ex}:fY sc x->(x==("__debug__":Str))=false->(x==("__classdict__":Str))=false->TrE sc e a->(ap.endLine==p2.line)=true ->
   RS R sc (.Expr (.Call (.Attribute (.Name x p1) "append" ap) [e] [] p2) p) (.app x a)
 | st2 {x:Str} {p1 p2 p3 p:Pos} {i j e:Expr} {a b c:Ex}:fY sc x->(x==("__debug__":Str))=false->(x==("__classdict__":Str))=false->TrE sc i a->TrE sc j b->TrE sc e c ->
   RS R sc (.Assign [.Subscript (.Subscript (.Name x p1) i p2) j p3] e p) (.st2 x a b c)
 | aug {x:Str} {p1 p:Pos} {o:Operator} {e:Expr} {a:Ex}:dJ sc x->(x==("__classdict__":Str))=false->TrE sc e a->RS R sc (.AugAssign (.Name x p1) o e p) (.aug x o a)
 | ite {t:Expr} {b c:List Stmt} {p:Pos} {t':Ex} {b' c':List Sx}:TrE sc t t'->RSs R b' b->RSs R c' c->RS R sc (.If t b c p) (.ite t' b' c')
 | whl {t:Expr} {b:List Stmt} {p:Pos} {t':Ex} {b':List Sx}:TrE sc t t'->RSs R b' b->RS R sc (.While t b [] p) (.whl t' b')
 | forr {t it:Expr} {b:List Stmt} {p:Pos} {t':Tg} {it':It} {b':List Sx}:TrT sc t t'->hY sc it it'->Cv t' it'->RSs R b' b->RS R sc (.For t it b [] p) (.forr t' it' b')
 | ret {e:Expr} {p:Pos} {a:Ex}:TrE sc e a->RS R sc (.Return (some e) p) (.ret a)
 | brk {p:Pos}:RS R sc (.Break p) .brk
 | cont {p:Pos}:RS R sc (.Continue p) .cont
 | bad {st:Stmt}:RS R sc st .bad
 | sat {x a:Str} {p1 p2 p:Pos} {e:Expr} {b:Ex}:fY sc x->(x==("__debug__":Str))=false->(x==("__classdict__":Str))=false->TrE sc e b->RS R sc (.Assign [.Attribute (.Name x p1) a p2] e p) (.sat x a b)
 | saug {x a:Str} {o:Operator} {p1 p2 p:Pos} {e:Expr} {b:Ex}:fY sc x->(x==("__debug__":Str))=false->(x==("__classdict__":Str))=false->TrE sc e b->RS R sc (.AugAssign (.Attribute (.Name x p1) a p2) o e p) (.saug x a o b)
 | mcall {x m:Str} {o:Expr} {args:List Expr} {p1 ap cp p:Pos} {b:Ex} {bs:List Ex}:dJ sc x->TrE sc o b->cM sc args bs->(∀ env t,attributeBase o m env t=t)->(ap.endLine==cp.line)=true->args.length<8 ->
   RS R sc (.Assign [.Name x p1] (.Call (.Attribute o m ap) args [] cp) p) (.mcall (some x) b m bs)
 | mcalle {m:Str} {o:Expr} {args:List Expr} {ap cp p:Pos} {b:Ex} {bs:List Ex}:TrE sc o b->cM sc args bs->(∀ env t,attributeBase o m env t=t)->(ap.endLine==cp.line)=true->args.length<8 ->
   RS R sc (.Expr (.Call (.Attribute o m ap) args [] cp) p) (.mcall none b m bs)
 | satm {x a m:Str} {o:Expr} {args:List Expr} {p1 p2 ap cp p:Pos} {b:Ex} {bs:List Ex}:fY sc x->(x==("__debug__":Str))=false->(x==("__classdict__":Str))=false->TrE sc o b->cM sc args bs->(∀ env t,attributeBase o m env t=t)->(ap.endLine==cp.line)=true->args.length<8 ->
   RS R sc (.Assign [.Attribute (.Name x p1) a p2] (.Call (.Attribute o m ap) args [] cp) p) (.satm x a b m bs)
 | new {x C:Str} {args:List Expr} {p1 p2 cp p:Pos} {bs:List Ex}:dJ sc x->aR sc C->(C==("__debug__":Str))=false->cM sc args bs->RS R sc (.Assign [.Name x p1] (.Call (.Name C p2) args [] cp) p) (.new x C bs)
noncomputable def TrS(sc:Scope)(s:Stmt)(x:Sx):Prop:=∃ R:Stmt->Sx->Prop,(∀ s x,R s x->RS R sc s x)/\R s x
noncomputable abbrev fJ(sc:Scope)(l:List Stmt)(xs:List Sx):Prop:=RSs (TrS sc) xs l
section
variable{R R':Stmt->Sx->Prop}(k:∀ s x,R s x->R' s x)
include k
theorem RSs.mono{xs}:∀{l:List Stmt},RSs R xs l->RSs R' xs l:=by
 induction xs with
 | nil=>exact λ h=>h
 | cons x xs ih=>intro l h;refine bB h ?_;clear h;intro e r q a b;exact dR e r q (k _ _ a) (ih b)
theorem RS.mono{s x}(h:RS R sc s x):RS R' sc s x:=by
 apply RS.casesOn (motive:=λ s x _=>RS R' sc s x) h
 case ite=>exact λ a b c=>.ite a (b.mono k) (c.mono k)
 case whl=>exact λ a b=>.whl a (b.mono k)
 case forr=>exact λ a b c d=>.forr a b c (d.mono k)
 case asg=>exact .asg
 case asgc=>exact .asgc
 case mk=>exact .mk
 case mkm=>exact .mkm
 case app=>exact .app
 case st2=>exact .st2
 case aug=>exact .aug
 case ret=>exact .ret
 case brk=>exact .brk
 case cont=>exact .cont
 case bad=>exact .bad
 case sat=>exact .sat
 case saug=>exact .saug
 case mcall=>exact .mcall
 case mcalle=>exact .mcalle
 case satm=>exact .satm
 case new=>exact .new
end
theorem TrS.raw{s x}(h:TrS sc s x):RS (TrS sc) sc s x:=h.elim λ R h=>RS.mono (λ _ _ q=>⟨R,h.1,q⟩) (h.1 _ _ h.2)
theorem TrS.ofR{s x}(h:RS (TrS sc) sc s x):TrS sc s x:=⟨RS (TrS sc) sc,λ _ _ q=>RS.mono (λ _ _ q=>q.raw) q,h⟩
theorem TrS.asg{e}(h0:dJ sc x)(h1:TrE sc e a)(h2:(∀ env,swapsWith e (some (.Name x p1)) p.line env=pure false)):TrS sc (.Assign [.Name x p1] e p) (.asg x a):=.ofR (.asg h0 h1 h2)
theorem TrS.asgc(h0:sc.names.lookup x=some .local)(h1:TrE sc (.ListComp elt gens scope cp) a)(h2:(p1.line==cp.line)=true)(h3:(scope.names.any λ y=>y.1==x&&(y.2==.local||y.2==.cell))=false)(h4:pU a=true):TrS sc (.Assign [.Name x p1] (.ListComp elt gens scope cp) p) (.asg x a):=.ofR (.asgc h0 h1 h2 h3 h4)
theorem TrS.mk{es}(h0:dJ sc x)(h1:cM sc es as)(h2:as.length<1000):TrS sc (.Assign [.Name x p1] (.List es p2) p) (.mk x as):=.ofR (.mk h0 h1 h2)
theorem TrS.mkm{l k p3 p4 p5 p6 p7 p8 p9}(h0:sc.names.lookup x=some .local)(h1:scope.kind=.function)(h2:(∀ y∈scope.names,y.2=.local->scope.names.lookup y.1=some .local))(h3:(scope.names.map (·.1)).Nodup)(h4:bZ scope=[l])(h5:(sc.names.lookup l=some .cell∨sc.names.lookup l=some .free))(h6:scope.names.lookup y=some .local)(h7:aR scope "len")(h8:(l=="__debug__")=false)(h9:(l=="__classdict__")=false)(h10:y≠l)(h11:(p1.line==cp.line)=true)(h12:(scope.names.any λ z=>z.1==x&&(z.2==.local||z.2==.cell))=false):TrS sc (.Assign [.Name x p1] (.ListComp (.BinOp (.List [.Constant (.int 0) k p2] p3) .Mult (.Call (.Name "len" p4) [.Name l p5] [] p6) p7) [⟨.Name y p8,.Name l p9,[],0⟩] scope cp) p) (.mkm x l):=.ofR (.mkm h0 h1 h2 h3 h4 h5 h6 h7 h8 h9 h10 h11 h12)
theorem TrS.app{e}(h0:fY sc x)(h1:(x=="__debug__")=false)(h2:(x=="__classdict__")=false)(h3:TrE sc e a)(h4:(ap.endLine==p2.line)=true):TrS sc (.Expr (.Call (.Attribute (.Name x p1) "append" ap) [e] [] p2) p) (.app x a):=.ofR (.app h0 h1 h2 h3 h4)
theorem TrS.st2{p3 i j e c}(h0:fY sc x)(h1:(x=="__debug__")=false)(h2:(x=="__classdict__")=false)(h3:TrE sc i a)(h4:TrE sc j b)(h5:TrE sc e c):TrS sc (.Assign [.Subscript (.Subscript (.Name x p1) i p2) j p3] e p) (.st2 x a b c):=.ofR (.st2 h0 h1 h2 h3 h4 h5)
theorem TrS.aug{o e}(h0:dJ sc x)(h1:(x=="__classdict__")=false)(h2:TrE sc e a):TrS sc (.AugAssign (.Name x p1) o e p) (.aug x o a):=.ofR (.aug h0 h1 h2)
theorem TrS.ite{b c t' c'}(h0:TrE sc t t')(h1:fJ sc b b')(h2:fJ sc c c'):TrS sc (.If t b c p) (.ite t' b' c'):=.ofR (.ite h0 h1 h2)
theorem TrS.whl{b t'}(h0:TrE sc t t')(h1:fJ sc b b'):TrS sc (.While t b [] p) (.whl t' b'):=.ofR (.whl h0 h1)
theorem TrS.forr{it b t' it'}(h0:TrT sc t t')(h1:hY sc it it')(h2:Cv t' it')(h3:fJ sc b b'):TrS sc (.For t it b [] p) (.forr t' it' b'):=.ofR (.forr h0 h1 h2 h3)
theorem TrS.ret{e}(h0:TrE sc e a):TrS sc (.Return (some e) p) (.ret a):=.ofR (.ret h0)
theorem TrS.brk :TrS sc (.Break p) .brk:=.ofR (.brk)
theorem TrS.cont :TrS sc (.Continue p) .cont:=.ofR (.cont)
theorem TrS.bad :TrS sc st .bad:=.ofR (.bad)
theorem TrS.sat{a e}(h0:fY sc x)(h1:(x=="__debug__")=false)(h2:(x=="__classdict__")=false)(h3:TrE sc e b):TrS sc (.Assign [.Attribute (.Name x p1) a p2] e p) (.sat x a b):=.ofR (.sat h0 h1 h2 h3)
theorem TrS.saug{a o e}(h0:fY sc x)(h1:(x=="__debug__")=false)(h2:(x=="__classdict__")=false)(h3:TrE sc e b):TrS sc (.AugAssign (.Attribute (.Name x p1) a p2) o e p) (.saug x a o b):=.ofR (.saug h0 h1 h2 h3)
theorem TrS.mcall{o}(h0:dJ sc x)(h1:TrE sc o b)(h2:cM sc args bs)(h3:(∀ env t,attributeBase o m env t=t))(h4:(ap.endLine==cp.line)=true)(h5:args.length<8):TrS sc (.Assign [.Name x p1] (.Call (.Attribute o m ap) args [] cp) p) (.mcall (some x) b m bs):=.ofR (.mcall h0 h1 h2 h3 h4 h5)
theorem TrS.mcalle{o}(h0:TrE sc o b)(h1:cM sc args bs)(h2:(∀ env t,attributeBase o m env t=t))(h3:(ap.endLine==cp.line)=true)(h4:args.length<8):TrS sc (.Expr (.Call (.Attribute o m ap) args [] cp) p) (.mcall none b m bs):=.ofR (.mcalle h0 h1 h2 h3 h4)
theorem TrS.satm{a o}(h0:fY sc x)(h1:(x=="__debug__")=false)(h2:(x=="__classdict__")=false)(h3:TrE sc o b)(h4:cM sc args bs)(h5:(∀ env t,attributeBase o m env t=t))(h6:(ap.endLine==cp.line)=true)(h7:args.length<8):TrS sc (.Assign [.Attribute (.Name x p1) a p2] (.Call (.Attribute o m ap) args [] cp) p) (.satm x a b m bs):=.ofR (.satm h0 h1 h2 h3 h4 h5 h6 h7)
theorem TrS.new{C}(h0:dJ sc x)(h1:aR sc C)(h2:(C=="__debug__")=false)(h3:cM sc args bs):TrS sc (.Assign [.Name x p1] (.Call (.Name C p2) args [] cp) p) (.new x C bs):=.ofR (.new h0 h1 h2 h3)
theorem RSs.nil:fJ sc [] []:=rfl
theorem RSs.cons{s r x xs}(h:TrS sc s x)(h2:fJ sc r xs):fJ sc (s::r) (x::xs):=⟨_,_,rfl,h,h2⟩
noncomputable def FrOk(A:Around)(h:Heap)(H F:List Addr):Prop :=
 ∃ l,A.frames=some l/\∀ env∈l,env.scope.kind≠.module/\∃ L o es n,env.frame=some L/\L∈H/\L∈F/\h.get? L=some o/\o.data=.dict es n
structure CxB(B:Heap->Prop)(n:Nat)(A:Around)(h:Heap)(H F:List Addr):Prop where
 hd:A.handled=none
 dp:A.depth+n<recursionLimit
 un:A.units+8 * n+16<cLine
 base:B (fz h H)
 fr:FrOk A h H F
noncomputable abbrev kF(H:List Addr)(s:Shared)(Q:Value->Shared->Prop)(r:PV):Prop :=
 ∀ h' tk rv,Up H s.heap h'->VRel (fz h' H) r rv->Q rv { s with heap:=h',toks:=tk }
structure FnIs(g:Heap)(F:Fn)(fd:FuncData)(body:List Stmt):Prop where
 crec:g.CodeRec fd.code fd.qualname
 bod:fd.body=.stmts body
 clo:fd.closure=[]
 co:fd.scope.isCoroutine=false
 gen:fd.scope.isGenerator=false
 kind:fd.scope.kind=.function
 gl:fd.globals=mainGlobals
 bi:fd.builtins=builtinsNs
 bind:∀(s:Shared) (vals:List Value),g.StaysIn s.heap->vals.length=F.ps.length->BindsTo s fd ⟨vals,[]⟩ (F.ps.zip vals)
 ps:F.ps.Nodup
 tg:∀ p∈F.ps,dJ fd.scope p
 nd:(fd.scope.names.map (·.1)).Nodup
 nofree:∀ y∈fd.scope.names,y.2≠.free
 tr:fJ fd.scope body F.body
noncomputable abbrev aBz(prog:Program)(w:World)(B:Heap->Prop)(gl:Str->Option Value):Prop:=∀{g:Heap} {x:Str} {v:Value},B g->gl x=some v->∀{A:Around} {env:Env} {s:Shared} {E Q:Value->Shared->Prop},env.scope.kind=.function->env.globals=mainGlobals->env.builtins=builtinsNs ->
  env.kindOf x=some .globalImplicit->g.StaysIn s.heap->Q v s->wpAny (model prog w) A (loadName env x) Q E s
noncomputable abbrev Eb(prog:Program)(w:World)(T:Tab)(B:Heap->Prop):Prop:=∀{C:Addr} {a:Str},T.plain C a=true->∀{g:Heap},B g->∀{A:Around} {s:Shared} {E Q:Value->Shared->Prop} {x d:Addr} {m:Str->Option Value} {v:Value},g.StaysIn s.heap->s.heap.get? x=some (gX C d)->s.heap.Ns d m->m a=some v->(∀ i,v≠.builtin i) ->
  (∀ tk,Q v { s with toks:=tk })->wpAny (model prog w) A (getAttr (.ref x) a true) Q E s
noncomputable abbrev Ho(prog:Program)(w:World)(T:Tab)(B:Heap->Prop):Prop:=∀{C:Addr} {a b:Str},T.prop C a=some b->∀{g:Heap},B g->∀{A:Around} {s:Shared} {E Q:Value->Shared->Prop} {H F:List Addr} {x d:Addr} {m:Str->Option Value} {v:Value},CxB B 8 A s.heap H F->g.StaysIn s.heap->s.heap.get? x=some (gX C d)->s.heap.Ns d m->m b=some v->(∀ i,v≠.builtin i) ->
  (∀ h' tk,s.heap.StaysIn h'->Q v { s with heap:=h',toks:=tk })->wpAny (model prog w) A (getAttr (.ref x) a true) Q E s
noncomputable abbrev Ec(prog:Program)(w:World)(T:Tab)(B:Heap->Prop):Prop:=∀{C:Addr} {a:Str},T.plain C a=true->∀{g:Heap},B g->∀{A:Around} {s:Shared} {Q:Unit->Shared->Prop} {E:Value->Shared->Prop} {x d:Addr} {m:Str->Option Value} {v:Value} {k:Nat},g.StaysIn s.heap->s.heap.get? x=some (gX C d)->NsB s.heap d m k->k<100000->x≠d ->
  (∀ h' tk,Heap.SameBut d s.heap h'->NsB h' d (λ y=>if y=a then some v else m y) (if(m a).isSome then k else k+1)->Q () { s with heap:=h',toks:=tk })->wpAny (model prog w) A (setAttr (.ref x) a v) Q E s
noncomputable abbrev Wy(prog:Program)(w:World)(T:Tab)(B:Heap->Prop):Prop:=∀{C:Addr} {m:Str} {F:Fn},T.mth C m=some F->∃ f,(∀ g,B g->∃ o fd body,g.get? f=some o/\o.data=.func fd/\FnIs g F fd body) /\
  ∀{g:Heap},B g->∀{A:Around} {s:Shared} {Q:Value×List Value->Shared->Prop} {E:Value->Shared->Prop} {x d:Addr} {mm:Str->Option Value} {pl:Sem Bool},g.StaysIn s.heap->s.heap.get? x=some (gX C d)->s.heap.Ns d mm->mm m=none ->
   Q (.ref f,[.ref x]) s->wpAny (model prog w) A (getMethod (.ref x) m pl) Q E s
noncomputable abbrev Wu(prog:Program)(w:World)(T:Tab)(B:Heap->Prop)(gl:Str->Option Value):Prop:=∀{n:Str} {C:Addr} {F:Fn} {ds:List PV},T.cls n=some (C,F,ds)->∃ f,gl n=some (.ref C)/\(∀ g,B g->(∃ k,(k=Keeper.frame∨k=Keeper.machine∨k=Keeper.boundFrame)/\Looks (model prog w) g (keeperOf (.ref C)) k)/\∃ o fd body dvs,g.get? f=some o/\o.data=.func fd/\FnIs g F fd body/\VRels g ds dvs/\∀(s:Shared) (vals:List Value),g.StaysIn s.heap->vals.length+ds.length=F.ps.length->BindsTo s fd ⟨vals,[]⟩ (F.ps.zip (vals++dvs))) /\
  ∀{g:Heap},B g->∀{A:Around} {s:Shared} {Q E:Value->Shared->Prop} {H Fr:List Addr} {rvs:List Value},CxB B 8 A s.heap H Fr->g.StaysIn s.heap->rvs.length+ds.length+1=F.ps.length ->
   (∀ h₁ tk x d,s.heap.StaysIn h₁->s.heap.get? x=none->s.heap.get? d=none->x≠d->h₁.get? x=some (gX C d)->NsB h₁ d (λ _=>none) 0->∀ A',(∃ k≤4,∃ j≤1,A'={ A with depth:=A.depth+j,units:=A.units+k })->codeAny (model prog w) A' (.call (.ref f) ⟨.ref x::rvs,[]⟩) (λ r s'=>match r with|.ok (.ret v)=>v=.none/\Q (.ref x) s'|_=>False) { s with heap:=h₁,toks:=tk }) ->
   wpAny (model prog w) A (call (.ref C) rvs) Q E s
noncomputable abbrev aBy(prog:Program)(w:World)(T:Tab)(B:Heap->Prop)(gl:Str->Option Value):Prop:=∀{f:Str} {F:Fn},T.fn f=some F->∃ a,gl f=some (.ref a)/\∀ g,B g->∃ o fd body,g.get? a=some o/\o.data=.func fd/\FnIs g F fd body
noncomputable abbrev Wv(prog:Program)(w:World)(T:Tab)(B:Heap->Prop)(gl:Str->Option Value):Prop:=∀{f:Str} {vs:List PV} {v:PV},T.ext f vs=some v->∃ a,gl f=some (.ref a)/\(∀ g,B g->∃ o fd,g.get? a=some o/\o.data=.func fd) /\
  ∀{A:Around} {H:List Addr} {s:Shared} {rvs:List Value} {Q E:Value->Shared->Prop},CxB B 200 A s.heap H H->(∀ b∈H,∃ o,s.heap.get? b=some o)->VRels (fz s.heap H) vs rvs->kF H s Q v ->
   wpAny (model prog w) A (call (.ref a) rvs) Q E s
noncomputable abbrev Wz(prog:Program)(w:World)(T:Tab)(B:Heap->Prop)(gl:Str->Option Value):Prop:=∀{p m:Str} {v r:PV},T.orc p m v=some r->∃ a Ty id,gl p=some (.ref a)/\PlainAttrs Ty/\Slot Ty m id/\typeOf (.builtin id)=pure (.type "method_descriptor") /\
  (∀ g,B g->∃ ob,g.get? a=some ob/\ob.cls=.type Ty/\ob.dict=none) /\
  ∀{A:Around} {H:List Addr} {s:Shared} {rv:Value} {Q E:Value->Shared->Prop},CxB B 0 A s.heap H H->(∀ b∈H,∃ o,s.heap.get? b=some o)->VRel (fz s.heap H) v rv->VPost H s Q r ->
   wpAny (model prog w) A (call (.builtin id) [.ref a,rv]) Q E s
structure Sys(prog:Program)(w:World) where
 T:Tab
 B:Heap->Prop
 mono:∀{g g':Heap},g.StaysIn g'->B g->B g'
 nolimit:∀{g:Heap},B g->g.NoLimit
 gl:Str->Option Value
 glOk:aBz prog w B gl
 biOk:∀ f,gl (gB f)=some (Io f)
 rangeOk:gl "range"=some (.type "range")
 zipOk:gl "zip"=some (.type "zip")
 enumOk:gl "enumerate"=some (.type "enumerate")
 intOk:gl "int"=some (.type "int")
 boolOk:gl "bool"=some (.type "bool")
 setOk:gl "set"=some (.type "set")
 strOk:gl "str"=some (.type "str")
 deqOk:gl "deque"=some (.type "collections.deque")
 plainGet:Eb prog w T B
 propGet:Ho prog w T B
 plainSet:Ec prog w T B
 mthOk:Wy prog w T B
 clsOk:Wu prog w T B gl
 fnOk:aBy prog w T B gl
 extOk:Wv prog w T B gl
 orcOk:Wz prog w T B gl
noncomputable abbrev Cx(S:Sys prog w)(n:Nat)(A:Around)(h:Heap)(H F:List Addr):Prop:=CxB S.B n A h H F
noncomputable abbrev CxI(S:Sys prog w)(n:Nat)(A:Around)(h:Heap)(X:List Addr)(env:Env)(oc:List (Str×Addr))(ρ:Ro):Prop:=CxB S.B n A h (X++aH env oc ρ) (env.locals::X)
section
variable{S:Sys prog w}{h:Heap}{H' F F':List Addr}{B:Heap->Prop}
theorem CxB.le{k}(c:CxB B n A h H F)(e:k≤n):CxB B k A h H F:=⟨c.hd,by have:=c.dp;lia,by have:=c.un;lia,c.base,c.fr⟩
theorem CxB.down(c:CxB B (n+1) A h H F):CxB B n A h H F:=c.le (Nat.le_succ _)
theorem CxB.room(c:CxB B n A h H F):A.units+8<cLine:=by have:=c.un;lia
theorem Cx.move(c:Cx S n A h H F)(k:(fz h H).StaysIn (fz h' H'))(f:∀ L∈H,L∈F->∀ o es n,h.get? L=some o->o.data=.dict es n->L∈H'/\L∈F'/\∃ o' es' n',h'.get? L=some o'/\o'.data=.dict es' n'):Cx S n A h' H' F':=by
 refine⟨c.hd,c.dp,c.un,S.mono k c.base,?_⟩;refine aE c.fr λ l a b=>?_;refine bK l a λ env he=>?_;refine aK (b env he) λ p y2=>gS y2 λ L o es n q1 q2 q3 y3=>aK y3 λ q4 q5=>?_;refine bU (f L q2 q3 o es n q4 q5) λ z1 z2 y4=>jE y4 λ o' es' n' z3 z4=>?_;exact aY p (jD L o' es' n' q1 z1 z2 (aY z3 z4))
theorem Cx.up(c:Cx S n A h H F)(k:Up H h h'):Cx S n A h' H F :=
 c.move k.fz λ L hL hF o es n e d=>let⟨s,q⟩:=k.sl L o e;⟨hL,hF,_,es,n,q,d⟩
theorem CxI.out(c:CxI S n A h X env oc ρ):Cx S n A h (X++aH env oc ρ) (X++aH env oc ρ) :=
 Cx.move (S:=S) c (λ _ _ e=>e) λ L hL hF o es n e d=>⟨hL,hL,o,es,n,e,d⟩
theorem Cx.wide(c:Cx S n A h H F)(hs:∀ L∈F,L∈F'):Cx S n A h H F' :=
 Cx.move (S:=S) c (λ _ _ e=>e) λ L hL hF o es n e d=>⟨hL,hs L hF,o,es,n,e,d⟩
end
inductive XRels(g:Heap)(ρ:Ro):List PV->List Value->Prop
 | nil:XRels g ρ [] []
 | cons {x:PV} {v:Value} {xs:List PV} {vs:List Value}:XRel g ρ x v->XRels g ρ xs vs->XRels g ρ (x::xs) (v::vs)
theorem XRels.mono(k:g.StaysIn g')(h:XRels g ρ xs vs):XRels g' ρ xs vs:=by
 induction h with
 | nil=>exact .nil
 | cons a _ ih=>exact .cons (a.mono k) ih
theorem XRel.fzv{x y v}(r:XRel g ρ x v)(e:fzv x=some y):VRel g y v:=by
 cases r with
 | frozen r =>
  have:x=y:=by unfold Mine.fzv at e;split at e<;>simp_all
  exact this▸r
 | mr=>exact nos e
theorem Jy{x}(e:fzvs (x::xs)=some ys):∃ y q,fzv x=some y/\fzvs xs=some q/\ys=y::q:=by
 dsimp only [fzvs] at e;cases h1:fzv x with
 | none=>rw[h1] at e;exact nos e
 | some y =>
  cases h2:fzvs xs with
  | none=>rw[h1,h2] at e;exact nos e
  | some q=>rw[h1,h2] at e;exact dR y q rfl rfl ((sj e).symm)
theorem XRels.fzvs(h:XRels g ρ xs vs):∀{ys:List PV},fzvs xs=some ys->VRels g ys vs:=by
 induction h with
 | nil=>exact λ e=>sj e▸.nil
 | cons a _ ih =>
  intro ys e;refine bB (Jy e) ?_;clear e;rintro y q h1 h2 rfl;exact .cons (a.fzv h1) (ih h2)
theorem XRels.length(h:XRels g ρ xs vs):vs.length=xs.length:=by
 induction h with
 | nil=>rfl
 | cons _ _ ih=>exact congrArg (·+1) ih
theorem XRel.mref(r:XRel g ρ (.mref i) rv):∃ p,ρ[i]? = some p/\rv=.ref p.1:=by
 cases r with
 | frozen r=>exact r.inv.elim
 | mr h=>exact bK _ h rfl
theorem XRel.deref{h}(I:Inv X env oc ρ h lv σ){x y v}(r:XRel (fz h (X++aH env oc ρ)) ρ x v)(e:deref σ x=some y):ARel (fz h (X++aH env oc ρ)) h y v:=by
 cases r with
 | frozen r =>
  have:x=y:=by
   dsimp only [Mine.deref] at e;split at e
   ·exact r.inv.elim
   ·exact sj e
  exact .frozen (this▸r)
 | mr hi =>
  dsimp only [Mine.deref] at e;refine aE (I.chg.get hi) λ o ho m=>?_;simp only[ho] at e;cases o with
  | list xs =>
   have q:=sj e;clear e;subst q;refine aK m ?_;clear m;rintro _ ⟨vs,k,e1,e2⟩;exact .live e1 e2
  | mat rows=>exact nos e
  | inst C at'=>exact nos e
end
section
open PySem.SeqAt
theorem REs.inv{l:List Expr}{xs:List Ex}(h:cM sc l xs):REs TrE sc xs l:=h
noncomputable def aBB(sc:Scope)(e:Expr):Ex->Prop
 | .v x=>∃ p,e=.Name x p/\fY sc x/\(x==("__debug__":Str))=false/\(x==("__classdict__":Str))=false
 | .at a name=>∃ o p,e=.Attribute o name p/\TrE sc o a/\∀ env t,attributeBase o name env t=t
 | .ext f as=>∃ p1 p args,e=.Call (.Name f p1) args [] p/\aR sc f/\(f==("__debug__":Str))=false/\cM sc args as
 | .bi .list a=>∃ p1 p x,e=.Call (.Name "list" p1) [x] [] p/\aR sc "list"/\TrE sc x a
 | .bi .sortset a=>∃ p1 p2 p3 p x,e=.Call (.Name "sorted" p1) [.Call (.Name "set" p2) [x] [] p3] [] p/\aR sc "sorted"/\aR sc "set"/\TrE sc x a
 | .comp fr elt' gs=>∃ elt t iter ifs rest scope p x it ifs' gs',e=.ListComp elt (⟨t,iter,ifs,0⟩::rest) scope p/\fr=bZ scope/\gs=.mk (.n x) it ifs'::gs' /\
   (scope.kind=.function/\(∀ y∈scope.names,y.2=.local->scope.names.lookup y.1=some .local)/\(scope.names.map (·.1)).Nodup/\(∀ y∈bZ scope,sc.names.lookup y=some .cell∨sc.names.lookup y=some .free)) /\
   hY sc iter it/\gI it/\TrT scope t (.n x)/\cM scope ifs ifs'/\tL scope rest gs'/\TrE scope elt elt'
 | _=>True
theorem TrE.inv{l:Expr}{xs:Ex}(h:TrE sc l xs):aBB sc l xs:=by
 apply RE.casesOn (motive:=λ l xs _=>aBB sc l xs) h.raw
 case attr=>intro _ _ _ _ a b;exact dR _ _ rfl a b
 case v=>intro _ _ a b c;exact yM _ rfl a b c
 case ext=>intro _ _ _ _ _ a b c;exact Pz _ _ _ rfl a b c
 case bi=>intro f _ _ _ _ a b c d;rcases f with⟨⟩<;>first|exact rS _ _ _ rfl c d|exact trivial|exact absurd rfl a
 case sortset=>intro _ _ _ _ _ _ a b c;exact aDa _ _ _ _ _ rfl a (aY b c)
 case comp=>intro _ _ _ _ _ _ _ _ _ _ _ _ a b c d e f g h i j;exact Hh _ _ _ _ _ _ _ (jD _ _ _ _ rfl rfl rfl (Ut ⟨a,b,c,d⟩ e f g h i j))
 all_goals intros;exact trivial
theorem RSs.inv{l:List Stmt}{xs:List Sx}(h:fJ sc l xs):RSs (TrS sc) xs l:=h
noncomputable def Wt(sc:Scope)(s:Stmt)(x:Str)(a:Ex):Prop:=∃ p1 p e,s=.Assign [.Name x p1] e p/\dJ sc x/\TrE sc e a/\∀ env,swapsWith e (some (.Name x p1)) p.line env=pure false
noncomputable def Xa(sc:Scope)(s:Stmt):Sx->Prop
 | .asg x (.ext f as)=>Wt sc s x (.ext f as)
 | .asg x (.bi f as)=>Wt sc s x (.bi f as)
 | .ite t' b' c'=>∃ t b c p,s=.If t b c p/\TrE sc t t'/\fJ sc b b'/\fJ sc c c'
 | .ret a=>∃ e p,s=.Return (some e) p/\TrE sc e a
 | _=>True
set_option tactic.hygienic true in
theorem Cj{s:Stmt}(h:pU a=false->Wt sc s x a):Xa sc s (.asg x a):=by
 rcases a with⟨⟩<;>first|exact trivial|exact h rfl
theorem TrS.inv{l:Stmt}{xs:Sx}(h:TrS sc l xs):Xa sc l xs:=by
 apply RS.casesOn (motive:=λ l xs _=>Xa sc l xs) h.raw
 case asg=>intro _ _ _ _ _ a b c;exact Cj λ _=>⟨_,_,_,rfl,a,b,c⟩
 case asgc=>intro _ _ _ _ _ _ _ _ _ _ _ _ c;exact Cj λ q=>ntf (c.symm.trans q)
 case ite=>intro _ _ _ _ _ _ _ a b c;exact jD _ _ _ _ rfl a b c
 case ret=>intro _ _ _ a;exact rR _ _ rfl a
 all_goals intros;exact trivial
noncomputable def aBC(sc:Scope)(t:Expr):Tg->Prop
 | .n x=>∃ p,t=.Name x p/\(sc.names.lookup x=some .local∨sc.names.lookup x=some .cell)
 | .p x y=>∃ p1 p2 k p,t=.Tuple [.Name x p1,.Name y p2] k p/\(sc.names.lookup x=some .local∨sc.names.lookup x=some .cell)/\(sc.names.lookup y=some .local∨sc.names.lookup y=some .cell)/\x≠y
theorem TrT.inv{g:Tg}(h:TrT sc t g):aBC sc t g:=by
 apply TrT.casesOn (motive:=λ t g _=>aBC sc t g) h
 case n=>intro _ _ a;exact bK _ rfl a
 case p=>intro _ _ _ _ _ _ a b c;exact jD _ _ _ _ rfl a b c
theorem RGs.inv{l:List Comprehension}{g:List Gn}(h:tL sc l g):RGs TrE sc g l:=h
noncomputable def Hv(g:Heap)(ρ:Ro)(l:List Value):List PV->Prop
 | []=>l=[]
 | x::xs=>∃ v vs,l=v::vs/\XRel g ρ x v/\XRels g ρ xs vs
set_option tactic.hygienic true in
theorem XRels.inv{x:List PV}{v:List Value}(h:XRels g ρ x v):Hv g ρ v x:=by
 apply XRels.casesOn (motive:=λ x v _=>Hv g ρ v x) h
 case nil=>exact rfl
 case cons=>intro _ _ _ _ a b;exact dR _ _ rfl a b
end
theorem op1(a b:Int):fS .Add (.int a) (.int b)=some (.int (a+b)):=rfl
theorem op2(a b:Str):fS .Add (.str a) (.str b)=if a.length+b.length≤100000 then some (.str (a++b)) else none:=rfl
theorem op3(a b:List PV):fS .Add (.list a) (.list b)=if a.length+b.length≤100000 then some (.list (a++b)) else none:=rfl
theorem op4(a b:Int):fS .Sub (.int a) (.int b)=some (.int (a - b)):=rfl
theorem op5(a b:Bool):fS .Sub (.bool a) (.bool b)=some (.int ((if a then 1 else 0) - (if b then 1 else 0))):=rfl
theorem op6(a b:Int):fS .Mult (.int a) (.int b)=if a.natAbs<2 ^ 16/\b.natAbs<2 ^ 16 then some (.int (a * b)) else none:=rfl
theorem op7(a b:Int):fS .FloorDiv (.int a) (.int b)=if 0<b/\b<2 ^ 16 then some (.int (Int.fdiv a b)) else none:=rfl
theorem op8(a b:Int):fS .Mod (.int a) (.int b)=if 0<b/\b<2 ^ 16 then some (.int (Int.fmod a b)) else none:=rfl
theorem op9(a b:Int):fS .Pow (.int a) (.int b)=if a=4/\0≤b/\b<8 then some (.int (4 ^ b.toNat)) else none:=rfl
theorem Ma(a:Str):cO .Eq (.str a) .none=some false:=rfl
theorem Mb :cO .Eq .none .none=some true:=rfl
theorem Mc(a b:Str):cO .Eq (.str a) (.str b)=peq (.str a) (.str b):=rfl
theorem Md(a b:Int):cO .Eq (.int a) (.int b)=peq (.int a) (.int b):=rfl
theorem Me(a b:Bool):cO .Eq (.bool a) (.bool b)=peq (.bool a) (.bool b):=rfl
theorem Mf(a b:List PV):cO .Eq (.list a) (.list b)=peq (.list a) (.list b):=rfl
theorem Mg(a b:List PV):cO .Eq (.tuple a) (.tuple b)=peq (.tuple a) (.tuple b):=rfl
theorem Mh(a b:PV):cO .NotEq a b=(peq a b).map (!·):=rfl
theorem Mi(a b:PV):cO .Lt a b=plt a b:=rfl
theorem Mj(a b:PV):cO .Gt a b=plt b a:=rfl
theorem Ga(a:Str)(b:List PV):cO .In (.str a) (.list b)=pin (.str a) b:=rfl
theorem Mk(a:Str)(b:List PV):cO .NotIn (.str a) (.list b)=(pin (.str a) b).map (!·):=rfl
theorem Ml(a:Int)(b:List PV):cO .NotIn (.int a) (.tuple b)=(pin (.int a) b).map (!·):=rfl
theorem Mm(a:Str)(b:List PV):cO .In (.str a) (.tuple b)=pin (.str a) b:=rfl
theorem Mn(a b:Str):cO .In (.str a) (.str b)=some (Txt.contains b a):=rfl
theorem Mo(a b:Str):cO .NotIn (.str a) (.str b)=some (!Txt.contains b a):=rfl
theorem Mp(a b:Int):cO .GtE (.int a) (.int b)=some (decide (b≤a)):=rfl
theorem Mq(a b:Int):cO .LtE (.int a) (.int b)=some (decide (a≤b)):=rfl
theorem Mr(a b:PV):cO .Is a b=pis a b:=rfl
theorem Ms(a b:PV):cO .IsNot a b=(pis a b).map (!·):=rfl
theorem aDD(a b:Bool):pis (.bool a) (.bool b)=some (a==b):=rfl
theorem aDE :pis .none .none=some true:=rfl
theorem aDF(a:List PV):pis (.list a) .none=some false:=rfl
theorem aDG(a:Str):pis (.str a) .none=some false:=rfl
theorem aDH(a:Int):pis (.int a) .none=some false:=rfl
theorem aDI(a b:String):pis (.fn (.type a)) (.fn (.type b))=some (a==b):=rfl
theorem aEY(a b:PV):cJ .Eq a b=none:=rfl
theorem aEZ(a b:PV):cJ .NotEq a b=none:=rfl
theorem aE0(a b:PV):cJ .Lt a b=none:=rfl
theorem aE1(a b:PV):cJ .Gt a b=none:=rfl
theorem aE2(a b:PV):cJ .In a b=none:=rfl
theorem aE3(a b:PV):cJ .NotIn a b=none:=rfl
theorem aE4(a b:PV):cJ .GtE a b=none:=rfl
theorem aE5(a b:PV):cJ .LtE a b=none:=rfl
theorem aE6(y:PV):cJ .Is .none y=none:=rfl
theorem aE7(x:Bool)(y:PV):cJ .Is (.bool x) y=none:=rfl
theorem aE8(x:Int)(y:PV):cJ .Is (.int x) y=none:=rfl
theorem aE9(x:Str)(y:PV):cJ .Is (.str x) y=none:=rfl
theorem aFa(x:List PV)(y:PV):cJ .Is (.list x) y=none:=rfl
theorem aFb(x:List PV)(y:PV):cJ .Is (.tuple x) y=none:=rfl
theorem aFc(x:Value)(y:PV):cJ .Is (.fn x) y=none:=rfl
theorem aFd(x:String)(y:PV):cJ .Is (.obj x) y=none:=rfl
theorem aFe(y:PV):cJ .IsNot .none y=none:=rfl
theorem aFf(x:Bool)(y:PV):cJ .IsNot (.bool x) y=none:=rfl
theorem aFg(x:Int)(y:PV):cJ .IsNot (.int x) y=none:=rfl
theorem aFh(x:Str)(y:PV):cJ .IsNot (.str x) y=none:=rfl
theorem aFi(x:List PV)(y:PV):cJ .IsNot (.list x) y=none:=rfl
theorem aFj(x:List PV)(y:PV):cJ .IsNot (.tuple x) y=none:=rfl
theorem aFk(x:Value)(y:PV):cJ .IsNot (.fn x) y=none:=rfl
theorem aFl(x:String)(y:PV):cJ .IsNot (.obj x) y=none:=rfl
theorem aFm(i:Nat):cJ .Is (.mref i) .none=some false:=rfl
theorem aFn(i:Nat):cJ .IsNot (.mref i) .none=some true:=rfl
theorem aDJ(σ:List MObj):deref σ .none=some .none:=rfl
theorem aDK(σ:List MObj)(x:Bool):deref σ (.bool x)=some (.bool x):=rfl
theorem aDL(σ:List MObj)(x:Int):deref σ (.int x)=some (.int x):=rfl
theorem aDM(σ:List MObj)(x:Str):deref σ (.str x)=some (.str x):=rfl
theorem aDN(σ:List MObj)(x:List PV):deref σ (.list x)=some (.list x):=rfl
theorem aDO(σ:List MObj)(x:List PV):deref σ (.tuple x)=some (.tuple x):=rfl
theorem aDP(σ:List MObj)(x:Value):deref σ (.fn x)=some (.fn x):=rfl
theorem aDQ(σ:List MObj)(x:String):deref σ (.obj x)=some (.obj x):=rfl
theorem Mt :fzv .none=some .none:=rfl
theorem Mu(x:Bool):fzv (.bool x)=some (.bool x):=rfl
theorem Mv(x:Int):fzv (.int x)=some (.int x):=rfl
theorem Gb(x:Str):fzv (.str x)=some (.str x):=rfl
theorem Mw(x:List PV):fzv (.list x)=some (.list x):=rfl
theorem Mx(x:List PV):fzv (.tuple x)=some (.tuple x):=rfl
theorem My(x:Value):fzv (.fn x)=some (.fn x):=rfl
theorem Mz(x:String):fzv (.obj x)=some (.obj x):=rfl
theorem aFo(σ:List MObj):dX σ .none=some .none:=rfl
theorem aFp(σ:List MObj)(x:Bool):dX σ (.bool x)=some (.bool x):=rfl
theorem aFq(σ:List MObj)(x:Int):dX σ (.int x)=some (.int x):=rfl
theorem aFr(σ:List MObj)(x:Str):dX σ (.str x)=some (.str x):=rfl
theorem aFs(σ:List MObj)(x:List PV):dX σ (.list x)=some (.list x):=rfl
theorem aFt(σ:List MObj)(x:List PV):dX σ (.tuple x)=some (.tuple x):=rfl
theorem aFu(σ:List MObj)(x:Value):dX σ (.fn x)=some (.fn x):=rfl
theorem aFv(σ:List MObj)(x:String):dX σ (.obj x)=some (.obj x):=rfl
theorem aCl :bG .none=some false:=rfl
theorem aCm(b:Bool):bG (.bool b)=some b:=rfl
theorem aCn(i:Int):bG (.int i)=some (decide (i≠0)):=rfl
theorem aCo(x:Str):bG (.str x)=if x.length<1000000 then some (decide (x.length≠0)) else none:=rfl
theorem aCp(c:String):bG (.obj c)=if c="re.Match" then some true else if c="collections.deque" then some false else none:=rfl
theorem aCq(s:Str)(xs:List PV):jQ .join (.str s) [.list xs]=(cC xs).bind λ ss=>if ss.length≤100/\s.length≤100/\ss.all (·.length≤1000) then some (.str (Txt.join s ss)) else none:=rfl
theorem aCr(s y:Str):jQ .lstrip (.str s) [.str y]=if s.length≤100000 then some (.str (Txt.lstripChars s y)) else none:=rfl
theorem aCs(s:Str):jQ .lower (.str s) []=if s.length≤100000 then some (.str (Txt.lower s)) else none:=rfl
theorem aCt(s:Str):jQ .upper (.str s) []=if s.length≤100000 then some (.str (Txt.upper s)) else none:=rfl
theorem aCu(s y:Str):jQ .startswith (.str s) [.str y]=some (.bool (Txt.startswith s y)):=rfl
theorem aCv(s y:Str):jQ .endswith (.str s) [.str y]=some (.bool (Txt.endswith s y)):=rfl
theorem aCw(s y:Str):jQ .find (.str s) [.str y]=some (.int (Txt.find s y)):=rfl
theorem qI(xs:List PV):fU .len (.list xs)=if xs.length<1000000 then some (.int xs.length) else none:=rfl
theorem uS(xs:List PV):fU .sum (.list xs)=(aAV xs).map .int:=rfl
theorem lR(xs:List PV):fU .list (.list xs)=if xs.length<1000000 then some (.list xs) else none:=rfl
theorem jZ(xs:List PV):fU .sorted (.list xs)=(cC xs).bind λ ss=>if ss.length<64 then some (.list ((cD ss).map .str)) else none:=rfl
theorem lS(i:Int):fU .type (.int i)=some (.fn (.type "int")):=rfl
theorem lT(i:Str):fU .type (.str i)=some (.fn (.type "str")):=rfl
theorem lU(i:Int):fU .int (.int i)=some (.int i):=rfl
theorem lV(i:Str):fU .isstr (.str i)=some (.bool true):=rfl
theorem kA(x:Str):fU .len (.str x)=if x.length<1000000 then some (.int x.length) else none:=rfl
theorem aEy(a b:Int):plt (.int a) (.int b)=some (decide (a<b)):=rfl
theorem Do :bP .none=some none:=rfl
theorem Dp(k:Int):bP (.int k)=some (some k):=rfl
theorem Dq(xs:List PV)(a b c:PV):qS (.list xs) a b c=(match bP a,bP b,bP c with|some lo,some hi,some st=>if st≠some 0/\xs.length≤100000 then some (.list (eE xs lo hi st)) else none|_,_,_=>none):=rfl
theorem sN(x:Str)(a b:PV):qS (.str x) a b .none=(match bP a,bP b with|some lo,some hi=>if x.length≤100000 then some (.str (Txt.slice x lo hi)) else none|_,_=>none):=rfl
theorem aEz :eM none=none:=rfl
theorem aEA :eM (some .none)=some .none:=rfl
theorem aEB(x:Bool):eM (some (.bool x))=some (.bool x):=rfl
theorem aEC(x:Int):eM (some (.int x))=some (.int x):=rfl
theorem aED(x:Str):eM (some (.str x))=some (.str x):=rfl
theorem aEE(x:List PV):eM (some (.list x))=some (.list x):=rfl
theorem aEF(x:List PV):eM (some (.tuple x))=some (.tuple x):=rfl
theorem aEG(x:String):eM (some (.obj x))=some (.obj x):=rfl
theorem aEH(x:Nat):eM (some (.mref x))=some (.mref x):=rfl
theorem aEI(xs:List PV)(i:Int):dU (.list xs) (.int i)=iW xs i:=rfl
theorem aCj(xs ys:List PV):plt (.list xs) (.list ys)=(match cC xs,cC ys with|some a,some b=>some (ltS a b)|_,_=>none):=rfl
theorem aEJ(xs:List PV)(i:Int):dU (.tuple xs) (.int i)=if 0≤i/\i<1000000 then xs[i.toNat]? else none:=rfl
theorem aCk(σ:List MObj)(i:Nat):deref σ (.mref i)=(match σ[i]? with|some (.list xs)=>some (.list xs)|_=>none):=rfl
theorem aEK(σ:List MObj)(i:Nat):dX σ (.mref i)=(match σ[i]? with|some (.list xs)=>some (.list xs)|some (.mat rows)=>some (.list (rows.map .list))|_=>none):=rfl
theorem Dk{xs ys}:ltS (x::xs) (y::ys)=if x=y then ltS xs ys else sLt x y:=rfl
theorem qD{ys}:ltS [] (y::ys)=true:=rfl
theorem uK{xs}:ltS (x::xs) []=false:=rfl
theorem Lf:ltS [] []=false:=rfl
set_option tactic.hygienic true in
theorem aBw{x y}:nD (x::xs) (y::ys)=.tuple [x,y]::nD xs ys:=rfl
set_option tactic.hygienic true in
theorem aEv:nD [] ys=[]:=rfl
set_option tactic.hygienic true in
theorem aDt{x}:nD (x::xs) []=[]:=rfl
theorem aDq{k}:nL k []=[]:=rfl
theorem aDp{k x r}:nL k (x::r)=.tuple [.int k,x]::nL (k+1) r:=rfl
theorem aB0{x r}:kO (.int x::r)=(kO r).map (x::·):=rfl
theorem aCJ{r}:cC (.str x::r)=(cC r).map (x::·):=rfl
set_option tactic.hygienic true in
theorem Aq{f x y a b}(h1:f x y=some a)(h2:iQ f xs ys=some b):iQ f (x::xs) (y::ys)=some (a&&b):=by
 show(match f x y,iQ f xs ys with|some a,some b=>some (a&&b)|_,_=>none)=_
 rw[h1,h2]
set_option tactic.hygienic true in
theorem Dj{step x}(e:step x lv σ=some (.next,lv',σ')):eU step (x::xs) lv σ=eU step xs lv' σ':=by
 show(match step x lv σ with|some (.next,lv',σ')=>eU step xs lv' σ'|some (.cont,lv',σ')=>eU step xs lv' σ'|some (.brk,lv',σ')=>some (.next,lv',σ')|r=>r)=_
 rw[e]
set_option tactic.hygienic true in
theorem Ni(h:xs.length=ys.length):iP (d+1) (.list xs) (.list ys)=iQ (iP d) xs ys:=if_pos h
set_option tactic.hygienic true in
theorem aAs(h:xs.length=ys.length):iP (d+1) (.tuple xs) (.tuple ys)=iQ (iP d) xs ys:=if_pos h
theorem aAr:iP d (.str x) (.str y)=some (x==y):=by rcases d with⟨⟩<;>rfl
section
set_option tactic.hygienic true in
theorem xq1{v}:ev T (n+1) (.c v) lv σ=(some v):=rfl
set_option tactic.hygienic true in
theorem xq2:ev T (n+1) (.v x) lv σ=(lv.lookup x):=rfl
set_option tactic.hygienic true in
theorem xq3{o}:ev T (n+1) (.bin o a b) lv σ=(do
 let x <- ev T n a lv σ
 let y <- ev T n b lv σ
 fS o (<- deref σ x) (<- deref σ y)):=rfl
set_option tactic.hygienic true in
theorem xq4:ev T (n+1) (.neg a) lv σ=(do
 match <- ev T n a lv σ with
 | .int i=>some (.int (-i))
 | _=>none):=rfl
set_option tactic.hygienic true in
theorem xq5:ev T (n+1) (.not a) lv σ=(do
 let x <- ev T n a lv σ
 return .bool (!(<- bG (<- deref σ x)))):=rfl
set_option tactic.hygienic true in
theorem xq6{o}:ev T (n+1) (.bop o es) lv σ=(evB T n o es lv σ):=rfl
set_option tactic.hygienic true in
theorem xq7{o}:ev T (n+1) (.cmp o a b) lv σ=(do
 let x <- ev T n a lv σ
 let y <- ev T n b lv σ
 return .bool (<- fK σ o x y)):=rfl
set_option tactic.hygienic true in
theorem xq8{f}:ev T (n+1) (.call f as) lv σ=(do cG T n f (<- fzvs (<- evs T n as lv σ))):=rfl
set_option tactic.hygienic true in
theorem xq9{f}:ev T (n+1) (.ext f as) lv σ=(do if 200≤n then T.ext f (<- fzvs (<- evs T n as lv σ)) else none):=rfl
set_option tactic.hygienic true in
theorem aDe{f}:ev T (n+1) (.bi f a) lv σ=(do fU f (<- deref σ (<- ev T n a lv σ))):=rfl
set_option tactic.hygienic true in
theorem aDf{m}:ev T (n+1) (.me m o as) lv σ=(do
 let x <- ev T n o lv σ
 jQ m (<- deref σ x) (<- fzvs (<- evs T n as lv σ))):=rfl
theorem aDg{p}:ev T (n+1) (.orc p m a) lv σ=(do T.orc p m (<- fzv (<- ev T n a lv σ))):=rfl
theorem aDh{i}:ev T (n+1) (.sub o i) lv σ=(do
 let x <- ev T n o lv σ
 let y <- ev T n i lv σ
 dU (<- deref σ x) y):=rfl
theorem aDi{l u s}:ev T (n+1) (.sl o l u s) lv σ=(do
 let x <- ev T n o lv σ
 let a <- ev T n l lv σ
 let b <- ev T n u lv σ
 let c <- ev T n s lv σ
 qS (<- deref σ x) a b c):=rfl
theorem aDj:ev T (n+1) (.list es) lv σ=(do return .list (<- fzvs (<- evs T n es lv σ))):=rfl
theorem aDk:ev T (n+1) (.tuple es) lv σ=(do return .tuple (<- fzvs (<- evs T n es lv σ))):=rfl
theorem Uy{a}:ev T (n+1) (.at o a) lv σ=(do
 match <- ev T n o lv σ with
 | .mref i =>
  match σ[i]? with
  | some (.inst C attrs)=>if T.plain C a then eM (attrs.lookup a) else if 8≤n then eM ((T.prop C a).bind λ b=>attrs.lookup b) else none
  | _=>none
 | _=>none):=rfl
theorem aEd :ev T (n+1) .deq lv σ=(some (.obj "collections.deque")):=rfl
theorem Uz{fr elt t it ifs r}:ev T (n+1) (.comp fr elt (.mk t it ifs::r)) lv σ=(do
 let items <- eH T n it lv σ
 let lvc <- iA fr lv
 let out <- fE (λ x=>do
  let lv' <- bindC t x lvc
  if <- dM T n .And ifs lv' [] then iV T n elt r lv' else some []) items
 if out.length<100000 then some (.list out) else none):=rfl
theorem aBs :evs T (n+1) [] lv σ=(some []):=rfl
theorem aBt{e r}:evs T (n+1) (e::r) lv σ=(do
 let x <- ev T n e lv σ
 return x::(<- evs T n r lv σ)):=rfl
theorem aFw{o}:evB T (n+1) o [] lv σ=(none):=rfl
theorem aEe{o e}:evB T (n+1) o [e] lv σ=(ev T n e lv σ):=rfl
theorem aEf{o e f r}:evB T (n+1) o (e::f::r) lv σ=(do
 let x <- ev T n e lv σ
 let b <- bG (<- deref σ x)
 match o,b with
 | .And,false=>some x
 | .Or,true=>some x
 | _,_=>evB T n o (f::r) lv σ):=rfl
theorem aEg:evT T (n+1) (.not a) lv σ=((evT T n a lv σ).map (!·)):=rfl
theorem aEh{o}:evT T (n+1) (.bop o es) lv σ=(dM T n o es lv σ):=rfl
theorem aEi{v}:evT T (n+1) (.c v) lv σ=(do bG (<- deref σ (<- ev T n (.c v) lv σ))):=rfl
theorem aEj:evT T (n+1) (.v x) lv σ=(do bG (<- deref σ (<- ev T n (.v x) lv σ))):=rfl
theorem aFx{o}:evT T (n+1) (.bin o a b) lv σ=(do bG (<- deref σ (<- ev T n (.bin o a b) lv σ))):=rfl
theorem aFy:evT T (n+1) (.neg a) lv σ=(do bG (<- deref σ (<- ev T n (.neg a) lv σ))):=rfl
theorem aEk{o}:evT T (n+1) (.cmp o a b) lv σ=(do bG (<- deref σ (<- ev T n (.cmp o a b) lv σ))):=rfl
theorem aDl{f}:evT T (n+1) (.call f as) lv σ=(do bG (<- deref σ (<- ev T n (.call f as) lv σ))):=rfl
theorem aFz{f}:evT T (n+1) (.ext f as) lv σ=(do bG (<- deref σ (<- ev T n (.ext f as) lv σ))):=rfl
theorem aFA{f}:evT T (n+1) (.bi f a) lv σ=(do bG (<- deref σ (<- ev T n (.bi f a) lv σ))):=rfl
theorem aEl{m}:evT T (n+1) (.me m o as) lv σ=(do bG (<- deref σ (<- ev T n (.me m o as) lv σ))):=rfl
theorem aEm{p}:evT T (n+1) (.orc p m a) lv σ=(do bG (<- deref σ (<- ev T n (.orc p m a) lv σ))):=rfl
theorem aFB{i}:evT T (n+1) (.sub o i) lv σ=(do bG (<- deref σ (<- ev T n (.sub o i) lv σ))):=rfl
theorem aFC{l u s}:evT T (n+1) (.sl o l u s) lv σ=(do bG (<- deref σ (<- ev T n (.sl o l u s) lv σ))):=rfl
theorem aEn{a}:evT T (n+1) (.at o a) lv σ=(do bG (<- deref σ (<- ev T n (.at o a) lv σ))):=rfl
theorem aFD{fr elt}:evT T (n+1) (.comp fr elt gs) lv σ=(do bG (<- deref σ (<- ev T n (.comp fr elt gs) lv σ))):=rfl
theorem aDm{o}:dM T (n+1) o [] lv σ=(some (match o with|.And=>true|.Or=>false)):=rfl
theorem aEo{o e r}:dM T (n+1) o (e::r) lv σ=(do
 let b <- evT T n e lv σ
 match o,b with
 | .And,false=>some false
 | .Or,true=>some true
 | _,_=>dM T n o r lv σ):=rfl
theorem aEp{x}:eH T (n+1) (.e x) lv σ=(do
 match <- ev T n x lv σ with
 | .list xs=>if xs.length<100000 then some xs else none
 | _=>none):=rfl
theorem aDn:eH T (n+1) (.range as) lv σ=(do
 match <- evs T n as lv σ with
 | [.int b]=>if 0≤b/\b<1000 then some (eN 0 b) else none
 | [.int a,.int b]=>if 0≤a/\a<1000/\0≤b/\b<1000 then some (eN a b) else none
 | _=>none):=rfl
theorem aEq:eH T (n+1) (.zip a b) lv σ=(do
 match <- ev T n a lv σ,<- ev T n b lv σ with
 | .list xs,.list ys=>some (nD xs ys)
 | _,_=>none):=rfl
theorem aEr:eH T (n+1) (.enum a) lv σ=(do
 match <- ev T n a lv σ with
 | .list xs=>some (nL 0 xs)
 | _=>none):=rfl
theorem aDo{elt}:iV T (n+1) elt [] lv=(do return [<- fzv (<- ev T n elt lv [])]):=rfl
theorem aEs{elt t it ifs r}:iV T (n+1) elt (.mk t it ifs::r) lv=(do
 let items <- eH T n it lv []
 fE (λ x=>do
  let lv' <- bindC t x lv
  if <- dM T n .And ifs lv' [] then iV T n elt r lv' else some []) items):=rfl
theorem aEt{f vs}:cG T (n+1) f vs=(match T.fn f with
 | none=>none
 | some F=>if F.ps.length=vs.length then do
   match <- exs T n F.body ((F.ps.zip vs).reverse) [] with
   | (.ret v,_,σ')=>dX σ' v
   | (.next,_,_)=>some .none
   | _=>none
  else none):=rfl
theorem Va{e}:ex T (n+1) (.asg x e) lv σ=(do return (.next,(x,<- ev T n e lv σ)::lv,σ)):=rfl
theorem Vb:ex T (n+1) (.mk x es) lv σ=(do return (.next,(x,.mref σ.length)::lv,σ++[.list (<- fzvs (<- evs T n es lv σ))])):=rfl
theorem Qd{l}:ex T (n+1) (.mkm x l) lv σ=(match lv.lookup l with
 | some (.list xs)=>if 6≤n/\xs.length<1000 then some (.next,(x,.mref σ.length)::lv,σ++[.mat (List.replicate xs.length (List.replicate xs.length (PV.int 0)))]) else none
 | _=>none):=rfl
theorem Qe{e}:ex T (n+1) (.app x e) lv σ=(do
 match lv.lookup x with
 | some (.mref i) =>
  match σ[i]? with
  | some (.list xs) =>
   let v <- fzv (<- ev T n e lv σ)
   if xs.length<100000 then return (.next,lv,σ.set i (.list (xs++[v]))) else none
  | _=>none
 | _=>none):=rfl
theorem Vc{i j e}:ex T (n+1) (.st2 x i j e) lv σ=(do
 let v <- fzv (<- ev T n e lv σ)
 match lv.lookup x,<- ev T n i lv σ,<- ev T n j lv σ with
 | some (.mref k),.int a,.int b =>
  match σ[k]? with
  | some (.mat rows) =>
   match rows[a.toNat]? with
   | some row=>if 0≤a/\0≤b/\b.toNat<row.length/\rows.length<1000/\row.length<1000 then some (.next,lv,σ.set k (.mat (rows.set a.toNat (row.set b.toNat v)))) else none
   | none=>none
  | _=>none
 | _,_,_=>none):=rfl
theorem Vd{o e}:ex T (n+1) (.aug x o e) lv σ=(do
 match o,<- lv.lookup x,<- ev T n e lv σ with
 | .Add,.int a,.int b=>some (.next,(x,.int (a+b))::lv,σ)
 | _,_,_=>none):=rfl
theorem Ve{t a b}:ex T (n+1) (.ite t a b) lv σ=(do
 if <- evT T n t lv σ then exs T n a lv σ else exs T n b lv σ):=rfl
theorem Hi{t b}:ex T (n+1) (.whl t b) lv σ=(cT T n t b lv σ):=rfl
theorem Vf{t it b}:ex T (n+1) (.forr t it b) lv σ=(do
 let items <- eH T n it lv σ
 eU (λ x lv σ=>do exs T n b (<- dS t x lv) σ) items lv σ):=rfl
theorem Vg{e}:ex T (n+1) (.ret e) lv σ=(do return (.ret (<- ev T n e lv σ),lv,σ)):=rfl
theorem Vh :ex T (n+1) .brk lv σ=(some (.brk,lv,σ)):=rfl
theorem aBu :ex T (n+1) .cont lv σ=(some (.cont,lv,σ)):=rfl
theorem aBv :ex T (n+1) .bad lv σ=(none):=rfl
theorem Vi{a e}:ex T (n+1) (.sat x a e) lv σ=(do
 let v <- ev T n e lv σ
 match lv.lookup x with
 | some (.mref i) =>
  match σ[i]? with
  | some (.inst C attrs)=>if T.plain C a/\attrs.length<100000 then some (.next,lv,σ.set i (.inst C (fN a v attrs))) else none
  | _=>none
 | _=>none):=rfl
theorem Vj{a o e}:ex T (n+1) (.saug x a o e) lv σ=(do
 let v <- ev T n e lv σ
 match lv.lookup x with
 | some (.mref i) =>
  match σ[i]? with
  | some (.inst C attrs) =>
   if attrs.length<100000 then
    match T.plain C a,o,attrs.lookup a,v with
    | true,.Add,some (.int p),.int q=>some (.next,lv,σ.set i (.inst C (fN a (.int (p+q)) attrs)))
    | true,.Add,some (.str p),.str q=>if p.length+q.length≤100000 then some (.next,lv,σ.set i (.inst C (fN a (.str (p++q)) attrs))) else none
    | _,_,_,_=>none
   else none
  | _=>none
 | _=>none):=rfl
theorem Vk{x}:ex T (n+1) (.mcall x o m as) lv σ=(do
 match <- ev T n o lv σ with
 | .mref i =>
  match σ[i]? with
  | some (.inst C attrs) =>
   match T.mth C m with
   | some F=>do
    let vs <- evs T n as lv σ
    if F.ps.length=vs.length+1/\(attrs.lookup m).isNone then
     match <- exs T n F.body ((F.ps.zip (.mref i::vs)).reverse) σ with
     | (.ret v,_,σ')=>some (.next,oY x v lv,σ')
     | (.next,_,σ')=>some (.next,oY x .none lv,σ')
     | _=>none
    else none
   | none=>none
  | _=>none
 | _=>none):=rfl
theorem vF{t b}:cT T (n+1) t b lv σ=(do
 if <- evT T n t lv σ then
  match <- exs T n b lv σ with
  | (.next,lv',σ')=>cT T n t b lv' σ'
  | (.cont,lv',σ')=>cT T n t b lv' σ'
  | (.brk,lv',σ')=>some (.next,lv',σ')
  | r=>some r
 else some (.next,lv,σ)):=rfl
theorem aEu :exs T (n+1) [] lv σ=(some (.next,lv,σ)):=rfl
theorem Vl{s r}:exs T (n+1) (s::r) lv σ=(do
 match <- ex T n s lv σ with
 | (.next,lv',σ')=>exs T n r lv' σ'
 | q=>some q):=rfl
end
theorem bb{β:Type}{x:Option α}{f:α->Option β}{a:α}{r:Option β}(h:x=some a)(k:f a=r):x.bind f=r:=h▸k
noncomputable def Wn(o:BoolOp)(b:Bool)(r:Option Bool):Option Bool:=match o,b with
 | .And,false=>some false
 | .Or,true=>some true
 | _,_=>r
noncomputable abbrev nxt(lv:LV)(σ:List MObj):R3:=some (.next,lv,σ)
section
set_option tactic.hygienic true in
theorem bA{v}:ev T (n+1) (.c v) lv σ=some v:=xq1
set_option tactic.hygienic true in
theorem aG{v}(h:lv.lookup x=some v):ev T (n+1) (.v x) lv σ=some v:=xq2.trans h
set_option tactic.hygienic true in
theorem mJ{o:CmpOp}{x y:PV}(ha:ev T n a lv σ=some x)(hb:ev T n b lv σ=some y)(hc:fK σ o x y=some r):ev T (n+1) (.cmp o a b) lv σ=some (.bool r):=xq7.trans (bb ha (bb hb (bb hc rfl)))
set_option tactic.hygienic true in
theorem cE{f:Str}{vs:List PV}{v:PV}(h:evs T n as lv σ=some vs)(hf:fzvs vs=some vs)(hc:cG T n f vs=some v):ev T (n+1) (.call f as) lv σ=some v:=xq8.trans (bb h (bb hf hc))
set_option tactic.hygienic true in
theorem aT:evs T (n+1) [] lv σ=some []:=aBs
set_option tactic.hygienic true in
theorem aJ{e:Ex}{r:List Ex}{v:PV}{vs:List PV}(h:ev T n e lv σ=some v)(h2:evs T n r lv σ=some vs):evs T (n+1) (e::r) lv σ=some (v::vs):=aBt.trans (bb h (bb h2 rfl))
set_option tactic.hygienic true in
theorem lA{m:ME}{x x':PV}{vs:List PV}{v:PV}(ho:ev T n o lv σ=some x)(hd:deref σ x=some x')(h:evs T n as lv σ=some vs)(hf:fzvs vs=some vs)(hm:jQ m x' vs=some v):ev T (n+1) (.me m o as) lv σ=some v:=aDf.trans (bb ho (bb hd (bb h (bb hf hm))))
set_option tactic.hygienic true in
theorem eT{f:BI}{x x' v:PV}(ha:ev T n a lv σ=some x)(hd:deref σ x=some x')(hb:fU f x'=some v):ev T (n+1) (.bi f a) lv σ=some v:=aDe.trans (bb ha (bb hd hb))
set_option tactic.hygienic true in
theorem eI{o:Operator}{x y x' y' v:PV}(ha:ev T n a lv σ=some x)(hb:ev T n b lv σ=some y)(hx:deref σ x=some x')(hy:deref σ y=some y')(h:fS o x' y'=some v):ev T (n+1) (.bin o a b) lv σ=some v:=xq3.trans (bb ha (bb hb (bb hx (bb hy h))))
set_option tactic.hygienic true in
theorem eJ{x y x' v:PV}(ha:ev T n a lv σ=some x)(hb:ev T n b lv σ=some y)(hx:deref σ x=some x')(h:dU x' y=some v):ev T (n+1) (.sub a b) lv σ=some v:=aDh.trans (bb ha (bb hb (bb hx h)))
set_option tactic.hygienic true in
theorem jV{l u s:Ex}{x x' a b c v:PV}(ho:ev T n o lv σ=some x)(hl:ev T n l lv σ=some a)(hu:ev T n u lv σ=some b)(hs:ev T n s lv σ=some c)(hx:deref σ x=some x')(h:qS x' a b c=some v):ev T (n+1) (.sl o l u s) lv σ=some v:=aDi.trans (bb ho (bb hl (bb hu (bb hs (bb hx h)))))
theorem eW{x:Ex}(h:ev T n x lv σ=some (.list xs))(hl:xs.length<100000):eH T (n+1) (.e x) lv σ=some xs:=aEp.trans (bb h (if_pos hl))
theorem Jk(ha:ev T n a lv σ=some (.list xs))(hb:ev T n b lv σ=some (.list ys)):eH T (n+1) (.zip a b) lv σ=some (nD xs ys):=aEq.trans (bb ha (bb hb rfl))
theorem mK{t:Tg}{it:It}{b:List Sx}{R:R3}(h:eH T n it lv σ=some items)(h2:eU (λ x lv σ=>(dS t x lv).bind λ lv'=>exs T n b lv' σ) items lv σ=R):ex T (n+1) (.forr t it b) lv σ=R:=Vf.trans (bb h h2)
theorem Jl{f:Str}{vs:List PV}{v:PV}(h:evs T (n+200) as lv σ=some vs)(hf:fzvs vs=some vs)(hc:T.ext f vs=some v):ev T (n+201) (.ext f as) lv σ=some v:=xq9.trans ((if_pos (Nat.le_add_left 200 n)).trans (bb h (bb hf hc)))
theorem wH{vs:List PV}(h:evs T n es lv σ=some vs)(hf:fzvs vs=some vs):ev T (n+1) (.tuple es) lv σ=some (.tuple vs):=aDk.trans (bb h (bb hf rfl))
theorem oK{vs:List PV}(h:evs T n es lv σ=some vs)(hf:fzvs vs=some vs):ev T (n+1) (.list es) lv σ=some (.list vs):=aDj.trans (bb h (bb hf rfl))
theorem aL{o:CmpOp}{x y:PV}(ha:ev T n a lv σ=some x)(hb:ev T n b lv σ=some y)(hc:fK σ o x y=some r):evT T (n+2) (.cmp o a b) lv σ=some r:=aEk.trans (bb (mJ ha hb hc) (bb rfl rfl))
theorem gN(h:evT T n a lv σ=some r):evT T (n+1) (.not a) lv σ=some (!r):=aEg.trans (congrArg (Option.map (!·)) h)
theorem kJ{a:Str}{v w:PV}(h:ev T n (.at o a) lv σ=some v)(hd:deref σ v=some w)(ht:bG w=some r):evT T (n+1) (.at o a) lv σ=some r:=aEn.trans (bb h (bb hd ht))
theorem wG{v w:PV}(h:lv.lookup x=some v)(hd:deref σ v=some w)(ht:bG w=some r):evT T (n+2) (.v x) lv σ=some r:=aEj.trans (bb (aG h) (bb hd ht))
theorem Vx{v w:PV}(hd:deref σ v=some w)(ht:bG w=some r):evT T (n+2) (.c v) lv σ=some r:=aEi.trans (bb bA (bb hd ht))
theorem jK{o}:evT T (n+1) (.bop o es) lv σ=dM T n o es lv σ:=aEh
theorem cZ{o:BoolOp}{e:Ex}{r:List Ex}{b:Bool}(h:evT T n e lv σ=some b):dM T (n+1) o (e::r) lv σ=Wn o b (dM T n o r lv σ):=aEo.trans (bb h (by rcases o with⟨⟩<;>rcases b with⟨⟩<;>rfl))
theorem Qu{o}:dM T (n+1) o [] lv σ=some (match o with|.And=>true|.Or=>false):=aDm
theorem cP{x y}(h1:evT T (n+2) a lv σ=some x)(h2:evT T (n+1) b lv σ=some y):evT T (n+4) (.bop .And [a,b]) lv σ=some (x&&y):=jK.trans ((cZ h1).trans (by rw[cZ h2];rcases x with⟨⟩<;>rcases y with⟨⟩<;>rfl))
theorem wF{c}{x y z}(h1:evT T (n+3) a lv σ=some x)(h2:evT T (n+2) b lv σ=some y)(h3:evT T (n+1) c lv σ=some z):evT T (n+5) (.bop .And [a,b,c]) lv σ=some (x&&(y&&z)):=jK.trans ((cZ h1).trans (by rw[cZ h2,cZ h3];rcases x with⟨⟩<;>rcases y with⟨⟩<;>rcases z with⟨⟩<;>rfl))
theorem kZ{x y}(h1:evT T (n+2) a lv σ=some x)(h2:evT T (n+1) b lv σ=some y):evT T (n+4) (.bop .Or [a,b]) lv σ=some (x||y):=jK.trans ((cZ h1).trans (by rw[cZ h2];rcases x with⟨⟩<;>rcases y with⟨⟩<;>rfl))
theorem Ct{c}{x y z}(h1:evT T (n+3) a lv σ=some x)(h2:evT T (n+2) b lv σ=some y)(h3:evT T (n+1) c lv σ=some z):evT T (n+5) (.bop .Or [a,b,c]) lv σ=some (x||(y||z)):=jK.trans ((cZ h1).trans (by rw[cZ h2,cZ h3];rcases x with⟨⟩<;>rcases y with⟨⟩<;>rcases z with⟨⟩<;>rfl))
theorem aO:exs T (n+1) [] lv σ=some (.next,lv,σ):=aEu
theorem aA{s:Sx}{r:List Sx}{R:R3}(h:ex T n s lv σ=some (.next,lv',σ'))(h2:exs T n r lv' σ'=R):exs T (n+1) (s::r) lv σ=R:=Vl.trans (bb h h2)
theorem bD{s:Sx}{r:List Sx}{v:PV}(h:ex T n s lv σ=some (.ret v,lv',σ')):exs T (n+1) (s::r) lv σ=some (.ret v,lv',σ'):=Vl.trans (bb h rfl)
theorem bV{f:Str}{F:Fn}{vs:List PV}{v u:PV}(hF:T.fn f=some F)(hl:F.ps.length=vs.length)(h:exs T n F.body (F.ps.zip vs).reverse []=some (.ret v,lv',σ'))(hz:dX σ' v=some u):cG T (n+1) f vs=some u:=aEt.trans (by rw[hF];exact(if_pos hl).trans (bb h hz))
theorem bL{e:Ex}{v:PV}(h:ev T n e lv σ=some v):ex T (n+1) (.asg x e) lv σ=some (.next,(x,v)::lv,σ):=Va.trans (bb h rfl)
theorem cB{e:Ex}{v:PV}(h:ev T n e lv σ=some v):ex T (n+1) (.ret e) lv σ=some (.ret v,lv,σ):=Vg.trans (bb h rfl)
theorem aC{t:Ex}{a b:List Sx}{c:Bool}{R:R3}(h:evT T n t lv σ=some c)(h2:exs T n (if c then a else b) lv σ=R):ex T (n+1) (.ite t a b) lv σ=R:=Ve.trans (bb h (by rcases c with⟨⟩<;>exact h2))
theorem aD{s}{q:Fl×LV×List MObj}(h:ex T (n+1) s lv σ=some q):exs T (n+2) [s] lv σ=some q:=by
 obtain⟨fl,lv',σ'⟩:=q;refine Vl.trans (bb h ?_);rcases fl with⟨⟩<;>first|exact aO|rfl
theorem aBS{vs:List PV}(h:evs T n es lv σ=some vs)(hf:fzvs vs=some vs):ex T (n+1) (.mk x es) lv σ=nxt ((x,.mref σ.length)::lv) (σ++[.list vs]):=Vb.trans (bb h (bb hf rfl))
theorem Xv{e}{v:PV}(hx:lv.lookup x=some (.mref i))(hi:σ[i]? = some (.list xs))(h:ev T n e lv σ=some v)(hf:fzv v=some v)(hl:xs.length<100000):ex T (n+1) (.app x e) lv σ=nxt lv (σ.set i (.list (xs++[v]))):=by
 rw[Qe,hx];dsimp only;rw[hi];exact bb h (bb hf (if_pos hl))
theorem aC6{t:Ex}{b:List Sx}(h:evT T n t lv σ=some false):cT T (n+1) t b lv σ=nxt lv σ:=vF.trans (bb h rfl)
theorem Ws{t:Ex}{b:List Sx}{R:R3}(h:evT T n t lv σ=some true)(hb:exs T n b lv σ=nxt lv' σ')(h2:cT T n t b lv' σ'=R):cT T (n+1) t b lv σ=R:=vF.trans (bb h (bb hb h2))
theorem aEW{t:Ex}{b:List Sx}(h:evT T n t lv σ=some true)(hb:exs T n b lv σ=some (.brk,lv',σ')):cT T (n+1) t b lv σ=nxt lv' σ':=vF.trans (bb h (bb hb rfl))
theorem zU{t}{b}{R}(h:cT T n t b lv σ=R):ex T (n+1) (.whl t b) lv σ=R:=Hi.trans h
theorem Xw{e:Ex}{a b:Int}(hx:lv.lookup x=some (.int a))(h:ev T n e lv σ=some (.int b)):ex T (n+1) (.aug x .Add e) lv σ=nxt ((x,.int (a+b))::lv) σ:=Vd.trans (bb hx (bb h rfl))
theorem pK{a}{e}{v}{D}{as:LV}(h:ev T n e lv σ=some v)(hx:lv.lookup x=some (.mref i))(hi:σ[i]? = some (.inst D as))(hp:T.plain D a=true)(hl:(as.length+1).ble 100000=true):ex T (n+1) (.sat x a e) lv σ=nxt lv (σ.set i (.inst D (fN a v as))):=by
 refine Vi.trans (bb h ?_);rw[hx];dsimp only;rw[hi];exact if_pos ⟨hp,Nat.le_of_ble_eq_true hl⟩
theorem Qw{a}{e}{p q}{D}{as:LV}(h:ev T n e lv σ=some (.str q))(hx:lv.lookup x=some (.mref i))(hi:σ[i]? = some (.inst D as))(hp:T.plain D a=true)(ha:as.lookup a=some (.str p))(hl:(as.length+1).ble 100000=true)(hs:p.length+q.length≤100000) :
  ex T (n+1) (.saug x a .Add e) lv σ=nxt lv (σ.set i (.inst D (fN a (.str (p++q)) as))):=by
 refine Vj.trans (bb h ?_);rw[hx];dsimp only;rw[hi];dsimp only;rw[if_pos (show as.length<100000 from Nat.le_of_ble_eq_true hl),hp,ha];exact if_pos hs
theorem aBR{a}{D}{as}{v:PV}(h:ev T n o lv σ=some (.mref i))(hi:σ[i]? = some (.inst D as))(hp:T.plain D a=true)(ha:eM (as.lookup a)=some v):ev T (n+1) (.at o a) lv σ=some v:=by
 refine Uy.trans (bb h ?_);dsimp only;rw[hi];exact(if_pos hp).trans ha
theorem dN{a}{D}{as:LV}(h:ev T n o lv σ=some (.mref i))(hi:σ[i]? = some (.inst D as))(hp:T.plain D a=true):ev T (n+1) (.at o a) lv σ=eM (as.lookup a):=by
 refine Uy.trans (bb h ?_);dsimp only;rw[hi];exact if_pos hp
theorem pJ{x}{D}{at'}{F}{vs}{v}{lv2}{σ2:List MObj}(ho:ev T n o lv σ=some (.mref i))(hi:σ[i]? = some (.inst D at'))(hm:T.mth D m=some F)(h:evs T n as lv σ=some vs)(hl:F.ps.length=vs.length+1)(hn:(at'.lookup m).isNone=true)(hb:exs T n F.body ((F.ps.zip (.mref i::vs)).reverse) σ=some (.ret v,lv2,σ2)):ex T (n+1) (.mcall x o m as) lv σ=nxt (oY x v lv) σ2:=by
 refine Vk.trans (bb ho ?_);dsimp only;rw[hi];dsimp only;rw[hm];exact bb h ((if_pos ⟨hl,hn⟩).trans (bb hb rfl))
theorem Xx{i j e}{k}{a b}{v}{rows}{row:List PV}(he:ev T n e lv σ=some v)(hf:fzv v=some v)(hx:lv.lookup x=some (.mref k))(hi:ev T n i lv σ=some (.int a))(hj:ev T n j lv σ=some (.int b))(hσ:σ[k]? = some (.mat rows))(hr:rows[a.toNat]? = some row)(hc:0≤a/\0≤b/\b.toNat<row.length/\rows.length<1000/\row.length<1000):ex T (n+1) (.st2 x i j e) lv σ=nxt lv (σ.set k (.mat (rows.set a.toNat (row.set b.toNat v)))):=by
 refine Vc.trans (bb he (bb hf ?_));rw[hx];refine bb hi (bb hj ?_);dsimp only;rw[hσ];dsimp only;rw[hr];exact if_pos hc
end
section
noncomputable def Bc(stop:Thread->Option Bool)(ok:Thread->Bool)(stp:SharedT->Thread->Option (SharedT×Thread)):Nat->SharedT->Thread->Option SharedT
 | 0,_,_=>none
 | n+1,s,t=>match stop t with
  | some true=>some s
  | some false=>none
  | none=>match ok t with
   | false=>none
   | true=>match stp s t with
    | some (s',t')=>Bc stop ok stp n s' t'
    | none=>none
noncomputable def uX(ab:Thread->Option (List Value))(t:Thread):Option Bool:=match ab t with
 | some []=>some true
 | some (_::_)=>some false
 | none=>none
noncomputable def uY(t:Thread):Option Bool:=match through t with
 | true=>some true
 | false=>none
section
variable{tb:String->Option Builtin}{p:Program}
theorem Yk:∀{n:Nat} {s s':SharedT} {t:Thread},Bc (uX Thread.atExitBegin) (λ _=>true) (stepT (denote tb) p w) n s t=some s'->importEnds tb p w n s.abs t=some s'.abs:=by
 intro l9;induction l9 with
 | zero =>
  intro _ _ _ h;exact nos h
 | succ n ih =>
  intro s s' t h;unfold Bc uX at h;dsimp only [importEnds];cases he:t.atExitBegin with
  | some l =>
   rw[he] at h;clear he;cases l with
   | nil=>have q:=sj h;clear h;subst q;rfl
   | cons=>exact nos h
  | none =>
   rw[he] at h;dsimp only at h;cases hs:stepT (denote tb) p w s t with
   | none=>rw[hs] at h;exact nos h
   | some r=>obtain⟨s₂,t₂⟩:=r;rw[hs] at h;dsimp only;rw[stepT_spec hs];exact ih h
theorem aA0{n₀ ann}:∀{n:Nat} {s s':SharedT} {t:Thread},Bc uY (stepOk n₀ ann) (stepT (denote tb) p w) n s t=some s'->topRun tb p w n₀ ann n s.abs t=some s'.abs:=by
 intro l9;induction l9 with
 | zero =>
  intro _ _ _ h;exact nos h
 | succ n ih =>
  intro s s' t h;unfold Bc uY at h;dsimp only [topRun];cases he:through t with
  | true=>rw[he] at h;have q:=sj h;clear h;subst q;rfl
  | false =>
   rw[he] at h;dsimp only at h;cases hk:stepOk n₀ ann t with
   | false=>rw[hk] at h;exact nos h
   | true =>
    rw[hk] at h;dsimp only at h;cases hs:stepT (denote tb) p w s t with
    | none=>rw[hs] at h;exact nos h
    | some r=>obtain⟨s₂,t₂⟩:=r;rw[hs] at h;dsimp only;rw[stepT_spec hs];exact ih h
end
noncomputable def uD:List Obj->BT->Nat->Option BT
 | [],t,_=>some t
 | o::r,t,n=>match ((t.ins n o).get n).isSome with
  | true=>uD r (t.ins n o) (n+1)
  | false=>none
theorem pR{life}:∀{l:List Obj} {t t':BT} {n:Nat},uD l t n=some t'->absHeap t' (n+l.length) life=⟨(absHeap t n life).objs++l.toArray,life⟩
 | [],t,t',n,h=>by
  have q:=sj h;clear h;subst q;show absHeap t n life=_;simp[absHeap]
 | o::r,t,t',n,h=>by
  dsimp only [uD] at h;split at h
  ·rename_i g;have:=pR (life:=life) h;simp only[show n+(o::r).length=n+1+r.length by simp[List.length_cons];lia,this,absHeap_ins g]
   simp[Heap.push]
  ·exact nos h
noncomputable def Br(s:Shared):Option SharedT:=(uD s.heap.objs.toList .nil 0).map λ t=>⟨t,s.heap.objs.size,s.heap.life,s.gens,s.drawn,s.toks,s.os⟩
theorem qX{s'}(h:Br s=some s'):s'.abs=s:=by
 refine aE (Option.map_eq_some_iff.mp h) ?_;rintro t e rfl;have:=pR (life:=s.heap.life) e;obtain⟨⟨objs,life⟩,g,d,k,os⟩:=s;show Shared.mk (absHeap t objs.size life) g d k os=_;have h2:absHeap t objs.size life=⟨objs,life⟩:=by
  have h3:(0:Nat)+objs.toList.length=objs.size:=by simp
  rw[<- h3];dsimp only at this;rw[this];simp[absHeap,BT.list]
 rw[h2]
noncomputable def Xc{β}(ab:Thread->Option (List Value))(ok:Nat->Option Value->Thread->Bool)(stp:Program->SharedT->Thread->Option (SharedT×Thread))(fence:Program->Shared->Option Shared)(p:Program)(st:Shared×Thread)(N:Nat)(F:Shared->Shared->β):Option β :=
 match Br st.1 with
 | none=>none
 | some s=>match Bc (uX ab) (λ _=>true) (stp (opening p)) N s st.2 with
  | none=>none
  | some S=>match fence p S.abs with
   | none=>none
   | some s₀=>match s₀.heap.isNs mainGlobals&&s₀.gens.size==0 with
    | false=>none
    | true=>match Br s₀ with
     | none=>none
     | some S₀=>match Bc uY (ok s₀.heap.objs.size (s₀.heap.nsMap mainGlobals "__annotations__")) (stp p) N S₀ (topStub p) with
      | none=>none
      | some S₁=>some (F s₀ S₁.abs)
set_option tactic.hygienic true in
theorem Sa{p q:Program}{loose:List Str}{Xt:Shared->Bool}{Yf:Shared->α}{Ya:World->α}{N:Nat}{g0:Bool}(h:∀ w:World,Xc Thread.atExitBegin stepOk (λ p=>stepT (denote treeTable) p w) fenceModules? p (start (opening p)) N (λ s₀ s₁ =>
    (staticsOk (importedModules p.main.body) s₀.heap s₁.heap&&namesBound p s₁.heap&&gensDone s₁&&laidKept s₀.heap s₁.heap,openSeen q loose (importedModules p.main.body) Xt g0 s₁,Yf s₁)) =
   some (true,openGood q loose,Ya w)):LeftO p q loose Xt Yf Ya N g0:=λ w=>by
 have e:=h w;dsimp only [Xc] at e;split at e
 ·exact nos e
 ·rename_i s h1;split at e
  ·exact nos e
  ·rename_i S h2;split at e
   ·exact nos e
   ·rename_i s₀ h3;split at e
    ·exact nos e
    ·rename_i h4;split at e
     ·exact nos e
     ·rename_i S₀ h5;split at e
      ·exact nos e
      ·rename_i S₁ h6;have e2:=sj e;have l1:=congrArg Prod.fst e2;have l2:=congrArg Prod.snd e2;dsimp only at l1 l2;have r1:=Yk h2;rw[qX h1] at r1;have r2:=aA0 h6;rw[qX h5] at r2;unfold openEnds fencedOpening;rw[r1];show((fenceModules? p S.abs).bind (topFrom treeTable p w N)).map _=_;rw[h3];show(topFrom treeTable p w N s₀).map _=_;dsimp only [topFrom];rw[h4];dsimp only;rw[r2];dsimp only [Option.bind_some];rw[l1];show some _=_;exact congrArg some l2
end
noncomputable abbrev pw:Program:=PySem.Challenge.pw_il0087_01
noncomputable def bO(i:Nat):Stmt:=pw.main.body.getD i (.Break default)
noncomputable def cW(i j:Nat):Stmt:=match bO i with
 | .ClassDef _ _ _ b _ _ _ _ _ _ _=>b.getD j (.Break default)
 | _=>.Break default
noncomputable def bY(st:Stmt)(qn:Str)(pm code dv:Value):FuncData:=match st with
 | .FunctionDef n a b _ _ _ sc _ _ _=>{ name:=n,qualname:=qn,params:=a,body:=.stmts b,scope:=sc,globals:=3,closure:=[],defaults:=dv,kwdefaults:=.none,pyModule:=pm,code:=code }
 | _=>{ name:="",qualname:=qn,params:=default,body:=.stmts [],scope:=default,globals:=3,closure:=[],defaults:=dv,kwdefaults:=.none,pyModule:=pm,code:=code }
noncomputable abbrev ent(P:Params)(n:Str)(t:Tok)(v:Value):DictEntry:=⟨PyData.keyHash P n,.str n t,v⟩
noncomputable def KK(P:Params):Frag:=[
 (2,⟨.none,none,(.dict #[ent P ("\x69mport.loaded._sre":Str) 183 (.bool true),ent P ("class._frozen_importlib.BuiltinImporter":Str) 185 (.ref 14),ent P ("watched.\x69mport":Str) 206 (.ref 18),ent P ("class._frozen_importlib.ModuleSpec":Str) 216 (.ref 22),ent P ("sys.modules.booked-epoch":Str) 245 (.int (4) 0),ent P ("\x69mport.later-laid._sre":Str) 270 (.bool true),ent P ("watched.library":Str) 272 (.ref 27),ent P ("watched.library-objects":Str) 0 (.str ⟨#[12,30]⟩ 0),ent P ("watched.library-deep._sre":Str) 273 (.str ⟨#[4,0,0,11,4,0,0,11,4,0,0,3,4,0,0,11,8,4,100,105,99,116,2]⟩ 0),ent P ("\x69mport.loaded._collections":Str) 280 (.bool true),ent P ("sys.modules.landed._collections":Str) 294 (.bool true),ent P ("\x69mport.later-laid._collections":Str) 309 (.bool true),ent P ("watched.library-deep._collections":Str) 311 (.str ⟨#[4,0,0,29,4,0,0,29,4,0,0,3,4,0,0,29,8,4,100,105,99,116,2]⟩ 0),ent P ("type.__subclasses__.OSError.0":Str) 495 (.int (120) 0),ent P ("type.__subclasses__.OSError.n":Str) 496 (.int (1) 0)] 15),#[]⟩),
 (3,⟨(.type "dict"),none,(.dict #[ent P ("__name__":Str) 165 (.str ("law_il0087_01":Str) 1343),ent P ("__doc__":Str) 166 .none,ent P ("__package__":Str) 167 .none,ent P ("__loader__":Str) 168 (.builtin "__main__.__loader__#opaque"),ent P ("__spec__":Str) 169 .none,ent P ("__annotations__":Str) 170 (.ref 6),ent P ("__builtins__":Str) 171 (.ref 4),ent P ("__file__":Str) 173 (.str ("/claim/cut.py":Str) 172),ent P ("__cached__":Str) 174 .none,ent P ("_sre":Str) 275 (.ref 12),ent P ("deque":Str) 317 (.type "collections.deque"),ent P ("_wall":Str) 330 (.ref 44),ent P ("sorted_list_difference":Str) 346 (.ref 51),ent P ("three_way_cmp":Str) 354 (.ref 58),ent P ("IPV4_RE":Str) 386 (.ref 63),ent P ("is_HDN":Str) 393 (.ref 70),ent P ("liberal_is_HDN":Str) 400 (.ref 77),ent P ("user_domain_match":Str) 409 (.ref 84),ent P ("reach":Str) 418 (.ref 91),ent P ("_twin_re_1":Str) 458 (.ref 96),ent P ("_whence":Str) 468 (.ref 103),ent P ("_index":Str) 476 (.ref 110),ent P ("UnsupportedOperation":Str) 498 (.ref 120),ent P ("IOBase":Str) 530 (.ref 140),ent P ("BufferedIOBase":Str) 548 (.ref 155),ent P ("TextIOBase":Str) 566 (.ref 167),ent P ("BytesIO":Str) 828 (.ref 397),ent P ("StringIO":Str) 1115 (.ref 644),ent P ("_kind":Str) 1126 (.ref 653),ent P ("_fspath":Str) 1135 (.ref 660),ent P ("_check_arg_types":Str) 1145 (.ref 667),ent P ("isabs":Str) 1152 (.ref 674),ent P ("join":Str) 1163 (.ref 798),ent P ("join_path":Str) 1164 (.ref 681),ent P ("dirname":Str) 1174 (.ref 688),ent P ("shlex":Str) 1315 (.ref 779),ent P ("split":Str) 1325 (.ref 791),ent P ("join_shlex":Str) 1333 (.ref 798),ent P ("_find_unsafe":Str) 1335 (.ref 799),ent P ("quote":Str) 1342 (.ref 806),ent P ("_law_parts":Str) 1350 (.ref 811),ent P ("_law_labels":Str) 1358 (.ref 818),ent P ("_law_climbed":Str) 1367 (.ref 825),ent P ("_law_due":Str) 1376 (.ref 832),ent P ("_law_row":Str) 1386 (.ref 839),ent P ("_law_apart":Str) 1392 (.ref 844),ent P ("_law_far":Str) 1398 (.ref 849),ent P ("_law_held":Str) 1410 (.ref 856),ent P ("_law_orders":Str) 1416 (.ref 861),ent P ("_law_round":Str) 1422 (.ref 866),ent P ("_law_shortest":Str) 1428 (.ref 871),ent P ("law":Str) 1434 (.ref 876)] 52),#[]⟩),
 (4,⟨(.type "module"),some 0,.plain,#[]⟩),
 (50,⟨(.type "code"),none,(.fields #[(.str ("sorted_list_difference":Str) 333),(.str ("sorted_list_difference":Str) 334),(.str ("/claim/cut.py":Str) 335),(.int (7) 0),(.int (2) 0),(.int (0) 0),(.int (0) 0),(.int (3) 0),(.ref 45),(.bool true),(.int (318) 0),(.ref 46),.none,(.ref 47),(.ref 48),(.ref 49),(.int (344) 0),(.int (7) 0),(.str ("/claim/cut.py":Str) 345)]),#[]⟩),
 (51,⟨(.type "function"),none,(.func (bY (bO 4) ("sorted_list_difference":Str) (.str ("cpy313.unittest.util":Str) 331) (.ref 50) .none)),#[]⟩),
 (57,⟨(.type "code"),none,(.fields #[(.str ("three_way_cmp":Str) 347),(.str ("three_way_cmp":Str) 348),(.str ("/claim/cut.py":Str) 349),(.int (39) 0),(.int (2) 0),(.int (0) 0),(.int (0) 0),(.int (3) 0),(.ref 52),(.bool true),(.int (318) 0),(.ref 53),.none,(.ref 54),(.ref 55),(.ref 56),(.int (352) 0),(.int (39) 0),(.str ("/claim/cut.py":Str) 353)]),#[]⟩),
 (58,⟨(.type "function"),none,(.func (bY (bO 5) ("three_way_cmp":Str) (.str ("cpy313.unittest.util":Str) 331) (.ref 57) .none)),#[]⟩),
 (62,⟨(.type "tuple"),none,(.seq #[(.int (14) 0),(.int (8) 0),(.int (1) 0),(.int (2) 0),(.int (4294967295) 0),(.int (1) 0),(.int (1) 0),(.int (46) 0),(.int (0) 0),(.int (16) 0),(.int (46) 0),(.int (24) 0),(.int (9) 0),(.int (1) 0),(.int (4294967295) 0),(.int (13) 0),(.int (4) 0),(.int (8) 0),(.int (0) 0),(.int (0) 0),(.int (1) 0),(.int (6) 0),(.int (5) 0),(.int (1) 0)] 0),#[]⟩),
 (63,⟨(.type "re.Pattern"),none,(.fields #[(.str ("\\.\\d+$":Str) 358),(.int (256) 385),(.int (0) 0),.none,.none,(.ref 62),(.int (0) 0)]),#[]⟩),
 (69,⟨(.type "code"),none,(.fields #[(.str ("is_HDN":Str) 387),(.str ("is_HDN":Str) 388),(.str ("/claim/cut.py":Str) 389),(.int (43) 0),(.int (1) 0),(.int (0) 0),(.int (0) 0),(.int (3) 0),(.ref 64),(.bool true),(.int (318) 0),(.ref 65),.none,(.ref 66),(.ref 67),(.ref 68),(.int (391) 0),(.int (43) 0),(.str ("/claim/cut.py":Str) 392)]),#[]⟩),
 (70,⟨(.type "function"),none,(.func (bY (bO 8) ("is_HDN":Str) (.str ("cpy313.http.cookiejar":Str) 355) (.ref 69) .none)),#[]⟩),
 (76,⟨(.type "code"),none,(.fields #[(.str ("liberal_is_HDN":Str) 394),(.str ("liberal_is_HDN":Str) 395),(.str ("/claim/cut.py":Str) 396),(.int (51) 0),(.int (1) 0),(.int (0) 0),(.int (0) 0),(.int (3) 0),(.ref 71),(.bool true),(.int (318) 0),(.ref 72),.none,(.ref 73),(.ref 74),(.ref 75),(.int (398) 0),(.int (51) 0),(.str ("/claim/cut.py":Str) 399)]),#[]⟩),
 (77,⟨(.type "function"),none,(.func (bY (bO 9) ("liberal_is_HDN":Str) (.str ("cpy313.http.cookiejar":Str) 355) (.ref 76) .none)),#[]⟩),
 (83,⟨(.type "code"),none,(.fields #[(.str ("user_domain_match":Str) 401),(.str ("user_domain_match":Str) 402),(.str ("/claim/cut.py":Str) 403),(.int (55) 0),(.int (2) 0),(.int (0) 0),(.int (0) 0),(.int (3) 0),(.ref 78),(.bool true),(.int (318) 0),(.ref 79),.none,(.ref 80),(.ref 81),(.ref 82),(.int (407) 0),(.int (55) 0),(.str ("/claim/cut.py":Str) 408)]),#[]⟩),
 (84,⟨(.type "function"),none,(.func (bY (bO 10) ("user_domain_match":Str) (.str ("cpy313.http.cookiejar":Str) 355) (.ref 83) .none)),#[]⟩),
 (90,⟨(.type "code"),none,(.fields #[(.str ("reach":Str) 410),(.str ("reach":Str) 411),(.str ("/claim/cut.py":Str) 412),(.int (68) 0),(.int (1) 0),(.int (0) 0),(.int (0) 0),(.int (3) 0),(.ref 85),(.bool true),(.int (318) 0),(.ref 86),.none,(.ref 87),(.ref 88),(.ref 89),(.int (416) 0),(.int (68) 0),(.str ("/claim/cut.py":Str) 417)]),#[]⟩),
 (91,⟨(.type "function"),none,(.func (bY (bO 11) ("reach":Str) (.str ("cpy313.http.cookiejar":Str) 355) (.ref 90) .none)),#[]⟩),
 (95,⟨(.type "tuple"),none,(.seq #[(.int (14) 0),(.int (17) 0),(.int (4) 0),(.int (1) 0),(.int (1) 0),(.int (21) 0),(.int (9) 0),(.int (0) 0),(.int (604043296) 0),(.int (1) 0),(.int (0) 0),(.int (0) 0),(.int (0) 0),(.int (0) 0),(.int (0) 0),(.int (8) 0),(.int (4) 0),(.int (0) 0),(.int (13) 0),(.int (14) 0),(.int (21) 0),(.int (9) 0),(.int (0) 0),(.int (604043296) 0),(.int (1) 0),(.int (0) 0),(.int (0) 0),(.int (0) 0),(.int (0) 0),(.int (0) 0),(.int (8) 0),(.int (4) 0),(.int (0) 0),(.int (1) 0)] 0),#[]⟩),
 (96,⟨(.type "re.Pattern"),none,(.fields #[(.str ("[^\\w@%+=:,./-]":Str) 420),(.int (256) 457),(.int (0) 0),.none,.none,(.ref 95),(.int (0) 0)]),#[]⟩),
 (109,⟨(.type "code"),none,(.fields #[(.str ("_index":Str) 469),(.str ("_index":Str) 470),(.str ("/claim/cut.py":Str) 471),(.int (83) 0),(.int (2) 0),(.int (0) 0),(.int (0) 0),(.int (3) 0),(.ref 104),(.bool true),(.int (318) 0),(.ref 105),.none,(.ref 106),(.ref 107),(.ref 108),(.int (474) 0),(.int (83) 0),(.str ("/claim/cut.py":Str) 475)]),#[]⟩),
 (110,⟨(.type "function"),none,(.func (bY (bO 15) ("_index":Str) (.str ("io":Str) 459) (.ref 109) .none)),#[]⟩),
 (136,⟨(.type "code"),none,(.fields #[(.str ("__new__":Str) 513),(.str ("IOBase.__new__":Str) 514),(.str ("/claim/cut.py":Str) 515),(.int (95) 0),(.int (1) 0),(.int (1) 0),(.int (0) 0),(.int (15) 0),(.ref 131),(.bool true),(.int (318) 0),(.ref 132),.none,(.ref 133),(.ref 134),(.ref 135),(.int (519) 0),(.int (95) 0),(.str ("/claim/cut.py":Str) 520)]),#[]⟩),
 (137,⟨(.type "function"),none,(.func (bY (cW 17 1) ("IOBase.__new__":Str) (.str ("io":Str) 459) (.ref 136) .none)),#[]⟩),
 (139,⟨(.type "dict"),none,(.dict #[ent P ("__module__":Str) 506 (.str ("io":Str) 511),ent P ("__firstlineno__":Str) 510 (.int (92) 509),ent P ("__new__":Str) 521 (.ref 141),ent P ("__static_attributes__":Str) 522 (.ref 138),ent P ("__dict__":Str) 525 (.ref 142),ent P ("__weakref__":Str) 527 (.ref 143),ent P ("__doc__":Str) 528 .none] 4),#[]⟩),
 (140,⟨(.type "type"),none,(.cls { name:=("IOBase":Str),bases:=[(.type "object")],mro:=[(.ref 140),(.type "object")],ns:=139,qualname:=("IOBase":Str),hasDict:=true,slotNames:=[],subclasses:=[(.ref 155),(.ref 167)],abstract:=false,collection:=none }),#[none,none,(some (.str ("IOBase":Str) 499)),(some (.str ("IOBase":Str) 507)),(some .none),(some (.bool true))]⟩),
 (141,⟨(.type "staticmethod"),none,(.fields #[(.ref 137)]),#[]⟩),
 (142,⟨(.type "getset_descriptor"),none,(.fields #[(.str ("__dict__":Str) 524),(.ref 140),(.builtin "function.__dict__"),(.builtin "function.__dict__#set")]),#[]⟩),
 (143,⟨(.type "getset_descriptor"),none,(.fields #[(.str ("__weakref__":Str) 526),(.ref 140),(.builtin "ExceptionGroup.__weakref__"),.none]),#[]⟩),
 (166,⟨(.type "dict"),none,(.dict #[ent P ("__module__":Str) 556 (.str ("io":Str) 561),ent P ("__firstlineno__":Str) 560 (.int (101) 559),ent P ("__static_attributes__":Str) 563 (.ref 165),ent P ("__doc__":Str) 564 .none] 2),#[]⟩),
 (167,⟨(.type "type"),none,(.cls { name:=("TextIOBase":Str),bases:=[(.ref 140)],mro:=[(.ref 167),(.ref 140),(.type "object")],ns:=166,qualname:=("TextIOBase":Str),hasDict:=true,slotNames:=[],subclasses:=[(.ref 644)],abstract:=false,collection:=none }),#[(some (.ref 158)),none,(some (.str ("TextIOBase":Str) 549)),(some (.str ("TextIOBase":Str) 557)),(some .none),(some (.bool true))]⟩),
 (397,⟨(.type "type"),none,(.cls { name:=("BytesIO":Str),bases:=[(.ref 155)],mro:=[(.ref 397),(.ref 155),(.ref 140),(.type "object")],ns:=396,qualname:=("BytesIO":Str),hasDict:=true,slotNames:=[],subclasses:=[],abstract:=false,collection:=none }),#[(some (.ref 170)),none,(some (.str ("BytesIO":Str) 567)),(some (.str ("BytesIO":Str) 575)),(some .none),(some (.bool true))]⟩),
 (407,⟨(.type "tuple"),none,(.seq #[(.str ("":Str) 843),(.str ⟨#[10]⟩ 844)] 0),#[]⟩),
 (413,⟨(.type "code"),none,(.fields #[(.str ("__init__":Str) 845),(.str ("StringIO.__init__":Str) 846),(.str ("/claim/cut.py":Str) 847),(.int (276) 0),(.int (3) 0),(.int (0) 0),(.int (0) 0),(.int (3) 0),(.ref 408),(.bool true),(.int (318) 0),(.ref 409),.none,(.ref 410),(.ref 411),(.ref 412),(.int (851) 0),(.int (276) 0),(.str ("/claim/cut.py":Str) 852)]),#[]⟩),
 (414,⟨(.type "function"),none,(.func (bY (cW 21 1) ("StringIO.__init__":Str) (.str ("io":Str) 459) (.ref 413) (.ref 407))),#[]⟩),
 (420,⟨(.type "code"),none,(.fields #[(.str ("__translated":Str) 854),(.str ("StringIO.__translated":Str) 855),(.str ("/claim/cut.py":Str) 856),(.int (289) 0),(.int (2) 0),(.int (0) 0),(.int (0) 0),(.int (3) 0),(.ref 415),(.bool true),(.int (318) 0),(.ref 416),.none,(.ref 417),(.ref 418),(.ref 419),(.int (860) 0),(.int (289) 0),(.str ("/claim/cut.py":Str) 861)]),#[]⟩),
 (421,⟨(.type "function"),none,(.func (bY (cW 21 2) ("StringIO.__translated":Str) (.str ("io":Str) 459) (.ref 420) .none)),#[]⟩),
 (427,⟨(.type "code"),none,(.fields #[(.str ("__check":Str) 863),(.str ("StringIO.__check":Str) 864),(.str ("/claim/cut.py":Str) 865),(.int (297) 0),(.int (1) 0),(.int (0) 0),(.int (0) 0),(.int (3) 0),(.ref 422),(.bool true),(.int (318) 0),(.ref 423),.none,(.ref 424),(.ref 425),(.ref 426),(.int (867) 0),(.int (297) 0),(.str ("/claim/cut.py":Str) 868)]),#[]⟩),
 (428,⟨(.type "function"),none,(.func (bY (cW 21 3) ("StringIO.__check":Str) (.str ("io":Str) 459) (.ref 427) .none)),#[]⟩),
 (583,⟨(.type "tuple"),none,(.seq #[(.int (-1) 1036)] 0),#[]⟩),
 (589,⟨(.type "code"),none,(.fields #[(.str ("read":Str) 1037),(.str ("StringIO.read":Str) 1038),(.str ("/claim/cut.py":Str) 1039),(.int (419) 0),(.int (2) 0),(.int (2) 0),(.int (0) 0),(.int (3) 0),(.ref 584),(.bool true),(.int (318) 0),(.ref 585),.none,(.ref 586),(.ref 587),(.ref 588),(.int (1044) 0),(.int (419) 0),(.str ("/claim/cut.py":Str) 1045)]),#[]⟩),
 (590,⟨(.type "function"),none,(.func (bY (cW 21 25) ("StringIO.read":Str) (.str ("io":Str) 459) (.ref 589) (.ref 583))),#[]⟩),
 (643,⟨(.type "dict"),none,(.dict #[ent P ("__module__":Str) 836 (.str ("_io":Str) 841),ent P ("__firstlineno__":Str) 840 (.int (273) 839),ent P ("__init__":Str) 853 (.ref 414),ent P ("_StringIO__translated":Str) 862 (.ref 421),ent P ("_StringIO__check":Str) 869 (.ref 428),ent P ("_StringIO__check_dot":Str) 876 (.ref 435),ent P ("_StringIO__line":Str) 891 (.ref 442),ent P ("closed":Str) 899 (.ref 450),ent P ("line_buffering":Str) 907 (.ref 458),ent P ("newlines":Str) 915 (.ref 466),ent P ("encoding":Str) 923 (.ref 474),ent P ("errors":Str) 931 (.ref 482),ent P ("close":Str) 938 (.ref 489),ent P ("__enter__":Str) 945 (.ref 496),ent P ("__exit__":Str) 953 (.ref 503),ent P ("readable":Str) 960 (.ref 510),ent P ("writable":Str) 967 (.ref 517),ent P ("seekable":Str) 974 (.ref 524),ent P ("isatty":Str) 981 (.ref 531),ent P ("flush":Str) 988 (.ref 538),ent P ("fileno":Str) 995 (.ref 545),ent P ("detach":Str) 1002 (.ref 552),ent P ("getvalue":Str) 1009 (.ref 559),ent P ("tell":Str) 1016 (.ref 566),ent P ("seek":Str) 1026 (.ref 574),ent P ("truncate":Str) 1034 (.ref 582),ent P ("read":Str) 1046 (.ref 590),ent P ("readline":Str) 1056 (.ref 598),ent P ("readlines":Str) 1066 (.ref 606),ent P ("__iter__":Str) 1073 (.ref 613),ent P ("__next__":Str) 1081 (.ref 620),ent P ("write":Str) 1093 (.ref 627),ent P ("writelines":Str) 1101 (.ref 634),ent P ("__repr__":Str) 1108 (.ref 641),ent P ("__static_attributes__":Str) 1112 (.ref 642),ent P ("__doc__":Str) 1113 .none] 2),#[]⟩),
 (644,⟨(.type "type"),none,(.cls { name:=("StringIO":Str),bases:=[(.ref 167)],mro:=[(.ref 644),(.ref 167),(.ref 140),(.type "object")],ns:=643,qualname:=("StringIO":Str),hasDict:=true,slotNames:=[],subclasses:=[],abstract:=false,collection:=none }),#[(some (.ref 400)),none,(some (.str ("StringIO":Str) 829)),(some (.str ("StringIO":Str) 837)),(some .none),(some (.bool true))]⟩),
 (696,⟨(.type "tuple"),none,(.seq #[.none,.none,(.bool false),(.bool false)] 0),#[]⟩),
 (702,⟨(.type "code"),none,(.fields #[(.str ("__init__":Str) 1189),(.str ("shlex.__init__":Str) 1190),(.str ("/claim/cut.py":Str) 1191),(.int (545) 0),(.int (5) 0),(.int (0) 0),(.int (0) 0),(.int (3) 0),(.ref 697),(.bool true),(.int (318) 0),(.ref 698),.none,(.ref 699),(.ref 700),(.ref 701),(.int (1198) 0),(.int (545) 0),(.str ("/claim/cut.py":Str) 1199)]),#[]⟩),
 (703,⟨(.type "function"),none,(.func (bY (cW 31 0) ("shlex.__init__":Str) (.str ("cpy313.shlex":Str) 1175) (.ref 702) (.ref 696))),#[]⟩),
 (709,⟨(.type "code"),none,(.fields #[(.str ("punctuation_chars":Str) 1201),(.str ("shlex.punctuation_chars":Str) 1202),(.str ("/claim/cut.py":Str) 1203),(.int (586) 0),(.int (1) 0),(.int (0) 0),(.int (0) 0),(.int (3) 0),(.ref 704),(.bool true),(.int (318) 0),(.ref 705),.none,(.ref 706),(.ref 707),(.ref 708),(.int (1205) 0),(.int (586) 0),(.str ("/claim/cut.py":Str) 1206)]),#[]⟩),
 (710,⟨(.type "function"),none,(.func (bY (cW 31 1) ("shlex.punctuation_chars":Str) (.str ("cpy313.shlex":Str) 1175) (.ref 709) .none)),#[]⟩),
 (711,⟨(.type "property"),none,(.fields #[(.ref 710),.none,.none,.none,(.str ("punctuation_chars":Str) 1208),(.bool false)]),#[]⟩),
 (739,⟨(.type "code"),none,(.fields #[(.str ("get_token":Str) 1233),(.str ("shlex.get_token":Str) 1234),(.str ("/claim/cut.py":Str) 1235),(.int (613) 0),(.int (1) 0),(.int (0) 0),(.int (0) 0),(.int (3) 0),(.ref 734),(.bool true),(.int (318) 0),(.ref 735),.none,(.ref 736),(.ref 737),(.ref 738),(.int (1242) 0),(.int (613) 0),(.str ("/claim/cut.py":Str) 1243)]),#[]⟩),
 (740,⟨(.type "function"),none,(.func (bY (cW 31 5) ("shlex.get_token":Str) (.str ("cpy313.shlex":Str) 1175) (.ref 739) .none)),#[]⟩),
 (746,⟨(.type "code"),none,(.fields #[(.str ("read_token":Str) 1245),(.str ("shlex.read_token":Str) 1246),(.str ("/claim/cut.py":Str) 1247),(.int (640) 0),(.int (1) 0),(.int (0) 0),(.int (0) 0),(.int (3) 0),(.ref 741),(.bool true),(.int (318) 0),(.ref 742),.none,(.ref 743),(.ref 744),(.ref 745),(.int (1253) 0),(.int (640) 0),(.str ("/claim/cut.py":Str) 1254)]),#[]⟩),
 (747,⟨(.type "function"),none,(.func (bY (cW 31 6) ("shlex.read_token":Str) (.str ("cpy313.shlex":Str) 1175) (.ref 746) .none)),#[]⟩),
 (768,⟨(.type "code"),none,(.fields #[(.str ("__iter__":Str) 1273),(.str ("shlex.__iter__":Str) 1274),(.str ("/claim/cut.py":Str) 1275),(.int (787) 0),(.int (1) 0),(.int (0) 0),(.int (0) 0),(.int (3) 0),(.ref 763),(.bool true),(.int (318) 0),(.ref 764),.none,(.ref 765),(.ref 766),(.ref 767),(.int (1277) 0),(.int (787) 0),(.str ("/claim/cut.py":Str) 1278)]),#[]⟩),
 (769,⟨(.type "function"),none,(.func (bY (cW 31 9) ("shlex.__iter__":Str) (.str ("cpy313.shlex":Str) 1175) (.ref 768) .none)),#[]⟩),
 (775,⟨(.type "code"),none,(.fields #[(.str ("__next__":Str) 1280),(.str ("shlex.__next__":Str) 1281),(.str ("/claim/cut.py":Str) 1282),(.int (790) 0),(.int (1) 0),(.int (0) 0),(.int (0) 0),(.int (3) 0),(.ref 770),(.bool true),(.int (318) 0),(.ref 771),.none,(.ref 772),(.ref 773),(.ref 774),(.int (1285) 0),(.int (790) 0),(.str ("/claim/cut.py":Str) 1286)]),#[]⟩),
 (776,⟨(.type "function"),none,(.func (bY (cW 31 10) ("shlex.__next__":Str) (.str ("cpy313.shlex":Str) 1175) (.ref 775) .none)),#[]⟩),
 (778,⟨(.type "dict"),none,(.dict #[ent P ("__module__":Str) 1184 (.str ("cpy313.shlex":Str) 1175),ent P ("__firstlineno__":Str) 1188 (.int (543) 1187),ent P ("__init__":Str) 1200 (.ref 703),ent P ("punctuation_chars":Str) 1208 (.ref 711),ent P ("push_token":Str) 1216 (.ref 718),ent P ("push_source":Str) 1225 (.ref 726),ent P ("pop_source":Str) 1232 (.ref 733),ent P ("get_token":Str) 1244 (.ref 740),ent P ("read_token":Str) 1255 (.ref 747),ent P ("sourcehook":Str) 1263 (.ref 754),ent P ("error_leader":Str) 1272 (.ref 762),ent P ("__iter__":Str) 1279 (.ref 769),ent P ("__next__":Str) 1287 (.ref 776),ent P ("__static_attributes__":Str) 1308 (.ref 777),ent P ("__dict__":Str) 1310 (.ref 780),ent P ("__weakref__":Str) 1312 (.ref 781),ent P ("__doc__":Str) 1313 .none] 4),#[]⟩),
 (779,⟨(.type "type"),none,(.cls { name:=("shlex":Str),bases:=[(.type "object")],mro:=[(.ref 779),(.type "object")],ns:=778,qualname:=("shlex":Str),hasDict:=true,slotNames:=[],subclasses:=[],abstract:=false,collection:=none }),#[none,none,(some (.str ("shlex":Str) 1177)),(some (.str ("shlex":Str) 1185)),(some (.builtin "object.__new__")),(some (.bool true))]⟩),
 (780,⟨(.type "getset_descriptor"),none,(.fields #[(.str ("__dict__":Str) 1309),(.ref 779),(.builtin "function.__dict__"),(.builtin "function.__dict__#set")]),#[]⟩),
 (781,⟨(.type "getset_descriptor"),none,(.fields #[(.str ("__weakref__":Str) 1311),(.ref 779),(.builtin "ExceptionGroup.__weakref__"),.none]),#[]⟩),
 (784,⟨(.type "tuple"),none,(.seq #[(.bool false),(.bool true)] 0),#[]⟩),
 (790,⟨(.type "code"),none,(.fields #[(.str ("split":Str) 1316),(.str ("split":Str) 1317),(.str ("/claim/cut.py":Str) 1318),(.int (795) 0),(.int (3) 0),(.int (0) 0),(.int (0) 0),(.int (3) 0),(.ref 785),(.bool true),(.int (318) 0),(.ref 786),.none,(.ref 787),(.ref 788),(.ref 789),(.int (1323) 0),(.int (795) 0),(.str ("/claim/cut.py":Str) 1324)]),#[]⟩),
 (791,⟨(.type "function"),none,(.func (bY (bO 32) ("split":Str) (.str ("cpy313.shlex":Str) 1175) (.ref 790) (.ref 784))),#[]⟩),
 (797,⟨(.type "code"),none,(.fields #[(.str ("join":Str) 1326),(.str ("join":Str) 1327),(.str ("/claim/cut.py":Str) 1328),(.int (803) 0),(.int (1) 0),(.int (0) 0),(.int (0) 0),(.int (3) 0),(.ref 792),(.bool true),(.int (318) 0),(.ref 793),.none,(.ref 794),(.ref 795),(.ref 796),(.int (1330) 0),(.int (803) 0),(.str ("/claim/cut.py":Str) 1331)]),#[]⟩),
 (798,⟨(.type "function"),none,(.func (bY (bO 33) ("join":Str) (.str ("cpy313.shlex":Str) 1175) (.ref 797) .none)),#[]⟩),
 (799,⟨(.type "builtin_function_or_method"),none,(.fields #[(.builtin "re.Pattern.search"),(.ref 96)]),#[]⟩),
 (805,⟨(.type "code"),none,(.fields #[(.str ("quote":Str) 1336),(.str ("quote":Str) 1337),(.str ("/claim/cut.py":Str) 1338),(.int (807) 0),(.int (1) 0),(.int (0) 0),(.int (0) 0),(.int (3) 0),(.ref 800),(.bool true),(.int (318) 0),(.ref 801),.none,(.ref 802),(.ref 803),(.ref 804),(.int (1340) 0),(.int (807) 0),(.str ("/claim/cut.py":Str) 1341)]),#[]⟩),
 (806,⟨(.type "function"),none,(.func (bY (bO 36) ("quote":Str) (.str ("cpy313.shlex":Str) 1175) (.ref 805) .none)),#[]⟩),
 (810,⟨(.type "code"),none,(.fields #[(.str ("_law_parts":Str) 1345),(.str ("_law_parts":Str) 1346),(.str ("/claim/cut.py":Str) 1347),(.int (814) 0),(.int (1) 0),(.int (0) 0),(.int (0) 0),(.int (3) 0),(.ref 807),(.bool true),(.int (318) 0),(.ref 808),.none,.none,.none,(.ref 809),(.int (1348) 0),(.int (814) 0),(.str ("/claim/cut.py":Str) 1349)]),#[]⟩),
 (811,⟨(.type "function"),none,(.func (bY (bO 38) ("_law_parts":Str) (.str ("law_il0087_01":Str) 1343) (.ref 810) .none)),#[]⟩),
 (817,⟨(.type "code"),none,(.fields #[(.str ("_law_labels":Str) 1351),(.str ("_law_labels":Str) 1352),(.str ("/claim/cut.py":Str) 1353),(.int (817) 0),(.int (1) 0),(.int (0) 0),(.int (0) 0),(.int (3) 0),(.ref 812),(.bool true),(.int (318) 0),(.ref 813),.none,(.ref 814),(.ref 815),(.ref 816),(.int (1356) 0),(.int (817) 0),(.str ("/claim/cut.py":Str) 1357)]),#[]⟩),
 (818,⟨(.type "function"),none,(.func (bY (bO 39) ("_law_labels":Str) (.str ("law_il0087_01":Str) 1343) (.ref 817) .none)),#[]⟩),
 (824,⟨(.type "code"),none,(.fields #[(.str ("_law_climbed":Str) 1359),(.str ("_law_climbed":Str) 1360),(.str ("/claim/cut.py":Str) 1361),(.int (824) 0),(.int (1) 0),(.int (0) 0),(.int (0) 0),(.int (3) 0),(.ref 819),(.bool true),(.int (318) 0),(.ref 820),.none,(.ref 821),(.ref 822),(.ref 823),(.int (1365) 0),(.int (824) 0),(.str ("/claim/cut.py":Str) 1366)]),#[]⟩),
 (825,⟨(.type "function"),none,(.func (bY (bO 40) ("_law_climbed":Str) (.str ("law_il0087_01":Str) 1343) (.ref 824) .none)),#[]⟩),
 (831,⟨(.type "code"),none,(.fields #[(.str ("_law_due":Str) 1368),(.str ("_law_due":Str) 1369),(.str ("/claim/cut.py":Str) 1370),(.int (831) 0),(.int (1) 0),(.int (0) 0),(.int (0) 0),(.int (3) 0),(.ref 826),(.bool true),(.int (318) 0),(.ref 827),.none,(.ref 828),(.ref 829),(.ref 830),(.int (1374) 0),(.int (831) 0),(.str ("/claim/cut.py":Str) 1375)]),#[]⟩),
 (832,⟨(.type "function"),none,(.func (bY (bO 41) ("_law_due":Str) (.str ("law_il0087_01":Str) 1343) (.ref 831) .none)),#[]⟩),
 (838,⟨(.type "code"),none,(.fields #[(.str ("_law_row":Str) 1377),(.str ("_law_row":Str) 1378),(.str ("/claim/cut.py":Str) 1379),(.int (839) 0),(.int (1) 0),(.int (0) 0),(.int (0) 0),(.int (3) 0),(.ref 833),(.bool true),(.int (318) 0),(.ref 834),.none,(.ref 835),(.ref 836),(.ref 837),(.int (1384) 0),(.int (839) 0),(.str ("/claim/cut.py":Str) 1385)]),#[]⟩),
 (839,⟨(.type "function"),none,(.func (bY (bO 42) ("_law_row":Str) (.str ("law_il0087_01":Str) 1343) (.ref 838) .none)),#[]⟩),
 (843,⟨(.type "code"),none,(.fields #[(.str ("_law_apart":Str) 1387),(.str ("_law_apart":Str) 1388),(.str ("/claim/cut.py":Str) 1389),(.int (847) 0),(.int (2) 0),(.int (0) 0),(.int (0) 0),(.int (3) 0),(.ref 840),(.bool true),(.int (318) 0),(.ref 841),.none,.none,.none,(.ref 842),(.int (1390) 0),(.int (847) 0),(.str ("/claim/cut.py":Str) 1391)]),#[]⟩),
 (844,⟨(.type "function"),none,(.func (bY (bO 43) ("_law_apart":Str) (.str ("law_il0087_01":Str) 1343) (.ref 843) .none)),#[]⟩),
 (848,⟨(.type "code"),none,(.fields #[(.str ("_law_far":Str) 1393),(.str ("_law_far":Str) 1394),(.str ("/claim/cut.py":Str) 1395),(.int (856) 0),(.int (1) 0),(.int (0) 0),(.int (0) 0),(.int (3) 0),(.ref 845),(.bool true),(.int (318) 0),(.ref 846),.none,.none,.none,(.ref 847),(.int (1396) 0),(.int (856) 0),(.str ("/claim/cut.py":Str) 1397)]),#[]⟩),
 (849,⟨(.type "function"),none,(.func (bY (bO 44) ("_law_far":Str) (.str ("law_il0087_01":Str) 1343) (.ref 848) .none)),#[]⟩),
 (855,⟨(.type "code"),none,(.fields #[(.str ("_law_held":Str) 1399),(.str ("_law_held":Str) 1400),(.str ("/claim/cut.py":Str) 1401),(.int (866) 0),(.int (3) 0),(.int (0) 0),(.int (0) 0),(.int (3) 0),(.ref 850),(.bool true),(.int (318) 0),(.ref 851),.none,(.ref 852),(.ref 853),(.ref 854),(.int (1408) 0),(.int (866) 0),(.str ("/claim/cut.py":Str) 1409)]),#[]⟩),
 (856,⟨(.type "function"),none,(.func (bY (bO 45) ("_law_held":Str) (.str ("law_il0087_01":Str) 1343) (.ref 855) .none)),#[]⟩),
 (860,⟨(.type "code"),none,(.fields #[(.str ("_law_orders":Str) 1411),(.str ("_law_orders":Str) 1412),(.str ("/claim/cut.py":Str) 1413),(.int (872) 0),(.int (1) 0),(.int (0) 0),(.int (0) 0),(.int (3) 0),(.ref 857),(.bool true),(.int (318) 0),(.ref 858),.none,.none,.none,(.ref 859),(.int (1414) 0),(.int (872) 0),(.str ("/claim/cut.py":Str) 1415)]),#[]⟩),
 (861,⟨(.type "function"),none,(.func (bY (bO 46) ("_law_orders":Str) (.str ("law_il0087_01":Str) 1343) (.ref 860) .none)),#[]⟩),
 (865,⟨(.type "code"),none,(.fields #[(.str ("_law_round":Str) 1417),(.str ("_law_round":Str) 1418),(.str ("/claim/cut.py":Str) 1419),(.int (880) 0),(.int (2) 0),(.int (0) 0),(.int (0) 0),(.int (3) 0),(.ref 862),(.bool true),(.int (318) 0),(.ref 863),.none,.none,.none,(.ref 864),(.int (1420) 0),(.int (880) 0),(.str ("/claim/cut.py":Str) 1421)]),#[]⟩),
 (866,⟨(.type "function"),none,(.func (bY (bO 47) ("_law_round":Str) (.str ("law_il0087_01":Str) 1343) (.ref 865) .none)),#[]⟩),
 (870,⟨(.type "code"),none,(.fields #[(.str ("_law_shortest":Str) 1423),(.str ("_law_shortest":Str) 1424),(.str ("/claim/cut.py":Str) 1425),(.int (882) 0),(.int (3) 0),(.int (0) 0),(.int (0) 0),(.int (3) 0),(.ref 867),(.bool true),(.int (318) 0),(.ref 868),.none,.none,.none,(.ref 869),(.int (1426) 0),(.int (882) 0),(.str ("/claim/cut.py":Str) 1427)]),#[]⟩),
 (871,⟨(.type "function"),none,(.func (bY (bO 48) ("_law_shortest":Str) (.str ("law_il0087_01":Str) 1343) (.ref 870) .none)),#[]⟩),
 (875,⟨(.type "code"),none,(.fields #[(.str ("law":Str) 1429),(.str ("law":Str) 1430),(.str ("/claim/cut.py":Str) 1431),(.int (895) 0),(.int (1) 0),(.int (0) 0),(.int (0) 0),(.int (3) 0),(.ref 872),(.bool true),(.int (318) 0),(.ref 873),.none,.none,.none,(.ref 874),(.int (1432) 0),(.int (895) 0),(.str ("/claim/cut.py":Str) 1433)]),#[]⟩),
 (876,⟨(.type "function"),none,(.func (bY (bO 49) ("law":Str) (.str ("law_il0087_01":Str) 1343) (.ref 875) .none)),#[]⟩)]
noncomputable def KM(P:Params):Frag:=(793,⟨.none,none,.fields #[],#[]⟩)::KK P
noncomputable def kAs:List Addr:=[793,2,3,4,50,51,57,58,62,63,69,70,76,77,83,84,90,91,95,96,109,110,136,137,139,140,141,142,143,166,167,397,407,413,414,420,421,427,428,583,589,590,643,644,696,702,703,709,710,711,739,740,746,747,768,769,775,776,778,779,780,781,784,790,791,797,798,799,805,806,810,811,817,818,824,825,831,832,838,839,843,844,848,849,855,856,860,861,865,866,870,871,875,876]
theorem Zh(P:Params):kAs=(KM P).map (·.1):=rfl
noncomputable def pW:List Str:=[Str.ofString "_sre",Str.ofString "deque",Str.ofString "_wall",Str.ofString "sorted_list_difference",Str.ofString "three_way_cmp",Str.ofString "IPV4_RE",Str.ofString "is_HDN",Str.ofString "liberal_is_HDN",Str.ofString "user_domain_match",Str.ofString "reach",Str.ofString "_twin_re_1",Str.ofString "_whence",Str.ofString "_index",Str.ofString "UnsupportedOperation",Str.ofString "IOBase",Str.ofString "BufferedIOBase",Str.ofString "TextIOBase",Str.ofString "BytesIO",Str.ofString "StringIO",Str.ofString "_kind",Str.ofString "_fspath",Str.ofString "_check_arg_types",Str.ofString "isabs",Str.ofString "join",Str.ofString "join_path",Str.ofString "dirname",Str.ofString "shlex",Str.ofString "split",Str.ofString "join_shlex",Str.ofString "_find_unsafe",Str.ofString "quote",Str.ofString "_law_parts",Str.ofString "_law_labels",Str.ofString "_law_climbed",Str.ofString "_law_due",Str.ofString "_law_row",Str.ofString "_law_apart",Str.ofString "_law_far",Str.ofString "_law_held",Str.ofString "_law_orders",Str.ofString "_law_round",Str.ofString "_law_shortest"]
noncomputable def nM:Program:=view pw [49]
noncomputable def kXt:Shared->Bool:=λ _=>true
theorem aAB(w:World):Xc PySem.W.Fast.tw3805553451399329143 PySem.W.Fast.tw6613529449190102663 (λ p=>PySem.W.Fast.tw10156331382660048174 (PySem.W.Fast.tw11892475500146522536 PySem.W.Fast.tw14364793385576792824) p w) PySem.W.Fast.tw14289696077712309145 pw (PySem.W.Fast.tw1435165496053646825 (opening pw)) 20000
  (λ s₀ s₁=>(staticsOk (PySem.W.Fast.tw5923862056798008813 pw.main.body) s₀.heap s₁.heap&&namesBound pw s₁.heap&&gensDone s₁&&laidKept s₀.heap s₁.heap,PySem.W.Fast.tw4187177175401517315 nM pW (PySem.W.Fast.tw5923862056798008813 pw.main.body) kXt true s₁,kAs.map s₁.heap.get?)) =
   some (true,openGood nM pW,(KM w.params).map λ p=>some p.2):=by kernel_rfl
abbrev lw:OpenLaw:=PySem.Challenge.rw_il0087_01
noncomputable abbrev kH:Hook:=kHook KM kAs Zh
theorem aDz:LeftO pw nM pW kXt kH.obs kH.val 20000:=Sa λ w=>by
 rw[PySem.W.Fast.te3805553451399329143,PySem.W.Fast.te6613529449190102663,PySem.W.Fast.te10156331382660048174,PySem.W.Fast.te11892475500146522536,PySem.W.Fast.te14364793385576792824,PySem.W.Fast.te14289696077712309145,PySem.W.Fast.te1435165496053646825,PySem.W.Fast.te5923862056798008813,PySem.W.Fast.te4187177175401517315];exact aAB w
noncomputable def xA:DefRec:=((defOf nM "law").map (·.1)).getD ⟨"",default,[],default,default⟩
theorem Rx:defOf nM lw.row.name=some (xA,[]):=by kernel_rfl
theorem Ry:pw.theDef lw.row.name=some (xA.params,xA.body,xA.scope):=by kernel_rfl
theorem Zs:kwWritten? xA.params.kwonlyargs xA.params.kw_defaults=some []:=by kernel_rfl
theorem aCC:sreFenced pw.main=true:=by kernel_rfl
theorem aCD:((moduleNames pw.main.body).isEmpty||lookedIntoSs (moduleNames pw.main.body) pw.main.body)=true:=by kernel_rfl
theorem aCE:namesResolve pw=true:=by kernel_rfl
theorem aCF:pw.boundNames.all (λ n=>!worldNames.contains n)=true:=by kernel_rfl
theorem aCG:noRoadLSs { strict:=!(importedModules pw.main.body).all cThrough.contains,foot:=none,bare:=(["vars","dir","locals"]:List Str).filter (readsOut pw pw.main.body) } pw.main.body=true:=by kernel_rfl
theorem aCH:namesMeet pw pw.main.body (λ _ n=>attrL n)=true:=by kernel_rfl
theorem Ag:looksOpen lw.row.prog=true:=look_both (look_both (look_both (look_both (look_both aCC aCD) aCE) aCF) aCG) aCH
theorem Gj:lw.row.wellSaid=true:=by
 unfold OpenRow.wellSaid OpenRow.partSaid
 iterate 15 refine look_both ?_ (by kernel_rfl)
 exact Ag
theorem Lb:lw.wellSaid=true:=by
 unfold OpenLaw.wellSaid
 iterate 18 refine look_both ?_ (by kernel_rfl)
 exact Gj
theorem Zv:(chainsOk nM&&opensWell pw&&(frees lw.row.toRowW&&lw.row.within.isEmpty))=true:=by kernel_rfl
theorem Ky:pw.bare:=⟨rfl,rfl,rfl,rfl,rfl,by decide +kernel⟩
theorem uI:lw.row.toRowW.promised:=by w_witness2
theorem head(h:WalkO nM pW (λ _ _=>True) kH.says lw.row.toRowW xA [] λ f vs=>PySem.call f vs):lw.Holds :=
 holds_law Lb λ said=>holds_open (q:=nM) (loose:=pW) (Xt:=kXt) (XP:=λ _ _=>True) (Yf:=kH.obs) (Ya:=kH.val) (YP:=kH.says) (N:=20000) aDz kH.of kH.keeps (λ _ _=>trivial) (λ _ _ _ _ _=>trivial)
  Rx Ry Zs (λ _ _=>recFacts_nil rfl) rfl said Zv Ky uI h
section
open PySem.SeqAt
section
variable(S:Sys prog w)
noncomputable abbrev GG(X:List Addr)(env:Env)(oc:List (Str×Addr))(ρ:Ro)(h:Heap):Heap:=fz h (X++aH env oc ρ)
noncomputable abbrev PV1(X:List Addr)(env:Env)(oc:List (Str×Addr))(ρ:Ro)(s:Shared)(v:PV)(Q:Value->Shared->Prop):Prop :=
 ∀ h' tk rv,Up (X++aH env oc ρ) s.heap h'->XRel (GG X env oc ρ h') ρ v rv->Q rv { s with heap:=h',toks:=tk }
noncomputable abbrev PVs(X:List Addr)(env:Env)(oc:List (Str×Addr))(ρ:Ro)(s:Shared)(v:List PV)(Q:List Value->Shared->Prop):Prop :=
 ∀ h' tk rv,Up (X++aH env oc ρ) s.heap h'->XRels (GG X env oc ρ h') ρ v rv->Q rv { s with heap:=h',toks:=tk }
noncomputable abbrev PB(H:List Addr)(s:Shared)(b:Bool)(Q:Bool->Shared->Prop):Prop:=∀ h' tk,Up H s.heap h'->Q b { s with heap:=h',toks:=tk }
noncomputable def SE(n:Nat):Prop:=∀{sc:Scope} {e:Expr} {x:Ex} {lv:LV} {σ:List MObj} {v:PV},TrE sc e x->ev S.T n x lv σ=some v ->
 ∀{A:Around} {env:Env} {X:List Addr} {oc:List (Str×Addr)} {ρ:Ro} {s:Shared} {Q E:Value->Shared->Prop},CxI S n A s.heap (X) env oc ρ->Fx sc env oc->Inv X env oc ρ s.heap lv σ ->
  PV1 X env oc ρ s v Q->wpAny (model prog w) A (eval e env) Q E s
noncomputable def SEs(n:Nat):Prop:=∀{sc:Scope} {es:List Expr} {xs:List Ex} {lv:LV} {σ:List MObj} {vs:List PV},cM sc es xs->evs S.T n xs lv σ=some vs ->
 ∀{A:Around} {env:Env} {X:List Addr} {oc:List (Str×Addr)} {ρ:Ro} {s:Shared} {Q:List Value->Shared->Prop} {E:Value->Shared->Prop} {pos:Pos},CxI S n A s.heap (X) env oc ρ->Fx sc env oc->Inv X env oc ρ s.heap lv σ ->
  PVs X env oc ρ s vs Q->wpAny (model prog w) A (spliced (backTo pos (starEach es env))) Q E s
noncomputable def SB(n:Nat):Prop:=∀{sc:Scope} {o:BoolOp} {es:List Expr} {xs:List Ex} {lv:LV} {σ:List MObj} {v:PV},cM sc es xs->evB S.T n o xs lv σ=some v ->
 ∀{A:Around} {env:Env} {X:List Addr} {oc:List (Str×Addr)} {ρ:Ro} {s:Shared} {Q E:Value->Shared->Prop} {pos:Pos},CxI S n A s.heap (X) env oc ρ->Fx sc env oc->Inv X env oc ρ s.heap lv σ ->
  PV1 X env oc ρ s v Q->wpAny (model prog w) A (boolOp pos o (evalEach es env)) Q E s
noncomputable def ST(n:Nat):Prop:=∀{sc:Scope} {e:Expr} {x:Ex} {lv:LV} {σ:List MObj} {b:Bool},TrE sc e x->evT S.T n x lv σ=some b ->
 ∀{A:Around} {env:Env} {X:List Addr} {oc:List (Str×Addr)} {ρ:Ro} {s:Shared} {Q:Bool->Shared->Prop} {E:Value->Shared->Prop},CxI S n A s.heap (X) env oc ρ->Fx sc env oc->Inv X env oc ρ s.heap lv σ ->
  PB (X++aH env oc ρ) s b Q->wpAny (model prog w) A (isTrue e env (eval e env)) Q E s
noncomputable def SA(n:Nat):Prop:=∀{sc:Scope} {o:BoolOp} {es:List Expr} {xs:List Ex} {lv:LV} {σ:List MObj} {b:Bool},cM sc es xs->dM S.T n o xs lv σ=some b ->
 ∀{A:Around} {env:Env} {X:List Addr} {oc:List (Str×Addr)} {ρ:Ro} {s:Shared} {Q:Bool->Shared->Prop} {E:Value->Shared->Prop},CxI S n A s.heap (X) env oc ρ->Fx sc env oc->Inv X env oc ρ s.heap lv σ ->
  PB (X++aH env oc ρ) s b Q->wpAny (model prog w) A (allTrue o es env) Q E s
noncomputable def SC(n:Nat):Prop :=
 (∀{f:Str} {vs:List PV} {v:PV},cG S.T n f vs=some v->∃ a,S.gl f=some (.ref a)/\∀ g,S.B g->∃ o fd,g.get? a=some o/\o.data=.func fd) /\
 ∀{f:Str} {vs:List PV} {v:PV},cG S.T n f vs=some v->∀{a:Addr},S.gl f=some (.ref a)->∀{A:Around} {H:List Addr} {s:Shared} {rvs:List Value} {Q E:Value->Shared->Prop},Cx S n A s.heap H H ->
  (∀ a∈H,∃ o,s.heap.get? a=some o)->VRels (fz s.heap H) vs rvs->kF H s Q v->wpAny (model prog w) A (call (.ref a) rvs) Q E s
end
end
section
open PySem.SeqAt
section
theorem wI{M f args Q}(hplain:args.any (·.1)=false)(h:wpAny M A (spliced args) (λ vs s'=>Q ⟨vs,[]⟩ s') E s):wpAny M A (evalArgs f true args []) Q E s:=by
 cases args with
 | nil =>
  unfold evalArgs;show wpAny M A (spliced [] >>= _) Q E s;refine wB (wpAny_mono h (λ vs s' h'=>?_) λ _ _ x=>x);refine wB (wP ?_);refine wpAny_holding ?_;exact wB (wP (wB (wP (wP h'))))
 | cons a r =>
  obtain⟨b,x⟩:=a;cases b with
  | true=>simp at hplain
  | false=>exact evalArgs_plain h
theorem eG{f}{first}{args}{P:Heap->Prop}(hplain:args.any (·.1)=false)(hk:∀ h,P h->∃ k,(k=Keeper.frame∨k=Keeper.machine∨k=Keeper.boundFrame)/\Looks (model prog w) h (keeperOf f) k)(h:wpAny (model prog w) A (spliced args) (λ vs s₁=>P s₁.heap/\wpAny (model prog w) A (call f (first++vs)) Q E s₁) E s):wpAny (model prog w) A (callWith pos f first args []) Q E s :=
 callWith_of (by rw[hplain];rfl) hk (wI hplain h)
theorem cH{id}:∀ h,True->∃ k,(k=Keeper.frame∨k=Keeper.machine∨k=Keeper.boundFrame)/\Looks (model prog w) h (keeperOf (.builtin id)) k :=
 λ _ _=>⟨.machine,.inr (.inl rfl),Looks.of_pure rfl⟩
theorem eC{id}:∀ h,True->∃ k,(k=Keeper.frame∨k=Keeper.machine∨k=Keeper.boundFrame)/\Looks (model prog w) h (keeperOf (.type id)) k :=
 λ _ _=>⟨.machine,.inr (.inl rfl),Looks.of_pure rfl⟩
theorem gY{a}:∀ h:Heap,(∃ o fd,h.get? a=some o/\o.data=.func fd)->∃ k,(k=Keeper.frame∨k=Keeper.machine∨k=Keeper.boundFrame)/\Looks (model prog w) h (keeperOf (.ref a)) k:=by
 rintro h ⟨o,fd,e,d⟩;refine bK .frame (.inl rfl) ((Looks.ld (part:=none) e).andThen ?_);rw[d];exact .now
theorem REs.plain(env:Env){es xs}(h:cM sc es xs):(backTo pos (starEach es env)).any (·.1)=false :=
 REs.ind (M:=λ es _=>(backTo pos (starEach es env)).any (·.1)=false) rfl (λ{e x es xs} h _ ih=>by
  simp only[h.star];show((false,_)::backTo pos (starEach _ env)).any (·.1)=false;simp only[List.any_cons,ih];rfl) h
theorem REs.allp(env:Env){es xs}(h:cM sc es xs):(backTo pos (starEach es env)).all (λ x=>!x.1)=true :=
 REs.ind (M:=λ es _=>(backTo pos (starEach es env)).all (λ x=>!x.1)=true) rfl (λ{e x es xs} h _ ih=>by
  simp only[h.star];show((false,_)::backTo pos (starEach es env)).all (λ x=>!x.1)=true;simp only[List.all_cons,ih];rfl) h
end
section
variable(S:Sys prog w)
theorem aEx{h}(I:Inv X env oc ρ h lv σ):∀ b∈X++aH env oc ρ,∃ o,h.get? b=some o:=I.live
theorem Tw(hE:SE S n)(hEs:SEs S n):SEs S (n+1):=by
 intro sc es xs lv σ vs tr e A env X oc ρ s Q E pos C F I h;cases xs with
 | nil =>
  obtain rfl:es=[]:=tr;obtain rfl:=sj e;exact spliced_nil (h s.heap s.toks _ (Up.refl _) .nil)
 | cons x xs =>
  refine bB tr.inv ?_;clear tr;rintro _ _ rfl t r;refine aZ e ?_;clear e;intro v e1 e;refine aZ e ?_;clear e;intro us e2 e;obtain rfl:=sj e;rw[t.star];refine spliced_cons (hE t e1 C.down F I λ h1 t1 rv k1 r1=>?_);refine hEs r e2 (Cx.up C.down k1) F (I.ext k1) λ h2 t2 rvs k2 r2=>?_;exact h h2 t2 _ (Up.trans k1 k2) (.cons (r1.mono (fL k2)) r2)
theorem aAO(hE:SE S n)(hB:SB S n):SB S (n+1):=by
 intro sc o es xs lv σ v tr e A env X oc ρ s Q E pos C F I h;cases xs with
 | nil=>exact nos e
 | cons x xs =>
  refine bB tr.inv ?_;clear tr;rintro _ _ rfl t r;cases xs with
  | nil =>
   obtain rfl:_=[]:=r;show wpAny _ _ (boolOp pos o [eval _ env]) _ _ _;exact hE t e C.down F I h
  | cons x' xs =>
   refine bB r.inv ?_;clear r;rintro _ _ rfl t' r';refine aZ e ?_;clear e;intro x e1 e;refine aZ e ?_;clear e;intro y e2 e;refine aZ e ?_;clear e;intro b e3 e4;show wpAny _ _ (boolOp pos o (eval _ env::eval _ env::evalEach _ env)) _ _ _;dsimp only [boolOp];refine wB (hE t e1 C.down F I λ h1 t1 rv k1 r1=>?_);have I1:=I.ext k1;refine wB (wpAny_standAt (wB (wpAny_holding ?_)));refine iJ aP (r1.deref I1 e2) e3 λ tk=>?_;cases o with
   | And=>clear e3;cases b with
    | false =>
     have q:=sj e4;clear e4;subst q;exact wP (h h1 tk rv k1 r1)
    | true =>
     exact hB (.cons t' r') e4 (Cx.up C.down k1) F I1 λ h2 t2 rv2 k2 r2=>h h2 t2 rv2 (Up.trans k1 k2) r2
   | Or=>clear e3;cases b with
    | true =>
     have q:=sj e4;clear e4;subst q;exact wP (h h1 tk rv k1 r1)
    | false =>
     exact hB (.cons t' r') e4 (Cx.up C.down k1) F I1 λ h2 t2 rv2 k2 r2=>h h2 t2 rv2 (Up.trans k1 k2) r2
theorem aAN(hT:ST S n)(hA:SA S n):SA S (n+1):=by
 intro sc o es xs lv σ v tr e A env X oc ρ s Q E C F I h;cases xs with
 | nil =>
  obtain rfl:es=[]:=tr;obtain rfl:=sj e;clear e;cases o with
  | And=>exact wpAny_allTrue_And_nil (h s.heap s.toks (Up.refl _))
  | Or=>exact wpAny_allTrue_Or_nil (h s.heap s.toks (Up.refl _))
 | cons x xs =>
  refine bB tr.inv ?_;clear tr;rintro _ _ rfl t r;refine aZ e ?_;clear e;intro b e1 e2;cases o with
  | And =>
   refine wpAny_allTrue_And_cons (hT t e1 C.down F I λ h1 t1 k1=>?_);clear e1;cases b with
   | false=>have q:=sj e2;clear e2;subst q;exact h h1 t1 k1
   | true=>exact hA r e2 (Cx.up C.down k1) F (I.ext k1) λ h2 t2 k2=>h h2 t2 (Up.trans k1 k2)
  | Or =>
   refine wpAny_allTrue_Or_cons (hT t e1 C.down F I λ h1 t1 k1=>?_);clear e1;cases b with
   | true=>have q:=sj e2;clear e2;subst q;exact h h1 t1 k1
   | false=>exact hA r e2 (Cx.up C.down k1) F (I.ext k1) λ h2 t2 k2=>h h2 t2 (Up.trans k1 k2)
theorem Rr{o x y c}(e:cJ o x y=some c):(∃ i,x=.mref i)/\y=.none/\((o=.Is/\c=false)∨(o=.IsNot/\c=true)):=by
 rcases o with⟨⟩<;>first|exact nos e|skip
 all_goals rcases x with⟨⟩<;>first|exact nos e|skip
 all_goals rcases y with⟨⟩<;>first|exact nos e|skip
 ·exact fP ⟨_,rfl⟩ rfl (.inl ⟨rfl,(sj e).symm⟩)
 ·exact fP ⟨_,rfl⟩ rfl (.inr ⟨rfl,(sj e).symm⟩)
theorem pB{o x y rx ry c}(hu:A.units+8<cLine)(I:Inv X env oc ρ s.heap lv σ)(r1:XRel (GG X env oc ρ s.heap) ρ x rx)(r2:XRel (GG X env oc ρ s.heap) ρ y ry)(e:fK σ o x y=some c)(h:Q (.bool c) s):wpAny (model prog w) A (compareOp o rx ry) Q E s:=by
 cases ec:cJ o x y with
 | some c' =>
  have e:some c'=some c:=by simp only[<- e,fK,ec]
  refine bU (Rr (ec.trans e)) ?_;intro q1;refine aB q1 ?_;clear q1;rintro i rfl;rintro rfl q;refine aE r1.mref ?_;clear r1;rintro pp _ rfl;obtain rfl:=r2.inv;clear ec e;rcases q with⟨rfl,rfl⟩|⟨rfl,rfl⟩
  ·exact is_none_ne (by intro x;cases x) h
  ·exact wT (is_none_ne (by intro x;cases x) ⟨rfl,rfl⟩) h
 | none =>
  have e:(do cO o (<- deref σ x) (<- deref σ y))=some c:=by simp only[<- e,fK,ec]
  refine aZ e ?_;clear e;intro x' e3 e;refine aZ e ?_;clear e;intro y' e4 e5;exact rX hu aP (r1.deref I e3) (r2.deref I e4) e5 h
theorem Eo{o v}(e:ev S.T n (.cmp o a b) lv σ=some v) :
  ∃ m x y c,n=m+1/\ev S.T m a lv σ=some x/\ev S.T m b lv σ=some y/\fK σ o x y=some c/\v=.bool c:=by
 cases n with
 | zero=>exact nos e
 | succ m =>
  refine aZ e ?_;clear e;intro x e1 e;refine aZ e ?_;clear e;intro y e2 e;refine aZ e ?_;clear e;intro c e5 e;obtain rfl:=sj e;exact jD m x y c rfl e1 e2 (aY e5 rfl)
theorem vD(hE:SE S n){l r x y}(t1:TrE sc l a)(t2:TrE sc r b)(e1:ev S.T n a lv σ=some x)(e2:ev S.T n b lv σ=some y){Q:Value->Value->Shared->Prop}(C:CxI S n A s.heap (X) env oc ρ)(F:Fx sc env oc)(I:Inv X env oc ρ s.heap lv σ)(h:∀ h' tk rv ru,Up (X++aH env oc ρ) s.heap h'->XRel (GG X env oc ρ h') ρ x rv->XRel (GG X env oc ρ h') ρ y ru->Q rv ru { s with heap:=h',toks:=tk }) :
  wpAny (model prog w) A (eval l env) (λ u s₁=>wpAny (model prog w) A (eval r env) (λ v s₂=>Q u v s₂) E s₁) E s:=by
 refine hE t1 e1 C F I λ h1 t1 rv k1 r1=>?_;refine hE t2 e2 (Cx.up C k1) F (I.ext k1) λ h2 t2 ru k2 r2=>?_;exact h h2 t2 rv ru (Up.trans k1 k2) (r1.mono (fL k2)) r2
noncomputable def aAu:Ex->Bool
 | .not _=>false
 | .bop ..=>false
 | _=>true
theorem Xu{x}(h:aAu x=true):evT T (n+1) x lv σ=(ev T n x lv σ).bind λ v=>(deref σ v).bind λ w=>bG w:=by
 rcases x with⟨⟩<;>first|exact nft h|rfl
theorem Cu{x b}(h:aAu x=true)(e:evT S.T (n+1) x lv σ=some b):∃ v v',ev S.T n x lv σ=some v/\deref σ v=some v'/\bG v'=some b:=by
 replace e:=bnd ((Xu h).symm.trans e);refine aE e ?_;intro v e1 e;refine aZ e ?_;intro v' e2 e3;exact dR v v' e1 e2 e3
theorem aAT(hE:∀ k≤n,SE S k)(hT:ST S n)(hA:SA S n):ST S (n+1):=by
 intro sc e x lv σ b tr ev' A env X oc ρ s Q E C F I h;have val:aAu x=true->(isTrue e env (eval e env)=do let v <- eval e env;standAt e.pos;holding [v] (truthy v))->wpAny (model prog w) A (isTrue e env (eval e env)) Q E s:=by
  intro h1 h3;refine bB (Cu S h1 ev') λ v v' e1 e2 e3=>?_;refine wpAny_isTrue_value (hE n (Nat.le_refl _) tr e1 C.down F I λ h1 t1 rv k1 r1=>?_) h3;exact iJ aP (r1.deref (I.ext k1) e2) e3 λ tk=>h h1 tk k1
 have tr0:=tr.raw;clear tr;induction tr0 using RE.casesOn with
 | not t =>
  refine aE (Option.map_eq_some_iff.mp ev') ?_;clear ev';rintro c e1 rfl;exact wpAny_isTrue_Not (hT t e1 C.down F I λ h1 t1 k1=>h h1 t1 k1)
 | bop t =>
  exact wpAny_isTrue_BoolOp (hA t ev' C.down F I h)
 | cmp t1 t2 =>
  refine bB (Cu S rfl ev') λ v v' e1 e2 e3=>?_;refine gS (Eo S e1) ?_;intro m x y c rfl f1 f2 q2;refine aK q2 ?_;clear q2;clear e1;rintro f5 rfl;have q:=sj e2;clear e2;subst q;have q:=sj e3;clear e3;clear ev';subst q;refine wpAny_isTrue_Compare1 (vD S (hE m (Nat.le_succ _)) t1 t2 f1 f2 (C.down.down) F I λ h1 tk rv ru k1 r1 r2=>?_) (t2.nmark _);exact pB (s:={ s with heap:=h1,toks:=tk }) C.room (I.ext k1) r1 r2 f5 (wpAny_truthy_bool (h h1 tk k1))
 | _=>exact val rfl rfl
end
end
section
open PySem.SeqAt
section
variable(S:Sys prog w)
theorem pX(h:env.kindOf x=some .cell∨env.kindOf x=some .free):env.kindOf x≠some .local:=by
 rcases h with h|h<;>rw[h]<;>simp
theorem cS{v}(hv:fY sc x)(nc:(x=="__classdict__")=false)(e:lv.lookup x=some v)(F:Fx sc env oc)(I:Inv X env oc ρ s.heap lv σ)(h:∀ rv,XRel (GG X env oc ρ s.heap) ρ v rv->Q rv s):wpAny (model prog w) A (loadName env x) Q E s:=by
 have load:∀{c:Addr} {rv:Value},(env.kindOf x=some .cell∨env.kindOf x=some .free)->env.cells.lookup x=some c->s.heap.IsCell c (some rv)->Q rv s->wpAny (model prog w) A (loadName env x) Q E s:=by
  intro c rv hk hc hi hq;refine hk.elim (λ hk=>?_) λ hk=>?_
  ·exact wpAny_loadName_cell F.kind hk hc hi hq
  ·exact wpAny_loadName_free F.kind hk hc hi hq nc
 have cf:(env.kindOf x=some .cell∨env.kindOf x=some .free)->wpAny (model prog w) A (loadName env x) Q E s:=by
  intro hk;cases q:oc.lookup x with
  | some c =>
   refine aE (I.cell x c q) λ ov a b=>?_;refine aE (b v e) ?_;clear b;rintro rv rfl r;exact load hk (I.oce x c q).1 a (h rv r)
  | none =>
   refine bB (I.free x v e (pX hk) q) λ c rv a b d=>?_;exact load hk a (cQ aP b) (h rv (.frozen d))
 rcases hv with hv|hv|hv
 ·refine aE I.ns λ m hn hm=>?_;refine aE (hm x v e (F.loc x hv)) λ rv a b=>?_;exact wpAny_loadName_local F.kind (F.loc x hv) hn a (h rv b)
 ·exact cf (F.cel x (.inl hv))
 ·exact cf (F.cel x (.inr hv))
theorem bR{v}(hg:aR sc x)(e:S.gl x=some v)(hd:(x=="__debug__")=false)(C:CxI S n A s.heap (X) env oc ρ)(F:Fx sc env oc)(h:Q v s):wpAny (model prog w) A (eval (.Name x pos) env) Q E s :=
 wpAny_Name (S.glOk C.base e F.kind F.glob F.bi (F.gl x hg) aP h) hd
section
variable{f:Str}{v:Value}{x x2:Expr}{a2:Ex}{y y2:PV}
theorem kX(hE:SE S n)(hg:aR sc f)(hv:S.gl f=some v)(hd:(f=="__debug__")=false)(hk:∀ h,True->∃ k,(k=Keeper.frame∨k=Keeper.machine∨k=Keeper.boundFrame)/\Looks (model prog w) h (keeperOf v) k)(te:TrE sc x a)(e:ev S.T n a lv σ=some y)(C:CxI S n A s.heap X env oc ρ)(F:Fx sc env oc)(I:Inv X env oc ρ s.heap lv σ)(h:∀ h1 tk rv,Up (X++aH env oc ρ) s.heap h1->XRel (GG X env oc ρ h1) ρ y rv->wpAny (model prog w) A (call v [rv]) Q E { s with heap:=h1,toks:=tk }) :
  wpAny (model prog w) A (eval (.Call (.Name f p1) [x] [] pos) env) Q E s:=by
 refine wpAny_Call_NameR (bR S hg hv hd C F ?_);refine eG (P:=λ _=>True) ((REs.cons te .nil).plain env) hk ?_;rw[te.star];exact spliced_cons (hE te e C F I λ h1 tk rv k r=>spliced_nil ⟨trivial,h h1 tk rv k r⟩)
theorem Iu(hE:SE S n)(hg:aR sc f)(hv:S.gl f=some v)(hd:(f=="__debug__")=false)(hk:∀ h,True->∃ k,(k=Keeper.frame∨k=Keeper.machine∨k=Keeper.boundFrame)/\Looks (model prog w) h (keeperOf v) k)(te:TrE sc x a)(te2:TrE sc x2 a2)(e:ev S.T n a lv σ=some y)(e2:ev S.T n a2 lv σ=some y2)(C:CxI S n A s.heap X env oc ρ)(F:Fx sc env oc)(I:Inv X env oc ρ s.heap lv σ)(h:∀ h1 tk rv ru,Up (X++aH env oc ρ) s.heap h1->XRel (GG X env oc ρ h1) ρ y rv->XRel (GG X env oc ρ h1) ρ y2 ru->wpAny (model prog w) A (call v [rv,ru]) Q E { s with heap:=h1,toks:=tk }) :
  wpAny (model prog w) A (eval (.Call (.Name f p1) [x,x2] [] pos) env) Q E s:=by
 refine wpAny_Call_NameR (bR S hg hv hd C F ?_);refine eG (P:=λ _=>True) ((REs.cons te (.cons te2 .nil)).plain env) hk ?_;rw[te.star,te2.star];exact spliced_cons (hE te e C F I λ h0 t0 rv k0 r=>spliced_cons (hE te2 e2 (Cx.up C k0) F (I.ext k0) λ h1 tk ru k1 r2=>spliced_nil ⟨trivial,h h1 tk rv ru (k0.trans k1) (r.mono (fL k1)) r2⟩))
end
theorem tP(f:BI):(gB f=="__debug__")=false:=by rcases f with⟨⟩<;>decide
theorem Bo{value i}(t2:TrE sc i b)(h:wpAny (model prog w) A (eval value env) (λ o s₁=>wpAny (model prog w) A (eval i env) (λ i s₂=>SubscriptOn (model prog w) A o i Q E s₂) E s₁) E s) :
  wpAny (model prog w) A (eval (.Subscript value i pos) env) Q E s:=by
 dsimp only [eval_Subscript];refine wB (wpAny_mono h (λ o s₁ h₁=>wB (wpAny_holding (wpAny_mono h₁ (λ iv s₂ h₂=>wB (wpAny_standAt ?_)) λ _ _ x=>x)))
  λ _ _ x=>x)
 refine bB h₂ ?_;intro T id hl hT hg;refine wB ?_;rw[getitemInPython_of_ne hT.not_modules];refine wB (wpAny_specialOf hT hl ?_);have fin:wpAny (model prog w) A (operate [o,iv] (getItem o iv)) (λ r s₃=>wpAny (model prog w) A (letTemporaryGo value o r >>= λ _=>pure r) Q E s₃) E s₂ :=
  wpAny_operating (wpAny_mono hg (λ r s₃ h₃=>wB (wpAny_letTemporaryGo (wP h₃))) λ _ _ x=>x)
 refine wP ?_;rw[t2.nslice];exact wB fin
theorem xZ{value l u st}(h:wpAny (model prog w) A (eval value env) (λ o s₁=>wpAny (model prog w) A (eval (.Slice l u st p) env) (λ i s₂=>SubscriptOn (model prog w) A o i Q E s₂) E s₁) E s) :
  wpAny (model prog w) A (eval (.Subscript value (.Slice l u st p) pos) env) Q E s:=by
 dsimp only [eval_Subscript];refine wB (wpAny_mono h (λ o s₁ h₁=>wB (wpAny_holding (wpAny_mono h₁ (λ iv s₂ h₂=>wB (wpAny_standAt ?_)) λ _ _ x=>x)))
  λ _ _ x=>x)
 refine bB h₂ ?_;intro T id hl hT hg;refine wB ?_;rw[getitemInPython_of_ne hT.not_modules];refine wB (wpAny_specialOf hT hl ?_);have fin:wpAny (model prog w) A (operate [o,iv] (getItem o iv)) (λ r s₃=>wpAny (model prog w) A (letTemporaryGo value o r >>= λ _=>pure r) Q E s₃) E s₂ :=
  wpAny_operating (wpAny_mono hg (λ r s₃ h₃=>wB (wpAny_letTemporaryGo (wP h₃))) λ _ _ x=>x)
 have fin2:wpAny (model prog w) A (operate [iv,o] (getItem o iv)) (λ r s₃=>wpAny (model prog w) A (letTemporaryGo value o r >>= λ _=>pure r) Q E s₃) E s₂ :=
  wpAny_operating (wpAny_mono hg (λ r s₃ h₃=>wB (wpAny_letTemporaryGo (wP h₃))) λ _ _ x=>x)
 rcases st with⟨⟩<;>first
  | exact wP (wB fin)
  | exact wP (wB fin2)
  | exact wB (wP (wB fin))
  | exact wB (wP (wB fin2))
  | exact wB fin
  | exact wB fin2
theorem uT(hE:SE S n){l x}(t:TrP sc l a)(e:ev S.T n a lv σ=some x)(C:CxI S n A s.heap (X) env oc ρ)(F:Fx sc env oc)(I:Inv X env oc ρ s.heap lv σ)(h:PV1 X env oc ρ s x Q):wpAny (model prog w) A (evalPart l env) Q E s:=by
 rcases t with⟨rfl,rfl⟩|⟨e0,rfl,t⟩
 ·clear hE C;cases n with
  | zero=>exact nos e
  | succ n =>
   obtain rfl:=sj e;exact wP (h s.heap s.toks _ (Up.refl _) (.frozen .none))
 ·exact hE t e C F I h
end
end
section
open PySem.SeqAt
section
variable(S:Sys prog w)
noncomputable def SK(n:Nat):Prop:=∀{sc:Scope} {e:Expr} {fr:List Str} {elt:Ex} {gs:List Gn} {lv:LV} {σ:List MObj} {v:PV},TrE sc e (.comp fr elt gs)->ev S.T n (.comp fr elt gs) lv σ=some v ->
 ∀{A:Around} {env:Env} {X:List Addr} {oc:List (Str×Addr)} {ρ:Ro} {s:Shared} {Q E:Value->Shared->Prop},CxI S n A s.heap (X) env oc ρ->Fx sc env oc->Inv X env oc ρ s.heap lv σ ->
  PV1 X env oc ρ s v Q->wpAny (model prog w) A (eval e env) Q E s
theorem yD(h:VRel g (.str x) rv):∃ t,rv=.str x t:=by refine aB h.inv ?_;clear h;rintro _ rfl;exact bM _ rfl
theorem Sg(m:ME):Slot "str" (iF m) (aAd m):=by
 rcases m with⟨⟩
 ·exact F.slot_str_join
 ·exact F.slot_str_lstrip
 ·exact F.slot_str_lower
 ·exact F.slot_str_upper
 ·exact F.slot_str_startswith
 ·exact F.slot_str_endswith
 ·exact F.slot_str_find
theorem Lk:PlainAttrs "str":=F.plainAttrs_str
theorem Sh(m:ME):typeOf (.builtin (aAd m))=pure (.type "method_descriptor"):=by
 rcases m with⟨⟩
 ·exact F.type_str_join
 ·exact F.type_str_lstrip
 ·exact F.type_str_lower
 ·exact F.type_str_upper
 ·exact F.type_str_startswith
 ·exact F.type_str_endswith
 ·exact F.type_str_find
theorem Lm{m x r}(e:jQ m x ys=some r):∃ z,x=.str z:=by
 rcases x with⟨⟩<;>first|exact bM _ rfl|exact nos e|(rcases m with⟨⟩<;>exact nos e)
theorem kK:∀{xs:List Ex} {lv:LV} {σ:List MObj} {vs:List PV},evs T n xs lv σ=some vs->vs.length=xs.length:=by
 induction n with
 | zero=>intro xs lv σ vs e;exact nos e
 | succ n ih =>
  intro xs lv σ vs e;cases xs with
  | nil=>have q:=sj e;clear e;subst q;rfl
  | cons x r =>
   refine aZ e ?_;clear e;intro v e1 e;refine aZ e ?_;clear e;intro us e2 e;obtain rfl:=sj e;exact congrArg (·+1) (ih e2)
theorem tC{s₁ v h₁ tk}(e:s₁={ s with heap:=h₁,toks:=tk })(k:Up (X++aH env oc ρ) s.heap h₁)(h:PV1 X env oc ρ s v Q) :
  VPost (X++aH env oc ρ) s₁ Q v:=by
 subst e;intro h' tk' rv k' r;exact h h' tk' rv (Up.trans k (.of k')) (.frozen r)
theorem Pu{s₁ v h₁ tk}(e:s₁={ s with heap:=h₁,toks:=tk })(k:Up (X++aH env oc ρ) s.heap h₁)(h:PV1 X env oc ρ s v Q) :
  kF (X++aH env oc ρ) s₁ Q v:=by
 subst e;intro h' tk' rv k' r;exact h h' tk' rv (Up.trans k k') (.frozen r)
theorem Cy{h:Heap}{o:Obj}(l:∀ b∈H,∃ o,h.get? b=some o)(hf:o.isFreed=false:=by rfl):(fz (h.push o) H).get? h.objs.size=some o :=
 gW l (bW h) (Heap.get?_push_size (o:=o) h hf)
theorem XRel.nob{v}(r:XRel g ρ v rv)(h:∀ f,v≠.fn f):∀ i,rv≠.builtin i:=by
 intro i z;cases r with
 | mr=>cases z
 | frozen r=>cases r<;>first|exact absurd rfl (h _)|cases z
theorem sL{o u}(h:eM o=some u):o=some u/\∀ f,u≠.fn f:=by
 cases o with
 | none=>exact nos h
 | some w=>rcases w with⟨⟩<;>first|exact nos h|exact aY h λ _ q=>by rw[<- sj h] at q;cases q
set_option tactic.hygienic true in
theorem Xf{a v}(e:ev T (n+1) (.at o a) lv σ=some v) :
  ∃ i Ci attrs b,ev T n o lv σ=some (.mref i)/\σ[i]? = some (.inst Ci attrs)/\(T.plain Ci a=true/\b=a∨8≤n/\T.prop Ci a=some b)/\attrs.lookup b=some v/\∀ f,v≠.fn f:=by
 refine aZ e ?_;intro x e1 e2;rcases x with⟨⟩<;>first|exact nos e2|skip
 rename_i i;dsimp only at e2;generalize hi:σ[i]? = r at e2;cases r with
 | none=>exact nos e2
 | some o =>
  rcases o with⟨⟩<;>first|exact nos e2|skip
  rename_i Ci attrs;by_cases hp:T.plain Ci a=true
  ·refine aK (sL ((if_pos hp).symm.trans e2)) λ h1 h2=>?_;exact jD i Ci attrs a e1 hi (.inl ⟨hp,rfl⟩) (aY h1 h2)
  ·refine aK (bC ((if_neg hp).symm.trans e2)) λ h8 e2=>?_;refine aK (sL e2) λ h1 h2=>?_;refine aZ h1 ?_;intro b hb h1;exact jD i Ci attrs b e1 hi (.inr ⟨h8,hb⟩) (aY h1 h2)
set_option tactic.hygienic true in
theorem aAQ(hE:∀ k≤n,SE S k)(hEs:SEs S n)(hB:SB S n)(hC:SC S n)(hK:SK S (n+1)):SE S (n+1):=by
 intro sc e x lv σ v tr ev' A env X oc ρ s Q E C F I h;have hE':SE S n:=@hE n (Nat.le_refl _);have L:∀{h':Heap},Up (X++aH env oc ρ) s.heap h'->∀ b∈X++aH env oc ρ,∃ o,h'.get? b=some o:=λ k b hb=>k.live (I.live b hb);have tr0:=tr.raw;clear tr;induction tr0 using RE.casesOn with
 | int =>
  obtain rfl:=sj ev';exact wpAny_Constant_int (h s.heap _ _ (Up.refl _) (.frozen (.int _ _)))
 | str =>
  obtain rfl:=sj ev';exact wpAny_Constant_str (h s.heap _ _ (Up.refl _) (.frozen (.str _ _)))
 | none =>
  obtain rfl:=sj ev';exact wpAny_Constant_none (h s.heap s.toks _ (Up.refl _) (.frozen .none))
 | bool =>
  obtain rfl:=sj ev';exact wpAny_Constant_bool (h s.heap s.toks _ (Up.refl _) (.frozen (.bool _)))
 | v hv hd hc =>
  exact wpAny_Name (cS hv hc ev' F I λ rv r=>h s.heap s.toks rv (Up.refl _) r) hd
 | glob hg hx =>
  subst hx;obtain rfl:=sj ev';exact bR S hg S.intOk (by decide) C F (h s.heap s.toks _ (Up.refl _) (.frozen (.fn _)))
 | globb hg hx =>
  subst hx;obtain rfl:=sj ev';exact bR S hg S.boolOk (by decide) C F (h s.heap s.toks _ (Up.refl _) (.frozen (.fn _)))
 | globs hg hx =>
  subst hx;obtain rfl:=sj ev';exact bR S hg S.strOk (by decide) C F (h s.heap s.toks _ (Up.refl _) (.frozen (.fn _)))
 | bin t1 t2 =>
  refine aZ ev' ?_;clear ev';intro x e1 ev';refine aZ ev' ?_;clear ev';intro y e2 ev';refine aZ ev' ?_;clear ev';intro x' e3 ev';refine aZ ev' ?_;clear ev';intro y' e4 e5;refine wpAny_BinOp (vD S hE' t1 t2 e1 e2 C.down F I λ h1 tk rv ru k1 r1 r2=>?_);have I1:=I.ext k1;exact vU aP (L k1) (λ _ _ e=>e) (r1.deref I1 e3) (r2.deref I1 e4) e5 (tC rfl k1 h)
 | neg t1 =>
  refine aZ ev' ?_;clear ev';intro x e1 e2;rcases x with⟨⟩<;>first|exact nos e2|skip
  rename_i i;obtain rfl:=sj e2;refine wpAny_UnaryOp (hE' t1 e1 C.down F I λ h1 tk rv k1 r1=>?_);refine aB r1.inv ?_;clear r1;rintro t rfl;exact neg_int (h h1 _ _ k1 (.frozen (.int _ _)))
 | not t1 =>
  refine aZ ev' ?_;clear ev';intro x e1 ev';refine aZ ev' ?_;clear ev';intro x' e2 ev';refine aZ ev' ?_;clear ev';intro b e3 ev';obtain rfl:=sj ev';refine wpAny_UnaryOp (hE' t1 e1 C.down F I λ h1 tk rv k1 r1=>not_of ?_);exact iJ aP (r1.deref (I.ext k1) e2) e3 λ tk=>h h1 tk _ k1 (.frozen (.bool _))
 | bop t =>
  rw[show eval (.BoolOp _ _ _) env=boolOp _ _ (evalEach _ env) from rfl];exact hB t ev' C.down F I h
 | cmp t1 t2 =>
  refine aZ ev' ?_;clear ev';intro x e1 ev';refine aZ ev' ?_;clear ev';intro y e2 ev';refine aZ ev' ?_;clear ev';intro c e5 ev';obtain rfl:=sj ev';refine wpAny_Compare1 (vD S hE' t1 t2 e1 e2 C.down F I λ h1 tk rv ru k1 r1 r2=>?_) (t2.nmark _);exact pB (s:={ s with heap:=h1,toks:=tk }) C.room (I.ext k1) r1 r2 e5 (h h1 tk _ k1 (.frozen (.bool _)))
 | call hg hd ts =>
  refine aZ ev' ?_;clear ev';intro vs e1 ev';refine aZ ev' ?_;clear ev';intro us e2 e3;refine aE (hC.1 e3) λ a ha hfd=>?_;refine wpAny_Call_NameR (bR S hg ha hd C F ?_);refine eG (P:=λ h=>∃ o fd,h.get? a=some o/\o.data=.func fd) (ts.plain env) gY (hEs ts e1 C.down F I λ h1 tk rvs k1 r1=>?_);have C1:=Cx.up C.down k1;refine eX (hfd _ C1.base) λ o fd ho hd=>?_;exact aY ⟨o,fd,aP _ _ ho,hd⟩ (hC.2 e3 ha (CxI.out C1) (L k1) (r1.fzvs e2) (Pu rfl k1 h))
 | ext hg hd ts =>
  ·refine aK (bC ev') λ hn ev'=>?_;refine aZ ev' ?_;clear ev';intro vs e1 ev';refine aZ ev' ?_;clear ev';intro us e2 e3;refine fQ (S.extOk e3) λ a ha hfd hcall=>?_;refine wpAny_Call_NameR (bR S hg ha hd C F ?_);refine eG (P:=λ h=>∃ o fd,h.get? a=some o/\o.data=.func fd) (ts.plain env) gY (hEs ts e1 C.down F I λ h1 tk rvs k1 r1=>?_);have C1:=Cx.up C.down k1;refine eX (hfd _ C1.base) λ o fd ho hd=>?_;exact aY ⟨o,fd,aP _ _ ho,hd⟩ (hcall (CxI.out (C1.le hn)) (L k1) (r1.fzvs e2) (Pu rfl k1 h))
 | @bi f _ _ _ _ hf hf2 hg t =>
  refine aZ ev' ?_;clear ev';intro x e1 ev';refine aZ ev' ?_;clear ev';intro x' e2 e3;refine kX S hE' hg (S.biOk f) (tP f) (by rcases f with⟨⟩<;>first|exact cH|exact eC) t e1 C.down F I λ h1 tk rv k1 r1=>?_
  exact Iq hf hf2 C.hd (L k1) aP (λ _ _ e=>e) (r1.deref (I.ext k1) e2) e3 (tC rfl k1 h)
 | isstr hg1 hg2 t =>
  refine aZ ev' ?_;clear ev';intro x e1 ev';refine aZ ev' ?_;clear ev';intro x' e2 e3;obtain⟨z,rfl,rfl⟩:∃ z,x'=.str z/\v=.bool true:=by
   rcases x' with⟨⟩<;>first|exact nos e3|exact bK _ rfl ((sj e3).symm)
  refine wpAny_Call_NameR (bR S hg1 (S.biOk .isstr) (by decide) C F ?_)
  refine eG (P:=λ _=>True) (by rw[t.star];rfl) cH ?_
  rw[t.star];refine spliced_cons (hE' t e1 C.down F I λ h1 tk rv k1 r1=>?_);show wpAny _ _ (spliced [(false,_)]) _ _ _;refine spliced_cons (bR S hg2 S.strOk (by decide) (Cx.up C k1) F ?_)
  refine spliced_nil ⟨trivial,?_⟩;have rz:VRel (GG X env oc ρ h1) (.str z) rv:=(r1.deref (I.ext k1) e2).v (λ _ q=>by cases q)
  refine aB (yD rz) ?_;clear r1 rz;rintro t' rfl;exact IsiPair.str_str (h h1 tk _ k1 (.frozen (.bool _)))
 | deq hg =>
  obtain rfl:=sj ev';refine wpAny_Call_NameR (bR S hg S.deqOk (by decide) C F ?_)
  refine eG (P:=λ _=>True) rfl eC (spliced_nil ⟨trivial,?_⟩);refine zH λ h' k e=>h h' s.toks _ (.of k) (.frozen (.obj (gW (λ b hb=>I.live b hb) (bW _) e) rfl (λ ov q=>by cases q) (λ _=>⟨_,rfl,rfl⟩)))
 | @attr o _ _ _ t hb =>
  refine gS (Xf ev') λ i Ci attrs b e1 hi' hb' y1=>aK y1 λ e2 nf=>?_;rw[arm_eval_Attribute,hb];refine wB (hE' t e1 C.down F I λ h1 tk rv k1 r1=>?_);have I1:=I.ext k1;have C1:=Cx.up C k1;refine aE r1.mref ?_;clear r1;rintro pp hp rfl;refine aE (I1.chg.get hp) λ ob ho m=>?_;obtain rfl:=sj (hi'.symm.trans ho);refine rT m ?_;clear m;intro d mm _ hx hn hm _;refine aE (hm b v e2) λ rw' q1 q2=>?_;have fin:∀(h':Heap) (tk:Nat),h1.StaysIn h'->wpAny (model prog w) A (letTemporaryGo o (.ref pp.1) rw' >>= λ _=>pure rw') Q E { s with heap:=h',toks:=tk } :=
   λ h' tk k=>wB (wpAny_letTemporaryGo (wP (h h' tk rw' (k1.trans (.of k)) (q2.mono (iB k)))))
  refine wB (wpAny_standAt (wB (wpAny_holding ?_)));exact hb'.elim (λ z=>S.plainGet z.1 C1.base aP hx hn.ns (z.2▸q1) (q2.nob nf) λ tk=>fin h1 tk (aQ _)) λ z=>S.propGet z.2 C1.base (C1.down.le z.1) aP hx hn.ns q1 (q2.nob nf) λ h' tk k=>fin h' tk k
 | sortset hg1 hg2 t =>
  refine aZ ev' ?_;clear ev';intro x e1 ev';refine aZ ev' ?_;clear ev';intro x' e2 e3;rcases x' with⟨⟩<;>exact nos e3
 | @me m _ _ _ _ _ _ t ts hb hp hl =>
  refine aZ ev' ?_;clear ev';intro x e1 ev';refine aZ ev' ?_;clear ev';intro x' e2 ev';refine aZ ev' ?_;clear ev';intro vs e3 ev';refine aZ ev' ?_;clear ev';intro us e4 e5;refine aB (Lm e5) ?_;rintro z rfl;refine wpAny_Call_method (hb _ _) ?_ hp Lk (Sg m) (Sh m) (hE' t e1 C.down F I λ h1 tk rv k1 r1=>?_)
  ·rw[ts.allp env];simp only[backToKw,show keywordEach [] env=[] from rfl,List.length_nil,List.isEmpty_nil,if_true,Bool.true_and,decide_eq_true_eq]
   first|omega|(simp;exact ll1 ‹_› (by rfl))
  ·have ra:=r1.deref (I.ext k1) e2;have rz:VRel (GG X env oc ρ h1) (.str z) rv:=ra.v (λ _ q=>by cases q)
   refine aB (yD rz) ?_;clear r1 ra;rintro t' rfl;refine fP (typeIs_str _ _ _) (λ a q=>(by cases q)) ?_
   refine eG (P:=λ _=>True) (ts.plain env) cH (hEs ts e3 (Cx.up C.down k1) F (I.ext k1) λ h2 tk2 rvs k2 r2=>⟨trivial,?_⟩);exact Ll aP (rz.mono (fL k2)) (r2.fzvs e4) e5 (tC (s:=s) rfl (Up.trans k1 k2) h)
 | orc hg hd t hp =>
  refine aZ ev' ?_;clear ev';intro x e1 ev';refine aZ ev' ?_;clear ev';intro x' e2 e3;refine Uw (S.orcOk e3) λ a Ty id ha hpa hsl hty y2=>aK y2 λ hob hcall=>?_;refine wpAny_Call_method (T:=Ty) (id:=id) rfl ?_ hp hpa hsl hty (bR S hg ha hd C F ?_)
  ·rw[(REs.cons t .nil).allp env];rfl
  ·refine fQ (hob _ C.base) λ ob ho hc hdn=>?_;refine fP ⟨ob,aP _ _ ho,hc⟩ (λ a' q=>(by rcases q with⟨⟩;exact bK ob (aP _ _ ho) hdn)) ?_
   refine eG (P:=λ _=>True) ((REs.cons t .nil).plain env) cH ?_;rw[t.star];refine spliced_cons (hE' t e1 C.down F I λ h1 tk rv k1 r1=>?_);refine spliced_nil ⟨trivial,?_⟩;exact hcall (CxI.out ((Cx.up C.down k1).le (Nat.zero_le _))) (L k1) (r1.fzv e2) (tC rfl k1 h)
 | sub t1 t2 =>
  refine aZ ev' ?_;clear ev';intro x e1 ev';refine aZ ev' ?_;clear ev';intro y e2 ev';refine aZ ev' ?_;clear ev';intro x' e3 e4;refine Bo t2 (vD S hE' t1 t2 e1 e2 C.down F I λ h1 tk rv ru k1 r1 r2=>?_);have I1:=I.ext k1;have r2':VRel (GG X env oc ρ h1) y ru:=by
   clear e2;cases r2 with
   | frozen r2=>exact r2
   | mr=>rcases x' with⟨⟩<;>exact nos e4
  exact Gu aP (λ _ _ e=>e) (r1.deref I1 e3) r2' e4 (tC rfl k1 h)
 | sl t1 t2 t3 t4 =>
  refine aZ ev' ?_;clear ev';intro x e1 ev';refine aZ ev' ?_;clear ev';intro a e2 ev';refine aZ ev' ?_;clear ev';intro b e3 ev';refine aZ ev' ?_;clear ev';intro c e4 ev';refine aZ ev' ?_;clear ev';intro x' e5 e6;have fr:∀{x:PV} {rv:Value} {g:Heap} {o:Option Int},XRel g ρ x rv->bP x=some o->VRel g x rv:=by
   intro x rv g o r q;cases r with
   | frozen r=>exact r
   | mr=>exact nos q
  have pr:∃ o1 o2 o3,bP a=some o1/\bP b=some o2/\bP c=some o3:=by
   rcases x' with⟨⟩<;>first|exact nos e6|skip
   ·rcases c with⟨⟩<;>first|exact nos e6|skip
    refine bB (Nf e6) λ _ _ h1 h2 _=>?_;exact rS _ _ _ h1 h2 rfl
   ·refine rC (Ng (f:=λ lo hi st=>if st≠some 0/\_ then some (.list (eE _ lo hi st)) else none) e6) λ _ _ _ h1 h2 h3 _=>?_
    exact rS _ _ _ h1 h2 h3
  refine bQ pr ?_;clear pr;intro o1 o2 o3 q1 q2 q3;refine xZ (hE' t1 e1 C.down F I λ h1 tk1 rv k1 r1=>?_);refine wpAny_Slice (uT S hE' t2 e2 (Cx.up C.down k1) F (I.ext k1) λ h2 tk2 ra k2 r2=>?_);refine uT S hE' t3 e3 (Cx.up C.down (Up.trans k1 k2)) F (I.ext (Up.trans k1 k2)) λ h3 tk3 rb k3 r3=>?_;have k13:=Up.trans (Up.trans k1 k2) k3;refine uT S hE' t4 e4 (Cx.up C.down k13) F (I.ext k13) λ h4 tk4 rc k4 r4=>?_;have k5:=Up.of (H:=X++aH env oc ρ) (aS h4 { cls:=.type "slice",data:=.fields #[ra,rb,rc] });have k14:=Up.trans k13 k4;refine Ol (g:=GG X env oc ρ (h4.push { cls:=.type "slice",data:=.fields #[ra,rb,rc] })) (H:=X++aH env oc ρ) (L (Up.trans k14 k5)) aP (λ _ _ e=>e) ?_ ?_ ?_ ?_ (Heap.IsSliceOf.new h4 ra rb rc) e6 (tC (s:=s) rfl (Up.trans k14 k5) h)
  ·exact(r1.mono (fL (Up.trans (Up.trans (Up.trans k2 k3) k4) k5))).deref (I.ext (Up.trans k14 k5)) e5
  ·exact(fr r2 q1).mono (fL (Up.trans (Up.trans k3 k4) k5))
  ·exact(fr r3 q2).mono (fL (Up.trans k4 k5))
  ·exact(fr r4 q3).mono (fL k5)
 | list ts hl =>
  refine aZ ev' ?_;clear ev';intro vs e1 ev';refine aZ ev' ?_;clear ev';intro us e2 ev';obtain rfl:=sj ev';refine wpAny_List_spliced (hEs ts e1 C.down F I λ h1 tk rvs k1 r1=>?_);have ln:rvs.length<1000:=by rw[r1.length,kK e1];exact hl
  refine aY (by show rvs.length≤2 ^ 24;exact ll2 ‹_› (by rfl)) ?_
  have k2:=Up.of (H:=X++aH env oc ρ) (aS h1 { cls:=.type "list",data:=.seq rvs.toArray });exact h _ tk _ (Up.trans k1 k2) (.frozen (.list (Cy (L k1)) ((r1.fzvs e2).mono (fL k2))))
 | tuple ts hl =>
  refine aZ ev' ?_;clear ev';intro vs e1 ev';refine aZ ev' ?_;clear ev';intro us e2 ev';obtain rfl:=sj ev';refine wpAny_Tuple_spliced (hEs ts e1 C.down F I λ h1 tk rvs k1 r1=>?_);have ln:rvs.length<1000:=by rw[r1.length,kK e1];exact hl
  refine aY (by show rvs.length≤2 ^ 24;exact ll2 ‹_› (by rfl)) ?_
  have k2:=Up.of (H:=X++aH env oc ρ) (aS h1 { cls:=.type "tuple",data:=.seq rvs.toArray });exact h _ tk _ (Up.trans k1 k2) (.frozen (.tuple (Cy (L k1)) ((r1.fzvs e2).mono (fL k2))))
 | comp a b c d e f g i j k =>
  exact hK (.comp a b c d e f g i j k) ev' C F I h
end
end
section
open PySem.SeqAt
theorem VRel.monoC(k:∀ b o,g.get? b=some o->(∀ ov,o.data≠.cell ov)->g'.get? b=some o){x v}(h:VRel g x v):VRel g' x v :=
 VRel.rec (motive_1:=λ x v _=>VRel g' x v) (motive_2:=λ xs vs _=>VRels g' xs vs) .none .bool .int .str (λ e _ i=>.list (k _ _ e λ _ q=>by cases q) i) (λ e _ i=>.tuple (k _ _ e λ _ q=>by cases q) i) .fn (λ e c d z=>.obj (k _ _ e d) c d z) .nil (λ _ _ a b=>.cons a b) h
theorem VRels.monoC(k:∀ b o,g.get? b=some o->(∀ ov,o.data≠.cell ov)->g'.get? b=some o)(h:VRels g xs vs):VRels g' xs vs :=
 VRels.ind .nil (λ a _ b=>.cons (a.monoC k) b) h
theorem Inv.weak{h}(k:∀ x v,lv.lookup x=some v->lv'.lookup x=some v)(I:Inv X env oc ρ h lv' σ):Inv X env oc ρ h lv σ where
 ns:=I.ns.imp λ m q=>⟨q.1,λ x v e=>q.2 x v (k x v e)⟩
 cell:=λ x c e=>(I.cell x c e).imp λ ov q=>⟨q.1,λ v e=>q.2 v (k x v e)⟩
 free:=λ x v e=>I.free x v (k x v e)
 oce:=I.oce
 chg:=I.chg
 nd:=I.nd
 live:=I.live
 off:=I.off
 ocn:=I.ocn
theorem Jt(h:env.scope.kind=.function):(env.scope.kind==.class||(env.scope.kind==.module&&env.locals != env.globals))=false:=by rw[h];rfl
section
theorem bJ{v Q}(hv:dJ sc x)(F:Fx sc env oc)(I:Inv X env oc ρ s.heap lv σ)(r:XRel (GG X env oc ρ s.heap) ρ v rv)(h:∀ h' tk,Inv X env oc ρ h' ((x,v)::lv) σ->(∀ b o,b∉aH env oc []->s.heap.get? b=some o->h'.get? b=some o)->Q () { s with heap:=h',toks:=tk }):wpAny (model prog w) A (storeName env x rv) Q E s:=by
 refine hv.elim (λ hv=>?_) λ hv=>?_
 ·refine aE I.ns λ m hn hm=>?_;exact wpAny_storeName_local (F.loc x hv) hn (λ h' hn' hs'=>h h' _ (I.setLocal (F.loc x hv) hn r hn' hs') λ b o nb e=>hs'.extBut b o (λ q=>nb (q▸.head _)) e) (Jt F.kind)
 ·refine aB (F.own x hv) λ c hc=>?_;refine aK (I.oce x c hc) λ a b=>?_;refine aE (I.cell x c hc) λ ov p _=>?_;exact wpAny_storeName_cell F.kind b a p λ h' hc' hs'=>h h' _ (I.setCell hc r hc' hs') λ b o nb e=>hs'.extBut b o (λ q=>nb (q▸gP hc)) e
theorem aW{b}(h:b∈aH env oc []):b∈aH env oc ρ:=by
 unfold aH at *;refine mc2 h (λ h=>?_) λ h=>?_
 ·exact h▸.head _
 ·refine bN h (λ h=>?_) λ h=>?_
  ·exact .tail _ (mL h)
  ·exact absurd h (by simp[Ro.all])
theorem vZ{h}(I:Inv X env oc ρ h lv σ)(hc:c∈oc.map (·.2)):∃ ov,h.IsCell c ov:=by
 refine aE (List.mem_map.mp hc) ?_;clear hc;rintro⟨x,d⟩ hm rfl;have lk:∀{l:List (Str×Addr)},(l.map (·.1)).Nodup->(x,d)∈l->l.lookup x=some d:=by
  intro l;induction l with
  | nil=>intro _ h;cases h
  | cons p r ih =>
   intro n h;obtain⟨k,v⟩:=p;rw[List.map_cons,List.nodup_cons] at n;dsimp only [List.lookup_cons];refine mc2 h (λ h=>?_) λ h=>?_
   ·cases h;simp
   ·have:(x==k)=false:=by
     cases q:x==k with
     | false=>rfl
     | true=>exact absurd (List.mem_map.mpr ⟨_,h,eq_of_beq q⟩) n.1
    rw[this];exact ih n.2 h
 refine aE (I.cell x d (lk I.ocn hm)) λ ov a _=>?_;exact bM ov a
structure Feed(prog:Program)(w:World)(A:Around)(g:Heap)(I:Addr)(items:List PV)(fp:List Addr)(P:Nat->Value->Prop)(St:Nat->Heap->Prop):Prop where
 W:Walks prog w A I fp [I] items.length P St
 rel:∀ i v,P i v->∃ x,items[i]? = some x/\VRel g x v
 fpIn:∀ b∈fp,b=I∨∃ o,g.get? b=some o/\∀ ov,o.data≠.cell ov
 live:∀ i h,St i h->∃ o,h.get? I=some o/\cN o=false
theorem Feed.keep{h I P}(f:Feed prog w A g I items fp P St)(e:∀ o,h.get? I=some o->h'.get? I=some o)(k:∀ b o,g.get? b=some o->(∀ ov,o.data≠.cell ov)->h.get? b=some o->h'.get? b=some o)(gh:∀ b o,g.get? b=some o->h.get? b=some o)(st:St i h):St i h' :=
 f.W.frame i h h' st λ b hb o eo=>by
  rcases f.fpIn b hb with q|⟨o',q,d⟩
  ·subst q;exact e o eo
  ·have:=gh b o' q;rw[eo] at this;have q:=sj this;clear this;subst q;exact k b _ q d eo
structure UpB(N H:List Addr)(h h':Heap):Prop where
 out:∀ b o,b∉N->b∉H->h.get? b=some o->h'.get? b=some o
 nd:∀ b o,b∉N->cN o=false->h.get? b=some o->h'.get? b=some o
 sl:∀ b o,b∉N->h.get? b=some o->∃ s,h'.get? b=some { o with slots:=s }
theorem UpB.refl(h:Heap):UpB N H h h:=⟨λ _ _ _ _ e=>e,λ _ _ _ _ e=>e,λ _ o _ e=>⟨o.slots,e⟩⟩
theorem UpB.trans{a b c}(x:UpB N H a b)(y:UpB N H b c):UpB N H a c :=
 ⟨λ p o n m e=>y.out p o n m (x.out p o n m e),λ p o n m e=>y.nd p o n m (x.nd p o n m e),λ p o n e=>let⟨_,e1⟩:=x.sl p o n e;let⟨s,e2⟩:=y.sl p _ n e1;⟨s,e2⟩⟩
theorem UpB.of{h}(k:Up H h h'):UpB N H h h':=⟨λ b o _ m e=>k.out b o m e,λ b o _ d e=>k.nd b o d e,λ b o _ e=>k.sl b o e⟩
theorem UpB.only{N':List Addr}{h:Heap}(k:∀ b o,b∉N'->h.get? b=some o->h'.get? b=some o)(s:∀ b∈N',b∈N):UpB N H h h' :=
 ⟨λ b o n _ e=>k b o (λ q=>n (s b q)) e,λ b o n _ e=>k b o (λ q=>n (s b q)) e,λ b o n e=>⟨o.slots,k b o (λ q=>n (s b q)) e⟩⟩
theorem UpB.after{N₂ H₂ h₃ h₅ h₆}(k1:Up H h₃ h₅)(k2:UpB N₂ H₂ h₅ h₆)(hN:∀ b∈N₂,b∈N∨h₃.get? b=none)(hH:∀ b∈H₂,b∈H∨h₃.get? b=none):UpB N H h₃ h₆ :=
 have no:∀{b o},b∉N->h₃.get? b=some o->b∉N₂:=λ n e q=>(hN _ q).elim n λ z=>by rw[z] at e;exact nos e
 ⟨λ b o n m e=>k2.out b o (no n e) (λ q=>(hH b q).elim m λ z=>by rw[z] at e;exact nos e) (k1.out b o m e),λ b o n d e=>k2.nd b o (no n e) d (k1.nd b o d e),
  λ b o n e=>let⟨_,e1⟩:=k1.sl b o e;let⟨s,e2⟩:=k2.sl b _ (no n e) e1;⟨s,e2⟩⟩
theorem UpB.toUp{h}(k:UpB [] H h h'):Up H h h':=⟨λ b o m e=>k.out b o (by simp) m e,λ b o d e=>k.nd b o (by simp) d e,λ b o e=>k.sl b o (by simp) e⟩
theorem Feed.up{h I P}(f:Feed prog w A g I items fp P St)(gk:g.StaysIn (fz h H))(u:Up H h h')(st:St i h):St i h' :=
 f.W.frame i h h' st λ b hb o e=>by
  rcases f.fpIn b hb with q|⟨o',q,_⟩
  ·refine aE (f.live i h st) λ o2 e2 d=>?_;clear f;subst q;rw[e] at e2;have q:=sj e2;clear e2;subst q;exact u.nd b o d e
  ·have:=dT (gk _ _ q);exact u.out b o this.2 e
theorem yH:∀{es:List Expr} {s:Shared} {Q:Bool->Shared->Prop} {E:Value->Shared->Prop},Q false s ->
  wpAny (model prog w) A (forIn es false λ c r=>if r=true then do let ok <- isTrue c env (eval c env);pure (ForInStep.yield ok) else pure (ForInStep.yield r)) Q E s:=by
 intro l9;induction l9 with
 | nil =>
  intro s Q E h;dsimp only [List.forIn_nil];exact wP h
 | cons c r ih =>
  intro s Q E h;rw[List.forIn_cons];refine wB ?_;rw[if_neg (by decide)]
  exact wP (ih h)
theorem yI{S:Sys prog w}:∀{n:Nat},(∀ k≤n,ST S k)->∀{sc:Scope} {es:List Expr} {xs:List Ex} {lv:LV} {σ:List MObj} {b:Bool},cM sc es xs->dM S.T n .And xs lv σ=some b ->
  ∀{env:Env} {X:List Addr} {oc:List (Str×Addr)} {ρ:Ro} {s:Shared} {Q:Bool->Shared->Prop} {E:Value->Shared->Prop},CxI S n A s.heap (X) env oc ρ->Fx sc env oc->Inv X env oc ρ s.heap lv σ->PB (X++aH env oc ρ) s b Q ->
  wpAny (model prog w) A (forIn es true λ c r=>if r=true then do let ok <- isTrue c env (eval c env);pure (ForInStep.yield ok) else pure (ForInStep.yield r)) Q E s:=by
 intro n;induction n with
 | zero=>intro _ _ _ _ _ _ _ _ e;exact nos e
 | succ n ih =>
  intro hT sc es xs lv σ b t e env X oc ρ s Q E C F I h;cases xs with
  | nil =>
   obtain rfl:es=[]:=t;obtain rfl:=sj e;dsimp only [List.forIn_nil];exact wP (h _ _ (Up.refl _))
  | cons x xs =>
   refine bB t.inv ?_;clear t;rintro _ _ rfl t r;refine aZ e ?_;clear e;intro b' e1 e2;rw[List.forIn_cons];refine wB ?_;rw[if_pos rfl];refine wB (hT n (Nat.le_succ _) t e1 C.down F I λ h1 t1 k1=>wP ?_);clear e1;cases b' with
   | false=>have q:=sj e2;clear e2;subst q;exact yH (h h1 t1 k1)
   | true=>exact ih (λ k hk=>hT k (Nat.le_succ_of_le hk)) r e2 (Cx.up C.down k1) F (I.ext k1) λ h2 t2 k2=>h h2 t2 (Up.trans k1 k2)
noncomputable abbrev iI(ifs:List Expr)(env:Env):Sem Bool:=forIn ifs true λ c r=>if r=true then do let ok <- isTrue c env (eval c env);pure (ForInStep.yield ok) else pure (ForInStep.yield r)
theorem rF{acc}(hg:gens[d]? = some ⟨t,iter,ifs,0⟩)(hn:gens[d+1]? = none) :
  compTurn (.ListComp elt gens scope pos) d it acc env=(do
   standAt iter.pos
   match <- pyNext it with
   | none=>pure (.done .next)
   | some v =>
    letOwnedTupleGo t it v
    assign t env v
    let ok <- iI ifs env
    if ok=true then do
     let x <- eval elt env
     let _ <- call (.builtin "list.append") [acc,x]
     again (.compLoop (.ListComp elt gens scope pos) d it acc env)
    else again (.compLoop (.ListComp elt gens scope pos) d it acc env)):=by
 dsimp only [compTurn];simp only[hg,hn];simp only[bind_assoc,pure_bind]
 rfl
theorem rG{acc t' iter' ifs'}(hg:gens[d]? = some ⟨t,iter,ifs,0⟩)(hn:gens[d+1]? = some ⟨t',iter',ifs',0⟩) :
  compTurn (.ListComp elt gens scope pos) d it acc env=(do
   standAt iter.pos
   match <- pyNext it with
   | none=>pure (.done .next)
   | some v =>
    letOwnedTupleGo t it v
    assign t env v
    let ok <- iI ifs env
    if ok=true then do
     let x <- eval iter' env
     standAt iter'.pos
     let x <- foldedSetIterable iter' env x
     let i <- holding [x] (pyIter x)
     let _ <- runOwn (.compStart (.ListComp elt gens scope pos) (d+1) i acc env) env
     again (.compLoop (.ListComp elt gens scope pos) d it acc env)
    else again (.compLoop (.ListComp elt gens scope pos) d it acc env)):=by
 dsimp only [compTurn];simp only[hg,hn]
 rfl
theorem eS{acc}(hg:gens[d]? = some ⟨t,iter,ifs,0⟩)(hn:gens[d+1]? = none)(ht:∀ v,letOwnedTupleGo t it v=pure ())(I:Nat->Shared->Prop)(turn:∀ n s (E':Value->Shared->Prop),I n s->wpAny (model prog w) A (pyNext it) (λ r s₁=>match r with
   | none=>R (.ok .next) s₁
   | some v=>wpAny (model prog w) A (assign t env v) (λ _ s₂ =>
     wpAny (model prog w) A (iI ifs env) (λ ok s₃ =>
      if ok=true then wpAny (model prog w) A (eval elt env) (λ x s₄=>wpAny (model prog w) A (call (.builtin "list.append") [acc,x]) (λ _ s₅=>∃ m,m<n/\I m s₅) E' s₄) E' s₃
      else ∃ m,m<n/\I m s₃) E' s₂) E' s₁) E' s)(n:Nat)(h:I n s) :
  codeAny (model prog w) A (.compLoop (.ListComp elt gens scope pos) d it acc env) R s:=by
 refine codeAny_loop rfl I (λ n s hI=>?_) n h;show wpAny _ A ((compTurn (.ListComp elt gens scope pos) d it acc env).onRaise (λ x=>do noteFrame x env;theTreesLotGoes x)) _ _ s
 refine wpAny_noted ?_;rw[rF hg hn];refine wB (wpAny_standAt (wB (wpAny_mono (turn n s _ hI) (λ r s₁ h₁=>?_) λ _ _ h'=>h')));cases r with
 | none=>exact wP h₁
 | some v =>
  refine wB (wpAny_of_eq (ht v) ?_);refine wB (wpAny_mono h₁ (λ _ s₂ h₂=>wB (wpAny_mono h₂ (λ ok s₃ h₃=>?_) λ _ _ h'=>h')) λ _ _ h'=>h');cases ok with
  | false=>exact wP ⟨rfl,h₃⟩
  | true=>exact wB (wpAny_mono h₃ (λ _ s₄ h₄=>wB (wpAny_mono h₄ (λ _ s₅ h₅=>wP ⟨rfl,h₅⟩) λ _ _ h'=>h')) λ _ _ h'=>h')
theorem iN{acc t' iter' ifs'}(hg:gens[d]? = some ⟨t,iter,ifs,0⟩)(hn:gens[d+1]? = some ⟨t',iter',ifs',0⟩)(ht:∀ v,letOwnedTupleGo t it v=pure ())(hs:∀ x,foldedSetIterable iter' env x=pure x)(I:Nat->Shared->Prop)(turn:∀ n s (E':Value->Shared->Prop),I n s->wpAny (model prog w) A (pyNext it) (λ r s₁=>match r with
   | none=>R (.ok .next) s₁
   | some v=>wpAny (model prog w) A (assign t env v) (λ _ s₂ =>
     wpAny (model prog w) A (iI ifs env) (λ ok s₃ =>
      if ok=true then wpAny (model prog w) A (eval iter' env) (λ x s₄=>wpAny (model prog w) A (pyIter x) (λ i s₅ =>
       codeAny (model prog w) A (.compStart (.ListComp elt gens scope pos) (d+1) i acc env) (λ r s'=>r=.ok .next/\∃ m,m<n/\I m s') s₅) E' s₄) E' s₃
      else ∃ m,m<n/\I m s₃) E' s₂) E' s₁) E' s)(n:Nat)(h:I n s) :
  codeAny (model prog w) A (.compLoop (.ListComp elt gens scope pos) d it acc env) R s:=by
 refine codeAny_loop rfl I (λ n s hI=>?_) n h;show wpAny _ A ((compTurn (.ListComp elt gens scope pos) d it acc env).onRaise (λ x=>do noteFrame x env;theTreesLotGoes x)) _ _ s
 refine wpAny_noted ?_;rw[rG hg hn];refine wB (wpAny_standAt (wB (wpAny_mono (turn n s _ hI) (λ r s₁ h₁=>?_) λ _ _ h'=>h')));cases r with
 | none=>exact wP h₁
 | some v =>
  refine wB (wpAny_of_eq (ht v) ?_);refine wB (wpAny_mono h₁ (λ _ s₂ h₂=>wB (wpAny_mono h₂ (λ ok s₃ h₃=>?_) λ _ _ h'=>h')) λ _ _ h'=>h');cases ok with
  | false=>exact wP ⟨rfl,h₃⟩
  | true =>
   refine wB (wpAny_mono h₃ (λ x s₄ h₄=>wB (wpAny_standAt (wB (wpAny_of_eq (hs x) (wB (wpAny_holding (wpAny_mono h₄ (λ i s₅ h₅=>wB (wpAny_runOwn ?_)) λ _ _ h'=>h'))))))) λ _ _ h'=>h');refine codeAny_mono h₅ λ r s' hr=>?_;refine aK hr ?_;clear hr;rintro rfl hr;exact wP ⟨rfl,hr⟩
theorem dL{acc}(hg:gens[d]? = some ⟨t,iter,ifs,0⟩)(h0:codeAny (model prog w) A (.compLoop (.ListComp elt gens scope pos) d it acc env) R s)(h:∀ E',wpAny (model prog w) A (pyIter it) (λ it' s'=>codeAny (model prog w) A (.compLoop (.ListComp elt gens scope pos) d it' acc env) R s') E' s) :
  codeAny (model prog w) A (.compStart (.ListComp elt gens scope pos) d it acc env) R s:=by
 refine codeAny_of_tree ?_;show wpAny _ _ ((compStart (.ListComp elt gens scope pos) d it acc env).onRaise (λ x=>do noteFrame x env;standAt theWindowsPlace)) _ _ s
 refine wpAny_notedAt ?_;unfold compStart;rw[show clausesOf (.ListComp elt gens scope pos)=gens from rfl,hg];show wpAny _ _ (ask >>= _) _ _ s;refine wB (wpAny_askSetting (wpAny_ite ?_));split
 ·first
   | exact wB (wP (wP (And.intro rfl h0)))
   | exact wP (And.intro rfl h0)
 ·first
   | exact wB (wpAny_rule (wB (wpAny_standAt (wB (wpAny_mono (h _) (λ it' s' h'=>wP (And.intro rfl h')) λ _ _ x=>x)))))
   | (refine wB (wpAny_rule ?_);show wpAny _ _ (standAt iter.pos >>= _) _ _ s;exact wB (wpAny_standAt (wB (wpAny_mono (h _) (λ it' s' h'=>wP (And.intro rfl h')) λ _ _ x=>x))))
end
end
section
open PySem.SeqAt
section
variable(S:Sys prog w)
theorem Bf{cls dict xs sl}:∀ ov,({ cls:=cls,dict:=dict,data:=.seq xs n,slots:=sl }:Obj).data≠.cell ov:=λ _ q=>by cases q
theorem qM(hh:A.handled=none)(I:Addr)(a b:Int):Feed prog w A g I (eN a b) [I] (λ i v=>i<(b - a).toNat/\∃ t,v=Value.int (a+(i:Nat) * 1) t) (λ i h=>IsRangeIter h I (a+(i:Nat) * 1) (((b - a).toNat:Int) - (i:Nat)) 1) where
 W:=by
  have:(eN a b).length=(b - a).toNat:=by simp[eN]
  simp only[this];exact(Walks.range hh I a 1 (b - a).toNat).bound
 rel:=λ i v ⟨hi,t,e⟩=>by
  subst e;refine bK (.int (a+(i:Int))) ?_ (by simp only[Int.mul_one];exact .int _ _)
  simp[eN,List.getElem?_map,List.getElem?_range hi]
 fpIn:=λ b hb=>.inl (xm1 hb)
 live:=λ i h st=>⟨_,st,rfl⟩
theorem Fp(hh:A.handled=none){I ax}(hne:ax≠I)(e:g.get? ax=some (cK vs n))(r:VRels g xs vs) :
  Feed prog w A g I xs [I,ax] (λ i v=>vs.toArray[i]? = some v) (λ i h=>h.IsListIter I ax i/\h.IsList ax vs.toArray) where
 W:=by
  have:xs.length=vs.toArray.size:=by rw[List.size_toArray,r.length]
  rw[this];exact Walks.list hh I ax hne vs.toArray
 rel:=λ i v q=>by
  have q':vs[i]? = some v:=by simpa using q
  have hx:i<xs.length:=by rw[<- r.length];exact(List.getElem?_eq_some_iff.mp q').1
  refine aE (r.get (List.getElem?_eq_getElem hx)) λ v' e' r'=>?_;rw[q'] at e';have q:=sj e';clear e';subst q;exact bK _ (List.getElem?_eq_getElem hx) r'
 fpIn:=λ b hb=>by
  refine mc2 hb (λ q=>?_) λ q=>?_
  ·exact .inl q
  ·rw[xm1 q];exact .inr ⟨_,e,Bf⟩
 live:=λ i h st=>by
  refine aK st ?_;clear st;intro q1;refine fQ q1 ?_;clear q1;intro o q _ d;intro _;exact bK o q (by unfold cN;rw[d])
theorem kB(a b:Int):(eN a b).length=(b - a).toNat:=by simp[eN]
theorem kC{a b r t u v}(ha:0≤a)(ha':a<1000)(hb:0≤b)(hb':b<1000)(hr:IsRange s.heap r a b 1 t u v)(h:∀ h':Heap,s.heap.StaysIn h'->s.heap.get? s.heap.objs.size=none->(∃ o,h'.get? s.heap.objs.size=some o)->IsRangeIter h' s.heap.objs.size (a+((0:Nat):Int) * 1) (((b - a).toNat:Int) - ((0:Nat):Int)) 1->Q (.ref s.heap.objs.size) { s with heap:=h' }) :
  wpAny (model prog w) A (pyIter (.ref r)) Q E s:=by
 refine wpAny_pyIter_range hr (small_one (by omega) (by omega) (by omega) (by omega)) (h _ (aS _ _) (bW _) ⟨_,Heap.get?_push_size _ rfl⟩ ?_)
 rw[rangeSize_one];have:(if a<b then b - a else 0)=((b - a).toNat:Int):=by split<;>omega
 rw[this];simpa using Heap.get?_push_size _ rfl
set_option tactic.hygienic true in
theorem iD(hE:SE S n)(hEs:SEs S n){it}(si:gI it)(t:hY sc iter it)(e:eH S.T (n+1) it lv σ=some items)(C:CxI S (n+1) A s.heap (X) env oc ρ)(F:Fx sc env oc)(I:Inv X env oc ρ s.heap lv σ)(h:∀ h₁ h' tk I' fp P St,Up (X++aH env oc ρ) s.heap h₁->h₁.StaysIn h'->h₁.get? I'=none->(∃ o,h'.get? I'=some o)->Feed prog w A (GG X env oc ρ h₁) I' items fp P St->St 0 h'->items.length<100000->Q (.ref I') { s with heap:=h',toks:=tk }) :
  wpAny (model prog w) A (eval iter env) (λ x s₁=>wpAny (model prog w) A (pyIter x) Q E s₁) E s:=by
 cases it with
 | e a =>
  replace t:TrE sc iter a:=t;refine aZ e ?_;clear e;intro x e1 e2;rcases x with⟨⟩<;>first|exact nos e2|skip
  rename_i xs;refine aK (bC e2) λ hl e2=>?_;have q:=sj e2;clear e2;subst q;refine hE t e1 C.down F I λ h1 tk rv k1 r1=>?_;refine bQ r1.inv ?_;clear r1;rintro a vs m rfl ea rs;have ea':=aP _ _ ea;have hne:a≠h1.objs.size:=Nat.ne_of_lt (Heap.lt_size ea');refine wpAny_pyIter_list (aI ea') ?_;exact h h1 _ tk _ _ _ _ k1 (aS _ _) (bW _) ⟨_,Heap.get?_push_size _ rfl⟩ (Fp C.hd hne ea rs)
   ⟨⟨_,Heap.get?_push_size _ rfl,rfl,rfl⟩,(aI (aS _ _ _ _ ea'))⟩ hl
 | range as =>
  refine bQ t ?_;clear t;rintro _ _ _ rfl hg ts;refine aZ e ?_;clear e;intro vs e1 e2;refine wpAny_Call_NameR (bR S hg S.rangeOk (by decide) C F ?_)
  refine eG (P:=λ _=>True) (ts.plain env) eC (hEs ts e1 C.down F I λ h1 tk rvs k1 r1=>⟨trivial,?_⟩);rcases vs with _|⟨x,_|⟨y,vs⟩⟩
  ·exact nos e2
  ·rcases x with⟨⟩<;>first|exact nos e2|skip
   rename_i b;refine Qa e2 ?_;clear e2;intro hb e2;obtain rfl:=sj e2;refine bB r1.inv ?_;clear r1;rintro _ _ rfl ra rest;have q:_=_:=rest.inv;clear rest;subst q;refine aB ra.inv ?_;clear ra;rintro t rfl;refine call_range_1 ?_;refine kC (by decide) (by decide) hb.1 hb.2 (IsRange.new _ _ _ _ _ _ _) λ h' k' gn go st=>?_
   exact h _ h' _ _ _ _ _ (Up.trans k1 (.of (aS _ _))) k' gn go (qM C.hd _ 0 b) st (by rw[kB];omega)
  ·rcases x with⟨⟩<;>first|exact nos e2|skip
   rcases y with⟨⟩<;>first|exact nos e2|skip
   cases vs with
   | cons=>exact nos e2
   | nil =>
   rename_i a b;refine Qa e2 ?_;clear e2;intro hb e2;obtain rfl:=sj e2;refine bB r1.inv ?_;clear r1;rintro _ _ rfl ra rest;refine bB rest.inv ?_;clear rest;rintro _ _ rfl rb rest;have q:_=_:=rest.inv;clear rest;subst q;refine aB ra.inv ?_;clear ra;rintro t rfl;refine aB rb.inv ?_;clear rb;rintro u rfl;refine call_range_2 ?_;refine kC hb.1 hb.2.1 hb.2.2.1 hb.2.2.2 (IsRange.new _ _ _ _ _ _ _) λ h' k' gn go st=>?_;exact h _ h' _ _ _ _ _ (Up.trans k1 (.of (aS _ _))) k' gn go (qM C.hd _ a b) st (by rw[kB];omega)
 | zip=>cases si
 | enum=>cases si
end
end
section
open PySem.SeqAt
section
variable(S:Sys prog w)
noncomputable def jU(T:Tab)(m:Nat)(x:Str)(ifs:List Ex)(elt:Ex)(gs:List Gn)(lv:LV)(v:PV):Option (List PV):=do
 let lv' <- bindC (.n x) v lv
 if <- dM T m .And ifs lv' [] then iV T m elt gs lv' else some []
theorem Ek{f x out}(e:fE f (x::xs)=some out):∃ a b,f x=some a/\fE f xs=some b/\out=a++b:=by
 dsimp only [fE] at e;generalize f x=u at e ⊢;generalize fE f xs=w at e ⊢;cases u with
 | none=>exact nos e
 | some a=>cases w with
  | none=>exact nos e
  | some b=>exact dR a b rfl rfl (sj e).symm
theorem Qp{v}(e:bindC (.n x) v lv=some lv'):lv.lookup x=none/\lv'=(x,v)::lv:=by
 dsimp only [bindC] at e;simp only[Option.ite_none_right_eq_some,Option.some.injEq] at e;exact aY (by simpa using e.1) e.2.symm
theorem tD{v}(h:lv.lookup x=none):∀ y u,lv.lookup y=some u->((x,v)::lv).lookup y=some u:=λ y u e=>by
 rw[bE];by_cases q:y=x
 ·subst q;rw[h] at e;exact nos e
 ·rw[if_neg q];exact e
theorem nB(vs:List Value)(v:Value)(n:Nat):({ cls:=.type "list",data:=.seq (vs.toArray.push v) n }:Obj)=cK (vs++[v]) n:=by
 rw[List.push_toArray]
theorem Qi(it v:Value):letOwnedTupleGo (.Name x p) it v=pure ():=rfl
theorem Er{l:List α}{a:α}{r:List α}(h:l.drop d=a::r):l[d]? = some a/\l.drop (d+1)=r:=by
 constructor
 ·rw[<- List.head?_drop,h];rfl
 ·rw[<- List.tail_drop,h];rfl
theorem drop_nil{l:List α}(h:l.drop d=[]):l[d]? = none:=by
 rw[<- List.head?_drop,h];rfl
structure CLoop(n:Nat)(A:Around)(X:List Addr)(env:Env)(oc:List (Str×Addr))(lv:LV)(D:Addr)(ys:List PV)(h:Heap):Prop where
 inv:Inv X env oc [] h lv []
 acc:RowAt (GG X env oc [] h) h D ys
 inX:D∈X
 cx:CxI S n A h (X) env oc []
section
variable{S}{D I:Addr}{h:Heap}
theorem CLoop.ext(c:CLoop S n A X env oc lv D ys h)(k:Up (X++aH env oc []) h h'):CLoop S n A X env oc lv D ys h' where
 inv:=c.inv.ext k
 acc:=by
  obtain⟨vs,n,e,r⟩:=c.acc;exact⟨vs,n,k.nd _ _ rfl e,r.mono k.fz⟩
 inX:=c.inX
 cx:=Cx.up c.cx k
theorem tT{o es}(d:o.data=.dict es n)(q:cN o=false):False:=by
 unfold cN at q;rw[d] at q;exact ntf q
theorem CLoop.step(c:CLoop S n A X env oc lv D ys h)(hI:I∈X)(hne:D≠I)(k:∀ b o,b∉[I]->h.get? b=some o->h'.get? b=some o)(l:∃ o,h'.get? I=some o)(l0:∃ o,h.get? I=some o/\cN o=false) :
  CLoop S n A X env oc lv D ys h'/\(GG X env oc [] h).StaysIn (GG X env oc [] h'):=by
 have kk:(GG X env oc [] h).StaysIn (GG X env oc [] h'):=aU λ b o e n=>⟨k b o (λ q=>n (mL (xm1 q▸hI))) e,n⟩;refine aY ⟨c.inv.hid (λ b o n e=>k b o (λ q=>n (xm1 q▸hI)) e) λ a ha=>?_,?_,c.inX,Cx.move c.cx kk λ L hL hF o es n e d=>⟨hL,hF,o,es,n,k L o (λ q=>?_) e,d⟩⟩ kk
 ·by_cases q:a=I
  ·exact q▸l
  ·refine aB (c.inv.live a (mL ha)) λ o e=>?_;exact bM o (k a o (by simpa using q) e)
 ·obtain⟨vs,n,e,r⟩:=c.acc;exact⟨vs,n,k _ _ (by simpa using hne) e,r.mono kk⟩
 ·refine aE l0 ?_;clear l0;intro o0 e0 d0;simp only[xm1 q,e0] at e;have q:=sj e;clear e;subst q;exact tT d d0
theorem CLoop.store{v Q}(c:CLoop S n A X env oc lv D ys s.heap)(hv:dJ sc x)(F:Fx sc env oc)(r:VRel (GG X env oc [] s.heap) v rv)(h:∀ h' tk,CLoop S n A X env oc ((x,v)::lv) D ys h'->(∀ b o,b∉aH env oc []->s.heap.get? b=some o->h'.get? b=some o)->(GG X env oc [] s.heap).StaysIn (GG X env oc [] h')->Q () { s with heap:=h',toks:=tk }) :
  wpAny (model prog w) A (assign (.Name x p) env rv) Q E s:=by
 refine wpAny_assign_Name (bJ hv F c.inv (.frozen r) λ h' tk I' k=>?_);have kk:(GG X env oc [] s.heap).StaysIn (GG X env oc [] h'):=aU λ b o e n=>⟨k b o (λ q=>n (mR q)) e,n⟩;refine h h' tk ⟨I',?_,c.inX,Cx.move c.cx kk λ L hL hF o es n e d=>⟨hL,hF,?_⟩⟩ k kk
 ·obtain⟨vs,n,e,r⟩:=c.acc;exact⟨vs,n,k _ _ (c.inv.off D c.inX) e,r.mono kk⟩
 ·by_cases q:L∈aH env oc []
  ·unfold aH at q;refine mc2 q (λ q=>?_) λ q=>?_
   ·refine aE I'.ns λ _ y1 _=>bQ y1 λ o' es' n' e' d' _=>?_;exact vE o' es' n' (q▸e') d'
   ·refine bN q (λ q=>?_) λ q=>?_
    ·refine eX (vZ c.inv q) λ ov o2 e2 d2=>?_;rw[e] at e2;have q:=sj e2;clear e2;subst q;rw[d] at d2;cases d2
    ·exact absurd q (by simp[Ro.all])
  ·exact vE o es n (k L o q e) d
theorem CLoop.weak(k:∀ x v,lv.lookup x=some v->lv'.lookup x=some v)(c:CLoop S n A X env oc lv' D ys h):CLoop S n A X env oc lv D ys h :=
 ⟨c.inv.weak k,c.acc,c.inX,c.cx⟩
theorem CLoop.append{v}(c:CLoop S n A X env oc lv D ys s.heap)(r:VRel (GG X env oc [] s.heap) v rv)(hl:ys.length<100000)(h:∀ h',CLoop S n A X env oc lv D (ys++[v]) h'->(∀ b o,b∉[D]->s.heap.get? b=some o->h'.get? b=some o)->(GG X env oc [] s.heap).StaysIn (GG X env oc [] h')->(∀ vs n,s.heap.get? D=some (cK vs n)->h'.get? D=some (cK (vs++[rv]) (n+1)))->Q .none { s with heap:=h' }) :
  wpAny (model prog w) A (call (.builtin "list.append") [.ref D,rv]) Q E s:=by
 obtain⟨vs,n,e,rs⟩:=c.acc;refine append_at e (λ h' hs he=>?_) (by simp only[List.size_toArray,rs.length];show _≤2 ^ 24;exact ll2 ‹_› (by rfl))
 have k:∀ b o,b≠D->s.heap.get? b=some o->h'.get? b=some o:=λ b o n e=>hs.extBut b o n e;have kk:(GG X env oc [] s.heap).StaysIn (GG X env oc [] h'):=aU λ b o e n=>⟨k b o (λ q=>n (mL (q▸c.inX))) e,n⟩;refine h h' ⟨c.inv.hid (λ b o nb eb=>k b o (λ q=>nb (q▸c.inX)) eb) λ a ha=>?_,?_,c.inX,Cx.move c.cx kk λ L hL hF o es n eL d=>⟨hL,hF,o,es,n,k L o (λ q=>?_) eL,d⟩⟩ (λ b o n e=>k b o (by simpa using n) e) kk λ vs' n' e'=>?_
 ·by_cases q:a=D
  ·exact bM _ (q▸he)
  ·refine aB (c.inv.live a (mL ha)) λ o e=>?_;exact bM o (k a o q e)
 ·simp only[nB] at he;exact⟨_,_,he,(rs.mono kk).append (.cons (r.mono kk) .nil)⟩
 ·simp only[q,e] at eL;have q:=sj eL;clear eL;subst q;cases d
 ·simp only[e] at e';simp only[Option.some.injEq,Obj.mk.injEq,Data.seq.injEq,true_and,and_true] at e';simp only[he,nB,e'.2,show vs=vs' from by simpa using e'.1]
end
theorem Inv.drop{h a}(I:Inv (a::X) env oc ρ h lv σ)(hn:a∉X)(k:∀ b o,b∉[a]->h.get? b=some o->h'.get? b=some o):Inv X env oc ρ h' lv σ:=by
 refine I.gen (aU λ b o e n=>⟨k b o (λ q=>n (xm1 q▸.head _)) e,λ q=>n (.tail _ q)⟩) (λ b hb=>?_) (λ b hb=>?_) λ b hb=>I.off b (.tail _ hb)
 ·refine aB (I.live b (mR hb)) λ o ho=>?_;simp only[ho];exact k b o (λ q=>I.off a (.head _) (xm1 q▸hb)) ho
 ·refine aB (I.live b (mL (.tail _ hb))) λ o ho=>?_;exact bM o (k b o (λ q=>hn (xm1 q▸hb)) ho)
section
variable{S}{D I:Addr}{h:Heap}
theorem CLoop.drop(c:CLoop S n A (I::X) env oc lv D ys h)(hn:I∉X)(hD:D∈X)(k:∀ b o,b∉[I]->h.get? b=some o->h'.get? b=some o)(l0:∃ o,h.get? I=some o/\cN o=false):CLoop S n A X env oc lv D ys h':=by
 have kk:(GG (I::X) env oc [] h).StaysIn (GG X env oc [] h'):=aU λ b o e n=>⟨k b o (λ q=>n (xm1 q▸.head _)) e,λ q=>n (.tail _ q)⟩;refine⟨c.inv.drop hn k,?_,hD,Cx.move c.cx kk λ L hL hF o es n e d=>?_⟩
 ·obtain⟨vs,n,e,r⟩:=c.acc;exact⟨vs,n,k _ _ (λ q=>hn (xm1 q▸hD)) e,r.mono kk⟩
 ·have nI:L≠I:=λ q=>by
   refine aE l0 ?_;clear l0;intro o0 e0 d0;simp only[q,e0] at e;have q:=sj e;clear e;subst q;exact tT d d0
  refine⟨?_,?_,o,es,n,k L o (by simpa using nI) e,d⟩
  ·refine mc2 hL (λ q=>?_) λ q=>?_
   ·exact absurd q nI
   ·exact q
  ·refine mc2 hF (λ q=>?_) λ q=>?_
   ·exact q▸.head _
   ·refine mc2 q (λ q=>?_) λ q=>?_
    ·exact absurd q nI
    ·exact .tail _ q
theorem CLoop.hide(c:CLoop S n A X env oc lv D ys h)(k:Up (X++aH env oc []) h h')(f:h.get? I=none)(l:∃ o,h'.get? I=some o):CLoop S n A (I::X) env oc lv D ys h':=by
 have f':∀ a∈[I],h.get? a=none:=λ a q=>xm1 q▸f;have kk:(GG X env oc [] h).StaysIn (GG (I::X) env oc [] h'):=aU λ b o e n=>⟨k.out b o n e,λ q=>by
  refine mc2 q (λ q=>?_) λ q=>?_
  ·simp only[q,f] at e;exact nos e
  ·exact n q⟩
 refine⟨c.inv.hide (as:=[I]) f' k (λ a q=>xm1 q▸l),?_,.tail _ c.inX,Cx.move c.cx kk λ L hL hF o es n e d=>?_⟩
 ·obtain⟨vs,n,e,r⟩:=c.acc;exact⟨vs,n,k.nd _ _ rfl e,r.mono kk⟩
 ·refine aB (k.sl L o e) λ s q=>?_;refine⟨.tail _ hL,?_,_,es,n,q,d⟩;refine mc2 hF (λ z=>?_) λ z=>?_
  ·exact z▸.head _
  ·exact .tail _ (.tail _ z)
end
structure Low(n:Nat):Prop where
 e:∀ k≤n,SE S k
 es:∀ k≤n,SEs S k
 t:∀ k≤n,ST S k
theorem mI{it v}(e:eH T n it lv σ=some v):∃ m,n=m+1:=by
 cases n with
 | zero=>exact nos e
 | succ m=>exact bM m rfl
structure Cur(A:Around)(X:List Addr)(env:Env)(oc:List (Str×Addr))(n:Nat)(D I:Addr)(g:Heap)(St:Nat->Heap->Prop)(h₀:Heap)(i:Nat)(lv:LV)(ys:List PV)(h:Heap):Prop where
 st:St i h
 c:CLoop S n A (I::X) env oc lv D ys h
 gk:g.StaysIn (GG (I::X) env oc [] h)
 up:UpB (D::I::aH env oc []) (I::X++aH env oc []) h₀ h
noncomputable def aDu(n:Nat)(A:Around)(X:List Addr)(env:Env)(oc:List (Str×Addr))(lv:LV)(D I:Addr)(ys:List PV)(s:Shared)(g:Heap)(St:Nat->Heap->Prop)(f:PV->Option (List PV))(items out:List PV)(k:Nat)(s':Shared):Prop :=
 ∃ h' tk i os ro,s'={ s with heap:=h',toks:=tk }/\i≤items.length/\k=items.length+1 - i/\Cur S A X env oc n D I g St s.heap i lv (ys++os) h'/\fE f (items.drop i)=some ro/\out=os++ro
theorem Feed.at{I P}(f:Feed prog w A g I items fp P St){u v}(e:items[i]? = some u)(p:P i v):VRel g u v :=
 (f.rel i v p).elim λ _ q=>sj (q.1.symm.trans e)▸q.2
theorem Pn{m ifs elt ro}(hlt:i<items.length)(e:fE (jU T m x ifs elt gs lv) (items.drop i)=some ro) :
  ∃ u ok a b,items[i]? = some u/\lv.lookup x=none/\dM T m .And ifs ((x,u)::lv) []=some ok/\(if ok=true then iV T m elt gs ((x,u)::lv) else some [])=some a/\fE (jU T m x ifs elt gs lv) (items.drop (i+1))=some b/\ro=a++b:=by
 rw[List.drop_eq_getElem_cons hlt] at e;refine bB (Ek e) λ a b ea eb ho=>?_;refine aE (bnd ea) λ lv' e1 ea=>?_;refine aE (bnd ea) λ ok e2 e3=>?_;refine aK (Qp e1) ?_;clear e1 ea;rintro hno rfl;exact jD _ ok a b (List.getElem?_eq_getElem hlt) hno e2 (fP e3 eb ho)
section
variable{D I:Addr}{h₀:Heap}{P:Nat->Value->Prop}{m:Nat}{elt:Ex}{ifs':List Ex}
theorem Fs(L:Low S n)(hm:m≤n)(tt:TrT sc t (.n x))(ti:cM sc ifs ifs')(F:Fx sc env oc)(hIX:I∉X)(hDX:D∈X)(feed:Feed prog w A g I items fp P St){tk ro}(hi:i≤items.length)(C:Cur S A X env oc n D I g St h₀ i lv ys h')(hcat:fE (jU S.T m x ifs' elt gs lv) (items.drop i)=some ro){K R:Shared->Prop}{B:Shared->Prop}{E':Value->Shared->Prop}(stop:ro=[]->∀ h tk,CLoop S n A X env oc lv D ys h->UpB (D::I::aH env oc []) (I::X++aH env oc []) h₀ h->R { s with heap:=h,toks:=tk })(next:∀ a b h tk,i<items.length->ro=a++b->fE (jU S.T m x ifs' elt gs lv) (items.drop (i+1))=some b->Cur S A X env oc n D I g St h₀ (i+1) lv (ys++a) h->K { s with heap:=h,toks:=tk })(body:∀ lv' a b h tk,ro=a++b->Cur S A X env oc n D I g St h (i+1) lv' ys h->iV S.T m elt gs lv'=some a ->
   (∀ h' tk',Cur S A X env oc n D I g St h (i+1) lv' (ys++a) h'->K { s with heap:=h',toks:=tk' })->B { s with heap:=h,toks:=tk }) :
  wpAny (model prog w) A (pyNext (.ref I)) (λ r s₁=>match r with
   | none=>R s₁
   | some v=>wpAny (model prog w) A (assign t env v) (λ _ s₂=>wpAny (model prog w) A (iI ifs env) (λ ok s₃=>if ok=true then B s₃ else K s₃) E' s₂) E' s₁) E' { s with heap:=h',toks:=tk }:=by
 rcases Nat.lt_or_ge i items.length with hlt|hge
 ·refine gS (Pn hlt hcat) λ u ok a b hu hno e2 y2=>bU y2 λ e3 eb hab=>?_;have hI:I∈I::X:=.head _;refine feed.W.item i _ _ _ hlt C.st λ v h₁ tk₁ hP st₁ hk₁=>?_;refine aK (C.c.step hI (λ q=>hIX (q▸hDX)) hk₁ ((feed.live _ _ st₁).imp λ _ q=>q.1) (feed.live _ _ C.st)) λ c₁ kk₁=>?_;have hgk₁:=aM C.gk kk₁;cases tt with|n hx =>
  refine c₁.store hx F ((feed.at hu hP).mono hgk₁) λ h₂ tk₂ c₂ hk₂ kk₂=>?_;have hgk₂:=aM hgk₁ kk₂;refine yI (λ k hk=>L.t k (Nat.le_trans hk hm)) ti e2 (c₂.cx.le hm) F c₂.inv λ h₃ tk₃ k₃=>?_;have C₃:Cur S A X env oc n D I g St h₃ (i+1) ((x,u)::lv) ys h₃:=⟨feed.up hgk₂ k₃ (feed.keep (λ o e=>hk₂ I o (c₁.inv.off I hI) e) (λ b o eg _ eh=>hk₂ b o (λ q=>(dT (hgk₁ _ _ eg)).2 (mR q)) eh) (λ b o eg=>(dT (hgk₁ _ _ eg)).1) st₁),c₂.ext k₃,aM hgk₂ k₃.fz,.refl _⟩;have fin:∀ h₄ tk₄,Cur S A X env oc n D I g St h₃ (i+1) ((x,u)::lv) (ys++a) h₄->K { s with heap:=h₄,toks:=tk₄ } :=
   λ h₄ tk₄ C₄=>next a b h₄ tk₄ hlt hab eb ⟨C₄.st,C₄.c.weak (tD hno),C₄.gk,((C.up.trans (.only hk₁ λ b q=>xm1 q▸.tail _ (.head _))).trans ((UpB.only hk₂ λ b q=>.tail _ (.tail _ q)).trans (.of k₃))).trans C₄.up⟩
  clear e2 y2;cases ok with
  | false =>
   simp only[<- sj e3,List.append_nil] at fin;exact fin h₃ tk₃ ⟨C₃.st,C₃.c,C₃.gk,.refl _⟩
  | true=>exact body _ a b h₃ tk₃ hab C₃ e3 fin
 ·have hie:=Nat.le_antisymm hi hge;simp only[hie,List.drop_length] at hcat;exact feed.W.done _ _ _ (hie▸C.st) λ h₁ tk₁ hk₁=>stop (sj hcat).symm h₁ tk₁ (C.c.drop hIX hDX hk₁ (feed.live _ _ C.st)) (C.up.trans (.only hk₁ λ b q=>xm1 q▸.tail _ (.head _)))
theorem xF(L:Low S n)(hm:m≤n)(tt:TrT sc t (.n x))(ti:cM sc ifs ifs'){out}(hcat:fE (jU S.T m x ifs' elt gs lv) items=some out)(F:Fx sc env oc)(c:CLoop S n A (I::X) env oc lv D ys s.heap)(hIX:I∉X)(hDX:D∈X)(feed:Feed prog w A g I items fp P St)(hgk:g.StaysIn (GG (I::X) env oc [] s.heap))(st:St 0 s.heap)(hR:∀ h' tk,CLoop S n A X env oc lv D (ys++out) h'->UpB (D::I::aH env oc []) (I::X++aH env oc []) s.heap h'->R (.ok .next) { s with heap:=h',toks:=tk }){G:Prop}{B:(Shared->Prop)->(Value->Shared->Prop)->Shared->Prop}(hC:∀ J:Nat->Shared->Prop,(∀ k s (E':Value->Shared->Prop),J k s->wpAny (model prog w) A (pyNext (.ref I)) (λ r s₁=>match r with
   | none=>R (.ok .next) s₁
   | some v=>wpAny (model prog w) A (assign t env v) (λ _ s₂=>wpAny (model prog w) A (iI ifs env) (λ ok s₃=>if ok=true then B (λ s=>∃ m,m<k/\J m s) E' s₃ else ∃ m,m<k/\J m s₃) E' s₂) E' s₁) E' s)->∀ k,J k s->G)(body:∀{i:Nat} {os a b:List PV} {lv':LV} {h:Heap} {tk:Nat} {K:Shared->Prop} {E':Value->Shared->Prop},out=os++(a++b)->Cur S A X env oc n D I g St h (i+1) lv' (ys++os) h->iV S.T m elt gs lv'=some a ->
   (∀ h' tk',Cur S A X env oc n D I g St h (i+1) lv' (ys++os++a) h'->K { s with heap:=h',toks:=tk' })->B K E' { s with heap:=h,toks:=tk }):G:=by
 refine hC (aDu S n A X env oc lv D I ys s g St (jU S.T m x ifs' elt gs lv) items out) ?_ (items.length+1)
  ⟨s.heap,s.toks,0,[],out,rfl,Nat.zero_le _,rfl,⟨st,by simp only[List.append_nil];exact c,hgk,.refl _⟩,hcat,rfl⟩
 intro k s' E' J;refine Ux J ?_;clear J;intro h' tk i os ro rfl hi y3;refine kR y3 ?_;clear y3;rintro rfl C hcat' ho;refine Fs S L hm tt ti F hIX hDX feed hi C hcat' (λ q h tk c u=>hR h tk ?_ u) (λ a b h tk hlt hab eb C=>⟨_,aAZ hlt,h,tk,i+1,os++a,b,rfl,hlt,rfl,List.append_assoc ..▸C,eb,?_⟩) λ lv' a b h tk hab C e fin=>body (ho.trans (congrArg _ hab)) C e fin
 ·simp only[ho,q,List.append_nil];exact c
 ·simp only[ho,hab,List.append_assoc]
end
theorem Jz{m elt a}(e:iV T m elt [] lv=some a):∃ m' y u,m=m'+1/\ev T m' elt lv []=some y/\fzv y=some u/\a=[u]:=by
 cases m with
 | zero=>exact nos e
 | succ m =>
  refine aE (bnd e) λ y ey e=>?_;refine aE (bnd e) λ u fy e=>?_;exact Pz m y u rfl ey fy ((sj e).symm)
theorem Fb{m elt it ifs a}(e:iV T m elt (.mk (.n x) it ifs::gs) lv=some a) :
  ∃ m' items,m=m'+1+1/\eH T (m'+1) it lv []=some items/\fE (jU T (m'+1) x ifs elt gs lv) items=some a:=by
 cases m with
 | zero=>exact nos e
 | succ m =>
  refine aE (bnd e) λ items ei ec=>?_;refine aB (mI ei) ?_;clear e;rintro m' rfl;exact dR m' items rfl ei ec
theorem aCd{os r out}(hl:ys.length+out.length<100000)(ho:out=os++r):(ys++os).length<100000:=by
 simp only[ho,List.length_append] at hl;simp only[List.length_append];lia
theorem aAb{os a b out}(hl:ys.length+out.length<100000)(ho:out=os++(a++b)):(ys++os).length+a.length<100000:=by
 simp only[ho,List.length_append,List.length_append] at hl;simp only[List.length_append];lia
theorem TrT.owned(h:TrT sc t (.n x))(it v:Value):letOwnedTupleGo t it v=pure ():=by
 refine aE (h.inv) ?_;clear h;rintro p rfl _
 rfl
theorem Lu{D I I2 h₃ h₄ h₅ h₆ ys' P j}(feed:Feed prog w A g I items fp P St)(hDX:D∈X)(hDf:D∉fp)(C:Cur S A X env oc n D I g St h₃ j lv ys h₃)(k₄:Up (I::X++aH env oc []) h₃ h₄)(k₅:h₄.StaysIn h₅)(fI:h₄.get? I2=none)(c₆:CLoop S n A (I::X) env oc lv D ys' h₆)(hk₆:UpB (D::I2::aH env oc []) (I2::(I::X)++aH env oc []) h₅ h₆):Cur S A X env oc n D I g St h₃ j lv ys' h₆:=by
 have st₅:St j h₅:=feed.W.frame _ _ _ (feed.up C.gk k₄ C.st) λ b _ o e=>k₅ b o e;have hgk₄:=aM C.gk k₄.fz;have nI2:∀{b:Addr} {o:Obj},h₄.get? b=some o->b≠I2:=λ e q=>nos (fI.symm.trans (q▸e));have I2I:I2≠I:=λ q=>(C.c.inv.live I (.head _)).elim λ o e=>(k₄.sl I o e).elim λ _ e=>nI2 e q.symm;have u₆:UpB (D::I::aH env oc []) (I::X++aH env oc []) h₄ h₆:=UpB.after (.of k₅) hk₆
  (λ b q=>mc3 q (λ q=>.inl (q▸.head _)) (λ q=>.inr (q▸fI)) λ q=>.inl (.tail _ (.tail _ q)))
  λ b q=>mc2 q (λ q=>.inr (q▸fI)) .inl
 refine⟨feed.W.frame _ _ _ st₅ λ b hb o e=>?_,c₆,aM hgk₄ (aU λ b o e n=>⟨u₆.out b o (λ q=>mc3 q (λ q=>n (mL (.tail _ (q▸hDX)))) (λ q=>n (q▸.head _)) λ q=>n (mR q)) n e,n⟩),(UpB.of k₄).trans u₆⟩;rcases feed.fpIn b hb with q'|⟨o',q',_⟩
 ·refine aE (feed.live _ _ st₅) λ o2 e2 d2=>?_;simp only[q',e2] at e;exact hk₆.nd b o (λ q=>mc3 q (λ q=>hDf (q▸hb)) (λ q=>I2I (q.symm.trans q')) λ q=>C.c.inv.off I (.head _) (q'▸q)) (sj e▸d2) (q'▸e2.trans e)
 ·have z:=dT (hgk₄ _ _ q');exact hk₆.out b o (λ q=>mc3 q (λ q=>hDf (q▸hb)) (nI2 z.1) λ q=>z.2 (mR q)) (λ q=>mc2 q (nI2 z.1) z.2) e
theorem Ah(L:Low S n){elt':Ex}(te:TrE sc elt elt') :
  ∀(rest:List Comprehension) (gs:List Gn) (d:Nat) (t iter:Expr) (ifs:List Expr) (x:Str) (ifs':List Ex) (m:Nat),m≤n->gens[d]? = some ⟨t,iter,ifs,0⟩->gens.drop (d+1)=rest->TrT sc t (.n x)->cM sc ifs ifs'->tL sc rest gs ->
   ∀{items out:List PV} {lv:LV},fE (jU S.T m x ifs' elt' gs lv) items=some out ->
   ∀{X:List Addr} {env:Env} {oc:List (Str×Addr)} {s:Shared} {D I:Addr} {ys:List PV} {g:Heap} {fp:List Addr} {P:Nat->Value->Prop} {St:Nat->Heap->Prop} {R:Result->Shared->Prop},
    Fx sc env oc->CLoop S n A (I::X) env oc lv D ys s.heap->I∉X->D∈X->D∉fp->Feed prog w A g I items fp P St->g.StaysIn (GG (I::X) env oc [] s.heap)->St 0 s.heap->ys.length+out.length<100000 ->
    (∀ h' tk,CLoop S n A X env oc lv D (ys++out) h'->UpB (D::I::aH env oc []) (I::X++aH env oc []) s.heap h'->R (.ok .next) { s with heap:=h',toks:=tk }) ->
    codeAny (model prog w) A (.compLoop (.ListComp elt gens scope pos) d (.ref I) (.ref D) env) R s:=by
 intro rest;induction rest with
 | nil =>
  intro gs d t iter ifs x ifs' m hm hg hd tt ti tg;cases gs with
  | cons=>refine kT tg ?_;clear tg;intro _ _ _ _ _ _ _ y4;refine aK y4 ?_;clear y4;intro q _;cases q
  | nil =>
  intro items out lv hcat X env oc s D I ys g fp P St R F c hIX hDX hDf feed hgk st hl hR;refine xF S L hm tt ti hcat F c hIX hDX feed hgk st hR (B:=λ K E' s₃=>wpAny (model prog w) A (eval elt env) (λ x s₄=>wpAny (model prog w) A (call (.builtin "list.append") [.ref D,x]) (λ _ s₅=>K s₅) E' s₄) E' s₃)
   (eS hg (drop_nil hd) λ v=>tt.owned _ v) λ ho C eg fin=>?_
  refine rC (Jz eg) λ m' y u hmm ey fy ha=>?_;have hm':m'≤n:=Nat.le_of_succ_le (hmm▸hm:m'+1≤n);refine L.e m' hm' te ey (C.c.cx.le hm') F C.c.inv λ h₄ tk₄ rv k₄ r₄=>?_;refine(C.c.ext k₄).append (r₄.fzv fy) (aCd hl ho) λ h₅ c₅ hk₅ kk₅ _=>?_;exact fin h₅ tk₄ ⟨feed.W.frame _ _ _ (feed.up C.gk k₄ C.st) λ b hb o e=>hk₅ b o (λ q=>hDf (xm1 q▸hb)) e,ha▸c₅,aM (aM C.gk k₄.fz) kk₅,(UpB.of k₄).trans (.only hk₅ λ b q=>xm1 q▸.head _)⟩
 | cons g1 rest ih =>
  intro gs d t iter ifs x ifs' m hm hg hd tt ti tg;cases gs with
  | nil=>cases(tg:_=[])
  | cons gn gs2 =>
  intro items out lv hcat X env oc s D I ys g fp P St R F c hIX hDX hDf feed hgk st hl hR;refine kT tg ?_;clear tg;intro t2 iter2 ifs2 rest2 x2 it2 ifs2' y5;refine Bx y5 ?_;clear y5;rintro q1 rfl tit si tt2 ti2 tg2;refine aK (List.cons.inj q1) ?_;rintro rfl rfl;refine aK (Er hd) λ hg2 hd2=>?_;refine xF S L hm tt ti hcat F c hIX hDX feed hgk st hR (B:=λ K E' s₃=>wpAny (model prog w) A (eval iter2 env) (λ x s₄=>wpAny (model prog w) A (pyIter x) (λ i s₅=>codeAny (model prog w) A (.compStart (.ListComp elt gens scope pos) (d+1) i (.ref D) env) (λ r s'=>r=.ok .next/\K s') s₅) E' s₄) E' s₃)
   (iN hg hg2 (λ v=>tt.owned _ v) λ v=>tit.nset env v) @λ i os a b lv' h₃ tk K E' ho C eg fin=>?_
  refine bB (Fb eg) λ m' items2 hmm ei ec=>?_;have hm':m'+1≤n:=Nat.le_of_succ_le (hmm▸hm:m'+1+1≤n);have hm'':m'≤n:=Nat.le_of_succ_le hm';refine iD S (L.e m' hm'') (L.es m' hm'') si tit ei (C.c.cx.le hm') F C.c.inv λ h₄ h₅ tk₅ I2 fp2 P2 St2 k₄ k₅ fI lI feed2 st2 hl2=>?_;have c₄:=C.c.ext k₄;have I2n:I2∉_::X:=λ q=>(c₄.inv.live I2 (mL q)).elim λ o e=>nos (fI.symm.trans e);have key:=ih _ (d+1) t2 iter2 ifs2 x2 ifs2' (m'+1) hm' hg2 hd2 tt2 ti2 tg2 ec F (c₄.hide (.of k₅) fI lI) I2n (.tail _ hDX)
   (λ q=>(feed2.fpIn D q).elim (λ q=>I2n (q▸.tail _ hDX)) λ q=>q.elim λ o q=>(dT q.1).2 (mL (.tail _ hDX))) feed2
   (aU λ b o e n=>⟨k₅ b o e,λ q=>mc2 q (λ q=>nos (fI.symm.trans (q▸e))) n⟩) st2 (aAb hl ho) (s:={ s with heap:=h₅,toks:=tk₅ }) (R:=λ r s'=>r=.ok .next/\K s')
   λ h₆ tk₆ c₆ hk₆=>⟨rfl,fin h₆ tk₆ (Lu S feed hDX hDf C k₄ k₅ fI c₆ hk₆)⟩
  exact dL hg2 key λ E''=>feed2.W.self 0 _ _ _ st2 key
end
end
section
open PySem.SeqAt
theorem kP:∀(l r:List (Str×α)) (y:Str),(l++r).lookup y=(l.lookup y).or (r.lookup y):=by
 intro l9;induction l9 with
 | nil =>
  intro r y;exact rfl
 | cons x9 l ih =>
  obtain⟨k,v⟩:=x9;intro r y;simp only[List.cons_append,List.lookup_cons,List.lookup_cons,ih r y];cases y==k<;>rfl
theorem jS:∀(names:List (Str×NameKind)) (n:Nat) (acc:List (Str×Addr)),cellsFrom n names acc=cellsFrom n names []++acc:=by
 intro l9;induction l9 with
 | nil =>
  intro _ _;exact rfl
 | cons x9 r ih =>
  obtain⟨name,kind⟩:=x9;intro n acc;dsimp only [cellsFrom,cellsFrom];split
  ·simp only[ih (n+1) ((name,n)::acc),ih (n+1) [(name,n)],List.append_assoc];rfl
  ·exact ih n acc
theorem dZ:∀(names:List (Str×NameKind)) (n:Nat) (acc:List (Str×Addr)) (y:Str),y∈(cellsFrom n names acc).map (·.1)↔(y,NameKind.cell)∈names∨y∈acc.map (·.1):=by
 intro l9;induction l9 with
 | nil =>
  intro n acc y;simp[cellsFrom]
 | cons x9 r ih =>
  obtain⟨name,kind⟩:=x9;intro n acc y;dsimp only [cellsFrom];split
  ·rename_i h;have hk:kind=.cell:=by simpa using h
   subst hk;rw[ih];simp only[List.map_cons,List.mem_cons,Prod.mk.injEq,and_true]
   constructor
   ·rintro(h|h|h)
    ·exact .inl (.inr h)
    ·exact .inl (.inl h)
    ·exact .inr h
   ·rintro((h|h)|h)
    ·exact .inr (.inl h)
    ·exact .inl h
    ·exact .inr (.inr h)
  ·rename_i h;rw[ih];simp only[List.mem_cons,Prod.mk.injEq]
   constructor
   ·rintro(h|h)
    ·exact .inl (.inr h)
    ·exact .inr h
   ·rintro((⟨_,q⟩|h')|h')
    ·exact absurd (by rw[<- q];rfl) h
    ·exact .inl h'
    ·exact .inr h'
theorem iK:∀(names:List (Str×NameKind)) (n:Nat) (acc:List (Str×Addr)),(names.map (·.1)).Nodup->(acc.map (·.1)).Nodup->(∀ y∈names.map (·.1),y∉acc.map (·.1))->((cellsFrom n names acc).map (·.1)).Nodup:=by
 intro l9;induction l9 with
 | nil =>
  intro _ _ _ h _;exact h
 | cons x9 r ih =>
  obtain⟨name,kind⟩:=x9;intro n acc hn ha hd;simp only[List.map_cons,List.nodup_cons] at hn;dsimp only [cellsFrom];split
  ·refine ih (n+1) _ hn.2 (by simp only[List.map_cons,List.nodup_cons];exact aY (hd name (by simp)) ha) λ y hy q=>?_
   simp only[List.map_cons] at q;refine mc2 q (λ q=>?_) λ q=>?_
   ·exact hn.1 (q▸hy)
   ·exact hd y (by simp only[List.map_cons];exact .tail _ hy) q
  ·exact ih n acc hn.2 ha λ y hy q=>hd y (by simp only[List.map_cons];exact .tail _ hy) q
theorem jW:∀{l:List (Str×α)} {y:Str},y∈l.map (·.1)->∃ c,l.lookup y=some c:=by
 intro l9;induction l9 with
 | nil=>intros;first|contradiction|(rename_i h;exact nomatch h)
 | cons x9 l ih =>
  obtain⟨k,v⟩:=x9;intro y h;dsimp only [List.lookup_cons];cases q:y==k with
  | true=>exact bM v rfl
  | false =>
   rw[List.map_cons] at h;refine mc2 h (λ h=>?_) λ h=>?_
   ·rw[h] at q;simp at q
   ·exact ih h
theorem Wb:∀{l:List (Str×α)} {x:Str} {c:α},l.lookup x=some c->(x,c)∈l:=λ h=>mem_of_lookup h
theorem dF:∀{l:List (Str×α)} {x:Str} {c:α},(l.map (·.1)).Nodup->(x,c)∈l->l.lookup x=some c:=by
 intro l9;induction l9 with
 | nil=>intros;first|contradiction|(rename_i h;exact nomatch h)
 | cons x9 l ih =>
  obtain⟨k,v⟩:=x9;intro x c n h;rw[List.map_cons,List.nodup_cons] at n;dsimp only [List.lookup_cons];refine mc2 h (λ h=>?_) λ h=>?_
  ·cases h;simp
  ·have:(x==k)=false:=by
    cases q:x==k with
    | false=>rfl
    | true=>exact absurd (List.mem_map.mpr ⟨_,h,eq_of_beq q⟩) n.1
   rw[this];exact ih n.2 h
theorem eK:∀(names:List (Str×NameKind)) (x:Str),(names.map λ(n,k)=>if(k==NameKind.free&&env.scope.kind==.function&&env.kindOf n==some .cell) then(n,NameKind.cell) else(n,k)).lookup x =
  (names.lookup x).map λ k=>if(k==NameKind.free&&env.scope.kind==.function&&env.kindOf x==some .cell) then .cell else k
 | [],x=>rfl
 | (n,k)::r,x=>by
  simp only[List.map_cons,List.lookup_cons];have ih:=eK r x;cases q:x==n with
  | true =>
   have:=eq_of_beq q;clear q;subst this;by_cases h:(k==NameKind.free&&env.scope.kind==.function&&env.kindOf x==some .cell)=true
   ·simp only[h,if_true,List.lookup_cons,beq_self_eq_true,Option.map_some]
   ·simp only[h,Bool.false_eq_true,if_false,List.lookup_cons,beq_self_eq_true,Option.map_some]
  | false =>
   by_cases h:(k==NameKind.free&&env.scope.kind==.function&&env.kindOf n==some .cell)=true
   ·simp only[h,if_true,List.lookup_cons,q];exact ih
   ·simp only[h,Bool.false_eq_true,if_false,List.lookup_cons,q];exact ih
noncomputable def iT(env:Env):List (Str×NameKind)->List (Str×Addr)->List (Str×Addr)
 | [],acc=>acc
 | (n,k)::r,acc=>if k==.free then iT env r ((n,(env.cells.lookup n).getD 0)::acc) else iT env r acc
theorem zM(f:Str×NameKind->List (Str×Addr)->Sem (ForInStep (List (Str×Addr))))(hf:∀ n k cs,f (n,k) cs=if k==.free then(do let a <- cellOf env n;pure (.yield ((n,a)::cs))) else pure (.yield cs)) :
  ∀(names:List (Str×NameKind)) (acc:List (Str×Addr)),(∀ y,(y,NameKind.free)∈names->∃ c,env.cells.lookup y=some c)->(forIn names acc f:Sem _)=pure (iT env names acc):=by
 intro l9;induction l9 with
 | nil =>
  intro acc _;dsimp only [List.forIn_nil];rfl
 | cons x9 r ih =>
  obtain⟨n,k⟩:=x9;intro acc h;rw[List.forIn_cons,hf];have hr:∀ y,(y,NameKind.free)∈r->∃ c,env.cells.lookup y=some c:=λ y hy=>h y (.tail _ hy);dsimp only [iT];by_cases hk:(k==NameKind.free)=true
  ·rw[if_pos hk,if_pos hk];have hk':k=.free:=by simpa using hk
   clear hk;subst hk';refine aB (h n (.head _)) λ c hc=>?_;have:cellOf env n=pure c:=by unfold cellOf;rw[hc]
   rw[this,hc];simp only[pure_bind];exact ih _ hr
  ·rw[if_neg hk,if_neg hk];simp only[pure_bind];exact ih _ hr
theorem Jd:∀(names:List (Str×NameKind)) (acc:List (Str×Addr)),(∀ y,(y,NameKind.free)∈names->∃ c,env.cells.lookup y=some c)->(∀ z c,acc.lookup z=some c->env.cells.lookup z=some c) ->
  (∀ z c,(iT env names acc).lookup z=some c->env.cells.lookup z=some c)/\∀ y,((y,NameKind.free)∈names∨∃ c,acc.lookup y=some c)->∃ c,(iT env names acc).lookup y=some c:=by
 intro l9;induction l9 with
 | nil =>
  intro acc _ ha;exact⟨ha,λ y h=>h.elim (λ q=>nomatch q) id⟩
 | cons x9 r ih =>
  obtain⟨n,k⟩:=x9;intro acc h ha;have hr:∀ y,(y,NameKind.free)∈r->∃ c,env.cells.lookup y=some c:=λ y hy=>h y (.tail _ hy);dsimp only [iT];by_cases hk:(k==NameKind.free)=true
  ·rw[if_pos hk];have hk':k=.free:=by simpa using hk
   clear hk;subst hk';refine aB (h n (.head _)) λ c hc=>?_;rw[hc];have ih:=ih ((n,c)::acc) hr λ z d hz=>by
    dsimp only [List.lookup_cons] at hz;cases q:z==n with
    | true=>rw[q] at hz;have q:=sj hz;clear hz;subst q;rw[eq_of_beq q];exact hc
    | false=>rw[q] at hz;exact ha z d hz
   refine aY ih.1 λ y hy=>ih.2 y ?_;by_cases q:y=n
   ·exact .inr ⟨c,by rw[q];simp⟩
   ·rcases hy with hy|⟨d,hy⟩
    ·refine mc2 hy (λ hy=>?_) λ hy=>?_
     ·cases hy;exact absurd rfl q
     ·exact .inl hy
    ·refine .inr ⟨d,?_⟩;rw[List.lookup_cons,hZ q];exact hy
  ·rw[if_neg hk];have ih:=ih acc hr ha;refine aY ih.1 λ y hy=>ih.2 y ?_;rcases hy with hy|hy
   ·refine mc2 hy (λ hy=>?_) λ hy=>?_
    ·cases hy;exact absurd rfl hk
    ·exact .inl hy
   ·exact .inr hy
theorem jT(h:∀ y,(y,NameKind.free)∈scope.names->∃ c,env.cells.lookup y=some c):closureFor scope env=pure (iT env scope.names []):=by
 dsimp only [closureFor];have:=zM (env:=env) (λ x cs=>match x with|(n,k)=>if k==.free then(do let a <- cellOf env n;pure (.yield ((n,a)::cs))) else pure (.yield cs)) (λ _ _ _=>rfl) scope.names [] h
 refine Eq.trans ?_ this;simp only;exact bind_pure _
theorem jX{M globals cl qual outer Q}(h:Q { scope,locals:=s.heap.objs.size,globals,cells:=cellsFrom (s.heap.objs.size+1) scope.names cl,qual,func:=none,code:=outer.code,frame:=outer.frame,builtins:=outer.builtins }
   { s with heap:=pushCells (s.heap.push { cls:=.type "dict",data:=.dict #[] }) scope.names }) :
  wpAny M A (newFunctionEnv scope globals cl [] qual none .none (some outer)) Q E s:=by
 simp only[newFunctionEnv,Option.isSome_some,if_true];refine wB (wpAny_alloc ?_);refine wB (wpAny_layCells _ (λ name kind cells=>by cases hkc:kind==NameKind.cell<;>simp[hkc]) _ _ _ _ ?_)
 rw[show({ s with heap:=s.heap.push { cls:=.type "dict",data:=.dict #[] } }:Shared).heap.objs.size=s.heap.objs.size+1 from Heap.size_push ..];refine wB ?_;rw[List.forIn_nil];exact wP (wP h)
end
section
open PySem.SeqAt
theorem vW{r lvc}(h:iA (y::r) lv=some lvc):∃ w s u,lv.lookup y=some w/\iA r lv=some s/\fzv w=some u/\(y,u)::s=lvc:=by
 dsimp only [iA] at h;generalize lv.lookup y=a at h ⊢;generalize iA r lv=b at h ⊢;cases a with
 | none=>exact nos h
 | some w=>cases b with
  | none=>exact nos h
  | some s =>
   refine aE (Option.map_eq_some_iff.mp h) λ u hu e=>?_;exact Pz w s u rfl rfl hu e
theorem vV:∀{fr:List Str} {lv lvc:LV} {x:Str} {v:PV},iA fr lv=some lvc->lvc.lookup x=some v->x∈fr/\∃ w,lv.lookup x=some w/\fzv w=some v:=by
 intro fr lv;induction fr with
 | nil =>
  intro lvc x v h e;obtain rfl:=sj h;exact nos e
 | cons y r ih =>
  intro lvc x v h e;refine rC (vW h) ?_;clear h;rintro w s u h1 h2 hu rfl;rw[bE] at e;by_cases q:x=y
  ·rw[if_pos q] at e;have q:=sj e;clear e;subst q;exact aY (q▸.head _) (bK w (q▸h1) hu)
  ·rw[if_neg q] at e;refine aK (ih h2 e) λ a b=>?_;exact aY (.tail _ a) b
theorem Iw:∀{fr:List Str} {lv lvc:LV},iA fr lv=some lvc->∀ y∈fr,∃ w v,lv.lookup y=some w/\fzv w=some v:=by
 intro fr lv;induction fr with
 | nil=>exact λ _ y hy=>nomatch hy
 | cons z r ih =>
  intro lvc h y hy;refine rC (vW h) λ w s u h1 h2 hu _=>?_;refine mc2 hy (λ q=>?_) λ q=>?_
  ·exact rR w u (q▸h1) hu
  ·exact ih h2 y q
theorem hJ:x∈bZ scope↔(x,NameKind.free)∈scope.names:=by
 unfold bZ;rw[List.mem_map]
 constructor
 ·rintro⟨⟨y,k⟩,h,rfl⟩;refine aK (List.mem_filter.mp h) λ h1 h2=>?_;have:k=.free:=by simpa using h2
  exact this▸h1
 ·intro h;exact bK _ (List.mem_filter.mpr ⟨h,by rfl⟩) rfl
theorem fM(h:Heap)(names:List (Str×NameKind)):h.StaysIn (pushCells h names):=λ b o e=>pushCells_keeps names h b o e
noncomputable def dI(scope:Scope)(env:Env)(C:Addr):Env :=
 { scope:=relabel scope env,locals:=C,globals:=env.globals,cells:=cellsFrom (C+1) scope.names (iT env scope.names []),qual:=env.qual,func:=none,code:=env.code,frame:=env.frame,builtins:=env.builtins }
structure ScopeOk(sc scope:Scope):Prop where
 kind:scope.kind=.function
 nd:(scope.names.map (·.1)).Nodup
 fr:∀ y∈bZ scope,sc.names.lookup y=some .cell∨sc.names.lookup y=some .free
theorem Up.same{h h''}(k:Up H h h')(hs:∀ b o,b≠c->h'.get? b=some o->h''.get? b=some o)(f:h.get? c=none):Up H h h'' :=
 have no:∀{b o},h.get? b=some o->b≠c:=λ e q=>by rw[q,f] at e;exact nos e
 ⟨λ b o n e=>hs b o (no e) (k.out b o n e),λ b o d e=>hs b o (no e) (k.nd b o d e),λ b o e=>let⟨s,q⟩:=k.sl b o e;⟨s,hs b _ (no e) q⟩⟩
theorem Up.new{h}(k:Up H h h'){a}(f:h'.get? a=none):h.get? a=none:=by
 cases q:h.get? a with
 | none=>rfl
 | some o=>refine aB (k.sl a o q) λ _ z=>?_;rw[f] at z;exact nos z
section
variable{h₀:Heap}
theorem rZ(I:Inv X env oc ρ h₀ lv σ)(F:Fx sc env oc){w v}(hx:sc.names.lookup x=some .cell∨sc.names.lookup x=some .free)(e:lv.lookup x=some w)(z:fzv w=some v) :
  ∃ c rv,env.cells.lookup x=some c/\h₀.IsCell c (some rv)/\VRel (GG X env oc ρ h₀) v rv/\c∉X/\c≠env.locals/\c∉Ro.all ρ:=by
 have hk:=F.cel x hx;cases q:oc.lookup x with
 | some c =>
  refine aE (I.cell x c q) λ ov a b=>?_;refine aE (b w e) ?_;rintro rv rfl r;have hm:c∈aH env oc ρ:=gP q;have nd:=List.nodup_cons.mp I.nd;have nd2:=List.nodup_append.mp nd.2;have hcm:c∈oc.map (·.2):=List.mem_map.mpr ⟨(x,c),dO q,rfl⟩;exact aC8 c rv ((I.oce x c q).1) a (r.fzv z) (λ m=>I.off c m hm) (λ m=>nd.1 (m▸mL hcm)) λ m=>nd2.2.2 c hcm c m rfl
 | none =>
  refine bB (I.free x w e (pX hk) q) λ c rv a q1 d=>aE q1 λ o b b'=>?_;have z':w=v:=by unfold fzv at z;split at z<;>simp_all
  have:=dT b;refine aC8 c rv a ⟨o,this.1,b'⟩ (z'▸d) (λ m=>this.2 (mL m)) (λ m=>this.2 (mR (m▸.head _))) λ m=>this.2 (mR (aN m))
theorem tS(F:Fx sc env oc)(so:ScopeOk sc scope)(C:Addr):Fx scope (dI scope env C) (cellsFrom (C+1) scope.names []) where
 kind:=so.kind
 glob:=F.glob
 bi:=F.bi
 loc:=λ x h=>lookup_relabel_local h
 gl:=λ x h=>by
  show(relabel scope env).names.lookup x=_;unfold relabel;rw[eK,h];rfl
 cel:=λ x h=>by
  show(relabel scope env).names.lookup x=_∨(relabel scope env).names.lookup x=_;unfold relabel;rw[eK];refine h.elim (λ h=>?_) λ h=>?_
  ·rw[h];exact .inl rfl
  ·rw[h,Option.map_some];by_cases q:(NameKind.free==NameKind.free&&env.scope.kind==.function&&env.kindOf x==some .cell)=true
   ·rw[if_pos q];exact .inl rfl
   ·rw[if_neg q];exact .inr rfl
 own:=λ x h=>jW ((dZ _ _ _ _).mpr (.inl (mem_of_lookup h)))
theorem iU(I:Inv X env oc ρ h₀ lv σ)(F:Fx sc env oc)(so:ScopeOk sc scope){lvc}(hc:iA (bZ scope) lv=some lvc):∀ y,(y,NameKind.free)∈scope.names->∃ c,env.cells.lookup y=some c:=by
 intro y hy;refine eX (Iw hc y (hJ.mpr hy)) λ w v e z=>?_;refine eX (rZ I F (so.fr y (hJ.mpr hy)) e z) λ c _ a _=>?_;exact bM c a
theorem pC{S:Sys prog w}{N:Nat}(C:CxI S N A h₀ (X) env oc ρ)(I:Inv X env oc ρ h₀ lv σ)(F:Fx sc env oc)(so:ScopeOk sc scope){lvc:LV}(hc:iA (bZ scope) lv=some lvc){h₃:Heap}{It D:Addr}(k:Up (X++aH env oc ρ) h₀ h₃)(fI:h₀.get? It=none)(fD:h₀.get? D=none)(lI:∃ o,h₃.get? It=some o)(lD:h₃.get? D=some (cK [] n)) :
  CLoop S N A (It::D::(X++(env.locals::Ro.all ρ))) (dI scope env h₃.objs.size) (cellsFrom (h₃.objs.size+1) scope.names []) lvc D [] (pushCells (h₃.push { cls:=.type "dict",data:=.dict #[] }) scope.names):=by
 have ok:=cellsFrom_ok scope.names (h₃.push { cls:=.type "dict",data:=.dict #[] }) (h₃.objs.size+1) [] ⟨λ _ _ hm=>(nomatch hm),List.Pairwise.nil⟩ (by rw[Heap.size_push];exact Nat.le_refl _)
 rw[Heap.size_push] at ok;have k4:h₃.StaysIn (pushCells (h₃.push { cls:=.type "dict",data:=.dict #[] }) scope.names):=aM (aS _ _) (fM _ _);have k04:Up (X++aH env oc ρ) h₀ (pushCells (h₃.push { cls:=.type "dict",data:=.dict #[] }) scope.names):=k.trans (.of k4);have lt3:∀{a:Addr} {o:Obj},h₃.get? a=some o->a<h₃.objs.size:=λ e=>Heap.lt_size e;have own_ge:∀{a:Addr},a∈aH (dI scope env h₃.objs.size) (cellsFrom (h₃.objs.size+1) scope.names []) []->h₃.objs.size≤a:=by
  intro a ha;unfold aH at ha;refine mc2 ha (λ q=>?_) λ q=>?_
  ·exact q▸Nat.le_refl _
  ·refine bN q (λ q=>?_) λ q=>?_
   ·refine aE (List.mem_map.mp q) ?_;rintro⟨x,c⟩ hm rfl;exact Nat.le_of_succ_le (ok.empty x c hm).2
   ·exact absurd q (by simp[Ro.all])
 have liveX:∀ a∈It::D::(X++(env.locals::Ro.all ρ)),∃ o,h₃.get? a=some o:=by
  intro a ha;refine mc2 ha (λ q=>?_) λ q=>?_
  ·exact q▸lI
  ·refine mc2 q (λ q=>?_) λ q=>?_
   ·exact bM _ (q▸lD)
   ·have:a∈X++aH env oc ρ:=by
     refine bN q (λ q=>?_) λ q=>?_
     ·exact mL q
     ·refine mc2 q (λ q=>?_) λ q=>?_
      ·exact mR (q▸.head _)
      ·exact mR (aN q)
    exact k.live (I.live a this)
 have offX:∀ a∈It::D::(X++(env.locals::Ro.all ρ)),a∉aH (dI scope env h₃.objs.size) (cellsFrom (h₃.objs.size+1) scope.names []) []:=λ a ha hm=>by
  refine aB (liveX a ha) λ o e=>?_;exact Nat.lt_irrefl _ (Nat.lt_of_lt_of_le (lt3 e) (own_ge hm))
 have names_of:∀{x:Str} {v:PV},lvc.lookup x=some v->scope.names.lookup x=some .free:=λ e=>dF so.nd (hJ.mp (vV hc e).1);have noown:∀{x:Str} {v:PV},lvc.lookup x=some v->(cellsFrom (h₃.objs.size+1) scope.names []).lookup x=none:=by
  intro x v e;cases q:(cellsFrom (h₃.objs.size+1) scope.names []).lookup x with
  | none=>rfl
  | some c =>
   have:=(dZ scope.names (h₃.objs.size+1) [] x).mp (List.mem_map.mpr ⟨_,mem_of_lookup q,rfl⟩);refine this.elim (λ h=>?_) λ h=>?_
   ·have:=dF so.nd h;rw[names_of e] at this;cases this
   ·simp at h
 refine⟨⟨⟨λ _=>none,?_,λ x v e hk=>?_⟩,λ x c e=>?_,λ x v e hk ho=>?_,λ x c e=>?_,.nil,?_,λ a ha=>?_,offX,iK _ _ _ so.nd List.nodup_nil (λ _ _ q=>nomatch q)⟩,?_,.tail _ (.head _),?_⟩
 ·exact(Heap.Ns.new h₃ (.type "dict")).keeps (pushCells_keeps _ _)
 ·have:=(tS F so h₃.objs.size).cel x (.inr (names_of e));exact absurd hk (pX this)
 ·refine bK none ((ok.empty x c (mem_of_lookup e)).1) λ v ev=>?_;rw[noown ev] at e;exact nos e
 ·refine aK (vV hc e) λ hx q2=>aE q2 λ w ew hz=>?_;refine aEb (rZ I F (so.fr x hx) ew hz) λ c rv a q3 d n1 n2 n3=>aE q3 λ o b b'=>?_;have fr:=Jd (env:=env) scope.names [] (iU I F so hc) (λ _ _ q=>nomatch q);refine dR c rv ?_ ⟨o,dG (k04.nd c o (by unfold cN;rw[b']) b) λ q=>?_,b'⟩ (d.mono (aU λ b o e n=>⟨k04.out b o n e,λ q=>?_⟩))
  ·show(cellsFrom (h₃.objs.size+1) scope.names (iT env scope.names [])).lookup x=some c;rw[jS,kP,noown e];refine aB (fr.2 x (.inl (hJ.mp hx))) λ c' hc'=>?_;have:=fr.1 x c' hc';rw[a] at this;have q:=sj this;clear this;subst q;exact hc'
  ·refine bN q (λ q=>?_) λ q=>?_
   ·refine mc2 q (λ q=>?_) λ q=>?_
    ·rw[q,fI] at b;exact nos b
    ·refine mc2 q (λ q=>?_) λ q=>?_
     ·rw[q,fD] at b;exact nos b
     ·refine bN q (λ q=>?_) λ q=>?_
      ·exact n1 q
      ·refine mc2 q (λ q=>?_) λ q=>?_
       ·exact n2 q
       ·exact n3 q
   ·refine aB (k.sl _ _ b) λ _ z=>?_;exact Nat.lt_irrefl _ (Nat.lt_of_lt_of_le (lt3 z) (own_ge q))
  ·refine bN q (λ q=>?_) λ q=>?_
   ·refine mc2 q (λ q=>?_) λ q=>?_
    ·rw[q,fI] at e;exact nos e
    ·refine mc2 q (λ q=>?_) λ q=>?_
     ·rw[q,fD] at e;exact nos e
     ·refine bN q (λ q=>?_) λ q=>?_
      ·exact n (mL q)
      ·refine mc2 q (λ q=>?_) λ q=>?_
       ·exact n (mR (q▸.head _))
       ·exact n (mR (aN q))
   ·refine aB (k.sl _ _ e) λ _ z=>?_;exact Nat.lt_irrefl _ (Nat.lt_of_lt_of_le (lt3 z) (own_ge q))
 ·refine aY ?_ ?_
  ·show(cellsFrom (h₃.objs.size+1) scope.names (iT env scope.names [])).lookup x=some c;rw[jS,kP,e];rfl
  ·have hx:scope.names.lookup x=some .cell:=by
    have:=(dZ scope.names (h₃.objs.size+1) [] x).mp (List.mem_map.mpr ⟨_,mem_of_lookup e,rfl⟩);refine this.elim (λ h=>?_) λ h=>?_
    ·exact dF so.nd h
    ·simp at h
   show(relabel scope env).names.lookup x=_;unfold relabel;rw[eK,hx];rfl
 ·unfold aH;rw[List.nodup_cons];refine aY (λ q=>?_) ?_
  ·refine bN q (λ q=>?_) λ q=>?_
   ·refine aE (List.mem_map.mp q) ?_;rintro⟨x,c⟩ hm q;have:=(ok.empty x c hm).2;have q':c=h₃.objs.size:=q;rw[q'] at this;exact Nat.lt_irrefl _ this
   ·exact absurd q (by simp[Ro.all])
  ·rw[show Ro.all ([]:Ro)=[] from rfl,List.append_nil];exact List.pairwise_map.mpr ok.apart
 ·refine bN ha (λ q=>?_) λ q=>?_
  ·refine aB (liveX a q) λ o e=>?_;exact bM o (k4 _ _ e)
  ·unfold aH at q;refine mc2 q (λ q=>?_) λ q=>?_
   ·refine jE ((Heap.Ns.new h₃ (.type "dict")).keeps (pushCells_keeps scope.names _)) λ o _ _ e _=>?_;exact bM o (q▸e)
   ·refine bN q (λ q=>?_) λ q=>?_
    ·refine aE (List.mem_map.mp q) ?_;rintro⟨x,c⟩ hm rfl;refine aE ((ok.empty x c hm).1) λ o e _=>?_;exact bM o e
    ·exact absurd q (by simp[Ro.all])
 ·exact⟨[],n,k4 _ _ lD,.nil⟩
 ·refine Cx.move C (aU λ b o e n=>⟨k04.out b o n e,λ q=>?_⟩) λ L hL hF o es n e d=>?_
  ·refine bN q (λ q=>?_) λ q=>?_
   ·refine mc2 q (λ q=>?_) λ q=>?_
    ·rw[q,fI] at e;exact nos e
    ·refine mc2 q (λ q=>?_) λ q=>?_
     ·rw[q,fD] at e;exact nos e
     ·refine bN q (λ q=>?_) λ q=>?_
      ·exact n (mL q)
      ·refine mc2 q (λ q=>?_) λ q=>?_
       ·exact n (mR (q▸.head _))
       ·exact n (mR (aN q))
   ·refine aB (k.sl _ _ e) λ _ z=>?_;exact Nat.lt_irrefl _ (Nat.lt_of_lt_of_le (lt3 z) (own_ge q))
  ·refine aB (k04.sl L o e) λ s z=>?_;have hx:L∈X++(env.locals::Ro.all ρ):=by
    refine mc2 hF (λ q=>?_) λ q=>?_
    ·exact mR (q▸.head _)
    ·exact mL q
   exact fP (mL (.tail _ (.tail _ hx))) (.tail _ (.tail _ (.tail _ hx))) (vE _ es n z d)
end
section
variable(S:Sys prog w)
theorem Qv{fr elt it ifs v}(e:ev T (n+1) (.comp fr elt (.mk (.n x) it ifs::gs)) lv σ=some v) :
  ∃ items lvc out,eH T n it lv σ=some items/\iA fr lv=some lvc/\fE (jU T n x ifs elt gs lvc) items=some out/\out.length<100000/\v=.list out:=by
 have e':(eH T n it lv σ).bind (λ items=>(iA fr lv).bind λ lvc=>(fE (jU T n x ifs elt gs lvc) items).bind λ out=>if out.length<100000 then some (.list out) else none)=some v:=e
 simp only[Option.bind_eq_some_iff,Option.ite_none_right_eq_some,Option.some.injEq] at e';refine aE e' ?_;clear e';intro items a q4;refine aE q4 ?_;clear q4;intro lvc b q5;refine fQ q5 ?_;clear q5;rintro out c d rfl;exact aBp items lvc out a b c d rfl
structure CompOk(sc scope:Scope)(elt t iter:Expr)(ifs:List Expr)(rest:List Comprehension)(x:Str)(it:It)(ifs':List Ex)(gs':List Gn)(elt':Ex):Prop where
 so:ScopeOk sc scope
 nm:∀ y∈scope.names,y.2=.local->scope.names.lookup y.1=some .local
 tit:hY sc iter it
 si:gI it
 tt:TrT scope t (.n x)
 ti:cM scope ifs ifs'
 tg:tL scope rest gs'
 te:TrE scope elt elt'
theorem zO(h:TrE sc (.ListComp elt gens scope p) a)(hc:pU a=true) :
  ∃ t iter ifs rest x it ifs' gs' elt',gens=⟨t,iter,ifs,0⟩::rest/\a=.comp (bZ scope) elt' (.mk (.n x) it ifs'::gs')/\CompOk sc scope elt t iter ifs rest x it ifs' gs' elt':=by
 rcases a with⟨⟩<;>first|exact nft hc|skip
 refine kT h.inv ?_;clear h;intro _ t iter ifs rest _ _ q6;refine gS q6 ?_;clear q6;intro x it ifs' gs' he hf hg q7;refine Bx q7 ?_;clear q7;intro q8;refine kR q8 ?_;clear q8;intro hk hnm hnd hfr;intro tit si tt ti tg te;rcases he with⟨⟩;exact Hh t iter ifs rest x it ifs' (dR gs' _ rfl (by rw[hf,hg]) ⟨⟨hk,hnd,hfr⟩,hnm,tit,si,tt,ti,tg,te⟩)
theorem pD(L:Low S n){it ifs' elt' v}(K:CompOk sc scope elt t iter ifs rest x it ifs' gs elt')(e:ev S.T (n+1) (.comp (bZ scope) elt' (.mk (.n x) it ifs'::gs)) lv σ=some v){use:Option (Value->Sem Unit)}(C:CxI S (n+1) A s.heap (X) env oc ρ)(F:Fx sc env oc)(I:Inv X env oc ρ s.heap lv σ)(h:∀ h' tk D C',Up (X++aH env oc ρ) s.heap h'->s.heap.get? C'=none->(∃ m,h'.Ns C' m)->D≠C'->(∀ h'',Heap.SameBut C' h' h''->VRel (GG (C'::X) env oc ρ h'') v (.ref D)) ->
   compPost (model prog w) A E use Q (.ref D) C' (.ok .next) { s with heap:=h',toks:=tk }) :
  wpAny (model prog w) A (comprehension (.ListComp elt (⟨t,iter,ifs,0⟩::rest) scope p) scope env pos (newList []) false (eval iter env) use) Q E s:=by
 obtain⟨so,hnm,tit,si,tt,ti,tg,te⟩:=K;have hk:=so.kind;refine Uw (Qv e) ?_;rintro items lvc out e1 e2 e3 e4 rfl;refine aB (mI e1) ?_;rintro m rfl;have cl:=jT (iU I F so e2);refine wpAny_comprehension_free rfl (λ v=>tit.nset env v) cl hk hnm ?_;refine iD S (L.e m (Nat.le_succ _)) (L.es m (Nat.le_succ _)) si tit e1 C.down F I λ h₁ h₂ tk It fp P St k₁ k₂ fI lI feed st hl=>?_;refine wpAny_newObj_type ?_;refine jX ?_;have kD:=aS h₂ { cls:=.type "list",dict:=none,data:=.seq ([]:List Value).toArray };have k02:Up (X++aH env oc ρ) s.heap h₂:=k₁.trans (.of k₂);have fD:s.heap.get? h₂.objs.size=none:=k02.new (bW _);have fI0:s.heap.get? It=none:=k₁.new fI;have fC:s.heap.get? (h₂.push { cls:=.type "list",dict:=none,data:=.seq ([]:List Value).toArray }).objs.size=none:=(k02.trans (.of kD)).new (bW _);generalize hh3:h₂.push { cls:=.type "list",dict:=none,data:=.seq ([]:List Value).toArray }=h₃ at kD fC;have lD:h₃.get? h₂.objs.size=some (cK [] 0):=by rw[<- hh3];exact Heap.get?_push_size _ rfl
 have lI3:∃ o,h₃.get? It=some o:=let⟨o,q⟩:=lI;⟨o,kD _ _ q⟩
 have c:=pC C.down I F so e2 (k02.trans (.of kD)) fI0 fD lI3 lD;have Fc:=tS F so h₃.objs.size;have k4:h₃.StaysIn (pushCells (h₃.push { cls:=.type "dict",data:=.dict #[] }) scope.names):=aM (aS _ _) (fM _ _);have k24:=aM kD k4;have k14:=aM k₂ k24;have own_ge:∀{a:Addr},a∈aH (dI scope env h₃.objs.size) (cellsFrom (h₃.objs.size+1) scope.names []) []->h₃.objs.size≤a:=by
  intro a ha;unfold aH at ha;refine mc2 ha (λ q=>?_) λ q=>?_
  ·exact q▸Nat.le_refl _
  ·refine bN q (λ q=>?_) λ q=>?_
   ·refine aE (List.mem_map.mp q) ?_;rintro⟨x,c⟩ hm rfl;have ok:=cellsFrom_ok scope.names (h₃.push { cls:=.type "dict",data:=.dict #[] }) (h₃.objs.size+1) [] ⟨λ _ _ hm=>(nomatch hm),List.Pairwise.nil⟩ (by rw[Heap.size_push];exact Nat.le_refl _)
    rw[Heap.size_push] at ok;exact Nat.le_of_succ_le (ok.empty x c hm).2
   ·exact absurd q (by simp[Ro.all])
 have own_new:∀{a:Addr} {o:Obj},h₃.get? a=some o->a∉aH (dI scope env h₃.objs.size) (cellsFrom (h₃.objs.size+1) scope.names []) []:=λ e hm=>Nat.lt_irrefl _ (Nat.lt_of_lt_of_le (Heap.lt_size e) (own_ge hm));have ID:It≠h₂.objs.size:=λ q=>by refine aB lI ?_;clear lI;intro o e;rw[q,bW] at e;exact nos e
 have live0:∀ b∈X++(env.locals::Ro.all ρ),∃ o,s.heap.get? b=some o:=λ b hb=>by
  have:b∈X++aH env oc ρ:=by
   refine bN hb (λ q=>?_) λ q=>?_
   ·exact mL q
   ·refine mc2 q (λ q=>?_) λ q=>?_
    ·exact mR (q▸.head _)
    ·exact mR (aN q)
  exact I.live b this
 have gk:(GG X env oc ρ h₁).StaysIn (GG (It::h₂.objs.size::(X++(env.locals::Ro.all ρ))) (dI scope env h₃.objs.size) (cellsFrom (h₃.objs.size+1) scope.names []) [] (pushCells (h₃.push { cls:=.type "dict",data:=.dict #[] }) scope.names)) :=
  aU λ b o e n=>⟨k14 _ _ e,λ q=>by
   refine bN q (λ q=>?_) λ q=>?_
   ·refine mc2 q (λ q=>?_) λ q=>?_
    ·rw[q,fI] at e;exact nos e
    ·refine mc2 q (λ q=>?_) λ q=>?_
     ·have:=k₂ _ _ e;rw[q,bW] at this;exact nos this
     ·refine bN q (λ q=>?_) λ q=>?_
      ·exact n (mL q)
      ·refine mc2 q (λ q=>?_) λ q=>?_
       ·exact n (mR (q▸.head _))
       ·exact n (mR (aN q))
   ·exact own_new (kD _ _ (k₂ _ _ e)) q⟩
 have IX:It∉h₂.objs.size::(X++(env.locals::Ro.all ρ)):=λ q=>by
  refine mc2 q (λ q=>?_) λ q=>?_
  ·exact ID q
  ·refine aB (live0 It q) λ o e=>?_;rw[fI0] at e;exact nos e
 have Dfp:h₂.objs.size∉fp:=λ q=>by
  rcases feed.fpIn _ q with q|⟨o,q,_⟩
  ·exact ID q.symm
  ·have:=k₂ _ _ (dT q).1;rw[bW] at this;exact nos this
 have key:codeAny (model prog w) A (.compLoop (.ListComp elt (⟨t,iter,ifs,0⟩::rest) scope p) 0 (.ref It) (.ref h₂.objs.size) (dI scope env h₃.objs.size)) (compPost (model prog w) A E use Q (.ref h₂.objs.size) h₃.objs.size)
   { s with heap:=pushCells (h₃.push { cls:=.type "dict",data:=.dict #[] }) scope.names,toks:=tk }:=by
  refine Ah S L te rest _ 0 t iter ifs _ _ (m+1) (Nat.le_refl _) rfl rfl tt ti tg e3 Fc c IX (.head _) Dfp feed gk (feed.W.frame _ _ _ st λ b _ o e=>k24 b o e) (by simpa using e4) λ h' tk' c' hk'=>?_
  have newm:∀ b∈aH (dI scope env h₃.objs.size) (cellsFrom (h₃.objs.size+1) scope.names []) [],s.heap.get? b=none:=λ b hb=>by
   cases q:s.heap.get? b with
   | none=>rfl
   | some o =>
    refine aB (k02.sl _ _ q) λ _ z=>?_;exact absurd hb (own_new (kD _ _ z))
  have k0':Up (X++aH env oc ρ) s.heap h':=(UpB.after (N:=[]) (k02.trans (.of k24)) hk' (λ b q=>.inr (by
    refine mc2 q (λ q=>?_) λ q=>?_
    ·exact q▸fD
    ·refine mc2 q (λ q=>?_) λ q=>?_
     ·exact q▸fI0
     ·exact newm b q)) (λ b q=>by
    refine bN q (λ q=>?_) λ q=>?_
    ·refine mc2 q (λ q=>?_) λ q=>?_
     ·exact .inr (q▸fI0)
     ·refine mc2 q (λ q=>?_) λ q=>?_
      ·exact .inr (q▸fD)
      ·refine .inl ?_;refine bN q (λ q=>?_) λ q=>?_
       ·exact mL q
       ·refine mc2 q (λ q=>?_) λ q=>?_
        ·exact mR (q▸.head _)
        ·exact mR (aN q)
    ·exact .inr (newm b q))).toUp
  obtain⟨vs,kk,ea,rs⟩:=c'.acc;have fin:∀ h'',Heap.SameBut h₃.objs.size h' h''->VRel (GG (h₃.objs.size::X) env oc ρ h'') (.list out) (.ref h₂.objs.size):=λ h'' hs=>by
   have dc:h₂.objs.size≠h₃.objs.size:=by
    rw[<- hh3,Heap.size_push];exact Nat.ne_of_lt (Nat.lt_succ_self _)
   have hsub:∀ b o,h'.get? b=some o->b≠h₃.objs.size->h''.get? b=some o:=λ b o e n=>hs.extBut b o n e;refine .list (dG (hsub _ _ ea dc) λ q=>?_) (rs.monoC λ b o e d=>?_)
   ·refine mc2 q (λ q=>?_) λ q=>?_
    ·exact dc q
    ·refine aB (I.live _ q) λ o e=>?_;rw[fD] at e;exact nos e
   ·have z:=dT e;refine dG (hsub _ _ z.1 λ q=>z.2 (mR (q▸.head _))) λ q=>?_;rcases List.mem_append.mp (List.mem_cons.mp q |>.resolve_left λ q=>z.2 (mR (q▸.head _))) with q|q
    ·exact z.2 (mL (.tail _ (mL q)))
    ·unfold aH at q;refine mc2 q (λ q=>?_) λ q=>?_
     ·exact z.2 (mL (.tail _ (mR (q▸.head _))))
     ·refine bN q (λ q=>?_) λ q=>?_
      ·refine eX (vZ I q) λ ov oo eo dd=>?_;have:=k0'.nd _ _ (by unfold cN;rw[dd]) eo
       rw[z.1] at this;have q:=sj this;clear this;subst q;exact d ov dd
      ·exact z.2 (mL (.tail _ (mR (.tail _ q))))
  refine aE c'.inv.ns λ mm hn _=>?_;have dc:h₂.objs.size≠h₃.objs.size:=by
   rw[<- hh3,Heap.size_push];exact Nat.ne_of_lt (Nat.lt_succ_self _)
  exact h h' tk' h₂.objs.size h₃.objs.size k0' fC ⟨mm,hn⟩ dc fin
 exact dL rfl key λ E'=>feed.W.self 0 _ _ _ (feed.W.frame _ _ _ st λ b _ o e=>k24 b o e) key
theorem aAR(L:Low S n):SK S (n+1):=by
 intro sc e fr elt gs lv σ v tr;refine kT tr.inv ?_;clear tr;intro _ _ _ _ _ _ _ q9;refine gS q9 ?_;clear q9;intro _ _ _ _ rfl rfl rfl q10;refine Bx q10 ?_;clear q10;intro q11;refine kR q11 ?_;clear q11;intro hk hnm hnd hfr;intro tit si tt ti tg te;intro ev' A env X oc ρ s Q E C F I h;dsimp only [eval_ListComp];refine pD S L ⟨⟨hk,hnd,hfr⟩,hnm,tit,si,tt,ti,tg,te⟩ ev' C F I λ h' tk D C' k fC hn dc fin=>?_;refine aB hn ?_;clear hn;intro m hn;refine bK m hn λ h'' hs=>h h'' tk _ (k.same (λ b o n e=>hs.extBut b o n e) fC) (.frozen ((fin h'' hs).mono (aU λ b o e n=>⟨e,λ q=>n (.tail _ q)⟩)))
end
end
section
open PySem.SeqAt
theorem UpB.after'{N₂ H₂ h₃ h₅ h₆}(k1:UpB N H h₃ h₅)(k2:UpB N₂ H₂ h₅ h₆)(hN:∀ b∈N₂,b∈N∨h₃.get? b=none)(hH:∀ b∈H₂,b∈H∨h₃.get? b=none):UpB N H h₃ h₆ :=
 have no:∀{b o},b∉N->h₃.get? b=some o->b∉N₂:=λ n e q=>(hN _ q).elim n λ z=>by rw[z] at e;exact nos e
 ⟨λ b o n m e=>k2.out b o (no n e) (λ q=>(hH b q).elim m λ z=>by rw[z] at e;exact nos e) (k1.out b o n m e),λ b o n d e=>k2.nd b o (no n e) d (k1.nd b o n d e),
  λ b o n e=>let⟨_,e1⟩:=k1.sl b o n e;let⟨s,e2⟩:=k2.sl b _ (no n e) e1;⟨s,e2⟩⟩
structure Step(X:List Addr)(env:Env)(oc:List (Str×Addr))(ρ:Ro)(h:Heap)(ρ':Ro)(h':Heap):Prop where
 grow:∃ ρ₂,ρ'=ρ++ρ₂
 up:UpB (aH env oc ρ) (X++aH env oc ρ) h h'
 new:∀ b∈aH env oc ρ',b∈aH env oc ρ∨h.get? b=none
section
variable{ρ' ρ'':Ro}{h h'':Heap}
theorem Step.refl(ρ:Ro)(h:Heap):Step X env oc ρ h ρ h:=⟨⟨[],by simp⟩,.refl _,λ _ hb=>.inl hb⟩
theorem Step.of_up(k:Up (X++aH env oc ρ) h h'):Step X env oc ρ h ρ h':=⟨⟨[],by simp⟩,.of k,λ _ hb=>.inl hb⟩
theorem Step.trans(a:Step X env oc ρ h ρ' h')(b:Step X env oc ρ' h' ρ'' h''):Step X env oc ρ h ρ'' h'' where
 grow:=let⟨x,ex⟩:=a.grow;let⟨y,ey⟩:=b.grow;⟨x++y,by simp only[ey,ex,List.append_assoc]⟩
 up:=a.up.after' b.up a.new λ c q=>by
  refine bN q (λ q=>?_) λ q=>?_
  ·exact .inl (mL q)
  ·exact(a.new c q).imp (λ z=>mR z) id
 new:=λ c m=>by
  rcases b.new c m with q|q
  ·exact a.new c q
  ·by_cases z:c∈aH env oc ρ
   ·exact .inl z
   ·cases e:h.get? c with
    | none=>exact .inr rfl
    | some o=>refine aB (a.up.sl c o z e) λ _ this=>?_;simp only[q] at this;exact nos this
theorem Step.fz(a:Step X env oc ρ h ρ' h'):(GG X env oc ρ h).StaysIn (GG X env oc ρ' h') :=
 aU λ b o e n=>⟨a.up.out b o (λ q=>n (mR q)) n e,λ q=>by
  refine bN q (λ q=>?_) λ q=>?_
  ·exact n (mL q)
  ·rcases a.new b q with q|q
   ·exact n (mR q)
   ·rw[q] at e;exact nos e⟩
theorem Step.local(k:∀ b o,b∉aH env oc []->h.get? b=some o->h'.get? b=some o):Step X env oc ρ h ρ h' :=
 ⟨⟨[],by simp⟩,.only k λ _ q=>aW q,λ _ hb=>.inl hb⟩
theorem Cx.step{S:Sys prog w}(C:CxI S n A h X env oc ρ)(I:Inv X env oc ρ h lv σ)(I':Inv X env oc ρ' h' lv' σ')(st:Step X env oc ρ h ρ' h'):CxI S n A h' X env oc ρ' :=
 Cx.move C st.fz λ L hL hF o es k e d=>by
  refine mc2 hF (λ q=>?_) λ q=>?_
  ·refine aE I'.ns λ _ q1 _=>bQ q1 λ o' es' k' e' d' _=>?_;exact fP (mR (q▸.head _)) (q▸.head _) (vE o' es' k' (q▸e') d')
  ·refine aB (st.up.sl L o (I.off L q) e) λ s z=>?_;exact fP (mL q) (.tail _ q) (vE _ es k z d)
end
inductive FlRel(g:Heap)(ρ:Ro):Fl->Flow->Prop
 | next:FlRel g ρ .next .next
 | brk:FlRel g ρ .brk .brk
 | cont:FlRel g ρ .cont .cont
 | ret {v:PV} {rv:Value}:XRel g ρ v rv->FlRel g ρ (.ret v) (.ret rv)
section
variable(S:Sys prog w)
noncomputable abbrev fB(X:List Addr)(env:Env)(oc:List (Str×Addr))(ρ:Ro)(s:Shared)(lv':LV)(σ':List MObj)(fl:Fl)(Q:Flow->Shared->Prop):Prop :=
 ∀ h' tk ρ' f,Inv X env oc ρ' h' lv' σ'->Step X env oc ρ s.heap ρ' h'->FlRel (GG X env oc ρ' h') ρ' fl f->Q f { s with heap:=h',toks:=tk }
noncomputable def SS(n:Nat):Prop:=∀{sc:Scope} {st:Stmt} {x:Sx} {lv lv':LV} {σ σ':List MObj} {fl:Fl},TrS sc st x->ex S.T n x lv σ=some (fl,lv',σ') ->
 ∀{A:Around} {env:Env} {X:List Addr} {oc:List (Str×Addr)} {ρ:Ro} {s:Shared} {Q:Flow->Shared->Prop} {E:Value->Shared->Prop},CxI S n A s.heap (X) env oc ρ->Fx sc env oc->Inv X env oc ρ s.heap lv σ ->
  fB X env oc ρ s lv' σ' fl Q->wpAny (model prog w) A (exec st env) Q E s
noncomputable def SSs(n:Nat):Prop:=∀{sc:Scope} {sts:List Stmt} {xs:List Sx} {lv lv':LV} {σ σ':List MObj} {fl:Fl},fJ sc sts xs->exs S.T n xs lv σ=some (fl,lv',σ') ->
 ∀{A:Around} {env:Env} {X:List Addr} {oc:List (Str×Addr)} {ρ:Ro} {s:Shared} {Q:Flow->Shared->Prop} {E:Value->Shared->Prop},CxI S n A s.heap (X) env oc ρ->Fx sc env oc->Inv X env oc ρ s.heap lv σ ->
  fB X env oc ρ s lv' σ' fl Q->wpAny (model prog w) A (execs sts env) Q E s
noncomputable def SW(n:Nat):Prop:=∀{sc:Scope} {t:Expr} {b:List Stmt} {t':Ex} {b':List Sx} {lv lv':LV} {σ σ':List MObj} {fl:Fl},TrE sc t t'->fJ sc b b'->cT S.T n t' b' lv σ=some (fl,lv',σ') ->
 ∀{A:Around} {env:Env} {X:List Addr} {oc:List (Str×Addr)} {ρ:Ro} {s:Shared} {R:Result->Shared->Prop},CxI S n A s.heap (X) env oc ρ->Fx sc env oc->Inv X env oc ρ s.heap lv σ ->
  fB X env oc ρ s lv' σ' fl (λ f s'=>R (.ok f) s')->codeAny (model prog w) A (.whileLoop t b [] env) R s
theorem aAU(hT:ST S n)(hS:SSs S n)(hW:SW S n):SW S (n+1):=by
 intro sc t b t' b' lv lv' σ σ' fl tt tb e A env X oc ρ s R C F I h;refine aZ e ?_;clear e;intro c e1 e2;refine codeAny_of_tree ?_;show wpAny _ A ((whileTurn t b [] env).onRaise (λ x=>do noteFrame x env;theTreesLotGoes x)) _ _ s
 refine wpAny_noted ?_;unfold whileTurn;refine wB (hT tt e1 C.down F I λ h1 tk1 k1=>?_);have I1:=I.ext k1;have C1:=Cx.up C.down k1;clear e1;cases c with
 | false =>
  refine bU (dD e2) ?_;clear I e2;rintro rfl rfl rfl;rw[if_neg (by decide)]
  exact wB (wpAny_execs_nil (wP (h h1 tk1 ρ _ I1 (.of_up k1) .next)))
 | true =>
  refine aZ e2 ?_;clear e2;rintro⟨fl1,lv1,σ1⟩ e3 e4;rw[if_pos rfl];refine wB (hS tb e3 C1 F I1 λ h2 tk2 ρ2 f I2 st2 fr=>?_);have stp:=Step.trans (.of_up k1) st2;clear e3;cases fr with
  | next =>
   refine wP ⟨rfl,?_⟩;exact hW tt tb e4 (Cx.step C1 I1 I2 st2) F I2 λ h3 tk3 ρ3 f3 I3 st3 fr3=>h h3 tk3 ρ3 f3 I3 (stp.trans st3) fr3
  | cont =>
   refine wP ⟨rfl,?_⟩;exact hW tt tb e4 (Cx.step C1 I1 I2 st2) F I2 λ h3 tk3 ρ3 f3 I3 st3 fr3=>h h3 tk3 ρ3 f3 I3 (stp.trans st3) fr3
  | brk =>
   refine bU (dD e4) ?_;clear e4;rintro rfl rfl rfl;exact wP (h h2 tk2 ρ2 _ I2 stp .next)
  | ret r =>
   refine bU (dD e4) ?_;clear e4;rintro rfl rfl rfl;exact wP (h h2 tk2 ρ2 _ I2 stp (.ret r))
theorem Tx(hS:SS S n)(hSs:SSs S n):SSs S (n+1):=by
 intro sc sts xs lv lv' σ σ' fl tr e A env X oc ρ s Q E C F I h;cases xs with
 | nil =>
  obtain rfl:sts=[]:=tr;refine bU (dD e) ?_;clear e;rintro rfl rfl rfl;exact wpAny_execs_nil (h s.heap s.toks ρ _ I (.refl _ _) .next)
 | cons x xs =>
  refine bB tr.inv ?_;clear tr;rintro _ _ rfl t r;refine aZ e ?_;clear e;rintro⟨fl1,lv1,σ1⟩ e1 e2;refine wpAny_execs_cons (hS t e1 C.down F I λ h1 tk1 ρ1 f I1 st1 fr=>?_);clear e1;cases fr with
  | next=>exact hSs r e2 (Cx.step C.down I I1 st1) F I1 λ h2 tk2 ρ2 f2 I2 st2 fr2=>h h2 tk2 ρ2 f2 I2 (st1.trans st2) fr2
  | brk =>
   refine bU (dD e2) ?_;clear e2;rintro rfl rfl rfl;exact h h1 tk1 ρ1 _ I1 st1 .brk
  | cont =>
   refine bU (dD e2) ?_;clear e2;rintro rfl rfl rfl;exact h h1 tk1 ρ1 _ I1 st1 .cont
  | ret r =>
   refine bU (dD e2) ?_;clear e2;rintro rfl rfl rfl;exact h h1 tk1 ρ1 _ I1 st1 (.ret r)
end
end
section
open PySem.SeqAt
theorem MRels.length{h R}(q:MRels g R h ρ σ):σ.length=ρ.length:=by
 induction q with
 | nil=>rfl
 | cons _ _ ih=>exact congrArg (·+1) ih
theorem RowsAt.get{h bs r}(q:RowsAt g h bs r):∀{i:Nat} {xs:List PV},r[i]? = some xs->∃ b,bs[i]? = some b/\RowAt g h b xs:=by
 induction q with
 | nil=>exact λ e=>nos e
 | cons a r ih =>
  intro i xs e;cases i with
  | zero=>have e:some _=some xs:=e;exact bK _ rfl (sj e▸a)
  | succ i=>exact ih e
theorem RowsAt.set{h d xs'}(hs:∀ b,b≠d->h'.get? b=h.get? b){bs r}(q:RowsAt g h bs r):∀{i:Nat},bs.Nodup->bs[i]? = some d->RowAt g h' d xs'->RowsAt g h' bs (r.set i xs'):=by
 induction q with
 | nil=>exact λ _ e _=>nos e
 | cons a rest ih =>
  intro i nd e m;have n:=List.nodup_cons.mp nd;cases i with
  | zero =>
   have e:_=d:=sj e;exact .cons (e▸m) (rest.mono (λ _ _ e=>e) λ b' hb'=>hs b' λ q=>n.1 (e▸q▸hb'))
  | succ i=>exact .cons (a.mono (λ _ _ e=>e) (hs _ λ q=>n.1 (q▸List.mem_of_getElem? e))) (ih n.2 e m)
section
theorem qE(vs:List Value)(n j:Nat)(v:Value):Obj.mapSeq (·.setIfInBounds j v) (cK vs n)=cK (vs.set j v) n:=by
 simp[Obj.mapSeq]
set_option maxRecDepth 100000 in
theorem Th{l k t v Q}(e:s.heap.get? l=some (cK vs n))(h0:0≤k)(hl:k<1000000)(hn:k.toNat<vs.length)(hQ:∀ h',h'.get? l=some (cK (vs.set k.toNat v) n)->Heap.SameBut l s.heap h'->Q () { s with heap:=h' }):wpAny (model prog w) A (setItem (.ref l) (.int k t) v) Q E s:=by
 have hT:s.TypeIs (.ref l) "list":=⟨_,e,rfl⟩;have step:∀(A':Around) (E':Value->Shared->Prop),wpAny (model prog w) A' (setSeqItemAt l k.toNat v) (λ _ s'=>Q () s') E' s:=by
  intro A' E';refine wpAny_setSeqItemAt (o:=cK vs n) (items:=vs.toArray) e rfl (hQ _ ?_ (Heap.SameBut.update ..));rw[Heap.get?_update_self _ e (by rw[qE];rfl),qE]
 have hsub:=fitsIndex_of h0 (show k<2 ^ 63 by lia)
 have hget:vs.toArray[k.toNat]? = some vs[k.toNat]:=by simp[hn]
 unfold setItem;refine wpAny_holding ?_;refine wB (wpAny_sequenceKey hT (by decide) ?_)
 refine wB (wpAny_callSpecial?_slot (name:=Str.ofString "__setitem__") hT slot_list_setitem (wpAny_call_entry slot_list_setitem hT entry_list_setitem ?_ (args_list_setitem _ _ _)));show wpAny _ _ (Builtin.List.listSubscript? (.int k t) >>= _) _ _ s;refine wB (wpAny_listSubscript_int hsub ?_);clear hsub;refine aB (Int.eq_ofNat_of_zero_le h0) ?_;clear h0 hl hQ;rintro j rfl;show wpAny _ _ ((seqItemAt l j >>= λ r=>pure (r.map (j,·))) >>= _) _ _ s;refine wB (wB (wpAny_seqItemAt e (items:=vs.toArray) (n:=n) rfl (wP ?_)));have hget':vs.toArray[j]? = some vs[j]:=hget;rw[hget'];show wpAny _ _ (setSeqItemAt l j v >>= _) _ _ s;refine wB (wpAny_mono (Q:=λ _ s'=>Q () s') (step _ _) (λ _ s' q=>?_) λ _ _ x=>x)
 first
  | exact wB (wP (wP ⟨.none,rfl,wP q⟩))
  | exact wP ⟨.none,rfl,wP q⟩
end
section
variable(S:Sys prog w)
theorem Ov(hE:SE S n){e}(hx:dJ sc x)(te:TrE sc e a)(hs:∀ env,swapsWith e (some (.Name x p1)) p.line env=pure false)(ev':ex S.T (n+1) (.asg x a) lv σ=some (fl,lv',σ')){Q}(C:CxI S (n+1) A s.heap (X) env oc ρ)(F:Fx sc env oc)(I:Inv X env oc ρ s.heap lv σ)(h:fB X env oc ρ s lv' σ' fl Q):wpAny (model prog w) A (exec (.Assign [.Name x p1] e p) env) Q E s:=by
 refine aZ ev' ?_;clear ev';intro v e1 ev';refine bU (dD ev') ?_;clear ev';rintro rfl rfl rfl;refine wpAny_Assign_Name (hE te e1 C.down F I λ h1 tk rv k1 r1=>?_) (hs env);exact bJ hx F (I.ext k1) r1 λ h2 tk2 I2 k2=>h h2 tk2 ρ _ I2 (Step.trans (.of_up k1) (.local k2)) .next
theorem qV{line}(hk:env.scope.kind=.function)(hx:env.kindOf x=some .local)(hl:(p1.line==cp.line)=true)(hn:(scope.names.any λ y=>y.1==x&&(y.2==.local||y.2==.cell))=false):swapsWith (.ListComp elt gens scope cp) (some (.Name x p1)) line env=pure true:=by
 have hb:env.blockKind=.function:=by unfold Env.blockKind;simp only[hk];rfl
 have:swapsWith (.ListComp elt gens scope cp) (some (.Name x p1)) line env=pure (env.blockKind==.function&&env.kindOf x==some .local&&p1.line==cp.line&&!(scope.names.any λ y=>y.1==x&&(y.2==.local||y.2==.cell))):=rfl
 simp only[this,hb,hx,hl,hn];rfl
theorem Inv.hide1{h}(I:Inv X env oc ρ h lv σ){a}(f:h.get? a=none)(k:Up (X++aH env oc ρ) h h')(l:∃ o,h'.get? a=some o):Inv (a::X) env oc ρ h' lv σ :=
 I.hide (as:=[a]) (λ b q=>xm1 q▸f) k (λ b q=>xm1 q▸l)
theorem Gq(L:Low S n){it ifs' gs' elt'}(hx:sc.names.lookup x=some .local)(K:CompOk sc scope elt t iter ifs rest y it ifs' gs' elt')(hl:(p1.line==cp.line)=true)(hn:(scope.names.any λ y=>y.1==x&&(y.2==.local||y.2==.cell))=false)(ev':ex S.T (n+1) (.asg x (.comp (bZ scope) elt' (.mk (.n y) it ifs'::gs'))) lv σ=some (fl,lv',σ')){Q}(C:CxI S (n+1) A s.heap (X) env oc ρ)(F:Fx sc env oc)(I:Inv X env oc ρ s.heap lv σ)(h:fB X env oc ρ s lv' σ' fl Q):wpAny (model prog w) A (exec (.Assign [.Name x p1] (.ListComp elt (⟨t,iter,ifs,0⟩::rest) scope cp) p) env) Q E s:=by
 refine aZ ev' ?_;clear ev';intro v e1 ev';refine bU (dD ev') ?_;clear ev';rintro rfl rfl rfl;obtain⟨m,rfl⟩:∃ m,n=m+1:=by
  cases n with
  | zero=>exact nos e1
  | succ m=>exact bM m rfl
 rw[exec_Assign_Name_used _ _ _ _ (qV F.kind (F.loc x hx) hl hn)];refine wB (wpAny_standAt (wB ?_));have L':Low S m:=⟨λ k hk=>L.e k (Nat.le_succ_of_le hk),λ k hk=>L.es k (Nat.le_succ_of_le hk),λ k hk=>L.t k (Nat.le_succ_of_le hk)⟩;show wpAny _ A (do let _ <- comprehension (.ListComp elt _ scope cp) scope env _ (newList []) false (eval _ env) (some (assign (.Name x p1) env))) _ _ s
 refine wB (wpAny_mono (pD S L' (use:=some (assign (.Name x p1) env)) (Q:=λ _ s'=>Q .next s') (E:=E) K e1 C.down F I λ h1 tk D C' k1 fC hns dc fin=>?_) (λ _ s' hq=>wP (wP hq)) λ _ _ e=>e);have lC:∃ o,h1.get? C'=some o:=by refine aDc hns ?_;clear hns;intro m o _ _ e _;exact bM o e
 have I1:=I.hide1 fC k1 lC;have r1:XRel (GG (C'::X) env oc ρ h1) ρ v (.ref D):=.frozen (fin h1 (Heap.SameBut.refl ..));show wpAny _ A (assign (.Name x p1) env (.ref D)) _ _ _;refine wpAny_assign_Name (bJ (.inl hx) F I1 r1 λ h2 tk2 I2 k2=>?_);refine aB hns ?_;clear hns;intro m' hns;have nC:C'∉aH env oc []:=λ q=>I1.off C' (.head _) (aW q);refine bK m' (hns.at' λ o e=>k2 C' o nC e) λ h3 hs=>?_;have k3:∀ b o,b∉[C']->h2.get? b=some o->h3.get? b=some o:=λ b o n e=>hs.extBut b o (by simpa using n) e
 have nX:C'∉X:=λ q=>by
  refine aB (I.live C' (mL q)) λ o e=>?_;rw[fC] at e;exact nos e
 exact h h3 tk2 ρ _ (I2.drop nX k3) ⟨⟨[],by simp⟩,(UpB.of k1).after' (N₂:=C'::aH env oc []) (H₂:=[]) ((UpB.only k2 λ _ q=>.tail _ q).trans (.only k3 λ b q=>xm1 q▸.head _)) (λ b q=>by
   refine mc2 q (λ q=>?_) λ q=>?_
   ·exact .inr (q▸fC)
   ·exact .inl (aW q)) (λ b q=>nomatch q),λ b hb=>.inl hb⟩ .next
theorem Tz(hEs:SEs S n){es}(hx:dJ sc x)(ts:cM sc es as)(hl:as.length<1000)(ev':ex S.T (n+1) (.mk x as) lv σ=some (fl,lv',σ')){Q}(C:CxI S (n+1) A s.heap (X) env oc ρ)(F:Fx sc env oc)(I:Inv X env oc ρ s.heap lv σ)(h:fB X env oc ρ s lv' σ' fl Q):wpAny (model prog w) A (exec (.Assign [.Name x p1] (.List es p2) p) env) Q E s:=by
 refine aZ ev' ?_;clear ev';intro vs e1 ev';refine aZ ev' ?_;clear ev';intro us e2 ev';refine bU (dD ev') ?_;clear ev';rintro rfl rfl rfl;refine wpAny_Assign_Name (wpAny_List_spliced (hEs ts e1 C.down F I λ h1 tk rvs k1 r1=>?_)) rfl;have ln:rvs.length<1000:=by rw[r1.length,kK e1];exact hl
 refine aY (by show rvs.length≤2 ^ 24;exact ll2 ‹_› (by rfl)) ?_
 have I1:=I.ext k1;have k2:=Up.of (H:=X++aH env oc ρ) (aS h1 { cls:=.type "list",data:=.seq rvs.toArray });have gn:h1.get? h1.objs.size=none:=bW _;have fr:∀ a∈(h1.objs.size::([]:List Addr)),h1.get? a=none:=λ a q=>xm1 q▸gn;have ge:(h1.push { cls:=.type "list",data:=.seq rvs.toArray }).get? h1.objs.size=some (cK rvs 0):=Heap.get?_push_size _ rfl;have I2:=I1.newObj (h':=h1.push { cls:=.type "list",data:=.seq rvs.toArray }) (p:=(h1.objs.size,[])) (o:=.list us) fr (by simp) k2 (λ a q=>⟨cK rvs 0,by rw[xm1 q];exact ge⟩)
  ⟨rfl,rvs,0,ge,(r1.fzvs e2).mono (aU λ b o e nb=>⟨k2.out b o nb e,λ q=>by
   rw[cI,<- List.append_assoc] at q;refine bN q (λ q=>?_) λ q=>?_
   ·exact nb q
   ·rw[fr b q] at e;exact nos e⟩)⟩
 have hlen:σ.length=ρ.length:=I.chg.length;refine bJ (v:=.mref σ.length) hx F I2 (.mr (p:=(h1.objs.size,[])) (by rw[hlen];simp)) λ h3 tk3 I3 k3=>?_
 refine h h3 tk3 (ρ++[(h1.objs.size,[])]) _ I3 ⟨⟨_,rfl⟩,(UpB.of (k1.trans k2)).after' (N₂:=aH env oc []) (H₂:=[]) (.only k3 λ _ q=>q) (λ b q=>.inl (aW q)) (λ b q=>nomatch q),λ b hb=>?_⟩ .next;rw[cI] at hb;refine bN hb (λ q=>?_) λ q=>?_
 ·exact .inl q
 ·refine .inr ?_;exact k1.new (fr b q)
set_option tactic.hygienic true in
theorem Qm(e:ex T (n+1) (.app x a) lv σ=some (fl,lv',σ')) :
  ∃ i xs y v,lv.lookup x=some (.mref i)/\σ[i]? = some (.list xs)/\ev T n a lv σ=some y/\fzv y=some v/\xs.length<100000/\fl=.next/\lv'=lv/\σ'=σ.set i (.list (xs++[v])):=by
 dsimp only [Qe] at e;generalize lv.lookup x=u at e ⊢;cases u with
 | none=>exact nos e
 | some u =>
  rcases u with⟨⟩<;>first|exact nos e|skip
  rename_i i;have e1:(match σ[i]? with
    | some (.list xs)=>(ev T n a lv σ).bind λ y=>(fzv y).bind λ v=>if xs.length<100000 then some (.next,lv,σ.set i (.list (xs++[v]))) else none
    | _=>none:R3)=some (fl,lv',σ'):=e
  generalize hm:σ[i]? = m at e1;cases m with
  | none=>exact nos e1
  | some m =>
   rcases m with⟨⟩<;>first|exact nos e1|skip
   refine aZ e1 ?_;clear e1;intro y q1 e1;refine aZ e1 ?_;clear e1;intro v q2 e1;refine aK (bC e1) λ hl e1=>?_;refine bU (dD e1) ?_;rintro rfl rfl rfl;exact jD i _ y v rfl hm q1 (aD7 q2 hl rfl rfl rfl)
theorem Ou(hE:SE S n){e}(hx:fY sc x)(hd:(x=="__debug__")=false)(hc:(x=="__classdict__")=false)(te:TrE sc e a)(hp:(ap.endLine==p2.line)=true)(ev':ex S.T (n+1) (.app x a) lv σ=some (fl,lv',σ')){Q}(C:CxI S (n+1) A s.heap (X) env oc ρ)(F:Fx sc env oc)(I:Inv X env oc ρ s.heap lv σ)(h:fB X env oc ρ s lv' σ' fl Q):wpAny (model prog w) A (exec (.Expr (.Call (.Attribute (.Name x p1) "append" ap) [e] [] p2) p) env) Q E s:=by
 refine gS (Qm ev') ?_;intro i xs y v ei es e1 y1;refine Qb y1 ?_;clear y1;clear ev';rintro fy hl rfl rfl rfl
 ·skip
  ·skip
   have hint:interactive env=false:=by dsimp only [interactive];rw[F.kind];rfl
   refine wpAny_Expr_any ?_ hint rfl;have st:backTo p2 (starEach [e] env)=[(false,eval e env)]:=by rw[te.star];rfl
   refine wpAny_Call_append rfl (by rw[(REs.cons te .nil).allp env];rfl) hp st (wpAny_Name (cS hx hc ei F I λ rv r=>?_) hd)
   refine aE r.mref ?_;clear r;rintro pp hi rfl;refine aE (I.chg.get hi) λ o ho m=>?_;rw[es] at ho;have q:=sj ho;clear ho;subst q;refine aK m ?_;clear m;rintro hz ⟨vs,k,ea,rs⟩;refine dR pp.1 vs.toArray rfl ⟨_,k,ea,rfl,rfl,rfl⟩ ?_;refine hE te e1 C.down F I λ h1 tk rv k1 r1=>?_;have ea1:=k1.nd _ _ rfl ea;refine append_at ea1 (λ h2 hs he=>?_) (by rw[List.size_toArray,rs.length];show _≤2 ^ 24;exact ll2 ‹_› (by rfl))
   have I1:=I.ext k1;have hdm:pp.1∈aH env oc ρ:=aN (Ro.mem_all (List.mem_of_getElem? hi) (.head _));have I2:=I1.setObj (h':=h2) (o':=.list (xs++[v])) hi (.head _) hs ⟨hz,vs++[rv],k+1,by rw[he,nB],(rs.mono (fL k1)).append (.cons (r1.fzv fy) .nil)⟩
   exact h h2 tk ρ _ I2 ⟨⟨[],by simp⟩,(UpB.of k1).trans (.only (N':=[pp.1]) (λ b o n e=>hs.extBut b o (by simpa using n) e) λ b q=>xm1 q▸hdm),λ b hb=>.inl hb⟩ .next
set_option tactic.hygienic true in
theorem Ow(hE:SE S n){o e}(hx:dJ sc x)(hc:(x=="__classdict__")=false)(te:TrE sc e a)(ev':ex S.T (n+1) (.aug x o a) lv σ=some (fl,lv',σ')){Q}(C:CxI S (n+1) A s.heap (X) env oc ρ)(F:Fx sc env oc)(I:Inv X env oc ρ s.heap lv σ)(h:fB X env oc ρ s lv' σ' fl Q):wpAny (model prog w) A (exec (.AugAssign (.Name x p1) o e p) env) Q E s:=by
 refine aZ ev' ?_;clear ev';intro u eu ev';refine aZ ev' ?_;clear ev';intro v e1 e2;rcases o with⟨⟩<;>first|exact nos e2|skip
 rcases u with⟨⟩<;>first|exact nos e2|skip
 rcases v with⟨⟩<;>first|exact nos e2|skip
 rename_i i j;refine bU (dD e2) ?_;clear e2;rintro rfl rfl rfl;refine wpAny_AugAssign_Name (cS (hx.elim .inl λ q=>.inr (.inl q)) hc eu F I λ rv r=>?_);refine aB r.inv ?_;clear r;rintro t rfl;refine hE te e1 C.down F I λ h1 tk ru k1 r1=>?_;refine aB r1.inv ?_;clear r1;rintro t' rfl;refine AutoIntOps.iadd_0 ?_;exact bJ (v:=.int (i+j)) hx F (I.ext k1) (.frozen (.int _ _)) λ h2 tk2 I2 k2=>h h2 tk2 ρ _ I2 (Step.trans (.of_up k1) (.local k2)) .next
end
end
section
open PySem.SeqAt
section
variable(S:Sys prog w)
theorem TrE.noswap{e x}(h:TrE sc e x)(o i:Expr)(p:Pos)(line:Nat)(env:Env):swapsWith e (some (.Subscript o i p)) line env=pure false:=by
 have q:=h.head;rcases e with⟨⟩<;>first|exact nft q|exact rfl
set_option tactic.hygienic true in
theorem Tv{ai bj v:PV}(e:(match lv.lookup x,ai,bj with
   | some (.mref k),.int a,.int b =>
    match σ[k]? with
    | some (.mat rows) =>
     match rows[a.toNat]? with
     | some row=>if 0≤a/\0≤b/\b.toNat<row.length/\rows.length<1000/\row.length<1000 then some (.next,lv,σ.set k (.mat (rows.set a.toNat (row.set b.toNat v)))) else none
     | none=>none
    | _=>none
   | _,_,_=>none:R3)=some (fl,lv',σ')) :
  ∃ k ia ib rows row,lv.lookup x=some (.mref k)/\ai=.int ia/\bj=.int ib/\σ[k]? = some (.mat rows)/\rows[ia.toNat]? = some row/\(0≤ia/\0≤ib/\ib.toNat<row.length/\rows.length<1000/\row.length<1000)/\fl=.next/\lv'=lv/\σ'=σ.set k (.mat (rows.set ia.toNat (row.set ib.toNat v))):=by
 generalize lv.lookup x=u at e ⊢;cases u with
 | none=>exact nos e
 | some u =>
  rcases u with⟨⟩<;>first|exact nos e|(rcases ai with⟨⟩<;>first|exact nos e|(rcases bj with⟨⟩<;>first|exact nos e|skip))
  rename_i k ia ib;have e1:(match σ[k]? with
    | some (.mat rows) =>
     match rows[ia.toNat]? with
     | some row=>if 0≤ia/\0≤ib/\ib.toNat<row.length/\rows.length<1000/\row.length<1000 then some (.next,lv,σ.set k (.mat (rows.set ia.toNat (row.set ib.toNat v)))) else none
     | none=>none
    | _=>none:R3)=some (fl,lv',σ'):=e
  generalize hm:σ[k]? = m at e1;cases m with
  | none=>exact nos e1
  | some m =>
   rcases m with⟨⟩<;>first|exact nos e1|skip
   rename_i rows;have e2:(match rows[ia.toNat]? with
    | some row=>if 0≤ia/\0≤ib/\ib.toNat<row.length/\rows.length<1000/\row.length<1000 then some (.next,lv,σ.set k (.mat (rows.set ia.toNat (row.set ib.toNat v)))) else none
    | none=>none:R3)=some (fl,lv',σ'):=e1
   generalize hr:rows[ia.toNat]? = r at e2;cases r with
   | none=>exact nos e2
   | some row =>
    refine aK (bC e2) λ h e3=>?_;refine bU (dD e3) ?_;rintro rfl rfl rfl;exact aDa k ia ib rows row rfl rfl (Ut rfl hm hr h rfl rfl rfl)
theorem Pb(hE:SE S n){p3 i j e c}(hx:fY sc x)(hd:(x=="__debug__")=false)(hc:(x=="__classdict__")=false)(ti:TrE sc i a)(tj:TrE sc j b)(te:TrE sc e c)(ev':ex S.T (n+1) (.st2 x a b c) lv σ=some (fl,lv',σ')){Q:Flow->Shared->Prop}(C:CxI S (n+1) A s.heap (X) env oc ρ)(F:Fx sc env oc)(I:Inv X env oc ρ s.heap lv σ)(h:fB X env oc ρ s lv' σ' fl Q):wpAny (model prog w) A (exec (.Assign [.Subscript (.Subscript (.Name x p1) i p2) j p3] e p) env) Q E s:=by
 refine aZ ev' ?_;clear ev';intro y e1 ev';refine aZ ev' ?_;clear ev';intro v fv ev';refine aZ ev' ?_;clear ev';intro ai e2 ev';refine aZ ev' ?_;clear ev';intro bj e3 e4;refine Ux (Tv e4) ?_;intro k ia ib rows row eu rfl q1;refine Bx q1 ?_;clear q1;intro rfl hk hrow q2;refine Qb q2 ?_;clear q2;intro ha hb hbl hrl hcl;clear e4;rintro rfl rfl rfl
 ·skip
  ·skip
   refine wpAny_Assign_Subscript (hE te e1 C.down F I λ h1 tk rv k1 r1=>?_) (te.noswap _ _ _ _ _);have I1:=I.ext k1;have C1:=Cx.up C.down k1;refine Bo ti (wpAny_Name (cS hx hc eu F I1 λ rx r=>?_) hd);refine aE r.mref ?_;clear r;rintro pp hi rfl;refine hE ti e2 C1 F I1 λ h2 tk2 ri k2 r2=>?_;refine aB r2.inv ?_;clear r2;rintro t rfl;have I2:=I1.ext k2;refine aE (I2.chg.get hi) λ o ho m=>?_;rw[hk] at ho;have q:=sj ho;clear ho;subst q;refine aK m ?_;clear m;intro q3;refine aB q3 ?_;clear q3;intro nn ea;intro rs;refine aE (rs.get hrow) λ d hd' hr'=>?_;have al:ia.toNat<rows.length:=(List.getElem?_eq_some_iff.mp hrow).1;refine dR "list" _ slot_list_getitem.lookup ⟨_,ea,rfl⟩ ?_;refine wpAny_getItem_list (x:=.ref d) (aI ea) ha (by omega) (by simp[hd']) ?_
   refine hE tj e3 (Cx.up C1 k2) F I2 λ h3 tk3 rj k3 r3=>?_;refine aB r3.inv ?_;clear r3;rintro t' rfl;have I3:=I2.ext k3;refine aE (I3.chg.get hi) λ o ho m=>?_;rw[hk] at ho;have q:=sj ho;clear ho;subst q;refine aK m ?_;clear m;intro q4;refine aB q4 ?_;clear q4;intro nn3 ea3;intro rs3;refine aE (rs3.get hrow) ?_;rintro d' hd3 ⟨vs,n3,er,rr⟩;rw[hd'] at hd3;have q:=sj hd3;clear hd3;subst q;have hdm:d∈pp.2:=List.mem_of_getElem? hd';have hdm':d∈aH env oc ρ:=aN (Ro.mem_all (List.mem_of_getElem? hi) (.tail _ hdm));refine Th er hb (by omega) (by rw[rr.length];exact hbl) λ h4 he4 hs4=>?_
   have nd:=List.nodup_cons.mp I3.nd;have nd2:=(List.nodup_append.mp nd.2).2.1;have ndp:(pp.1::pp.2).Nodup:=by
    have:∀{ρ:Ro} {i:Nat},(Ro.all ρ).Nodup->ρ[i]? = some pp->(pp.1::pp.2).Nodup:=by
     intro ρ;induction ρ with
     | nil=>intro i _ q;simp at q
     | cons q ρ ih =>
      intro i nd q';dsimp only [Ro.all,List.flatMap_cons] at nd;cases i with
      | zero =>
       simp only[List.getElem?_cons_zero,Option.some.injEq] at q';exact q'▸(List.nodup_append.mp nd).1
      | succ i=>exact ih (List.nodup_append.mp nd).2.1 (by simpa using q')
    exact this nd2 hi
   have ndp':=List.nodup_cons.mp ndp;have kr:VRel (GG X env oc ρ h3) v rv:=(r1.fzv fv).mono (fL (Up.trans k2 k3));have I4:=I3.setObj (h':=h4) (o':=.mat (rows.set ia.toNat (row.set ib.toNat v))) hi (.tail _ hdm) hs4
    ⟨⟨nn3,(hs4.2 pp.1 λ q=>ndp'.1 (q▸hdm)).trans ea3⟩,rs3.set hs4.2 ndp'.2 hd' ⟨_,_,he4,rr.set ib.toNat kr⟩⟩
   have k13:=Up.trans (Up.trans k1 k2) k3;exact h h4 tk3 ρ _ I4 ⟨⟨[],by simp⟩,(UpB.of k13).trans (.only (N':=[d]) (λ b o n e=>hs4.extBut b o (by simpa using n) e) λ b q=>xm1 q▸hdm'),λ b hb=>.inl hb⟩ .next
structure FeedF(prog:Program)(w:World)(A:Around)(g:Heap)(env:Env)(oc:List (Str×Addr))(t:Expr)(tg:Tg)(it:Value)(items:List PV)(wr fp:List Addr)(St:Nat->Heap->Prop):Prop where
 frame:∀ i h h',St i h->(∀ b∈fp,∀ o,h.get? b=some o->h'.get? b=some o)->St i h'
 fpIn:∀ b∈fp,b∈wr∨∃ o,g.get? b=some o
 nd:∀ i h,St i h->∀ b∈wr,∃ o,h.get? b=some o/\cN o=false
 turn:∀ i x,items[i]? = some x->∀{X:List Addr} {ρ:Ro} {lv lv':LV} {σ:List MObj} {s:Shared} {Q:Unit->Shared->Prop} {E:Value->Shared->Prop},St i s.heap->(∀ b∈wr,b∉X)->Inv (wr++X) env oc ρ s.heap lv σ->g.StaysIn (GG (wr++X) env oc ρ s.heap)->dS tg x lv=some lv' ->
  (∀ h' tk,St (i+1) h'->Inv (wr++X) env oc ρ h' lv' σ->(∀ b o,b∉wr->b∉aH env oc []->s.heap.get? b=some o->h'.get? b=some o)->Q () { s with heap:=h',toks:=tk }) ->
  wpAny (model prog w) A (pyNext it) (λ r s₁=>match r with|none=>False|some v=>wpAny (model prog w) A (letOwnedTupleGo t it v) (λ _ s₁'=>wpAny (model prog w) A (assign t env v) Q E s₁') E s₁) E s
 done:∀{s:Shared} {Q:Option Value->Shared->Prop} {E:Value->Shared->Prop},St items.length s.heap->(∀ h' tk,(∀ b o,b∉wr->s.heap.get? b=some o->h'.get? b=some o)->Q none { s with heap:=h',toks:=tk })->wpAny (model prog w) A (pyNext it) Q E s
theorem Inv.drops{h as}(I:Inv (as++X) env oc ρ h lv σ)(hn:∀ a∈as,a∉X)(k:∀ b o,b∉as->h.get? b=some o->h'.get? b=some o):Inv X env oc ρ h' lv σ:=by
 refine I.gen (aU λ b o e n=>⟨k b o (λ q=>n (mL (mL q))) e,λ q=>n ?_⟩) (λ b hb=>?_) (λ b hb=>?_) λ b hb=>I.off b (mR hb)
 ·refine bN q (λ q=>?_) λ q=>?_
  ·exact mL (mR q)
  ·exact mR q
 ·refine aB (I.live b (mR hb)) λ o ho=>?_;rw[ho];exact k b o (λ q=>I.off b (mL q) hb) ho
 ·refine aB (I.live b (mL (mR hb))) λ o ho=>?_;exact bM o (k b o (λ q=>hn b q hb) ho)
theorem Fq{tg x r R}(e:eU (λ x lv σ=>do exs S.T n b' (<- dS tg x lv) σ) (x::r) lv σ=R) :
  (match (dS tg x lv).bind λ lv=>exs S.T n b' lv σ with
   | some (.next,lv',σ')=>eU (λ x lv σ=>do exs S.T n b' (<- dS tg x lv) σ) r lv' σ'
   | some (.cont,lv',σ')=>eU (λ x lv σ=>do exs S.T n b' (<- dS tg x lv) σ) r lv' σ'
   | some (.brk,lv',σ')=>some (.next,lv',σ')
   | z=>z)=R:=e
inductive FInv(n:Nat)(A:Around)(b':List Sx)(tg:Tg)(wr X:List Addr)(env:Env)(oc:List (Str×Addr))(g h₀:Heap)(St:Nat->Heap->Prop)(items:List PV)(fl:Fl)(lv':LV)(σ':List MObj)(ρ:Ro)(s:Shared)(k:Nat)(s':Shared):Prop
 | mk (h':Heap) (tk i:Nat) (ρ1:Ro) (lv1:LV) (σ1:List MObj):s'={ s with heap:=h',toks:=tk }->i≤items.length->k=items.length+1 - i->St i h'->Inv (wr++X) env oc ρ1 h' lv1 σ1->g.StaysIn (GG (wr++X) env oc ρ1 h')->Step X env oc ρ h₀ ρ1 h'->CxI S n A h' (wr++X) env oc ρ1 ->
   eU (λ x lv σ=>do exs S.T n b' (<- dS tg x lv) σ) (items.drop i) lv1 σ1=some (fl,lv',σ')->FInv n A b' tg wr X env oc g h₀ St items fl lv' σ' ρ s k s'
theorem Fa(hSs:SSs S n){tg b}(tb:fJ sc b b'){wr}(F:Fx sc env oc)(feed:FeedF prog w A g env oc t tg it items wr fp St)(e:eU (λ x lv σ=>do exs S.T n b' (<- dS tg x lv) σ) items lv σ=some (fl,lv',σ')){h₀}(C:CxI S n A s.heap (wr++X) env oc ρ)(k₀:Up (X++aH env oc ρ) h₀ s.heap)(fw:∀ b∈wr,h₀.get? b=none)(hX:∀ b∈wr,b∉X)(I:Inv (wr++X) env oc ρ s.heap lv σ)(hg:g.StaysIn (GG (wr++X) env oc ρ s.heap))(st:St 0 s.heap)(h:∀ h' tk ρ' f,Inv X env oc ρ' h' lv' σ'->Step X env oc ρ h₀ ρ' h'->FlRel (GG X env oc ρ' h') ρ' fl f->R (.ok f) { s with heap:=h',toks:=tk }) :
  codeAny (model prog w) A (.forLoop t it b [] env) R s:=by
 refine codeAny_forLoop_any
  (FInv (S:=S) n A b' tg wr X env oc g h₀ St items fl lv' σ' ρ s) ?_ (items.length+1)
  ⟨s.heap,s.toks,0,ρ,lv,σ,rfl,Nat.zero_le _,rfl,st,I,hg,.of_up k₀,C,e⟩
 rintro k s' ⟨h',tk,i,ρ1,lv1,σ1,rfl,hi,rfl,st',I',hg',stp,C',e'⟩;have dropG:∀{h:Heap} {ρ:Ro},(GG (wr++X) env oc ρ h).StaysIn (GG X env oc ρ h):=λ{h ρ}=>aU λ b o e n=>⟨e,λ q=>n (by
  refine bN q (λ q=>?_) λ q=>?_
  ·exact mL (mR q)
  ·exact mR q)⟩
 by_cases hlt:i<items.length
 ·have hdr:items.drop i=items[i]::items.drop (i+1):=List.drop_eq_getElem_cons hlt;rw[hdr] at e';replace e':=Fq S e';cases hb:dS tg items[i] lv1 with
  | none=>rw[hb] at e';exact nos e'
  | some lv2 =>
   rw[hb,Option.bind_some] at e';refine wpAny_mono (feed.turn i _ (List.getElem?_eq_getElem hlt) (Q:=λ _ s₂=>wpAny (model prog w) A (execs b env) (λ f s₃=>match f with
      | .next|.cont=>∃ m,m<items.length+1 - i/\FInv (S:=S) n A b' tg wr X env oc g h₀ St items fl lv' σ' ρ s m s₃
      | .brk=>R (.ok .next) s₃
      | .ret v=>R (.ok (.ret v)) s₃) (notedBy (model prog w) A env λ e s'=>R (.error e) s') s₂) (E:=notedBy (model prog w) A env λ e s'=>R (.error e) s') st' hX I' hg' hb λ h2 tk2 st2 I2 k2=>?_) (λ r s₁ h₁=>?_) λ _ _ e=>e
   ·have g2:(GG (wr++X) env oc ρ1 h').StaysIn (GG (wr++X) env oc ρ1 h2):=aU λ b o e n=>⟨k2 b o (λ q=>n (mL (mL q))) (λ q=>n (mR (aW q))) e,n⟩;have s02:Step X env oc ρ h₀ ρ1 h2:=⟨stp.grow,stp.up.after' (N₂:=wr++aH env oc []) (H₂:=[]) (.only (N':=wr++aH env oc []) (λ b o n e=>k2 b o (λ q=>n (mL q)) (λ q=>n (mR q)) e) λ _ q=>q) (λ b q=>by
      refine bN q (λ q=>?_) λ q=>?_
      ·exact .inr (fw b q)
      ·exact .inl (aW q)) (λ b q=>nomatch q),stp.new⟩
    have C2:CxI S n A h2 (wr++X) env oc ρ1:=Cx.move C' g2 λ L hL hF o es k e d=>by
     refine mc2 hF (λ hm=>?_) λ hm=>?_
     ·refine aE I2.ns λ _ q5 _=>bQ q5 λ o' es' k' e' d' _=>?_;exact fP hL hF (vE o' es' k' (hm▸e') d')
     ·refine⟨hL,hF,o,es,k,k2 L o (λ q=>?_) (λ q=>I'.off L hm (aW q)) e,d⟩;refine aE (feed.nd _ _ st' L q) λ o2 e2 d2=>?_;rw[e] at e2;have q:=sj e2;clear e2;subst q;exact tT d d2
    cases hx:exs S.T n b' lv2 σ1 with
    | none=>rw[hx] at e';exact nos e'
    | some z =>
     obtain⟨fl3,lv3,σ3⟩:=z;rw[hx] at e';refine hSs tb hx C2 F I2 λ h3 tk3 ρ3 f3 I3 st3 fr3=>?_;have s03:Step X env oc ρ h₀ ρ3 h3:=by
      refine⟨?_,s02.up.after' st3.up s02.new λ b q=>?_,λ b m=>?_⟩
      ·refine aB s02.grow λ x ex=>?_;refine aB st3.grow λ y ey=>?_;exact bM (x++y) (by rw[ey,ex,List.append_assoc])
      ·refine bN q (λ q=>?_) λ q=>?_
       ·refine bN q (λ q=>?_) λ q=>?_
        ·exact .inr (fw b q)
        ·exact .inl (mL q)
       ·exact(s02.new b q).imp (λ z=>mR z) id
      ·rcases st3.new b m with q|q
       ·exact s02.new b q
       ·by_cases z:b∈aH env oc ρ
        ·exact .inl z
        ·clear e;cases e:h₀.get? b with
         | none=>exact .inr rfl
         | some o=>refine aB (s02.up.sl b o z e) λ _ this=>?_;rw[q] at this;exact nos this
     have fin:eU (λ x lv σ=>do exs S.T n b' (<- dS tg x lv) σ) (items.drop (i+1)) lv3 σ3=some (fl,lv',σ')->∃ m,m<items.length+1 - i/\FInv (S:=S) n A b' tg wr X env oc g h₀ St items fl lv' σ' ρ s m { s with heap:=h3,toks:=tk3 }:=λ e'=>by
      refine⟨items.length+1 - (i+1),by exact aAZ ‹_›,h3,tk3,i+1,ρ3,lv3,σ3,rfl,hlt,rfl,?_,I3,aM (aM hg' g2) st3.fz,s03,Cx.step C2 I2 I3 st3,e'⟩
      refine feed.frame _ _ _ st2 λ b hb o e=>?_;rcases feed.fpIn b hb with z|⟨o',z⟩
      ·refine aE (feed.nd _ _ st2 b z) λ o2 e2 d2=>?_;exact st3.up.nd b o (I2.off b (mL z)) (sj (e2.symm.trans e)▸d2) e
      ·have:=(dT (g2 _ _ (hg' _ _ z))).2;exact st3.up.out b o (λ q=>this (mR q)) this e
     clear hx;cases fr3 with
     | next=>exact fin e'
     | cont=>exact fin e'
     | brk =>
      refine bU (dD e') ?_;clear e fin e';rintro rfl rfl rfl;exact h h3 tk3 ρ3 _ (I3.drops hX λ b o _ e=>e) s03 .next
     | ret r =>
      refine bU (dD e') ?_;clear e fin e';rintro rfl rfl rfl;exact h h3 tk3 ρ3 _ (I3.drops hX λ b o _ e=>e) s03 (.ret (r.mono dropG))
   ·cases r with
    | none=>exact h₁.elim
    | some v=>exact h₁
 ·obtain rfl:i=items.length:=Nat.le_antisymm hi (Nat.not_lt.mp hlt);rw[List.drop_length] at e';refine bU (dD e') ?_;clear e e';rintro rfl rfl rfl;refine feed.done st' λ h1 tk1 k1=>?_;refine wpAny_execs_nil (h h1 tk1 ρ1 _ (I'.drops hX k1) ⟨stp.grow,stp.up.after' (N₂:=wr) (H₂:=[]) (.only k1 λ _ q=>q) (λ b q=>.inr (fw b q)) (λ b q=>nomatch q),stp.new⟩ .next)
end
end
section
open PySem.SeqAt
section
variable(S:Sys prog w)
theorem tY{I P}(feed:Feed prog w A g I items fp P St)(hx:dJ sc x)(F:Fx sc env oc) :
  FeedF prog w A g env oc (.Name x p) (.n x) (.ref I) items [I] fp St where
 frame:=feed.W.frame
 fpIn:=λ b hb=>(feed.fpIn b hb).imp (λ q=>List.mem_singleton.mpr q) λ⟨o,e,_⟩=>⟨o,e⟩
 nd:=λ i h st b hb=>xm1 hb▸feed.live i h st
 done:=λ st h=>feed.W.done _ _ _ st h
 turn:=λ i u hu {X ρ lv lv' σ s Q E} st hX Iv hg hb h=>by
  have hlt:i<items.length:=(List.getElem?_eq_some_iff.mp hu).1;refine feed.W.item i _ _ _ hlt st λ v h₁ tk₁ hP st₁ hk₁=>?_;refine aE (feed.rel i v hP) λ u' hu' rv=>?_;rw[hu] at hu';have q:=sj hu';clear hu';subst q;refine wP ?_;have I1:Inv ([I]++X) env oc ρ h₁ lv σ:=Iv.hid (λ b o n e=>hk₁ b o (λ q=>n (mL q)) e) λ a ha=>by
   by_cases q:a∈[I]
   ·rw[xm1 q];exact let⟨o,e,_⟩:=feed.live _ _ st₁;⟨o,e⟩
   ·refine aB (Iv.live a (mL ha)) λ o e=>?_;exact bM o (hk₁ a o q e)
  have kk:(GG ([I]++X) env oc ρ s.heap).StaysIn (GG ([I]++X) env oc ρ h₁):=aU λ b o e n=>⟨hk₁ b o (λ q=>n (mL (mL q))) e,n⟩;obtain rfl:=sj hb;refine wpAny_assign_Name (bJ hx F I1 (.frozen (rv.mono (aM hg kk))) λ h₂ tk₂ I2 k2=>?_);refine h h₂ tk₂ ?_ I2 λ b o n1 n2 e=>k2 b o n2 (hk₁ b o n1 e);refine feed.W.frame _ _ _ st₁ λ b hb o e=>k2 b o (λ q=>?_) e;rcases feed.fpIn b hb with z|⟨o',z,_⟩
  ·exact I1.off I (by simp) (z▸aW q)
  ·exact(dT (kk _ _ (hg _ _ z))).2 (mR (aW q))
theorem tX{h}(k:Heap.ExtBut h.objs.size h h'):h.StaysIn h':=λ b o e=>k b o (Nat.ne_of_lt (Heap.lt_size e)) e
theorem pL{I wr wr' Pt Mid}(hh:A.handled=none)(W:WalksT prog w A I fp wr items.length Pt St Mid)(hw:∀ b∈wr,b∈wr')(live:∀ i h,St i h->∀ b∈wr',∃ o,h.get? b=some o/\cN o=false)(rel:∀ i vals,Pt i vals->∃ a b va vb,items[i]? = some (.tuple [a,b])/\vals=#[va,vb]/\VRel g a va/\VRel g b vb)(fpIn:∀ b∈fp,b∈wr'∨∃ o,g.get? b=some o){k}(hx:dJ sc x)(hy:dJ sc y)(F:Fx sc env oc) :
  FeedF prog w A g env oc (.Tuple [.Name x p1,.Name y p2] k p) (.p x y) (.ref I) items wr' fp St where
 frame:=W.frame
 fpIn:=fpIn
 nd:=live
 done:=λ st h=>W.done _ _ _ st λ h' tk kk=>h h' tk λ b o n e=>kk b o (λ q=>n (hw b q)) e
 turn:=λ i u hu {X ρ lv lv' σ s Q E} st hX Iv hg hb h=>by
  have hlt:i<items.length:=(List.getElem?_eq_some_iff.mp hu).1;refine W.item i _ _ _ hlt st λ T vals h₁ tk₁ hP hT hTt hMid hk₁=>?_;refine gS (rel i vals hP) ?_;clear hP;rintro a b va vb hu' rfl ra rb;simp only[hu] at hu';have q:=sj hu';clear hu';clear hu;subst q;refine W.go _ _ _ i T _ _ _ hMid λ h₂ st₂ hk₂=>?_;have hT2:h₂.IsTuple T #[va,vb]:=by refine aE hTt ?_;clear hTt;intro o e r;exact bK o (hk₂ _ _ (W.apart i T h₁ hMid) e) r
  have k12:∀ b o,b∉wr'->s.heap.get? b=some o->h₂.get? b=some o:=λ b o n e=>hk₂ b o (λ q=>n (hw b q)) (hk₁ b o (λ q=>n (hw b q)) e);have I2:Inv (wr'++X) env oc ρ h₂ lv σ:=Iv.hid (λ b o n e=>k12 b o (λ q=>n (mL q)) e) λ a ha=>by
   by_cases q:a∈wr'
   ·exact let⟨o,e,_⟩:=live _ _ st₂ a q;⟨o,e⟩
   ·refine aB (Iv.live a (mL ha)) λ o e=>?_;exact bM o (k12 a o q e)
  have kk:(GG (wr'++X) env oc ρ s.heap).StaysIn (GG (wr'++X) env oc ρ h₂):=aU λ b o e n=>⟨k12 b o (λ q=>n (mL (mL q))) e,n⟩;have g2:=aM hg kk;obtain rfl:=sj hb;refine wpAny_assign_Tuple hh hT2 rfl rfl λ h₃ k₃=>?_;have k3:=tX k₃;have I3:=I2.ext (.of k3);have st3:=W.frame _ _ _ st₂ λ b _ o e=>k3 b o e;have g3:=aM g2 (iB k3);show wpAny _ A (assignInOrder [assign (.Name x p1) env,assign (.Name y p2) env] [va,vb]) _ _ _;dsimp only [assignInOrder];refine wB (wpAny_holding (wpAny_assign_Name (bJ hx F I3 (.frozen (ra.mono g3)) λ h₄ tk₄ I4 k4=>?_)));have k4':(GG (wr'++X) env oc ρ h₃).StaysIn (GG (wr'++X) env oc ρ h₄):=aU λ b o e n=>⟨k4 b o (λ q=>n (mR (aW q))) e,n⟩;dsimp only [assignInOrder];refine wB (wpAny_holding (wpAny_assign_Name (bJ hy F I4 (.frozen (rb.mono (aM g3 k4'))) λ h₅ tk₅ I5 k5=>?_)));dsimp only [assignInOrder];refine wP (h h₅ tk₅ ?_ I5 λ b o n1 n2 e=>k5 b o n2 (k4 b o n2 (k3 b o (k12 b o n1 e))));refine W.frame _ _ _ st3 λ b hb o e=>?_;have nm:b∉aH env oc []:=λ q=>by
   rcases fpIn b hb with z|⟨o',z⟩
   ·exact I3.off b (mL z) (aW q)
   ·exact(dT (g3 _ _ z)).2 (mR (aW q))
  exact k5 b o nm (k4 b o nm e)
theorem Es(xs:List PV):∀(k i:Nat),(nL k xs)[i]? = (xs[i]?).map λ x=>.tuple [.int ((k+i:Nat):Int),x]:=by
 induction xs with
 | nil=>exact λ _ _=>rfl
 | cons x r ih =>
  intro k i;cases i with
  | zero=>rfl
  | succ i=>exact(ih (k+1) i).trans (by rw[Nat.add_right_comm];rfl)
theorem tU(xs:List PV):∀ k:Nat,(nL k xs).length=xs.length:=by
 induction xs with
 | nil=>exact λ _=>rfl
 | cons x r ih=>exact λ k=>congrArg (·+1) (ih (k+1))
theorem Qg(xs:List PV):∀(ys:List PV) (i:Nat),(nD xs ys)[i]? = match xs[i]?,ys[i]? with|some x,some y=>some (.tuple [x,y])|_,_=>none:=by
 induction xs with
 | nil=>exact λ _ _=>rfl
 | cons x xs ih =>
  intro ys i;cases ys with
  | nil =>
   have q:∀ o:Option PV,(none:Option PV)=match o,(none:Option PV) with|some x,some y=>some (.tuple [x,y])|_,_=>none:=λ o=>by rcases o with⟨⟩<;>rfl
   exact q _
  | cons y ys =>
   cases i with
   | zero=>rfl
   | succ i=>exact ih ys i
theorem yO(xs:List PV):∀ ys:List PV,(nD xs ys).length=min xs.length ys.length:=by
 induction xs with
 | nil=>exact λ ys=>(Nat.zero_min _).symm
 | cons x xs ih =>
  intro ys;cases ys with
  | nil=>rfl
  | cons y ys=>exact(congrArg (·+1) (ih ys)).trans (Nat.succ_min_succ ..).symm
theorem VRels.at{v}(r:VRels g xs vs)(e:vs.toArray[i]? = some v):∃ x,xs[i]? = some x/\VRel g x v:=by
 have q':vs[i]? = some v:=by simpa using e
 have hx:i<xs.length:=by simp only[<- r.length];exact(List.getElem?_eq_some_iff.mp q').1
 refine aE (r.get (List.getElem?_eq_getElem hx)) λ v' e' r'=>?_;simp only[q'] at e';have q:=sj e';clear e';subst q;exact bK _ (List.getElem?_eq_getElem hx) r'
theorem Hj{N l l2}(a:l<N)(b:l2<N):ZipApart (N+4) (N+2) (N+3) N (N+1) l l2:=by
 constructor<;>(show ¬ (_=_))<;>(intro q;have q':(_:Nat)=_:=q;lia)
noncomputable def ZSt(z TI TO i1 i2 l1 l2:Addr)(xs ys:Array Value)(i:Nat)(h:Heap):Prop:=IsZip h z TI TO .none/\IsPair h TI (.ref i1) (.ref i2)/\(∃ a b,IsPair h TO a b)/\h.IsListIter i1 l1 i/\h.IsListIter i2 l2 i/\h.IsList l1 xs/\h.IsList l2 ys
theorem Qh{z TI TO i1 i2 l1 l2 vs2 n1 n2 k}(hh:A.handled=none)(D:ZipApart z TI TO i1 i2 l1 l2)(rs:VRels g xs vs)(rs2:VRels g ys vs2)(ea:g.get? l1=some (cK vs n1))(ea2:g.get? l2=some (cK vs2 n2))(hx:dJ sc x)(hy:dJ sc y)(F:Fx sc env oc) :
  FeedF prog w A g env oc (.Tuple [.Name x p1,.Name y p2] k p) (.p x y) (.ref z) (nD xs ys) [TI,z,TO,i1,i2] [z,TI,TO,i1,i2,l1,l2] (ZSt z TI TO i1 i2 l1 l2 vs.toArray vs2.toArray) /\
   ∀(s:Shared) (Q E:Value->Shared->Prop),ZSt z TI TO i1 i2 l1 l2 vs.toArray vs2.toArray 0 s.heap->Q (.ref z) s->wpAny (model prog w) A (pyIter (.ref z)) Q E s:=by
 have W:=WalksT.zip2 (prog:=prog) (w:=w) hh z TI TO i1 i2 l1 l2 D vs.toArray vs2.toArray;simp only[show min vs.toArray.size vs2.toArray.size=(nD xs ys).length by simp only[yO,List.size_toArray,List.size_toArray,rs.length,rs2.length]] at W
 refine aY (pL hh W (λ _ q=>.tail _ q) (λ i h q=>?_) (λ i vals q=>?_) (fmc (.inl (by simp)) (fmc (.inl (by simp)) (fmc (.inl (by simp)) (fmc (.inl (by simp)) (fmc (.inl (by simp)) (fmc (.inr ⟨_,ea⟩) (fmc (.inr ⟨_,ea2⟩) fmn))))))) hx hy F) λ s Q E=>W.self 0 s Q E
 ·refine Bx q ?_;clear q;intro a1 a2 q1;refine gM q1 ?_;clear q1;intro _ _ a3;intro q2;refine fQ q2 ?_;clear q2;intro _ a4 _ d4;intro q3;refine fQ q3 ?_;clear q3;intro _ a5 _ d5;intro _ _;exact fmc ⟨_,a2,rfl⟩ (fmc ⟨_,a1,rfl⟩ (fmc ⟨_,a3,rfl⟩ (fmc ⟨_,a4,by unfold cN;simp only[d4]⟩ (fmc ⟨_,a5,by unfold cN;simp only[d5]⟩ fmn))))
 ·refine bB q ?_;clear q;rintro x y ex ey rfl;refine aE (rs.at ex) λ u hu ru=>?_;refine aE (rs2.at ey) λ u2 hu2 ru2=>?_;exact jD u u2 _ _ (by simp only[Qg,hu,hu2]) rfl ru ru2
section
variable{b:List Stmt}{tg:Tg}{h1 h2:Heap}{wr:List Addr}
theorem aBY(C:CxI S n A s.heap X env oc ρ)(I:Inv X env oc ρ s.heap lv σ)(k1:Up (X++aH env oc ρ) s.heap h1)(k2:h1.StaysIn h2)(fw:∀ a∈wr,h1.get? a=none)(lw:∀ a∈wr,∃ o,h2.get? a=some o/\cN o=false) :
  Inv (wr++X) env oc ρ h2 lv σ/\(GG X env oc ρ h1).StaysIn (GG (wr++X) env oc ρ h2)/\CxI S n A h2 (wr++X) env oc ρ:=by
 have kk:(GG X env oc ρ h1).StaysIn (GG (wr++X) env oc ρ h2):=aU λ b o e n=>⟨k2 b o e,λ q=>bN q (λ q=>bN q (λ q=>nos ((fw b q).symm.trans e)) λ q=>n (mL q)) λ q=>n (mR q)⟩;exact fP ((I.ext k1).hide fw (.of k2) (λ a ha=>(lw a ha).imp λ _ q=>q.1)) kk (Cx.move (Cx.up C k1) kk λ L hL hF o es n e d=>⟨bN hL (λ q=>mL (mR q)) (List.mem_append_right _),mc2 hF (λ q=>q▸.head _) λ q=>.tail _ (mR q),o,es,n,k2 L o e,d⟩)
theorem tZ(hSs:SSs S n)(tb:fJ sc b b')(F:Fx sc env oc)(e2:eU (λ x lv σ=>do exs S.T n b' (<- dS tg x lv) σ) items lv σ=some (fl,lv',σ'))(C:CxI S n A s.heap X env oc ρ)(I:Inv X env oc ρ s.heap lv σ)(h:∀ h' tk ρ' f,Inv X env oc ρ' h' lv' σ'->Step X env oc ρ s.heap ρ' h'->FlRel (GG X env oc ρ' h') ρ' fl f->R (.ok f) { s with heap:=h',toks:=tk }){h1 h2 wr tk}(k1:Up (X++aH env oc ρ) s.heap h1)(k2:h1.StaysIn h2)(fw:∀ a∈wr,h1.get? a=none)(feed:FeedF prog w A (GG X env oc ρ h1) env oc t tg it items wr fp St)(st:St 0 h2) :
  codeAny (model prog w) A (.forLoop t it b [] env) R { s with heap:=h2,toks:=tk }:=by
 refine bU (aBY S C I k1 k2 fw (feed.nd 0 h2 st)) λ I2 g2 C2=>?_;exact Fa S hSs tb F feed e2 C2 (k1.trans (.of k2)) (h₀:=s.heap) (s:={ s with heap:=h2,toks:=tk }) (λ b hb=>k1.new (fw b hb)) (λ b hb q=>(I.live _ (mL q)).elim λ o e=>nos ((k1.new (fw b hb)).symm.trans e)) I2 g2 st h
variable{K:Value->Shared->Prop}(hE:SE S n)(C:CxI S (n+1) A s.heap X env oc ρ)(F:Fx sc env oc)(I:Inv X env oc ρ s.heap lv σ)
include hE C F I
theorem pP{it}(hEs:SEs S n)(si:gI it)(ti:hY sc iter it)(e1:eH S.T (n+1) it lv σ=some items)(hx:dJ sc x)(go:∀{h1 h2:Heap} {wr fp:List Addr} {St:Nat->Heap->Prop} {it:Value} {tk:Nat},Up (X++aH env oc ρ) s.heap h1->h1.StaysIn h2->(∀ a∈wr,h1.get? a=none)->FeedF prog w A (GG X env oc ρ h1) env oc (.Name x p) (.n x) it items wr fp St->St 0 h2->K it { s with heap:=h2,toks:=tk }) :
  wpAny (model prog w) A (eval iter env) (λ x s₁=>wpAny (model prog w) A (pyIter x) K E s₁) E s :=
 iD S hE hEs si ti e1 C F I λ h₁ h₂ tk It fp P St k₁ k₂ fI lI feed st hl=>go k₁ k₂ (λ b hb=>xm1 hb▸fI) (tY feed hx F) st
set_option tactic.hygienic true in
theorem Jx{k}(ti:hY sc iter (.enum a))(e1:eH S.T (n+1) (.enum a) lv σ=some items)(hx:dJ sc x)(hy:dJ sc y)(go:∀{h1 h2:Heap} {wr fp:List Addr} {St:Nat->Heap->Prop} {it:Value} {tk:Nat},Up (X++aH env oc ρ) s.heap h1->h1.StaysIn h2->(∀ a∈wr,h1.get? a=none)->FeedF prog w A (GG X env oc ρ h1) env oc (.Tuple [.Name x p1,.Name y p2] k p) (.p x y) it items wr fp St->St 0 h2->K it { s with heap:=h2,toks:=tk }) :
  wpAny (model prog w) A (eval iter env) (λ x s₁=>wpAny (model prog w) A (pyIter x) K E s₁) E s:=by
 refine bQ ti ?_;clear ti;rintro _ _ _ rfl hg te;refine aZ e1 ?_;clear e1;intro x e3 e4;rcases x with⟨⟩<;>first|exact nos e4|skip
 rename_i xs;refine kX S hE hg S.enumOk (by decide) eC te e3 C.down F I λ h1 tk rv k1 r1=>?_
 refine bQ r1.inv ?_;clear r1;rintro l vs nn rfl ea rs;have ea':=aP _ _ ea;have hlt:=Heap.lt_size ea';refine call_enumerate_list (aI ea') λ h2 he hit hsz k2=>?_;have W:=WalksT.enumerate (prog:=prog) (w:=w) C.hd (h1.objs.size+1) h1.objs.size l (Nat.succ_ne_self _) (Nat.ne_of_lt (Nat.lt_succ_of_lt hlt)) (Nat.ne_of_lt hlt) vs.toArray;simp only[show vs.toArray.size=items.length by simp only[<- sj e4,tU,List.size_toArray,rs.length]] at W
 refine W.self 0 _ _ _ ⟨⟨_,he⟩,hit,aI (k2 _ _ ea')⟩ (go (wr:=[h1.objs.size+1,h1.objs.size]) k1 k2 (fmc (kM (Nat.le_succ _)) (fmc (kM (Nat.le_refl _)) fmn))
  (pL C.hd W (λ _ q=>q) (λ i h q=>?_) (λ i vals q=>?_) (fmc (.inl (.head _)) (fmc (.inl (.tail _ (.head _))) (fmc (.inr ⟨_,ea⟩) fmn))) hx hy F) ⟨⟨_,he⟩,hit,aI (k2 _ _ ea')⟩)
 ·refine bU q ?_;clear q;intro q4;refine aB q4 ?_;clear q4;intro old a;intro q5;refine fQ q5 ?_;clear q5;intro o a' _ d';intro _;exact fmc ⟨_,a,rfl⟩ (fmc ⟨_,a',by unfold cN;simp only[d']⟩ fmn)
 ·refine eX q ?_;clear q;rintro t x ex rfl;refine aE (rs.at ex) λ u hu ru=>?_;exact jD (.int ((0+i:Nat):Int)) u _ _ (by simp only[<- sj e4,Es,hu];rfl) rfl (by simp only[Nat.zero_add];exact .int _ _) ru
set_option tactic.hygienic true in
theorem Rc{a2 k}(ti:hY sc iter (.zip a a2))(e1:eH S.T (n+1) (.zip a a2) lv σ=some items)(hx:dJ sc x)(hy:dJ sc y)(go:∀{h1 h2:Heap} {wr fp:List Addr} {St:Nat->Heap->Prop} {it:Value} {tk:Nat},Up (X++aH env oc ρ) s.heap h1->h1.StaysIn h2->(∀ a∈wr,h1.get? a=none)->FeedF prog w A (GG X env oc ρ h1) env oc (.Tuple [.Name x p1,.Name y p2] k p) (.p x y) it items wr fp St->St 0 h2->K it { s with heap:=h2,toks:=tk }) :
  wpAny (model prog w) A (eval iter env) (λ x s₁=>wpAny (model prog w) A (pyIter x) K E s₁) E s:=by
 refine gS ti ?_;clear ti;rintro _ _ _ _ rfl hg te1 te2;refine aZ e1 ?_;clear e1;intro x e3 e1;refine aZ e1 ?_;clear e1;intro y e3' e4;rcases x with⟨⟩<;>first|exact nos e4|(rcases y with⟨⟩<;>first|exact nos e4|skip)
 rename_i xs ys;refine Iu S hE hg S.zipOk (by decide) eC te1 te2 e3 e3' C.down F I λ h1 tk rv ru k1 r1 r2=>?_
 refine bQ r1.inv ?_;clear r1;rintro l vs nn rfl ea rs;refine bQ r2.inv ?_;clear r2;rintro l2 vs2 nn2 rfl ea2 rs2;have ea':=aP _ _ ea;have ea2':=aP _ _ ea2;refine call_zip_2 (aI ea') (aI ea2') λ h2 hz hTI hTO hi1 hi2 hsz k2=>?_;refine aK (Qh (prog:=prog) (w:=w) (p1:=p1) (p2:=p2) (p:=p) (k:=k) C.hd (Hj (Heap.lt_size ea') (Heap.lt_size ea2')) rs rs2 ea ea2 hx hy F) λ fd sf=>?_;simp only[sj e4] at fd;have st:ZSt (h1.objs.size+4) (h1.objs.size+2) (h1.objs.size+3) h1.objs.size (h1.objs.size+1) l l2 vs.toArray vs2.toArray 0 h2:=⟨hz,hTI,⟨_,_,hTO⟩,hi1,hi2,aI (k2 _ _ ea'),aI (k2 _ _ ea2')⟩;exact sf _ _ _ st (go k1 k2 (fmc (kM (Nat.le_add_right _ _)) (fmc (kM (Nat.le_add_right _ _)) (fmc (kM (Nat.le_add_right _ _)) (fmc (kM (Nat.le_refl _)) (fmc (kM (Nat.le_add_right _ _)) fmn))))) fd st)
end
theorem Ox(hE:∀ k≤n,SE S k)(hEs:∀ k≤n,SEs S k)(hSs:SSs S n){b tg it}(tt:TrT sc t tg)(ti:hY sc iter it)(ft:Cv tg it)(tb:fJ sc b b')(ev':ex S.T (n+1) (.forr tg it b') lv σ=some (fl,lv',σ')){Q}(C:CxI S (n+1) A s.heap (X) env oc ρ)(F:Fx sc env oc)(I:Inv X env oc ρ s.heap lv σ)(h:fB X env oc ρ s lv' σ' fl Q):wpAny (model prog w) A (exec (.For t iter b [] p) env) Q E s:=by
 refine aZ ev' ?_;clear ev';intro items e1 e2;refine aB (mI e1) ?_;rintro m rfl;refine wpAny_For ?_ (λ v=>ti.nset env v);have E1:SE S m:=hE m (Nat.le_succ _);have E2:SEs S m:=hEs m (Nat.le_succ _);clear hE hEs;cases it with
 | e a =>
  cases tg with
  | n x =>
   refine aE tt.inv ?_;clear tt;rintro px rfl hx;exact pP S E1 C.down F I E2 (show gI (.e a) from trivial) ti e1 hx (tZ S hSs tb F e2 C.down I h)
  | p=>cases ft
 | range as =>
  cases tg with
  | n x =>
   refine aE tt.inv ?_;clear tt;rintro px rfl hx;exact pP S E1 C.down F I E2 (show gI (.range as) from trivial) ti e1 hx (tZ S hSs tb F e2 C.down I h)
  | p=>cases ft
 | enum a =>
  cases tg with
  | n x=>cases ft
  | p x y =>
   refine gS tt.inv ?_;clear tt;rintro _ _ _ _ rfl hx hy _;exact Jx S E1 C.down F I ti e1 hx hy (tZ S hSs tb F e2 C.down I h)
 | zip a a2 =>
  cases tg with
  | n x=>cases ft
  | p x y =>
   refine gS tt.inv ?_;clear tt;rintro _ _ _ _ rfl hx hy _;exact Rc S E1 C.down F I ti e1 hx hy (tZ S hSs tb F e2 C.down I h)
end
end
section
open PySem.SeqAt
theorem nG{k}:∀(ps:List Str) (rvs:List Value) (m:Str->Option Value),x∉ps->bindL k (ps.zip rvs) m x=m x
 | [],_,_,_=>rfl
 | p::ps,[],_,_=>rfl
 | p::ps,v::rvs,m,h=>by
  dsimp only [List.zip_cons_cons];dsimp only [bindL];rw[nG ps rvs _ λ q=>h (.tail _ q)];split
  ·show(if x=p then _ else _)=_
   rw[if_neg (show ¬ x=p from λ q=>h (by rw[q];exact .head _))]
  ·rfl
theorem nF{k}:∀(ps:List Str) (rvs:List Value) (m:Str->Option Value),x∉ps->PySem.bindC k (ps.zip rvs) m x=m x
 | [],_,_,_=>rfl
 | p::ps,[],_,_=>rfl
 | p::ps,v::rvs,m,h=>by
  dsimp only [List.zip_cons_cons];dsimp only [PySem.bindC];rw[nF ps rvs _ λ q=>h (.tail _ q)];split
  ·rfl
  ·show(if x=p then _ else _)=_
   rw[if_neg (show ¬ x=p from λ q=>h (by rw[q];exact .head _))]
theorem gU{k v}:∀(ps:List Str) (vs:List PV) (rvs:List Value) (m cm:Str->Option Value),ps.Nodup->XRels g ρ vs rvs->((ps.zip vs).reverse).lookup x=some v ->
  ∃ rv,x∈ps/\XRel g ρ v rv/\(k x=some .local->bindL k (ps.zip rvs) m x=some rv)/\(k x≠some .local->PySem.bindC k (ps.zip rvs) cm x=some rv)
 | [],vs,rvs,m,cm,nd,r,e=>by simp at e
 | p::ps,_,_,m,cm,nd,.nil,e=>by simp at e
 | p::ps,_,_,m,cm,nd,.cons (v:=rv) a r,e=>by
  rw[List.zip_cons_cons,List.reverse_cons,kP] at e;have nd':=List.nodup_cons.mp nd;cases q:((ps.zip _).reverse).lookup x with
  | some w =>
   rw[q] at e;simp only[Option.some_or,Option.some.injEq] at e;subst e;rw[List.zip_cons_cons];unfold bindL PySem.bindC;obtain⟨ru,a1,a2,a3,a4⟩:=gU ps _ _ (if k p=some .local then λ y=>if y=p then some rv else m y else m) (if k p=some .local then cm else λ y=>if y=p then some rv else cm y) nd'.2 r q
   exact yM ru (.tail _ a1) a2 a3 a4
  | none =>
   rw[q] at e;simp only[Option.none_or,List.lookup_cons,List.lookup_nil] at e;cases z:x==p with
   | false=>rw[z] at e;exact nos e
   | true =>
    rw[z] at e;obtain rfl:=sj e;have:=eq_of_beq z;clear nd z;subst this;dsimp only [List.zip_cons_cons];refine yM rv (.head _) a (λ hk=>?_) λ hk=>?_
    ·dsimp only [bindL];rw[nG ps _ _ nd'.1,if_pos hk];simp
    ·dsimp only [PySem.bindC];rw[nF ps _ _ nd'.1,if_neg hk];simp
theorem RowsAt.vrels{h}(k:g.StaysIn g'){bs r}(q:RowsAt g h bs r):(∀ b∈bs,∀ o,h.get? b=some o->g'.get? b=some o)->VRels g' (r.map .list) (bs.map Value.ref):=by
 induction q with
 | nil=>exact λ _=>.nil
 | cons a rest ih =>
  intro kk;obtain⟨vs,n,e,r⟩:=a;exact .cons (.list (kk _ (.head _) _ e) (r.mono k)) (ih λ b hb=>kk b (.tail _ hb))
theorem gD{h}(off:∀ a∈H,a∉Ro.all ρ)(chg:MRels (fz h (H++Ro.all ρ)) ρ h ρ σ){v u}(r:XRel (fz h (H++Ro.all ρ)) ρ v rv)(e:dX σ v=some u):VRel (fz h H) u rv:=by
 have kk:(fz h (H++Ro.all ρ)).StaysIn (fz h H):=aU λ b o e n=>⟨e,λ q=>n (mL q)⟩;have vis:∀ b o,b∈Ro.all ρ->h.get? b=some o->(fz h H).get? b=some o:=λ b o hm e=>dG e λ q=>off b q hm;cases r with
 | frozen r =>
  have:v=u:=by
   unfold dX at e;split at e
   ·exact r.inv.elim
   ·exact sj e
  exact this▸r.mono kk
 | mr hi =>
  unfold dX at e;refine aE (chg.get hi) λ o ho m=>?_;simp only[ho] at e;have hm:∀ b∈_,b∈Ro.all ρ:=λ b hb=>Ro.mem_all (List.mem_of_getElem? hi) hb;cases o with
  | list xs =>
   have q:=sj e;clear e;subst q;refine aK m ?_;clear m;rintro _ ⟨vs,k,e1,e2⟩;exact .list (vis _ _ (hm _ (.head _)) e1) (e2.mono kk)
  | mat rows =>
   have q:=sj e;clear e;subst q;refine aK m ?_;clear m;intro y1;refine aB y1 ?_;clear y1;intro n e1;intro e2;exact .list (vis _ _ (hm _ (.head _)) e1) (e2.vrels kk λ b hb o eo=>vis b o (hm b (.tail _ hb)) eo)
  | inst C at'=>exact nos e
set_option backward.match.sparseCases true in
theorem nH{a o ar binds}(hroom:A.depth<recursionLimit)(ho:s.heap.get? a=some o)(hdata:o.data=.func fd)(hlim:s.heap.NoLimit)(hcd:s.heap.CodeRec fd.code fd.qualname)(hbody:fd.body=.stmts body)(hbind:BindsTo s fd ar binds)(hclo:fd.closure=[])(hkind:∀ x∈binds,fd.scope.names.lookup x.1=some .local∨(fd.scope.names.lookup x.1=some .cell/\((cellsFrom (s.heap.objs.size+1) fd.scope.names []).lookup x.1).isSome=true))(h:∀ s₁,InCallC s (callEnvC fd s.heap.objs.size a).locals (bindL (callEnvC fd s.heap.objs.size a).kindOf binds λ _=>none) (callEnvC fd s.heap.objs.size a).cells
    (PySem.bindC (callEnvC fd s.heap.objs.size a).kindOf binds λ _=>none) s₁ ->
   wpAny (model prog w) (A.deeper (callEnvC fd s.heap.objs.size a)) (execs body (callEnvC fd s.heap.objs.size a)) (λ f s'=>R (.ok (.ret (match f with|.ret v=>v|_=>.none))) s')
    (λ e s'=>wpAny (model prog w) (A.deeper (callEnvC fd s.heap.objs.size a)) (leaving (callEnvC fd s.heap.objs.size a) e) (λ _ s''=>R (.error e) s'') (λ e' s''=>R (.error e') s'') s') s₁)(hco:fd.scope.isCoroutine=false)(hgen:fd.scope.isGenerator=false)(hk:fd.scope.kind=.function) :
  codeAny (model prog w) A (.call (.ref a) ar) R s:=by
 refine codeAny_call_function hroom ho hdata hco hgen hbody hcd (hbind _ _ _ _ ?_);rw[hclo];refine wpAny_newFunctionEnv_cells hk hkind λ env he s' x=>?_;subst he;exact aY (hlim.keeps x.toInCall.keep) (codeAny_func (h s' x))
theorem VRels.toX(h:VRels g xs vs):XRels g ρ xs vs :=
 VRels.ind .nil (λ a _ ih=>.cons (.frozen a) ih) h
structure Mid(H:List Addr)(ρ:Ro)(h:Heap)(σ:List MObj):Prop where
 chg:MRels (fz h (H++Ro.all ρ)) ρ h ρ σ
 nd:(Ro.all ρ).Nodup
 live:∀ a∈H++Ro.all ρ,∃ o,h.get? a=some o
 off:∀ a∈H,a∉Ro.all ρ
theorem Mid.nil{h}(l:∀ a∈H,∃ o,h.get? a=some o):Mid H [] h []:=⟨.nil,.nil,λ a ha=>l a (by simpa[Ro.all] using ha),λ _ _ q=>nomatch q⟩
structure MStep(H:List Addr)(ρ:Ro)(h:Heap)(ρ':Ro)(h':Heap):Prop where
 grow:∃ ρ₂,ρ'=ρ++ρ₂
 up:UpB (Ro.all ρ) (H++Ro.all ρ) h h'
 new:∀ b∈Ro.all ρ',b∈Ro.all ρ∨h.get? b=none
structure Entered(H:List Addr)(ρ:Ro)(h:Heap)(fd:FuncData)(env:Env)(oc:List (Str×Addr))(h₁:Heap):Prop where
 keep:h.StaysIn h₁
 fresh:∀ b∈env.locals::oc.map (·.2),h.get? b=none
 frame:env.frame=some env.locals
 scope:env.scope=fd.scope
 vis:(fz h (H++Ro.all ρ)).StaysIn (GG H env oc ρ h₁)
section
variable(S:Sys prog w)
theorem Cl{F}(f:FnIs g F fd body)(L a:Addr):Fx fd.scope (callEnvC fd L a) (callEnvC fd L a).cells where
 kind:=f.kind
 glob:=f.gl
 bi:=f.bi
 loc:=λ _ h=>h
 gl:=λ _ h=>h
 cel:=λ _ h=>h
 own:=λ x h=>jW ((dZ _ _ _ _).mpr (.inl (mem_of_lookup h)))
variable{S}
omit S in
set_option backward.match.sparseCases true in
theorem zS{F}(f:FnIs g F fd body){a o}(room:A.depth<recursionLimit)(lim:s.heap.NoLimit)(M:Mid H ρ s.heap σ){vs}(r:XRels (fz s.heap (H++Ro.all ρ)) ρ vs rvs){act}(hbd:BindsTo s fd act (F.ps.zip rvs))(gk:g.StaysIn s.heap)(ho:s.heap.get? a=some o)(hd:o.data=.func fd)(h:∀ h₁ tk env oc,Inv H env oc ρ h₁ ((F.ps.zip vs).reverse) σ->Fx fd.scope env oc->Entered H ρ s.heap fd env oc h₁ ->
   wpAny (model prog w) (A.deeper env) (execs body env) (λ f s'=>R (.ok (.ret (match f with|.ret v=>v|_=>.none))) s')
    (λ e s'=>wpAny (model prog w) (A.deeper env) (leaving env e) (λ _ s''=>R (.error e) s'') (λ e' s''=>R (.error e') s'') s') { s with heap:=h₁,toks:=tk }) :
  codeAny (model prog w) A (.call (.ref a) act) R s:=by
 have hkind:∀ x∈F.ps.zip rvs,fd.scope.names.lookup x.1=some .local∨(fd.scope.names.lookup x.1=some .cell/\((cellsFrom (s.heap.objs.size+1) fd.scope.names []).lookup x.1).isSome=true):=by
  rintro⟨x,v⟩ hx;rcases f.tg x (List.of_mem_zip hx).1 with q|q
  ·exact .inl q
  ·refine .inr ⟨q,?_⟩;refine aB ((Cl f s.heap.objs.size a).own x q) λ c hc=>?_;have hc':(cellsFrom (s.heap.objs.size+1) fd.scope.names []).lookup x=some c:=hc;rw[hc'];rfl
 refine nH room ho hd lim (f.crec.keeps gk) f.bod hbd f.clo hkind (λ s₁ x=>?_) f.co f.gen f.kind;refine gM x.toInCall.same ?_;rintro h₁ tk rfl;have fx:Fx fd.scope (callEnvC fd s.heap.objs.size a) (callEnvC fd s.heap.objs.size a).cells:=Cl f _ _;have ocn:(((callEnvC fd s.heap.objs.size a).cells).map (·.1)).Nodup:=iK _ _ _ f.nd List.nodup_nil (λ _ _ q=>nomatch q);have own:∀{y:Str} {c:Addr},(callEnvC fd s.heap.objs.size a).cells.lookup y=some c->(callEnvC fd s.heap.objs.size a).kindOf y=some .cell:=λ{y c} e=>by
  have:=(dZ fd.scope.names (s.heap.objs.size+1) [] y).mp (List.mem_map.mpr ⟨_,mem_of_lookup e,rfl⟩);rcases this with h|h
  ·exact dF f.nd h
  ·simp at h
 have ef:(callEnvC fd s.heap.objs.size a).frame=some (callEnvC fd s.heap.objs.size a).locals:=rfl;have esc:(callEnvC fd s.heap.objs.size a).scope=fd.scope:=rfl;have un:(callEnvC fd s.heap.objs.size a).locals=(callEnvC fd s.heap.objs.size a).locals:=rfl;have hh:=λ env (e:env=callEnvC fd s.heap.objs.size a)=>h h₁ tk env env.cells;generalize callEnvC fd s.heap.objs.size a=env at *;have ge:∀ b∈env.locals::env.cells.map (·.2),s.heap.objs.size≤b:=λ b hb=>by
  refine mc2 hb (λ q=>?_) λ q=>?_
  ·exact q▸x.toInCall.fresh
  ·refine aE (List.mem_map.mp q) ?_;clear hb q;rintro⟨y,c⟩ hm rfl;exact Nat.le_trans x.toInCall.fresh (Nat.le_of_lt (x.above y c hm))
 have fr:∀ b∈env.locals::env.cells.map (·.2),s.heap.get? b=none:=λ b hb=>by
  cases q:s.heap.get? b with
  | none=>rfl
  | some o=>exact absurd (Heap.lt_size q) (Nat.not_lt.mpr (ge b hb))
 have mm:∀{b:Addr},b∈aH env env.cells ρ↔b∈env.locals::env.cells.map (·.2)∨b∈Ro.all ρ:=by
  intro b;unfold aH;rw[<- List.cons_append,List.mem_append]
 have kg:(fz s.heap (H++Ro.all ρ)).StaysIn (GG H env env.cells ρ h₁):=aU λ b o e nb=>⟨x.toInCall.keep b o e,λ q=>by
  refine bN q (λ q=>?_) λ q=>?_
  ·exact nb (mL q)
  ·rcases mm.mp q with q|q
   ·rw[fr b q] at e;exact nos e
   ·exact nb (mR q)⟩
 have Iv:Inv H env env.cells ρ h₁ ((F.ps.zip vs).reverse) σ:=by
  refine⟨⟨_,x.toInCall.ns,λ y v e hk=>?_⟩,λ y c e=>⟨_,x.cell y c e,λ v ev=>?_⟩,λ y v e hk ho=>?_,λ y c e=>⟨e,own e⟩,M.chg.up kg (Up.of (H:=[]) x.toInCall.keep),?_,λ b hb=>?_,λ b hb hm=>?_,ocn⟩
  ·refine rB (gU (k:=env.kindOf) F.ps vs rvs (λ _=>none) (λ _=>none) f.ps r e) λ rv _ a2 a3 _=>?_;exact bK rv (a3 hk) (a2.mono kg)
  ·refine rB (gU (k:=env.kindOf) F.ps vs rvs (λ _=>none) (λ _=>none) f.ps r ev) λ rv _ a2 _ a4=>?_;exact bK rv (a4 (by rw[own e];simp)) (a2.mono kg)
  ·refine aE (gU (k:=env.kindOf) F.ps vs rvs (λ _=>none) (λ _=>none) f.ps r e) λ rv a1 _=>?_;rcases f.tg y a1 with h|h
   ·exact absurd (fx.loc y h) hk
   ·refine aB (fx.own y h) λ c hc=>?_;rw[ho] at hc;exact nos hc
  ·unfold aH;rw[List.nodup_cons];refine aY (λ q=>?_) (List.nodup_append.mpr ⟨List.pairwise_map.mpr x.apart,M.nd,λ b hb c hc z=>?_⟩)
   ·refine bN q (λ q=>?_) λ q=>?_
    ·refine aE (List.mem_map.mp q) ?_;rintro⟨y,c⟩ hm q;have:=x.above y c hm;have q':c=env.locals:=q;rw[q'] at this;exact Nat.lt_irrefl _ this
    ·refine aB (M.live _ (mR q)) λ o e=>?_;rw[fr _ (.head _)] at e;exact nos e
   ·refine aB (M.live c (mR hc)) λ o e=>?_;rw[<- z,fr b (.tail _ hb)] at e;exact nos e
  ·refine bN hb (λ q=>?_) λ q=>?_
   ·refine aB (M.live b (mL q)) λ o e=>?_;exact bM o (x.toInCall.keep b o e)
   ·rcases mm.mp q with q|q
    ·refine mc2 q (λ q=>?_) λ q=>?_
     ·refine jE x.toInCall.ns λ o _ _ e _=>?_;exact bM o (q▸e)
     ·refine aE (List.mem_map.mp q) ?_;clear hb q;clear q;rintro⟨y,c⟩ hm rfl;refine aE (x.cell y c (dF ocn hm)) λ o e _=>?_;exact bM o e
    ·refine aB (M.live b (mR q)) λ o e=>?_;exact bM o (x.toInCall.keep b o e)
  ·rcases mm.mp hm with q|q
   ·refine aB (M.live b (mL hb)) λ o e=>?_;rw[fr b q] at e;exact nos e
   ·exact M.off b hb q
 exact h h₁ tk env env.cells Iv fx ⟨x.toInCall.keep,fr,ef,esc,kg⟩
theorem Entered.cx{h h₁}(C:Cx S (n+1) A h (H++Ro.all ρ) H)(En:Entered H ρ h fd env oc h₁)(Iv:Inv H env oc ρ h₁ lv σ)(fx:Fx fd.scope env oc):CxI S n (A.deeper env) h₁ H env oc ρ:=by
 refine⟨C.hd,by have:=C.dp;show A.depth+1+n<_;lia,by have:=C.un;show A.units+3+8 * n+16<_;lia,S.mono En.vis C.base,?_⟩
 refine aE C.fr λ l hl hf'=>?_;refine bK _ (Around.frames_deeper hl) λ en he=>?_;rcases List.mem_cons.mp he with rfl|he
 ·refine⟨by rw[fx.kind];decide,en.locals,?_⟩
  refine aE Iv.ns λ _ y2 _=>bQ y2 λ o es k e d _=>?_;exact aBp o es k En.frame (mR (.head _)) (.head _) e d
 ·refine aK (hf' en he) λ p y3=>gS y3 λ L o es k q1 _ q2 y4=>aK y4 λ q3 q4=>?_;exact aY p (jD L o es k q1 (mL q2) (.tail _ q2) (aY (En.keep L o q3) q4))
set_option backward.match.sparseCases true in
theorem pH{F}(f:FnIs g F fd body){a o}(C:Cx S (n+1) A s.heap (H++Ro.all ρ) H)(M:Mid H ρ s.heap σ){vs}(r:XRels (fz s.heap (H++Ro.all ρ)) ρ vs rvs){act}(hbd:BindsTo s fd act (F.ps.zip rvs))(gk:g.StaysIn s.heap)(ho:s.heap.get? a=some o)(hd:o.data=.func fd)(h:∀ h₁ tk env oc,Inv H env oc ρ h₁ ((F.ps.zip vs).reverse) σ->CxI S n (A.deeper env) h₁ H env oc ρ->Fx fd.scope env oc->Entered H ρ s.heap fd env oc h₁ ->
   wpAny (model prog w) (A.deeper env) (execs body env) (λ f s'=>R (.ok (.ret (match f with|.ret v=>v|_=>.none))) s')
    (λ e s'=>wpAny (model prog w) (A.deeper env) (leaving env e) (λ _ s''=>R (.error e) s'') (λ e' s''=>R (.error e') s'') s') { s with heap:=h₁,toks:=tk }) :
  codeAny (model prog w) A (.call (.ref a) act) R s :=
 zS f (by have:=C.dp;exact ll6 ‹_›) ((S.nolimit C.base).keeps aP) M r hbd gk ho hd λ h₁ tk env oc I fx En=>h h₁ tk env oc I (En.cx C I fx) fx En
theorem qA{ρ' h h₁}(En:Entered H ρ h fd env oc h₁)(I:Inv H env oc ρ' h' lv' σ')(st:Step H env oc ρ h₁ ρ' h') :
  Mid H ρ' h' σ'/\MStep H ρ h ρ' h'/\(GG H env oc ρ' h').StaysIn (fz h' (H++Ro.all ρ')):=by
 have mm:∀{b:Addr} {R:Ro},b∈aH env oc R↔b∈env.locals::oc.map (·.2)∨b∈Ro.all R:=by
  intro b R;unfold aH;rw[<- List.cons_append,List.mem_append]
 have back:(GG H env oc ρ' h').StaysIn (fz h' (H++Ro.all ρ')):=aU λ b o e nb=>⟨e,λ q=>nb (by
  refine bN q (λ q=>?_) λ q=>?_
  ·exact mL q
  ·exact mR (aN q))⟩
 refine fP ⟨I.chg.up back (Up.refl (H:=[]) h'),(List.nodup_append.mp (List.nodup_cons.mp I.nd).2).2.1,λ b hb=>I.live b ?_,λ b hb q=>I.off b hb (aN q)⟩ ⟨st.grow,UpB.after' (UpB.of (Up.of En.keep)) st.up (λ b q=>?_) (λ b q=>?_),λ b hb=>?_⟩ back
 ·refine bN hb (λ q=>?_) λ q=>?_
  ·exact mL q
  ·exact mR (aN q)
 ·rcases mm.mp q with q|q
  ·exact .inr (En.fresh b q)
  ·exact .inl q
 ·refine bN q (λ q=>?_) λ q=>?_
  ·exact .inl (mL q)
  ·rcases mm.mp q with q|q
   ·exact .inr (En.fresh b q)
   ·exact .inl (mR q)
 ·rcases st.new b (aN hb) with z|z
  ·rcases mm.mp z with z|z
   ·exact .inr (En.fresh b z)
   ·exact .inl z
  ·refine .inr ?_;cases e:h.get? b with
   | none=>rfl
   | some o=>have:=En.keep b o e;rw[z] at this;exact nos this
variable(S)
set_option tactic.hygienic true in
theorem aAP(hSs:SSs S n):SC S (n+1):=by
 have getF:∀{f:Str} {vs:List PV} {v:PV},cG S.T (n+1) f vs=some v->∃ F,S.T.fn f=some F/\F.ps.length=vs.length/\∃ fl lv' σ',exs S.T n F.body ((F.ps.zip vs).reverse) []=some (fl,lv',σ')/\((∃ u,fl=.ret u/\dX σ' u=some v)∨(fl=.next/\v=.none)):=by
  intro f vs v e;unfold cG at e;split at e
  ·exact nos e
  ·rename_i F hF;split at e
   ·rename_i hl;refine aZ e ?_;clear e;rintro⟨fl,lv',σ'⟩ e1 e2;refine⟨F,hF,hl,fl,lv',σ',e1,?_⟩;split at e2
    ·rename_i u lv2 σ2 heq;clear e1;cases heq;exact .inl ⟨u,rfl,e2⟩
    ·rename_i heq;clear e1;cases heq;have q:=sj e2;clear e2;subst q;exact .inr ⟨rfl,rfl⟩
    ·exact nos e2
   ·exact nos e
 constructor
 ·intro f vs v e;refine aE (getF e) λ F hF _=>?_;refine aE (S.fnOk hF) λ a ha hg=>?_;refine bK a ha λ g hB=>?_;refine bQ (hg g hB) λ o fd body h1 h2 _=>?_;exact rR o fd h1 h2
 ·intro f vs v e a ha A H s rvs Q E C lH r h;refine fQ (getF e) λ F hF hl y5=>jE y5 λ fl lv' σ' ex' fin=>?_;refine aE (S.fnOk hF) λ a' ha' hg=>?_;simp only[ha] at ha';cases ha';refine bQ (hg _ C.base) λ o fd body h1 h2 hf=>?_;have h1':=aP _ _ h1;have hH:H=H++Ro.all ([]:Ro):=by simp[Ro.all]
  refine wpAny_call (pH hf (H:=H) (ρ:=[]) (σ:=[]) (by simp only[<- hH];exact C) (.nil lH) (hH▸r.toX) (hf.bind s rvs aP (by simp only[r.length,hl])) aP h1' h2 λ h₁ tk env oc I C1 fx En=>?_)
  refine hSs hf.tr ex' C1 fx I λ h' tk' ρ' f' I' st' fr=>?_;refine bU (qA En I' st') λ M st back=>?_;have k0:Up H s.heap h':=hH▸(st.up.toUp:Up (H++Ro.all []) s.heap h');clear ex' e y5;rcases fin with⟨u,rfl,hu⟩|⟨rfl,rfl⟩
  ·cases fr with|ret ru =>
   exact h h' tk' _ k0 (gD M.off M.chg (ru.mono back) hu)
  ·cases fr;exact h h' tk' _ k0 .none
structure All(n:Nat):Prop where
 e:SE S n
 es:SEs S n
 b:SB S n
 t:ST S n
 a:SA S n
 s:SS S n
 ss:SSs S n
 w:SW S n
 c:SC S n
end
end
section
open PySem.SeqAt
theorem Inv.adopt{h p o}(I:Inv ((c::p.1::p.2)++X) env oc ρ h lv σ)(pn:(c::p.1::p.2).Nodup)(hX:∀ a∈p.1::p.2,a∉X)(m:MRel (fz h ((c::X)++aH env oc (ρ++[p]))) (ρ++[p]) h p o):Inv (c::X) env oc (ρ++[p]) h lv (σ++[o]):=by
 have kg:(GG ((c::p.1::p.2)++X) env oc ρ h).StaysIn (GG (c::X) env oc (ρ++[p]) h):=aU λ b o e n=>⟨e,λ q=>n (by
  rw[cI] at q;simp only[List.mem_append,List.mem_cons] at q ⊢;rcases q with(q|q)|q|q|q
  ·exact .inl (.inl (.inl q))
  ·exact .inl (.inr q)
  ·exact .inr q
  ·exact .inl (.inl (.inr (.inl q)))
  ·exact .inl (.inl (.inr (.inr q))))⟩
 have np:=List.nodup_cons.mp pn;refine⟨?_,λ y d hd=>?_,λ y w hy hk ho=>?_,I.oce,?_,?_,λ a ha=>?_,λ a ha hm=>?_,I.ocn⟩
 ·refine aE I.ns λ m' hn hv=>?_;exact bK m' hn λ y w hy hk=>(hv y w hy hk).imp λ rv q=>⟨q.1,(q.2.mono kg).more⟩
 ·refine aE (I.cell y d hd) λ ov a b=>?_;exact bK ov a λ w hw=>(b w hw).imp λ rv q=>⟨q.1,(q.2.mono kg).more⟩
 ·refine bB (I.free y w hy hk ho) λ d rv a b z=>?_;exact dR d rv a (cQ kg b) (z.mono kg)
 ·exact(I.chg.mono kg λ _ _=>rfl).more.snoc m
 ·rw[cI];refine List.nodup_append.mpr ⟨I.nd,np.2,λ a ha b hb z=>?_⟩;exact I.off b (mL (.tail _ hb)) (z▸ha)
 ·rw[cI] at ha;refine I.live a ?_;simp only[List.mem_append,List.mem_cons] at ha ⊢;rcases ha with(ha|ha)|ha|ha|ha
  ·exact .inl (.inl (.inl ha))
  ·exact .inl (.inr ha)
  ·exact .inr ha
  ·exact .inl (.inl (.inr (.inl ha)))
  ·exact .inl (.inl (.inr (.inr ha)))
 ·rw[cI] at hm;refine bN hm (λ q=>?_) λ q=>?_
  ·refine I.off a ?_ q;refine mc2 ha (λ z=>?_) λ z=>?_
   ·exact z▸mL (.head _)
   ·exact mR z
  ·refine mc2 ha (λ z=>?_) λ z=>?_
   ·exact np.1 (z▸q)
   ·exact hX a q z
theorem tE{t}:∀(k:Nat),VRels g (List.replicate k (PV.int 0)) ((List.replicate k [Value.int 0 t]).flatten):=by
 intro l9;induction l9 with
 | zero =>
  exact .nil
 | succ k ih =>
  dsimp only [List.replicate_succ,List.replicate_succ,List.flatten_cons];exact .cons (.int 0 t) (ih)
theorem Nt(k:Nat)(a:α):List.replicate k a++[a]=List.replicate (k+1) a:=by
 simp only[List.replicate_succ']
section
theorem Sl{l k x u}(hl:s.heap.get? l=some (cK vs k))(hlo:0≤x)(hhi:x<100000)(hv:vs.length=1)(h:Q (.ref s.heap.objs.size) { s with heap:=s.heap.push (cK ((List.replicate x.toNat vs).flatten) 0) }):wpAny (model prog w) A (binaryOp .Mult (.ref l) (.int x u)) Q E s:=by
 have hT:s.TypeIs (.ref l) "list":=⟨_,hl,rfl⟩;have hz:vs.toArray.size=1:=hv;refine wpAny_binaryOp_repeat_ref (T:="list") (U:="int") (by decide) hT (λ s'=>typeIs_int s' x u) noFill_list_mul F.fills_int_mul F.slot_int_rmul repeat_list F.slot_int_index.lookup ?_
 refine call_meets F.slot_int_rmul (typeIs_int s x u) F.entry_int_rmul (F.args_int_rmul_2 _ _) (int___rmul___int_list x u l vs.toArray k) ⟨hl,rfl,hT,?_⟩;refine call_meets F.slot_list_mul hT F.entry_list_mul (F.args_list_mul_2 _ _) (AutoListH.list___mul___list_int_3 l vs.toArray k x u ?_ ?_ ?_) ⟨hl,?_⟩
 ·simp[Builtin.List.listFitsIndex];lia
 ·rw[hz];lia
 ·rw[hz];simp[Builtin.List.listTooLong,sizeLine];lia
 ·rw[listMul_foldl_if];exact h
theorem Gx{Q}(h:Q true s):wpAny (model prog w) A (iI [] env) Q E s:=by
 show wpAny _ _ (forIn ([]:List Expr) true _) _ _ _;dsimp only [List.forIn_nil];exact wP h
variable(S:Sys prog w)
theorem Si{l}(e:ex T (n+1) (.mkm x l) lv σ=some (fl,lv',σ')) :
  ∃ xs,lv.lookup l=some (.list xs)/\(6≤n/\xs.length<1000)/\fl=.next/\lv'=(x,.mref σ.length)::lv/\σ'=σ++[.mat (List.replicate xs.length (List.replicate xs.length (PV.int 0)))]:=by
 dsimp only [Qd] at e;generalize lv.lookup l=u at e ⊢;cases u with
 | none=>exact nos e
 | some u =>
  rcases u with⟨⟩<;>first|exact nos e|skip
  refine aK (bC e) λ hl e1=>?_;refine bU (dD e1) ?_;clear e e1;rintro rfl rfl rfl;exact aD8 _ rfl hl rfl rfl rfl
inductive MRow(h h':Heap)(D C':Addr)(L:List Addr)(m:Nat)(a:Addr):Prop
 | mk:h.get? a=none->a≠D->a≠C'->a∉L->(∃ vs k,h'.get? a=some (cK vs k)/\∀ g,VRels g (List.replicate m (.int 0)) vs)->MRow h h' D C' L m a
inductive MInv(S:Sys prog w)(n:Nat)(A:Around)(X0:List Addr)(cenv:Env)(oc':List (Str×Addr))(l:Str)(xs:List PV)(D It C':Addr)(s:Shared)(G h₄:Heap)(St:Nat->Heap->Prop)(k:Nat)(s':Shared):Prop
 | mk (h':Heap) (tk i:Nat) (as:List Addr) (nn:Nat):s'={ s with heap:=h',toks:=tk }->i≤xs.length->k=xs.length+1 - i->St i h'->CLoop S n A (It::D::X0) cenv oc' [(l,.list xs)] D (List.replicate i (.list (List.replicate xs.length (.int 0)))) h'->G.StaysIn (GG (It::D::X0) cenv oc' [] h') ->
   as.length=i->h'.get? D=some (cK (as.map Value.ref) nn)->as.Nodup->(∀ a∈as,MRow s.heap h' D C' (It::D::X0++aH cenv oc' []) xs.length a)->UpB (D::It::aH cenv oc' []) (It::D::X0++aH cenv oc' []) h₄ h'->MInv S n A X0 cenv oc' l xs D It C' s G h₄ St k s'
theorem Oy(L:Low S n){l k p3 p4 p5 p6 p7 p8 p9}(hx:sc.names.lookup x=some .local)(hk:scope.kind=.function)(hnm:∀ y∈scope.names,y.2=.local->scope.names.lookup y.1=some .local)(hnd:(scope.names.map (·.1)).Nodup)(hfr:bZ scope=[l])(hl:sc.names.lookup l=some .cell∨sc.names.lookup l=some .free)(hy:scope.names.lookup y=some .local)(hlen:aR scope "len")(ld:(l=="__debug__")=false)(lc:(l=="__classdict__")=false)(hyl:y≠l)(hli:(p1.line==cp.line)=true)(hna:(scope.names.any λ z=>z.1==x&&(z.2==.local||z.2==.cell))=false)(ev':ex S.T (n+1) (.mkm x l) lv σ=some (fl,lv',σ')){Q}(C:CxI S (n+1) A s.heap (X) env oc ρ)(F:Fx sc env oc)(I:Inv X env oc ρ s.heap lv σ)(h:fB X env oc ρ s lv' σ' fl Q) :
  wpAny (model prog w) A (exec (.Assign [.Name x p1] (.ListComp (.BinOp (.List [.Constant (.int 0) k p2] p3) .Mult (.Call (.Name "len" p4) [.Name l p5] [] p6) p7) [⟨.Name y p8,.Name l p9,[],0⟩] scope cp) p) env) Q E s:=by
 refine aEa (Si ev') ?_;intro xs el q1;refine aK q1 ?_;clear q1;intro h6 hxl;clear ev';rintro rfl rfl rfl
 ·skip
  have so:ScopeOk sc scope:=⟨hk,hnd,λ y hy=>by simp only[hfr] at hy;simp only[xm1 hy];exact hl⟩
  have hc:iA (bZ scope) lv=some [(l,.list xs)]:=by simp only[hfr];simp[iA,el,Mu,Mv,Gb,Mw,Mx,My,Mz,Mt]
  have lk:scope.names.lookup l=some .free:=dF hnd (hJ.mp (by simp only[hfr];exact .head _))
  have tl:TrE sc (.Name l p9) (.v l):=.v (hl.elim (λ q=>.inr (.inl q)) λ q=>.inr (.inr q)) ld lc;have tl':TrE scope (.Name l p5) (.v l):=.v (.inr (.inr lk)) ld lc;simp only[exec_Assign_Name_used _ _ _ _ (qV F.kind (F.loc x hx) hli hna)];refine wB (wpAny_standAt (wB ?_));show wpAny _ A (do let _ <- comprehension (.ListComp _ _ scope cp) scope env _ (newList []) false (eval _ env) (some (assign (.Name x p1) env))) _ _ s
  refine wB (wpAny_mono (wpAny_comprehension_free (use:=some (assign (.Name x p1) env)) (Q:=λ _ s'=>Q .next s') (E:=E) rfl (λ v=>tl.nset env v) (jT (iU I F so hc)) hk hnm ?_) (λ _ s' hq=>wP (wP hq)) λ _ _ e=>e);have ei:eH S.T 3 (.e (.v l)) lv σ=some xs:=eW (aG el) (by exact ll1 ‹_› (by rfl))
  refine iD S (L.e 2 (by omega)) (L.es 2 (by omega)) (it:=.e (.v l)) trivial (.e tl) ei (C.le (by lia)) F I λ h₁ h₂ tk It fp P St k₁ k₂ fI lI feed st hll=>?_
  refine wpAny_newObj_type (jX ?_);have kD:=aS h₂ { cls:=.type "list",dict:=none,data:=.seq ([]:List Value).toArray };have k02:Up (X++aH env oc ρ) s.heap h₂:=k₁.trans (.of k₂);have fr2:∀{a:Addr},h₂.objs.size≤a->s.heap.get? a=none:=λ{a} hz=>by
   cases q:s.heap.get? a with
   | none=>rfl
   | some o=>refine aB (k02.sl _ _ q) λ _ z=>?_;exact absurd (Heap.lt_size z) (Nat.not_lt.mpr hz)
  have fD:s.heap.get? h₂.objs.size=none:=fr2 (Nat.le_refl _);have fI0:s.heap.get? It=none:=k₁.new fI;have fC:s.heap.get? (h₂.push { cls:=.type "list",dict:=none,data:=.seq ([]:List Value).toArray }).objs.size=none:=fr2 (by simp only[Heap.size_push];exact Nat.le_succ _)
  have dc:h₂.objs.size≠(h₂.push { cls:=.type "list",dict:=none,data:=.seq ([]:List Value).toArray }).objs.size:=by simp only[Heap.size_push];exact Nat.ne_of_lt (Nat.lt_succ_self _)
  have lD:(h₂.push { cls:=.type "list",dict:=none,data:=.seq ([]:List Value).toArray }).get? h₂.objs.size=some (cK [] 0):=Heap.get?_push_size _ rfl;generalize h₂.push { cls:=.type "list",dict:=none,data:=.seq ([]:List Value).toArray }=h₃ at kD fC dc lD;have lI3:∃ o,h₃.get? It=some o:=let⟨o,q⟩:=lI;⟨o,kD _ _ q⟩
  have c:=pC C.down I F so hc (k02.trans (.of kD)) fI0 fD lI3 lD;have Fc:=tS F so h₃.objs.size;have k4:h₃.StaysIn (pushCells (h₃.push { cls:=.type "dict",data:=.dict #[] }) scope.names):=aM (aS _ _) (fM _ _);have k24:=aM kD k4;have k04:Up (X++aH env oc ρ) s.heap (pushCells (h₃.push { cls:=.type "dict",data:=.dict #[] }) scope.names):=k02.trans (.of k24);have lD4:=k4 _ _ lD;have ID:It≠h₂.objs.size:=λ q=>by refine aB lI ?_;clear lI;intro o e;simp only[q,bW] at e;exact nos e
  have hIX:It∉h₂.objs.size::(X++(env.locals::Ro.all ρ)):=λ q=>by
   refine mc2 q (λ q=>?_) λ q=>?_
   ·exact ID q
   ·have:It∈X++aH env oc ρ:=by
     refine bN q (λ q=>?_) λ q=>?_
     ·exact mL q
     ·refine mc2 q (λ q=>?_) λ q=>?_
      ·exact mR (q▸.head _)
      ·exact mR (aN q)
    refine aB (I.live It this) λ o e=>?_;simp only[fI0] at e;exact nos e
  have Dfp:h₂.objs.size∉fp:=λ q=>by
   rcases feed.fpIn _ q with q|⟨o,q,_⟩
   ·exact ID q.symm
   ·have:=k₂ _ _ (dT q).1;simp only[bW] at this;exact nos this
  have own0:∀{a:Addr} {o:Obj},s.heap.get? a=some o->a∉aH (dI scope env h₃.objs.size) (cellsFrom (h₃.objs.size+1) scope.names []) []:=by
   intro a o e hm;refine aB (k02.sl _ _ e) λ _ ez=>?_;have hlt:=Heap.lt_size (kD _ _ ez);have ok:=cellsFrom_ok scope.names (h₃.push { cls:=.type "dict",data:=.dict #[] }) (h₃.objs.size+1) [] ⟨λ _ _ hm=>(nomatch hm),List.Pairwise.nil⟩ (by simp only[Heap.size_push];exact Nat.le_refl _)
   simp only[Heap.size_push] at ok;unfold aH at hm;refine mc2 hm (λ q=>?_) λ q=>?_
   ·exact Nat.lt_irrefl _ (q▸hlt)
   ·refine bN q (λ q=>?_) λ q=>?_
    ·refine aE (List.mem_map.mp q) ?_;clear e hm ez q;clear q;rintro⟨x,c⟩ hm2 rfl;exact Nat.lt_irrefl _ (Nat.lt_of_lt_of_le hlt (Nat.le_of_succ_le (ok.empty x c hm2).2))
    ·exact absurd q (by simp[Ro.all])
  have gk:(GG X env oc ρ h₁).StaysIn (GG (It::h₂.objs.size::(X++(env.locals::Ro.all ρ))) (dI scope env h₃.objs.size) (cellsFrom (h₃.objs.size+1) scope.names []) [] (pushCells (h₃.push { cls:=.type "dict",data:=.dict #[] }) scope.names)) :=
   aU λ b o e n=>⟨k24 _ _ (k₂ _ _ e),λ q=>by
    refine bN q (λ q=>?_) λ q=>?_
    ·refine mc2 q (λ q=>?_) λ q=>?_
     ·simp only[q,fI] at e;exact nos e
     ·refine mc2 q (λ q=>?_) λ q=>?_
      ·have:=k₂ _ _ e;simp only[q,bW] at this;exact nos this
      ·refine bN q (λ q=>?_) λ q=>?_
       ·exact n (mL q)
       ·refine mc2 q (λ q=>?_) λ q=>?_
        ·exact n (mR (q▸.head _))
        ·exact n (mR (aN q))
    ·have ok:=cellsFrom_ok scope.names (h₃.push { cls:=.type "dict",data:=.dict #[] }) (h₃.objs.size+1) [] ⟨λ _ _ hm=>(nomatch hm),List.Pairwise.nil⟩ (by simp only[Heap.size_push];exact Nat.le_refl _)
     simp only[Heap.size_push] at ok;have hlt:=Heap.lt_size (kD _ _ (k₂ _ _ e));unfold aH at q;refine mc2 q (λ q=>?_) λ q=>?_
     ·exact Nat.lt_irrefl _ (q▸hlt)
     ·refine bN q (λ q=>?_) λ q=>?_
      ·refine aE (List.mem_map.mp q) ?_;clear e n q;clear q;rintro⟨x,c⟩ hm2 rfl;exact Nat.lt_irrefl _ (Nat.lt_of_lt_of_le hlt (Nat.le_of_succ_le (ok.empty x c hm2).2))
      ·exact absurd q (by simp[Ro.all])⟩
  have st4:St 0 (pushCells (h₃.push { cls:=.type "dict",data:=.dict #[] }) scope.names):=feed.W.frame _ _ _ st λ b _ o e=>k24 b o e;have fC4:∃ o,(pushCells (h₃.push { cls:=.type "dict",data:=.dict #[] }) scope.names).get? h₃.objs.size=some o:=by
   refine jE c.inv.ns.choose_spec.1 λ o _ _ e _=>?_;exact bM o e
  have loc:(dI scope env h₃.objs.size).locals=h₃.objs.size:=rfl;show codeAny (model prog w) A (.compStart _ 0 (.ref It) (.ref h₂.objs.size) (dI scope env h₃.objs.size)) (compPost (model prog w) A E (some (assign (.Name x p1) env)) (λ _ s'=>Q .next s') (.ref h₂.objs.size) h₃.objs.size)
   { s with heap:=pushCells (h₃.push { cls:=.type "dict",data:=.dict #[] }) scope.names,toks:=tk }
  generalize hh4:pushCells (h₃.push { cls:=.type "dict",data:=.dict #[] }) scope.names=h₄ at *;generalize hD:h₂.objs.size=D at *;generalize hCe:h₃.objs.size=C' at *;generalize hen:dI scope env C'=cenv at *;generalize hoc:cellsFrom (C'+1) scope.names []=oc' at *;generalize hX0:X++(env.locals::Ro.all ρ)=X0 at *;have hDX:D∈D::X0:=.head _;have hI:It∈It::D::X0:=.head _;have key:codeAny (model prog w) A (.compLoop (.ListComp (.BinOp (.List [.Constant (.int 0) k p2] p3) .Mult (.Call (.Name "len" p4) [.Name l p5] [] p6) p7) [⟨.Name y p8,.Name l p9,[],0⟩] scope cp) 0 (.ref It) (.ref D) cenv) (compPost (model prog w) A E (some (assign (.Name x p1) env)) (λ _ s'=>Q .next s') (.ref D) C')
    { s with heap:=h₄,toks:=tk }:=by
   refine eS rfl rfl (λ v=>rfl)
    (MInv S n A X0 cenv oc' l xs D It C' s (GG X env oc ρ h₁) h₄ St) ?_ (xs.length+1)
    ⟨h₄,tk,0,[],0,rfl,Nat.zero_le _,rfl,st4,c,gk,rfl,lD4,List.nodup_nil,(λ a ha=>(nomatch ha)),.refl _⟩
   rintro kk s' E' ⟨h',tk',i,as,nn,rfl,hi,rfl,st',c',hgk',hal,hDa,hnd',has,hkeep⟩;by_cases hlt:i<xs.length
   ·refine feed.W.item i _ _ _ hlt st' λ v g₁ tk₁ hP st₁ hk₁=>?_;refine aE (feed.rel i v hP) λ u hu rv=>?_;have hne:D≠It:=λ q=>hIX (q▸hDX);refine aK (c'.step hI hne hk₁ (let⟨o,e,_⟩:=feed.live _ _ st₁;⟨o,e⟩) (feed.live _ _ st')) λ c₁ kk₁=>?_
    have hgk₁:=aM hgk' kk₁;refine c₁.store (.inl hy) Fc (rv.mono hgk₁) λ g₂ tk₂ c₂ hk₂ kk₂=>?_;have hgk₂:=aM hgk₁ kk₂;have nIm:It∉aH cenv oc' []:=c₁.inv.off It hI;have nDm:D∉aH cenv oc' []:=c₁.inv.off D (.tail _ hDX);have st₂:St (i+1) g₂:=feed.keep (λ o e=>hk₂ It o nIm e) (λ b o eg _ eh=>hk₂ b o (λ q=>(dT (hgk₁ _ _ eg)).2 (mR q)) eh) (λ b o eg=>(dT (hgk₁ _ _ eg)).1) st₁;have k12:∀ b o,b≠It->b∉aH cenv oc' []->h'.get? b=some o->g₂.get? b=some o:=λ b o n1 n2 e=>hk₂ b o n2 (hk₁ b o (by simpa using n1) e)
    refine Gx ?_;dsimp only [if_pos rfl];have lu:((y,u)::[(l,PV.list xs)]:LV).lookup l=some (.list xs):=by rw[bE,if_neg λ q=>hyl q.symm];simp
    refine wpAny_BinOp (L.e 5 (by omega) (TrE.list (.cons .int .nil) (by decide)) (v:=.list [.int 0]) rfl (c₂.cx.le (by omega)) Fc c₂.inv λ g₃ tk₃ r1 k₃ rr1=>?_)
    have c₃:=c₂.ext k₃;refine L.e 5 (by omega) (x:=.bi .len (.v l)) (TrE.bi (f:=.len) (by simp) (by simp) hlen tl') (v:=.int xs.length) (eT (aG lu) rfl ((qI xs).trans (if_pos (by exact ll1 ‹_› (by rfl))))) (c₃.cx.le (by omega)) Fc c₃.inv λ g₄ tk₄ r2 k₄ rr2=>?_
    have c₄:=c₃.ext k₄;refine bQ rr1.inv ?_;clear rr1;rintro q vq nq rfl eq rq;refine aB rr2.inv ?_;clear rr2;rintro t2 rfl;refine bB (rq.inv) ?_;rintro _ _ rfl rq0 rq1;have q:_=_:=rq1.inv;clear rq1;subst q;refine aB rq0.inv ?_;clear rq0;clear rq;rintro t0 rfl;have eq4:=k₄.nd _ _ rfl (aP _ _ eq);refine Sl eq4 (by lia) (by omega) rfl ?_
    dsimp only [Int.toNat_natCast];have k₅:=aS g₄ (cK ((List.replicate xs.length [Value.int 0 t0]).flatten) 0);have eR:(g₄.push (cK ((List.replicate xs.length [Value.int 0 t0]).flatten) 0)).get? g₄.objs.size=some (cK ((List.replicate xs.length [Value.int 0 t0]).flatten) 0):=Heap.get?_push_size _ rfl;have gn:g₄.get? g₄.objs.size=none:=bW _;generalize g₄.push (cK ((List.replicate xs.length [Value.int 0 t0]).flatten) 0)=g₅ at k₅ eR ⊢;generalize g₄.objs.size=R at eR gn ⊢;have c₅:=c₄.ext (.of k₅);have live4:∀{a:Addr} {o:Obj},g₄.get? a=some o->a≠R:=λ e q=>by simp only[q,gn] at e;exact nos e
    have nR:R∉It::D::X0++aH cenv oc' []:=λ q=>by
     refine aB (c₄.inv.live R q) λ o e=>?_;exact live4 e rfl
    have vR:VRel (GG (It::D::X0) cenv oc' [] g₅) (.list (List.replicate xs.length (.int 0))) (.ref R):=.list (dG eR nR) (tE _);have u25:UpB (D::It::aH cenv oc' []) (It::D::X0++aH cenv oc' []) g₂ g₅:=(UpB.of (k₃.trans k₄)).trans (.of (.of k₅));have u05:UpB (D::It::aH cenv oc' []) (It::D::X0++aH cenv oc' []) h' g₅:=((UpB.only hk₁ λ b q=>xm1 q▸.tail _ (.head _)).trans (.only hk₂ λ b q=>.tail _ (.tail _ q))).trans u25;have k24':∀ b o,cN o=false->b≠It->b∉aH cenv oc' []->h'.get? b=some o->g₅.get? b=some o:=λ b o d n1 n2 e=>k₅ b o (k₄.nd b o d (k₃.nd b o d (k12 b o n1 n2 e)));refine c₅.append vR (by simp only[List.length_replicate];exact lx1 ‹_› ‹_› (by rfl)) λ g₆ c₆ hk₆ kk₆ hx₆=>?_
    have eD5:=k24' D _ rfl hne nDm hDa;have eD6:=hx₆ _ _ eD5;have RD:R≠D:=λ q=>by refine aB (c₄.inv.live D (mL (.tail _ hDX))) λ o e=>?_;exact live4 e q.symm
    refine⟨xs.length+1 - (i+1),by exact aAZ ‹_›,g₆,tk₄,i+1,as++[R],nn+1,rfl,hlt,rfl,?_,?_,?_,by simp only[List.length_append,hal];rfl,by simp only[eD6,List.map_append];rfl,?_,?_,(hkeep.trans u05).trans (.only hk₆ λ b q=>xm1 q▸.head _)⟩
    ·have st₄:=feed.up (aM hgk₂ k₃.fz) k₄ (feed.up hgk₂ k₃ st₂);exact feed.W.frame _ _ _ (feed.W.frame _ _ _ st₄ λ b _ o e=>k₅ b o e) λ b hb o e=>hk₆ b o (λ q=>Dfp (xm1 q▸hb)) e
    ·simp only[<- Nt];exact c₆.weak (tD (by simp only[List.lookup_cons,List.lookup_nil];simp only[hZ hyl]))
    ·exact aM (aM (aM (aM hgk₂ k₃.fz) k₄.fz) (iB k₅)) kk₆
    ·refine List.nodup_append.mpr ⟨hnd',by simp,λ a ha b hb z=>?_⟩
     simp only[xm1 hb] at z;obtain⟨_,_,_,n4,⟨vs,m,e,_⟩⟩:=has a ha;refine live4 (k₄.nd _ _ rfl (k₃.nd _ _ rfl (k12 a _ (λ q=>n4 (by simp only[q];exact mL (.head _))) (λ q=>n4 (mR q)) e))) z
    ·intro a ha;refine bN ha (λ ha=>?_) λ ha=>?_
     ·obtain⟨n1,n2,n3,n4,⟨vs,m,e,r⟩⟩:=has a ha;exact⟨n1,n2,n3,n4,vs,m,hk₆ a _ (by simpa using n2) (k24' a _ rfl (λ q=>n4 (by simp only[q];exact mL (.head _))) (λ q=>n4 (mR q)) e),r⟩
     ·simp only[xm1 ha];refine⟨?_,RD,?_,nR,_,_,hk₆ R _ (by simpa using RD) eR,λ g=>tE _⟩
      ·cases q:s.heap.get? R with
       | none=>rfl
       | some o =>
        refine aB (k04.sl _ _ q) λ _ z1=>?_;have nN:R∉D::It::aH cenv oc' []:=λ z=>by
         refine mc2 z (λ z=>?_) λ z=>?_
         ·simp only[z,fD] at q;exact nos q
         ·refine mc2 z (λ z=>?_) λ z=>?_
          ·simp only[z,fI0] at q;exact nos q
          ·exact own0 q z
        refine aB (hkeep.sl _ _ nN z1) λ _ z2=>?_;refine aB (k₃.sl _ _ (k12 R _ (λ z=>nN (z▸.tail _ (.head _))) (λ z=>nN (.tail _ (.tail _ z))) z2)) λ _ z3=>?_;refine aB (k₄.sl _ _ z3) λ _ z4=>?_;exact absurd rfl (live4 z4)
      ·intro q;exact nR (mR (by unfold aH;simp only[q,<- loc];exact .head _))
   ·obtain rfl:i=xs.length:=Nat.le_antisymm hi (Nat.not_lt.mp hlt);refine feed.W.done _ _ _ st' λ g₁ tk₁ hk₁=>?_;have hne:D≠It:=λ q=>hIX (q▸hDX);have c₁:=c'.drop hIX hDX hk₁ (feed.live _ _ st');have k1:∀ b o,b≠It->h'.get? b=some o->g₁.get? b=some o:=λ b o n e=>hk₁ b o (by simpa using n) e
    have newm:∀ b∈aH cenv oc' [],s.heap.get? b=none:=λ b hb=>by
     cases q:s.heap.get? b with
     | none=>rfl
     | some o=>exact absurd hb (own0 q)
    have k0:Up (X++aH env oc ρ) s.heap g₁:=(UpB.after (N:=[]) k04 (hkeep.trans (.only hk₁ λ b q=>xm1 q▸.tail _ (.head _))) (λ b q=>.inr (by
      refine mc2 q (λ q=>?_) λ q=>?_
      ·exact q▸fD
      ·refine mc2 q (λ q=>?_) λ q=>?_
       ·exact q▸fI0
       ·exact newm b q)) (λ b q=>by
      refine bN q (λ q=>?_) λ q=>?_
      ·refine mc2 q (λ q=>?_) λ q=>?_
       ·exact .inr (q▸fI0)
       ·refine mc2 q (λ q=>?_) λ q=>?_
        ·exact .inr (q▸fD)
        ·refine .inl ?_;simp only[<- hX0] at q;refine bN q (λ q=>?_) λ q=>?_
         ·exact mL q
         ·refine mc2 q (λ q=>?_) λ q=>?_
          ·exact mR (q▸.head _)
          ·exact mR (aN q)
      ·exact .inr (newm b q))).toUp
    have eD:=k1 D _ hne hDa;refine aE c₁.inv.ns λ mC hnC _=>?_;simp only[loc] at hnC;have lC:∃ o,g₁.get? C'=some o:=by refine jE hnC ?_;clear hnC;intro o _ _ e _;exact bM o e
    have has1:∀ a∈as,s.heap.get? a=none/\a≠D/\a≠C'/\(∃ vs m,g₁.get? a=some (cK vs m)/\∀ g,VRels g (List.replicate xs.length (.int 0)) vs):=λ a ha=>by
     obtain⟨n1,n2,n3,n4,⟨vs,m,e,r⟩⟩:=has a ha;exact Us n1 n2 n3 (rR vs m (k1 a _ (λ q=>n4 (by simp only[q];exact mL (.head _))) e) r)
    have frs:∀ a∈C'::D::as,s.heap.get? a=none:=λ a ha=>by
     refine mc2 ha (λ q=>?_) λ q=>?_
     ·exact q▸fC
     ·refine mc2 q (λ q=>?_) λ q=>?_
      ·exact q▸fD
      ·exact(has1 a q).1
    have I1:Inv ((C'::D::as)++X) env oc ρ g₁ lv σ:=I.hide frs k0 λ a ha=>by
     refine mc2 ha (λ q=>?_) λ q=>?_
     ·exact q▸lC
     ·refine mc2 q (λ q=>?_) λ q=>?_
      ·exact bM _ (q▸eD)
      ·refine kR (has1 a q) λ _ _ _ q2=>eX q2 λ vs m e _=>?_;exact bM _ e
    have notX:∀ a∈C'::D::as,a∉X:=λ a ha q=>by
     refine aB (I.live a (mL q)) λ o e=>?_;simp only[frs a ha] at e;exact nos e
    have rowsOk:∀(bs:List Addr),(∀ a∈bs,∃ vs m,g₁.get? a=some (cK vs m)/\∀ g,VRels g (List.replicate xs.length (.int 0)) vs)->∀ g,RowsAt g g₁ bs (List.replicate bs.length (List.replicate xs.length (PV.int 0))):=by
     intro bs;induction bs with
     | nil=>intro _ g;exact .nil
     | cons b bs ih =>
      intro hb g;refine eX (hb b (.head _)) λ vs m e r=>?_;exact .cons ⟨vs,m,e,r g⟩ (ih (λ a ha=>hb a (.tail _ ha)) g)
    have I2:=I1.adopt (p:=(D,as)) (o:=.mat (List.replicate xs.length (List.replicate xs.length (PV.int 0)))) (by
      refine List.nodup_cons.mpr ⟨λ q=>?_,List.nodup_cons.mpr ⟨λ q=>(has1 D q).2.1 rfl,hnd'⟩⟩;refine mc2 q (λ q=>?_) λ q=>?_
      ·exact dc q.symm
      ·exact(has1 C' q).2.2.1 rfl) (λ a ha=>notX a (.tail _ ha))
     ⟨⟨nn,eD⟩,by
      have:=rowsOk as (λ a ha=>(has1 a ha).2.2.2) (fz g₁ ((C'::X)++aH env oc (ρ++[(D,as)])));simp only[hal] at this;exact this⟩
    have hlen':σ.length=ρ.length:=I.chg.length;show wpAny _ A (assign (.Name x p1) env (.ref D)) _ _ _;refine wpAny_assign_Name (bJ (v:=.mref σ.length) (.inl hx) F I2 (.mr (p:=(D,as)) (by simp only[hlen'];simp)) λ h3 tk3 I3 k3=>?_)
    have nC:C'∉aH env oc []:=λ q=>I2.off C' (.head _) (aW q);refine bK mC (hnC.at' λ o e=>k3 C' o nC e) λ h4 hs=>?_;have k4':∀ b o,b∉[C']->h3.get? b=some o->h4.get? b=some o:=λ b o n e=>hs.extBut b o (by simpa using n) e
    refine h h4 tk3 (ρ++[(D,as)]) _ (I3.drop (notX C' (.head _)) k4') ⟨⟨_,rfl⟩,(UpB.of k0).after' (N₂:=C'::aH env oc []) (H₂:=[]) ((UpB.only k3 λ _ q=>.tail _ q).trans (.only k4' λ b q=>xm1 q▸.head _)) (λ b q=>by
     refine mc2 q (λ q=>?_) λ q=>?_
     ·exact .inr (q▸fC)
     ·exact .inl (aW q)) (λ b q=>nomatch q),λ b hb=>?_⟩ .next
    simp only[cI] at hb;refine bN hb (λ q=>?_) λ q=>?_
    ·exact .inl q
    ·exact .inr (frs b (.tail _ q))
  exact dL rfl key λ E''=>feed.W.self 0 _ _ _ st4 key
end
end
section
open PySem.SeqAt
theorem lX{pp}:∀{ρ:Ro} {i:Nat},(Ro.all ρ).Nodup->ρ[i]? = some pp->(pp.1::pp.2).Nodup:=by
 intro l9;induction l9 with
 | nil =>
  intro _ _ q;simp at q
 | cons p ρ ih =>
  intro i nd q;dsimp only [Ro.all,List.flatMap_cons] at nd;cases i with
  | zero =>
   simp only[List.getElem?_cons_zero,Option.some.injEq] at q;exact q▸(List.nodup_append.mp nd).1
  | succ i=>exact ih (List.nodup_append.mp nd).2.1 (by simpa using q)
section
variable{h:Heap}
theorem Inv.roNd(I:Inv X env oc ρ h lv σ):(Ro.all ρ).Nodup:=(List.nodup_append.mp (List.nodup_cons.mp I.nd).2).2.1
theorem Inv.setAttr(I:Inv X env oc ρ h lv σ){pp}{C d}{attrs}{a}{v}{m:Str->Option Value}(hi:ρ[i]? = some pp)(hd:pp.2=[d])(hx:h.get? pp.1=some (gX C d))(hm:∀ x v,attrs.lookup x=some v->∃ rv,m x=some rv/\XRel (GG X env oc ρ h) ρ v rv)(hz:∀ x,attrs.lookup x=none->m x=none)(r:XRel (GG X env oc ρ h) ρ v rv)(hs:Heap.SameBut d h h')(hn:NsB h' d (λ y=>if y=a then some rv else m y) (if(m a).isSome then attrs.length else attrs.length+1)) :
  Inv X env oc ρ h' lv (σ.set i (.inst C (fN a v attrs))):=by
 have nd:=List.nodup_cons.mp (lX I.roNd hi);have ne:pp.1≠d:=λ q=>nd.1 (by rw[hd,q];exact .head _)
 have hb:NsB h' d (λ y=>if y=a then some rv else m y) (fN a v attrs).length:=by
  cases q:attrs.lookup a with
  | none=>rw[Oi q];rw[hz a q] at hn;exact hn
  | some u =>
   refine aE (hm a u q) λ ru e1 _=>?_;rw[Oj q];rw[e1] at hn;exact hn
 refine I.setObj hi (by rw[hd];exact .tail _ (.head _)) hs ⟨d,_,hd,(hs.2 pp.1 ne).trans hx,hb,λ x u e=>?_,λ x e=>?_⟩
 ·rw[nP] at e;by_cases q:x=a
  ·rw[if_pos q] at e;have q:=sj e;clear e;subst q;exact bK rv (by rw[if_pos q]) r
  ·rw[if_neg q] at e;refine aE (hm x u e) λ ru e1 e2=>?_;exact bK ru (by rw[if_neg q];exact e1) e2
 ·rw[nP] at e;by_cases q:x=a
  ·rw[if_pos q] at e;exact nso e
  ·rw[if_neg q] at e;show(if x=a then _ else _)=_
   rw[if_neg q];exact hz x e
end
section
variable(S:Sys prog w)
set_option tactic.hygienic true in
theorem Pa(hE:SE S n){a e}(hx:fY sc x)(hd:(x=="__debug__")=false)(hc:(x=="__classdict__")=false)(te:TrE sc e b)(ev':ex S.T (n+1) (.sat x a b) lv σ=some (fl,lv',σ')){Q:Flow->Shared->Prop}(C:CxI S (n+1) A s.heap X env oc ρ)(F:Fx sc env oc)(I:Inv X env oc ρ s.heap lv σ)(h:fB X env oc ρ s lv' σ' fl Q):wpAny (model prog w) A (exec (.Assign [.Attribute (.Name x p1) a p2] e p) env) Q E s:=by
 refine aZ ev' ?_;clear ev';intro v e1 e2;split at e2
 ·rename_i i ei;split at e2
  ·rename_i Ci attrs hσ;refine Qa e2 ?_;clear e2;intro y1;refine aK y1 ?_;clear y1;intro hpl hln;intro e2;refine bU (dD e2) ?_;clear e2;rintro rfl rfl rfl;refine plainObj_wpAny_Assign_Attribute (hE te e1 C.down F I λ h1 tk rv k1 r1=>?_) (by have q:=te.head;rcases e with⟨⟩<;>first|exact nft q|rfl)
   have I1:=I.ext k1;have C1:=Cx.up C k1;refine wpAny_Name (cS hx hc ei F I1 λ rx r=>?_) hd;refine aE r.mref ?_;clear r;rintro pp hi rfl;refine aE (I1.chg.get hi) λ o ho m=>?_;rw[hσ] at ho;have q:=sj ho;clear ho;subst q;refine rT m ?_;clear m;intro d mm hpd hob hn hm hz;have nd:=List.nodup_cons.mp (lX I1.roNd hi);have ne:pp.1≠d:=λ q=>nd.1 (by rw[hpd,q];exact .head _)
   refine S.plainSet hpl C1.base aP hob hn hln ne λ h2 tk2 hs hn2=>?_;have hdm:d∈aH env oc ρ:=aN (Ro.mem_all (List.mem_of_getElem? hi) (by rw[hpd];exact .tail _ (.head _)))
   exact h h2 tk2 ρ _ (I1.setAttr hi hpd hob hm hz r1 hs hn2) ⟨⟨[],by simp⟩,(UpB.of k1).trans (.only (N':=[d]) (λ b o n e=>hs.extBut b o (by simpa using n) e) λ b q=>xm1 q▸hdm),λ b hb=>.inl hb⟩ .next
  ·exact nos e2
 ·exact nos e2
set_option tactic.hygienic true in
theorem Og{a o r}(e:ex T (n+1) (.saug x a o b) lv σ=some r) :
  ∃ i C attrs v old new,ev T n b lv σ=some v/\lv.lookup x=some (.mref i)/\σ[i]? = some (.inst C attrs)/\T.plain C a=true/\attrs.length<100000/\attrs.lookup a=some old/\r=(.next,lv,σ.set i (.inst C (fN a new attrs)))/\o=.Add /\
   ((∃ p q,old=.int p/\v=.int q/\new=.int (p+q))∨(∃ p q,old=.str p/\v=.str q/\new=.str (p++q)/\p.length+q.length≤100000)):=by
 refine aZ e ?_;clear e;intro v e1 e2;split at e2
 ·rename_i i ei;split at e2
  ·rename_i C attrs hσ;rw[Option.ite_none_right_eq_some] at e2;refine aK e2 ?_;clear e2;intro hln e2;cases hp:T.plain C a with
   | false=>rw[hp] at e2;simp at e2
   | true =>
    rw[hp] at e2;cases ha:attrs.lookup a with
    | none=>rw[ha] at e2;rcases o with⟨⟩<;>simp at e2
    | some old =>
     rw[ha] at e2;rcases o with⟨⟩<;>first|exact nos e2|skip
     rcases old with⟨⟩<;>first|exact nos e2|skip
     ·rcases v with⟨⟩<;>first|exact nos e2|skip
      rename_i p q;simp only[Option.some.injEq] at e2;exact aDb i C attrs _ _ _ e1 (aC7 ei hσ hp hln ha e2.symm rfl (.inl ⟨p,q,rfl,rfl,rfl⟩))
     ·rcases v with⟨⟩<;>first|exact nos e2|skip
      rename_i p q;simp only[Option.ite_none_right_eq_some,Option.some.injEq] at e2;exact aDb i C attrs _ _ _ e1 (aC7 ei hσ hp hln ha e2.2.symm rfl (.inr ⟨p,q,rfl,rfl,rfl,e2.1⟩))
  ·exact nos e2
 ·exact nos e2
theorem Gs(hE:SE S n){a o e}(hx:fY sc x)(hd:(x=="__debug__")=false)(hc:(x=="__classdict__")=false)(te:TrE sc e b)(ev':ex S.T (n+1) (.saug x a o b) lv σ=some (fl,lv',σ')){Q:Flow->Shared->Prop}(C:CxI S (n+1) A s.heap X env oc ρ)(F:Fx sc env oc)(I:Inv X env oc ρ s.heap lv σ)(h:fB X env oc ρ s lv' σ' fl Q):wpAny (model prog w) A (exec (.AugAssign (.Attribute (.Name x p1) a p2) o e p) env) Q E s:=by
 refine aEc (Og ev') ?_;intro i Ci attrs v old0 new0 e1 y2;refine aBq y2 ?_;clear y2;rintro ei hσ hpl0 hln0 ho0 hr rfl hcase;simp only[Prod.mk.injEq] at hr;have key:∀{old new:PV} (hpl:S.T.plain Ci a=true) (ho:attrs.lookup a=some old) (hnf:∀ g w,XRel g ρ old w->∀ id,w≠.builtin id) (hv:fl=.next/\lv'=lv/\σ'=σ.set i (.inst Ci (fN a new attrs)))
   (hop:∀{g:Heap} {s₁:Shared} {ro rv:Value} {Q₁:Value->Shared->Prop},XRel g ρ old ro->XRel g ρ v rv->(∀ tk rn,VRel g new rn->Q₁ rn { s₁ with toks:=tk })->wpAny (model prog w) A (inplaceOp .Add ro rv) Q₁ E s₁),
   wpAny (model prog w) A (exec (.AugAssign (.Attribute (.Name x p1) a p2) .Add e p) env) Q E s:=by
  clear ev' hr;rintro old new hpl ho hnf ⟨rfl,rfl,rfl⟩ hop;refine wpAny_AugAssign_AttributeAny (wpAny_Name (cS hx hc ei F I λ rx r=>?_) hd);refine aE r.mref ?_;clear r;rintro pp hi rfl;refine aE (I.chg.get hi) λ ob hob' m=>?_;rw[hσ] at hob';have q:=sj hob';clear hob';subst q;refine rT m ?_;clear m;intro d mm hpd hob hn hm hz;refine aE (hm a old ho) λ ro q1 q2=>?_;refine S.plainGet hpl C.base aP hob hn.ns q1 (hnf _ _ q2) λ tk=>?_;refine hE te e1 C.down F I (s:={ s with toks:=tk }) λ h1 tk1 rv k1 r1=>?_;have I1:=I.ext k1;have C1:=Cx.up C k1;refine aE (I1.chg.get hi) λ ob hob' m=>?_;rw[hσ] at hob';have q:=sj hob';clear hob';subst q;refine rT m ?_;clear m;intro d' mm' hpd' hob' hn' hm' hz';refine hop (g:=GG X env oc ρ h1) (q2.mono k1.fz) r1 λ tk2 rn rr=>?_;have nd:=List.nodup_cons.mp (lX I1.roNd hi);have ne:pp.1≠d':=λ q=>nd.1 (by rw[hpd',q];exact .head _)
  refine S.plainSet hpl C1.base aP hob' hn' hln0 ne λ h2 tk3 hs hn2=>?_;have hdm:d'∈aH env oc ρ:=aN (Ro.mem_all (List.mem_of_getElem? hi) (by rw[hpd'];exact .tail _ (.head _)))
  exact h h2 tk3 ρ _ (I1.setAttr hi hpd' hob' hm' hz' (.frozen rr) hs hn2) ⟨⟨[],by simp⟩,(UpB.of k1).trans (.only (N':=[d']) (λ b o n e=>hs.extBut b o (by simpa using n) e) λ b q=>xm1 q▸hdm),λ b hb=>.inl hb⟩ .next
 clear e1;rcases hcase with⟨pi,qi,rfl,rfl,rfl⟩|⟨ps,qs,rfl,rfl,rfl,hlen⟩
 ·refine key hpl0 ho0 (λ g w r id z=>by subst z;have q:=r.inv;refine aB q ?_;clear q;intro _ q;cases q) hr λ r1 r2 hq=>?_
  refine aB r1.inv ?_;clear r1;rintro _ rfl;refine aB r2.inv ?_;clear r2;rintro _ rfl;exact AutoIntOps.iadd_0 (hq _ _ (.int _ _))
 ·refine key hpl0 ho0 (λ g w r id z=>by subst z;have q:=r.inv;refine aB q ?_;clear q;intro _ q;cases q) hr λ r1 r2 hq=>?_
  refine aB r1.inv ?_;clear r1;rintro _ rfl;refine aB r2.inv ?_;clear r2;rintro _ rfl;exact SB.iadd (λ t' k=>hq _ _ (.str _ _)) (by rw[sizeLine_eq];exact ll4 ‹_› (by rfl))
end
end
section
open PySem.SeqAt
section
variable(S:Sys prog w)
noncomputable abbrev lG(X:List Addr)(env:Env)(oc:List (Str×Addr)):List Addr:=X++(env.locals::oc.map (·.2))
theorem gQ:X++aH env oc ρ=lG X env oc++Ro.all ρ:=by simp[lG,aH]
variable{S} in
theorem Inv.mid{h}(I:Inv X env oc ρ h lv σ):Mid (lG X env oc) ρ h σ:=by
 have nd:=List.nodup_cons.mp I.nd;have nd2:=List.nodup_append.mp nd.2;refine⟨gQ▸I.chg,nd2.2.1,λ a ha=>I.live a (gQ▸ha),λ b hb hr=>?_⟩;refine bN hb (λ q=>?_) λ q=>?_
 ·exact I.off b q (aN hr)
 ·refine mc2 q (λ q=>?_) λ q=>?_
  ·exact nd.1 (q▸mR hr)
  ·exact nd2.2.2 b q b hr rfl
theorem Inv.back{ρ' h}(I:Inv X env oc ρ h lv σ)(M:Mid (lG X env oc) ρ' h' σ')(st:MStep (lG X env oc) ρ h ρ' h'):Inv X env oc ρ' h' lv σ'/\Step X env oc ρ h ρ' h':=by
 have M0:=I.mid;have nd:=List.nodup_cons.mp I.nd;have nd2:=List.nodup_append.mp nd.2;have un:=st.new;refine aB st.grow λ ρ₂ hρ=>?_;have kk:(GG X env oc ρ h).StaysIn (GG X env oc ρ' h'):=aU λ b o e nb=>by
  rw[gQ] at nb ⊢;refine aY (st.up.out b o (λ q=>nb (mR q)) nb e) λ q=>?_;refine bN q (λ q=>?_) λ q=>?_
  ·exact nb (mL q)
  ·rcases un b q with z|z
   ·exact nb (mR z)
   ·rw[z] at e;exact nos e
 have locH:env.locals∈lG X env oc:=mR (.head _);have ocH:∀ c∈oc.map (·.2),c∈lG X env oc:=λ c hc=>mR (.tail _ hc);refine⟨⟨?_,λ y c hc=>?_,λ y v hy hk ho=>?_,I.oce,by rw[gQ];exact M.chg,?_,λ b hb=>M.live b (gQ▸hb),λ b hb hm=>?_,I.ocn⟩,st.grow,?_,λ b hb=>?_⟩
 ·refine aE I.ns λ m y1 hv=>bQ y1 λ o es ep q1 q2 q3=>?_;refine aB (st.up.sl _ _ (M0.off _ locH) q1) λ sl z=>?_;refine bK m ⟨_,es,ep,z,q2,q3⟩ λ y v hy hk=>?_;refine aE (hv y v hy hk) λ rv a1 a2=>?_;exact bK rv a1 (hρ▸(a2.mono kk).more)
 ·refine aE (I.cell y c hc) λ ov y2 b=>aE y2 λ o q1 q2=>?_;have hcm:c∈oc.map (·.2):=List.mem_map.mpr ⟨(y,c),dO hc,rfl⟩;refine bK ov ⟨o,st.up.nd c o (M0.off c (ocH c hcm)) (by unfold cN;rw[q2]) q1,q2⟩ λ v hv=>?_
  refine aE (b v hv) λ rv a1 a2=>?_;exact bK rv a1 (hρ▸(a2.mono kk).more)
 ·refine bB (I.free y v hy hk ho) λ c rv a1 a2 a3=>?_;exact dR c rv a1 (cQ kk a2) (a3.mono kk)
 ·unfold aH;rw[List.nodup_cons];refine aY (λ q=>?_) (List.nodup_append.mpr ⟨nd2.1,M.nd,λ b hb c hc z=>M.off b (ocH b hb) (z▸hc)⟩);refine bN q (λ q=>?_) λ q=>?_
  ·exact nd.1 (mL q)
  ·exact M.off _ locH q
 ·unfold aH at hm;refine mc2 hm (λ q=>?_) λ q=>?_
  ·exact I.off b hb (q▸.head _)
  ·refine bN q (λ q=>?_) λ q=>?_
   ·exact I.off b hb (.tail _ (mL q))
   ·exact M.off b (mL hb) q
 ·rw[gQ];exact⟨λ b o n m e=>st.up.out b o (λ q=>n (aN q)) m e,λ b o n d e=>st.up.nd b o (λ q=>n (aN q)) d e,λ b o n e=>st.up.sl b o (λ q=>n (aN q)) e⟩
 ·unfold aH at hb;refine mc2 hb (λ q=>?_) λ q=>?_
  ·exact .inl (q▸.head _)
  ·refine bN q (λ q=>?_) λ q=>?_
   ·exact .inl (.tail _ (mL q))
   ·exact(un b q).imp aN id
variable{S} in
theorem CxI.mid{h}(C:CxI S n A h X env oc ρ):Cx S n A h (lG X env oc++Ro.all ρ) (lG X env oc) :=
 gQ▸Cx.wide (S:=S) C λ L hL=>by
  refine mc2 hL (λ q=>?_) λ q=>?_
  ·exact mR (q▸.head _)
  ·exact mL q
theorem iY(hSs:SSs S n){F}(f:FnIs g F fd body){a o}(C:CxI S (n+1) A s.heap X env oc ρ)(I:Inv X env oc ρ s.heap lv σ){vs}(r:XRels (GG X env oc ρ s.heap) ρ vs rvs){act}(hbd:BindsTo s fd act (F.ps.zip rvs))(gk:g.StaysIn s.heap)(ho:s.heap.get? a=some o)(hd:o.data=.func fd)(e:exs S.T n F.body ((F.ps.zip vs).reverse) σ=some (fl,lv',σ'))(h:∀ h' tk ρ' rv,Inv X env oc ρ' h' lv σ'->Step X env oc ρ s.heap ρ' h'->(∀ v,fl=.ret v->XRel (GG X env oc ρ' h') ρ' v rv)->(fl=.next->rv=.none)->R (.ok (.ret rv)) { s with heap:=h',toks:=tk }) :
  codeAny (model prog w) A (.call (.ref a) act) R s:=by
 refine pH f C.mid I.mid (by rw[<- gQ];exact r) hbd gk ho hd λ h₁ tk env' oc' I1 C1 fx En=>?_
 refine hSs f.tr e C1 fx I1 λ h' tk' ρ' f' I' st' flr=>?_;refine bU (qA En I' st') λ M st back=>?_;refine aK (I.back M st) λ IR stC=>?_;refine h h' tk' ρ' _ IR stC (λ v q=>?_) (λ q=>?_)
 ·clear e h;subst q;cases flr with|ret ru=>rw[GG,gQ];exact ru.mono back
 ·clear e h;subst q;cases flr
  rfl
theorem qO(hSs:SSs S n){F}(f:FnIs g F fd body){a o}(C:CxI S (n+1) A s.heap X env oc ρ)(I:Inv X env oc ρ s.heap lv σ){vs}(r:XRels (GG X env oc ρ s.heap) ρ vs rvs){act}(hbd:BindsTo s fd ⟨act,[]⟩ (F.ps.zip rvs))(gk:g.StaysIn s.heap)(ho:s.heap.get? a=some o)(hd:o.data=.func fd)(e:exs S.T n F.body ((F.ps.zip vs).reverse) σ=some (fl,lv',σ'))(h:∀ h' tk ρ' rv,Inv X env oc ρ' h' lv σ'->Step X env oc ρ s.heap ρ' h'->(∀ v,fl=.ret v->XRel (GG X env oc ρ' h') ρ' v rv)->(fl=.next->rv=.none)->Q rv { s with heap:=h',toks:=tk }) :
  wpAny (model prog w) A (call (.ref a) act) Q E s:=wpAny_call (iY S hSs f C I r hbd gk ho hd e h)
end
end
section
open PySem.SeqAt
section
theorem iS{o name apos}(hbase:attributeBase o name env (eval o env)=eval o env)(hfew:((backTo pos (starEach args env)).all (λ x=>!x.1)&&(backToKw pos (keywordEach [] env)).all (λ x=>x.1.isSome)
  &&decide (args.length+([]:List Keyword).length+(if([]:List Keyword).isEmpty then 0 else 1)<30))=true)(hline:(apos.endLine==pos.line)=true)(h:wpAny (model prog w) A (eval o env) (λ ov s₁=>∀ pl,wpAny (model prog w) A (getMethod ov name pl) (λ p s₂=>wpAny (model prog w) A (callWith pos p.1 p.2 (backTo pos (starEach args env)) []) Q E s₂) E s₁) E s) :
  wpAny (model prog w) A (eval (.Call (.Attribute o name apos) args [] pos) env) Q E s:=by
 rw[arm_eval_Call,hbase];refine wB (wpAny_mono h (λ ov s₁ h₁=>?_) λ _ _ e=>e);refine wB (wpAny_standAt ?_);have hform:methodCallForm (args.length+([]:List Keyword).length) (backTo pos (starEach args env)) (backToKw pos (keywordEach [] env))=true:=hfew;have hpos:methodCallPos true o env apos pos=pure pos:=by unfold methodCallPos;simp[hline]
 unfold methodCall;rw[hform];refine wB (wpAny_holding (wpAny_mono (h₁ _) (λ p s₂ h₂=>?_) λ _ _ e=>e));exact wB (wpAny_of_eq hpos h₂)
variable(S:Sys prog w)
set_option tactic.hygienic true in
theorem mS{x r}(e:ex T (n+1) (.mcall x o m as) lv σ=some r) :
  ∃ i C attrs F vs fl lv' σ',ev T n o lv σ=some (.mref i)/\σ[i]? = some (.inst C attrs)/\T.mth C m=some F/\evs T n as lv σ=some vs/\F.ps.length=vs.length+1/\attrs.lookup m=none/\exs T n F.body ((F.ps.zip (.mref i::vs)).reverse) σ=some (fl,lv',σ') /\
   ((∃ v,fl=.ret v/\r=(.next,oY x v lv,σ'))∨(fl=.next/\r=(.next,oY x .none lv,σ'))):=by
 refine aZ e ?_;clear e;intro v e1 e2;rcases v with⟨⟩<;>first|exact nos e2|skip
 rename_i i;simp only at e2;split at e2
 ·rename_i C attrs hσ;split at e2
  ·rename_i F hF;refine aZ e2 ?_;clear e2;intro vs e3 e4;split at e4
   ·rename_i hl;refine aZ e4 ?_;clear e4;rintro⟨fl,lv',σ'⟩ e5 e6;refine⟨i,C,attrs,F,vs,fl,lv',σ',e1,hσ,hF,e3,hl.1,by simpa using hl.2,e5,?_⟩
    split at e6
    ·rename_i v lv2 σ2 heq;clear e5;rcases heq with⟨⟩;exact .inl ⟨v,rfl,(sj e6).symm⟩
    ·rename_i heq;clear e5;rcases heq with⟨⟩;exact .inr ⟨rfl,(sj e6).symm⟩
    ·exact nos e6
   ·exact nos e4
  ·exact nos e2
 ·exact nos e2
theorem qF(hE:SE S n)(hEs:SEs S n)(hSs:SSs S n){o}(te:TrE sc o b)(ts:cM sc args bs)(hb:∀ env t,attributeBase o m env t=t)(hp:(ap.endLine==cp.line)=true)(hn:args.length<8){Cc attrs F vs}(e1:ev S.T n b lv σ=some (.mref i))(hσ:σ[i]? = some (.inst Cc attrs))(hF:S.T.mth Cc m=some F)(e3:evs S.T n bs lv σ=some vs)(hl:F.ps.length=vs.length+1)(e5:exs S.T n F.body ((F.ps.zip (.mref i::vs)).reverse) σ=some (fl,lv',σ'))(hna:attrs.lookup m=none)(C:CxI S (n+1) A s.heap X env oc ρ)(Fx':Fx sc env oc)(I:Inv X env oc ρ s.heap lv σ)(h:∀ h' tk ρ' rv,Inv X env oc ρ' h' lv σ'->Step X env oc ρ s.heap ρ' h'->(∀ v,fl=.ret v->XRel (GG X env oc ρ' h') ρ' v rv)->(fl=.next->rv=.none)->Q rv { s with heap:=h',toks:=tk }) :
  wpAny (model prog w) A (eval (.Call (.Attribute o m ap) args [] cp) env) Q E s:=by
 refine aE (S.mthOk hF) λ fa hfd hget=>?_;refine iS (hb _ _) ?_ hp (hE te e1 C.down Fx' I λ h1 tk1 rv k1 r1=>λ pl=>?_)
 ·rw[ts.allp env];simp only[backToKw,show keywordEach [] env=[] from rfl,List.length_nil,List.isEmpty_nil,if_true,Bool.true_and]
  first|omega|(simp;exact ll1 ‹_› (by rfl))
 have I1:=I.ext k1;have C1:CxI S (n+1) A h1 X env oc ρ:=Cx.up C k1;refine aE r1.mref ?_;clear r1;rintro pp hi rfl;refine aE (I1.chg.get hi) λ ob hob' mr=>?_;rw[hσ] at hob';have q:=sj hob';clear hob';subst q;refine rT mr ?_;clear mr;intro d mm hpd hob hns hm hz;refine hget C1.base aP hob hns.ns (hz m hna) ?_;refine eG (first:=[.ref pp.1]) (P:=λ h=>∃ o fd,h.get? fa=some o/\o.data=.func fd) (ts.plain env) gY (hEs ts e3 C1.down Fx' I1 λ h2 tk2 rvs k2 r2=>?_)
 have I2:=I1.ext k2;have C2:CxI S (n+1) A h2 X env oc ρ:=Cx.up C1 k2;refine bQ (hfd _ C2.base) λ o' fd body q1 q2 q3=>?_;refine aY ⟨o',fd,aP _ _ q1,q2⟩ ?_;refine qO S hSs q3 C2 I2 (vs:=.mref i::vs) (.cons (.mr hi) r2) (q3.bind _ (.ref pp.1::rvs) aP (by have:=r2.length;simp only[List.length_cons];lia)) aP (aP _ _ q1) q2 e5 λ h' tk' ρ' rv I' st' hr hnx=>?_
 exact h h' tk' ρ' rv I' (Step.trans (.of_up (k1.trans k2)) st') hr hnx
theorem Bn(hE:SE S n)(hEs:SEs S n)(hSs:SSs S n){o}(hx:dJ sc x)(te:TrE sc o b)(ts:cM sc args bs)(hb:∀ env t,attributeBase o m env t=t)(hp:(ap.endLine==cp.line)=true)(hn:args.length<8)(ev':ex S.T (n+1) (.mcall (some x) b m bs) lv σ=some (fl,lv',σ')){Q}(C:CxI S (n+1) A s.heap X env oc ρ)(F:Fx sc env oc)(I:Inv X env oc ρ s.heap lv σ)(h:fB X env oc ρ s lv' σ' fl Q):wpAny (model prog w) A (exec (.Assign [.Name x p1] (.Call (.Attribute o m ap) args [] cp) p) env) Q E s:=by
 refine kT (mS ev') λ i Cc attrs Fn' vs fl1 lv1 y1=>aBr y1 λ σ1 e1 hσ hF e3 hl hna y2=>aK y2 λ e5 hr=>?_;refine wpAny_Assign_Name (qF S hE hEs hSs te ts hb hp hn e1 hσ hF e3 hl e5 hna C F I λ h' tk ρ' rv I' st hret hnx=>?_) rfl;rcases hr with⟨v,rfl,q⟩|⟨rfl,q⟩
 ·simp only[Prod.mk.injEq] at q;refine bU q ?_;clear q;rintro rfl rfl rfl;exact bJ hx F I' (hret v rfl) λ h2 tk2 I2 k2=>h h2 tk2 ρ' _ I2 (st.trans (.local k2)) .next
 ·simp only[Prod.mk.injEq] at q;refine bU q ?_;clear q;rintro rfl rfl rfl;have:=hnx rfl;clear hret hnx;subst this;exact bJ hx F I' (.frozen .none) λ h2 tk2 I2 k2=>h h2 tk2 ρ' _ I2 (st.trans (.local k2)) .next
theorem yB(hE:SE S n)(hEs:SEs S n)(hSs:SSs S n){o}(te:TrE sc o b)(ts:cM sc args bs)(hb:∀ env t,attributeBase o m env t=t)(hp:(ap.endLine==cp.line)=true)(hn:args.length<8)(ev':ex S.T (n+1) (.mcall none b m bs) lv σ=some (fl,lv',σ')){Q}(C:CxI S (n+1) A s.heap X env oc ρ)(F:Fx sc env oc)(I:Inv X env oc ρ s.heap lv σ)(h:fB X env oc ρ s lv' σ' fl Q):wpAny (model prog w) A (exec (.Expr (.Call (.Attribute o m ap) args [] cp) p) env) Q E s:=by
 refine kT (mS ev') λ i Cc attrs Fn' vs fl1 lv1 y3=>aBr y3 λ σ1 e1 hσ hF e3 hl hna y4=>aK y4 λ e5 hr=>?_;have hint:interactive env=false:=by dsimp only [interactive];rw[F.kind];rfl
 refine wpAny_Expr_any (qF S hE hEs hSs te ts hb hp hn e1 hσ hF e3 hl e5 hna C F I λ h' tk ρ' rv I' st hret hnx=>?_) hint rfl;clear hret hnx;rcases hr with⟨v,rfl,q⟩|⟨rfl,q⟩ <;>
 ·simp only[Prod.mk.injEq] at q;refine bU q ?_;clear q;clear I e1 e3 ev' y3 e5 y4;rintro rfl rfl rfl;exact h h' tk ρ' _ I' st .next
end
end
section
open PySem.SeqAt
theorem XRels.more{ρ'}(h:XRels g ρ xs vs):XRels g (ρ++ρ') xs vs:=by
 induction h with
 | nil=>exact .nil
 | cons a _ ih=>exact .cons a.more ih
theorem XRels.append{ws}(h:XRels g ρ xs vs)(r:XRels g ρ ys ws):XRels g ρ (xs++ys) (vs++ws):=by
 induction h with
 | nil=>exact r
 | cons a _ ih=>exact .cons a ih
theorem Sn{C r}(e:ex T (n+1) (.new x C as) lv σ=some r) :
  ∃ k c F ds vs lv' σ',n=k+1/\T.cls C=some (c,F,ds)/\evs T k as lv σ=some vs/\F.ps.length=vs.length+ds.length+1/\8≤k/\exs T k F.body ((F.ps.zip (.mref σ.length::vs++ds)).reverse) (σ++[.inst c []])=some (.next,lv',σ')/\r=(.next,(x,.mref σ.length)::lv,σ'):=by
 cases n with
 | zero=>exact nos e
 | succ k =>
  have e':(match T.cls C with
    | some (c,F,ds)=>(evs T k as lv σ).bind λ vs=>if F.ps.length=vs.length+ds.length+1/\8≤k then(exs T k F.body ((F.ps.zip (.mref σ.length::vs++ds)).reverse) (σ++[.inst c []])).bind λ q=>(match q with
      | (.next,_,σ')=>some (.next,(x,.mref σ.length)::lv,σ')
      | _=>none) else none
    | none=>none:R3)=some r:=e
  generalize hc:T.cls C=z at e';clear hc;cases z with
  | none=>exact nos e'
  | some z =>
   obtain⟨c,F,ds⟩:=z;refine aZ e' ?_;clear e';intro vs e3 e4;refine aK (bC e4) λ hl e4=>?_;refine aZ e4 ?_;clear e4;rintro⟨fl,lv',σ'⟩ e5 e6;rcases fl with⟨⟩<;>first|exact nos e6|exact Hh k c F ds vs _ _ (Ut rfl rfl e3 hl.1 hl.2 e5 ((sj e6).symm))
section
variable(S:Sys prog w)
theorem Oz(hEs:∀ k≤n,SEs S k)(hSs:∀ k≤n,SSs S k){C}(hx:dJ sc x)(hg:aR sc C)(hdb:(C=="__debug__")=false)(ts:cM sc args bs)(ev':ex S.T (n+1) (.new x C bs) lv σ=some (fl,lv',σ')){Q}(Cx':CxI S (n+1) A s.heap X env oc ρ)(F:Fx sc env oc)(I:Inv X env oc ρ s.heap lv σ)(h:fB X env oc ρ s lv' σ' fl Q):wpAny (model prog w) A (exec (.Assign [.Name x p1] (.Call (.Name C p2) args [] cp) p) env) Q E s:=by
 refine kT (Sn ev') ?_;intro k c Fn' ds vs lv1 σ1 y1;refine Bx y1 ?_;clear y1;rintro rfl hc e3 hl h8 e5 hr;simp only[Prod.mk.injEq] at hr;refine bU hr ?_;clear hr;clear ev';rintro rfl rfl rfl;refine fQ (S.clsOk hc) λ f hgl hfacts hcall=>?_;refine wpAny_Assign_Name (wpAny_Call_NameR (bR S hg hgl hdb Cx' F ?_)) rfl;refine eG (first:=[]) (P:=λ h=>∃ k,(k=Keeper.frame∨k=Keeper.machine∨k=Keeper.boundFrame)/\Looks (model prog w) h (keeperOf (.ref c)) k) (ts.plain env) (λ _ z=>z) (hEs k (Nat.le_succ _) ts e3 (Cx'.le (by omega)) F I λ h1 tk1 rvs k1 r1=>?_)
 have I1:=I.ext k1;have C1:CxI S (k+1+1) A h1 X env oc ρ:=Cx.up Cx' k1;refine aK (hfacts _ C1.base) λ y2 y3=>aE y2 λ kp q1 q2=>gS y3 λ o fd body dvs q3 q4 q5 y4=>aK y4 λ rd hbd=>?_;refine aY ⟨kp,q1,λ A Q E s kk q=>q2 A Q E s (λ b o e=>kk b o ((dT e).1)) q⟩ ?_;have ln2:rvs.length+ds.length+1=Fn'.ps.length:=by
  have:=r1.length
  omega
 refine hcall C1.base (C1.le (by omega)) aP (ln2) λ h2 tk2 ix dx k2 f1 f2 nxd e1 hn A' hA'=>?_
 refine aE hA' ?_;clear hA';intro j hj y5;refine aE y5 ?_;clear y5;rintro jd hjd rfl;have hf:∀ a∈(ix,[dx]).1::(ix,[dx]).2,h1.get? a=none:=λ a ha=>by
  refine mc2 ha (λ q=>?_) λ q=>?_
  ·exact q▸f1
  ·exact xm1 q▸f2
 have I2:=I1.newObj (h':=h2) (p:=(ix,[dx])) (o:=.inst c []) hf (by simpa using nxd) (.of k2) (λ a ha=>by
   refine mc2 ha (λ q=>?_) λ q=>?_
   ·exact bM _ (by rw[q];exact e1)
   ·obtain⟨o,_,_,e,_⟩:=hn;exact bM o (by rw[xm1 q];exact e)) ⟨dx,_,rfl,e1,hn,(λ _ _ q=>by exact nos q),(λ _ _=>rfl)⟩
 have st2:Step X env oc ρ h1 (ρ++[(ix,[dx])]) h2:=⟨⟨_,rfl⟩,.of (.of k2),λ b hb=>by
  rw[cI] at hb;refine bN hb (λ q=>?_) λ q=>?_
  ·exact .inl q
  ·exact .inr (hf b q)⟩
 have C2:CxI S (k+1+1) A h2 X env oc (ρ++[(ix,[dx])]):=Cx.step C1 I1 I2 st2;have C3:CxI S (k+1) { A with depth:=A.depth+jd,units:=A.units+j } h2 X env oc (ρ++[(ix,[dx])]):=⟨C2.hd,by have:=C2.dp;show A.depth+jd+(k+1)<_;omega,by have:=C2.un;show A.units+j+8 * (k+1)+16<_;omega,C2.base,C2.fr⟩
 have hlen:σ.length=ρ.length:=I1.chg.length;have r2:XRels (GG X env oc (ρ++[(ix,[dx])]) h2) (ρ++[(ix,[dx])]) (.mref σ.length::vs++ds) (.ref ix::rvs++dvs) :=
  .cons (.mr (p:=(ix,[dx])) (by rw[hlen];simp)) ((r1.mono st2.fz).more.append (rd.mono st2.fz).toX)
 refine iY S (hSs k (Nat.le_succ _)) (s:={ s with heap:=h2,toks:=tk2 }) q5 C3 I2 r2 (hbd _ _ (λ b o e=>k2 b o (aP _ _ e)) (by simp only[List.length_cons,List.nil_append];omega)) (λ b o e=>k2 b o (aP _ _ e)) (k2 _ _ (aP _ _ q3)) q4 e5 λ h3 tk3 ρ3 rv I3 st3 _ hnx=>⟨hnx rfl,?_⟩
 refine aB st3.grow ?_;rintro ρx rfl;refine bJ (v:=.mref σ.length) hx F I3 (.mr (p:=(ix,[dx])) (by rw[hlen];simp)) λ h4 tk4 I4 k4=>?_
 exact h h4 tk4 _ _ I4 ((Step.of_up k1).trans (st2.trans (st3.trans (.local k4)))) .next
set_option tactic.hygienic true in
theorem Gr(hE:∀ k≤n,SE S k)(hEs:∀ k≤n,SEs S k)(hSs:∀ k≤n,SSs S k){a o}(hx:fY sc x)(hd:(x=="__debug__")=false)(hc:(x=="__classdict__")=false)(te:TrE sc o b)(ts:cM sc args bs)(hb:∀ env t,attributeBase o m env t=t)(hp:(ap.endLine==cp.line)=true)(hn:args.length<8)(ev':ex S.T (n+1) (.satm x a b m bs) lv σ=some (fl,lv',σ')){Q}(C:CxI S (n+1) A s.heap X env oc ρ)(F:Fx sc env oc)(I:Inv X env oc ρ s.heap lv σ)(h:fB X env oc ρ s lv' σ' fl Q):wpAny (model prog w) A (exec (.Assign [.Attribute (.Name x p1) a p2] (.Call (.Attribute o m ap) args [] cp) p) env) Q E s:=by
 refine aZ ev' ?_;clear ev';intro r e1 e2;cases n with
 | zero=>exact nos e1
 | succ k =>
 refine kT (mS e1) λ i' Cc attrs' Fn' vs fl1 lv1 y6=>aBr y6 λ σ1 q1 hσ' hF e3 hl hna y7=>aK y7 λ e5 hr=>?_;have hr':∃ v,r=(.next,(x,v)::lv,σ1)/\(fl1=.ret v∨(fl1=.next/\v=.none)):=by
  rcases hr with⟨v,q,q'⟩|⟨q,q'⟩
  ·exact bK v q' (.inl q)
  ·exact bK .none q' (.inr ⟨q,rfl⟩)
 refine aE hr' ?_;clear hr';rintro v rfl hv;simp only at e2;split at e2
 ·rename_i i ei;split at e2
  ·rename_i Ci attrs hσ;refine Qa e2 ?_;clear e2;intro y8;refine aK y8 ?_;clear y8;intro hpl hln;intro e2;refine bU (dD e2) ?_;rintro rfl rfl rfl;refine plainObj_wpAny_Assign_Attribute (qF S (hE k (Nat.le_succ _)) (hEs k (Nat.le_succ _)) (hSs k (Nat.le_succ _)) te ts hb hp hn q1 hσ' hF e3 hl e5 hna C.down F I λ h1 tk1 ρ1 rv I1 st hret hnx=>?_) rfl;have C1:=Cx.step C I I1 st;have r1:XRel (GG X env oc ρ1 h1) ρ1 v rv:=by
    rcases hv with q|⟨q,q'⟩
    ·exact hret v q
    ·simp only[hnx q,q'];exact .frozen .none
   refine wpAny_Name (cS hx hc ei F I1 λ rx r=>?_) hd;refine aE r.mref ?_;clear r;rintro pp hi rfl;refine aE (I1.chg.get hi) λ o ho m=>?_;simp only[hσ] at ho;have q:=sj ho;clear ho;subst q;refine rT m ?_;clear m;intro d mm hpd hob hn hm hz;have nd:=List.nodup_cons.mp (lX I1.roNd hi);have ne:pp.1≠d:=λ q=>nd.1 (by simp only[hpd,q];exact .head _)
   refine S.plainSet hpl C1.base aP hob hn hln ne λ h2 tk2 hs hn2=>?_;have hdm:d∈aH env oc ρ1:=aN (Ro.mem_all (List.mem_of_getElem? hi) (by simp only[hpd];exact .tail _ (.head _)))
   exact h h2 tk2 ρ1 _ (I1.setAttr hi hpd hob hm hz r1 hs hn2) (st.trans ⟨⟨[],by simp⟩,.only (N':=[d]) (λ b o n e=>hs.extBut b o (by simpa using n) e) λ b q=>xm1 q▸hdm,λ b hb=>.inl hb⟩) .next
  ·exact nos e2
 ·exact nos e2
end
end
section
open PySem.SeqAt
section
variable(S:Sys prog w)
theorem aAS(L:Low S n)(hSsA:∀ k≤n,SSs S k)(hW:SW S n):SS S (n+1):=by
 have hSs:SSs S n:=@hSsA n (Nat.le_refl _);intro sc st x lv lv' σ σ' fl tr e A env X oc ρ s Q E C F I h;have hE:SE S n:=@Low.e _ _ S n L n (Nat.le_refl _);have tr0:=tr.raw;clear tr;induction tr0 using RS.casesOn with
 | asg hx te hs=>exact Ov S hE hx te hs e C F I h
 | asgc hx te hl hn hc =>
  refine kT (zO te hc) ?_;intro _ _ _ _ _ _ _ q1;refine bB q1 ?_;clear q1;clear hc te;rintro _ _ rfl rfl K;exact Gq S L hx K hl hn e C F I h
 | mk hx ts hl=>exact Tz S (L.es n (Nat.le_refl _)) hx ts hl e C F I h
 | mkm a1 a2 a3 a4 a5 a6 a7 a8 a9 b1 b2 b3 b4=>exact Oy S L a1 a2 a3 a4 a5 a6 a7 a8 a9 b1 b2 b3 b4 e C F I h
 | app hx hd hc te hp=>exact Ou S hE hx hd hc te hp e C F I h
 | st2 hx hd hc ti tj te=>exact Pb S hE hx hd hc ti tj te e C F I h
 | aug hx hc te=>exact Ow S hE hx hc te e C F I h
 | ite tt tb tc =>
  refine aZ e ?_;clear e;intro b e1 e2;refine wpAny_If (L.t n (Nat.le_refl _) tt e1 C.down F I λ h1 tk1 k1=>?_);have C1:=Cx.up C.down k1;clear e1;cases b with
  | true =>
   simp only[if_true] at e2;rw[if_pos rfl];exact hSs tb e2 C1 F (I.ext k1) λ h2 tk2 ρ2 f I2 st fr=>h h2 tk2 ρ2 f I2 (Step.trans (.of_up k1) st) fr
  | false =>
   simp only[Bool.false_eq_true,if_false] at e2;rw[if_neg (by decide)]
   exact hSs tc e2 C1 F (I.ext k1) λ h2 tk2 ρ2 f I2 st fr=>h h2 tk2 ρ2 f I2 (Step.trans (.of_up k1) st) fr
 | whl tt tb =>
  refine wpAny_While (hW tt tb e C.down F I λ h2 tk2 ρ2 f I2 st fr=>?_);exact h h2 tk2 ρ2 f I2 st fr
 | forr tt ti ft tb=>exact Ox S L.e L.es hSs tt ti ft tb e C F I h
 | ret te =>
  refine aZ e ?_;clear e;intro v e1 e;refine bU (dD e) ?_;clear e;rintro rfl rfl rfl;refine wpAny_Return_some (hE te e1 C.down F I λ h1 tk1 rv k1 r1=>?_);exact h h1 tk1 ρ _ (I.ext k1) (.of_up k1) (.ret r1)
 | brk =>
  refine bU (dD e) ?_;clear e;rintro rfl rfl rfl;exact wpAny_Break (h s.heap s.toks ρ _ I (.refl _ _) .brk)
 | cont =>
  refine bU (dD e) ?_;clear e;rintro rfl rfl rfl;exact wpAny_Continue (h s.heap s.toks ρ _ I (.refl _ _) .cont)
 | bad=>exact nos e
 | sat hx hd hc te=>exact Pa S hE hx hd hc te e C F I h
 | saug hx hd hc te=>exact Gs S hE hx hd hc te e C F I h
 | mcall hx te ts hb hp hn=>exact Bn S hE (L.es n (Nat.le_refl _)) hSs hx te ts hb hp hn e C F I h
 | mcalle te ts hb hp hn=>exact yB S hE (L.es n (Nat.le_refl _)) hSs te ts hb hp hn e C F I h
 | satm hx hd hc te ts hb hp hn=>exact Gr S L.e L.es hSsA hx hd hc te ts hb hp hn e C F I h
 | new hx hg hd ts=>exact Oz S L.es hSsA hx hg hd ts e C F I h
theorem Hz:All S 0 where
 e:=by intro sc e x lv σ v tr h;exact nos h
 es:=by intro sc e x lv σ v tr h;exact nos h
 b:=by intro sc o e x lv σ v tr h;exact nos h
 t:=by intro sc e x lv σ v tr h;exact nos h
 a:=by intro sc o e x lv σ v tr h;exact nos h
 s:=by intro sc st x lv lv' σ σ' fl tr h;exact nos h
 ss:=by intro sc st x lv lv' σ σ' fl tr h;exact nos h
 w:=by intro sc t b t' b' lv lv' σ σ' fl tt tb h;exact nos h
 c:=⟨by intro f vs v h;exact nos h,by intro f vs v h;exact nos h⟩
theorem Hy:∀ n,∀ k≤n,All S k:=by
 intro l9;induction l9 with
 | zero =>
  intro k hk;simp only[Nat.le_zero.mp hk];exact Hz S
 | succ n ih =>
  intro k hk;have ih:=ih;rcases Nat.lt_or_eq_of_le hk with q|q
  ·exact ih k (Nat.le_of_lt_succ q)
  ·clear hk;subst q;have An:=ih n (Nat.le_refl _);have L:Low S n:=⟨λ k hk=>@All.e _ _ S k (ih k hk),λ k hk=>@All.es _ _ S k (ih k hk),λ k hk=>@All.t _ _ S k (ih k hk)⟩;have e:SE S n:=@All.e _ _ S n An;have es:SEs S n:=@All.es _ _ S n An;have b:SB S n:=@All.b _ _ S n An;have t:ST S n:=@All.t _ _ S n An;have a:SA S n:=@All.a _ _ S n An;have s:SS S n:=@All.s _ _ S n An;have ss:SSs S n:=@All.ss _ _ S n An;have w:SW S n:=@All.w _ _ S n An;have kk:SK S (n+1):=@aAR _ n _ S L;exact⟨@aAQ _ n _ S L.e es b An.c kk,@Tw _ n _ S e es,@aAO _ n _ S e b,@aAT _ n _ S L.e t a,@aAN _ n _ S t a,@aAS _ n _ S L (λ k hk=>@All.ss _ _ S k (ih k hk)) w,@Tx _ n _ S s ss,@aAU _ n _ S t ss w,aAP S ss⟩
theorem dE(n:Nat):All S n:=Hy S n n (Nat.le_refl _)
end
end
section
open PySem.SeqAt
structure Cf where
 ext:List Str
 orc:List Str
 cls:List Str
 chg:List Str:=[]
noncomputable abbrev OE(sc:Scope)(e:Expr):=Option {x:Ex // TrE sc e x}
noncomputable abbrev OEs(sc:Scope)(e:List Expr):=Option {x:List Ex // cM sc e x}
noncomputable abbrev OS(sc:Scope)(s:Stmt):={x:Sx // TrS sc s x}
theorem TrE.bi'{f g e}(hg:g=gB f)(h1:f≠.sortset)(h2:f≠.isstr)(h3:aR sc (gB f))(h4:TrE sc e a):TrE sc (.Call (.Name g p1) [e] [] p) (.bi f a):=by
 subst hg;exact .bi h1 h2 h3 h4
theorem TrE.me'{m g o}(hg:g=iF m)(h1:TrE sc o a)(h2:cM sc args as)(h3:∀ env t,attributeBase o (iF m) env t=t)(h4:(ap.endLine==p.line)=true)(h5:args.length<8) :
  TrE sc (.Call (.Attribute o g ap) args [] p) (.me m a as):=by
 subst hg;exact .me h1 h2 h3 h4 h5
noncomputable def abD:(o:Expr)->(m:Str)->Option (PLift (∀ env t,attributeBase o m env t=t))
 | .Name ..,_=>some ⟨λ _ _=>rfl⟩
 | .Attribute ..,_=>some ⟨λ _ _=>rfl⟩
 | .Subscript ..,_=>some ⟨λ _ _=>rfl⟩
 | .Constant ..,_=>some ⟨λ _ _=>rfl⟩
 | .BinOp ..,_=>some ⟨λ _ _=>rfl⟩
 | .Call (.Attribute ..) ..,_=>some ⟨λ _ _=>rfl⟩
 | .Call (.Name ..) (_::_) ..,_=>some ⟨λ _ _=>rfl⟩
 | _,_=>none
noncomputable def mD(f:∀ e,OE sc e):∀ es,OEs sc es
 | []=>some ⟨[],.nil⟩
 | e::r=>match f e,mD f r with
  | some x,some y=>some ⟨x.1::y.1,.cons x.2 y.2⟩
  | _,_=>none
noncomputable def trP(f:∀ e,OE sc e):∀ e:Option Expr,Option {x:Ex // TrP sc e x}
 | none=>some ⟨_,.none⟩
 | some e=>match f e with
  | some x=>some ⟨x.1,.some x.2⟩
  | none=>none
noncomputable def trT(sc:Scope):∀ e,Option {x:Tg // TrT sc e x}
 | .Name x _=>if h:sc.names.lookup x=some .local∨sc.names.lookup x=some .cell then some ⟨_,.n h⟩ else none
 | .Tuple [.Name x _,.Name y _] _ _ =>
  if h:(sc.names.lookup x=some .local∨sc.names.lookup x=some .cell)/\(sc.names.lookup y=some .local∨sc.names.lookup y=some .cell)/\x≠y then some ⟨_,.p h.1 h.2.1 h.2.2⟩ else none
 | _=>none
noncomputable def Wq(f:∀ e,OE sc e)(e:Expr):Option {x:It // hY sc e x}:=match f e with
 | some x=>some ⟨_,.e x.2⟩
 | none=>none
noncomputable def aCU(f:∀ e,OE sc e)(g:Str)(p1:Pos)(p:Pos)(args:List Expr):Option {x:It // hY sc (.Call (.Name g p1) args [] p) x} :=
 if h:g=("range":Str)/\aR sc "range" then
  match mD f args with
  | some a=>some ⟨.range a.1,by rw[h.1];exact .range h.2 a.2⟩
  | none=>none
 else if h:g=("enumerate":Str)/\aR sc "enumerate" then
  match args with
  | [e]=>match f e with
   | some a=>some ⟨.enum a.1,by rw[h.1];exact .enum h.2 a.2⟩
   | none=>none
  | _=>none
 else if h:g=("zip":Str)/\aR sc "zip" then
  match args with
  | [e1,e2]=>match f e1,f e2 with
   | some a,some b=>some ⟨.zip a.1 b.1,by rw[h.1];exact .zip h.2 a.2 b.2⟩
   | _,_=>none
  | _=>none
 else Wq f _
noncomputable def aA4(f:∀ e,OE sc e):∀ e,Option {x:It // hY sc e x}
 | .Call (.Name g p1) args [] p=>aCU f g p1 p args
 | e=>Wq f e
noncomputable def Wl:(it:It)->Option (PLift (gI it))
 | .e _=>some ⟨trivial⟩
 | .range _=>some ⟨trivial⟩
 | _=>none
noncomputable def aDx:(t:Tg)->(it:It)->Option (PLift (Cv t it))
 | .n _,.e _=>some ⟨trivial⟩
 | .n _,.range _=>some ⟨trivial⟩
 | .p _ _,.zip _ _=>some ⟨trivial⟩
 | .p _ _,.enum _=>some ⟨trivial⟩
 | _,_=>none
noncomputable def Lq:(t:Tg)->Option {x:Str // t=.n x}
 | .n x=>some ⟨x,rfl⟩
 | _=>none
noncomputable def aCT(f:∀ e,OE sc e):∀ gs,Option {x:List Gn // tL sc gs x}
 | []=>some ⟨[],.nil⟩
 | ⟨t,iter,ifs,0⟩::rest =>
  match aA4 f iter,trT sc t,mD f ifs,aCT f rest with
  | some it,some tg,some fs,some gs=>match Wl it.1,Lq tg.1 with
   | some s,some nm=>some ⟨_,.cons it.2 s.down (by rw[<- nm.2];exact tg.2) fs.2 gs.2⟩
   | _,_=>none
  | _,_,_,_=>none
 | _=>none
noncomputable def aDw(f:Str):Option {b:BI // b≠.sortset/\b≠.isstr/\f=gB b} :=
 if h:f="len" then some ⟨.len,by simp,by simp,h⟩
 else if h:f="sum" then some ⟨.sum,by simp,by simp,h⟩
 else if h:f="list" then some ⟨.list,by simp,by simp,h⟩
 else if h:f="sorted" then some ⟨.sorted,by simp,by simp,h⟩
 else if h:f="type" then some ⟨.type,by simp,by simp,h⟩
 else if h:f="int" then some ⟨.int,by simp,by simp,h⟩
 else none
noncomputable def aDB(f:Str):Option {b:ME // f=iF b} :=
 if h:f="join" then some ⟨.join,h⟩
 else if h:f="lstrip" then some ⟨.lstrip,h⟩
 else if h:f="lower" then some ⟨.lower,h⟩
 else if h:f="upper" then some ⟨.upper,h⟩
 else if h:f="startswith" then some ⟨.startswith,h⟩
 else if h:f="endswith" then some ⟨.endswith,h⟩
 else if h:f="find" then some ⟨.find,h⟩
 else none
noncomputable def aCY(f:∀ e,OE sc e){g}(hs:g=("sorted":Str)/\aR sc "sorted")(p1 p:Pos):∀ args,OE sc (.Call (.Name g p1) args [] p)
 | [.Call (.Name g' _) [e] [] _]=>if h:g'=("set":Str)/\aR sc "set" then match f e with
   | some a=>some ⟨.bi .sortset a.1,by rw[h.1,hs.1];exact .sortset hs.2 h.2 a.2⟩
   | none=>none
  else none
 | _=>none
noncomputable def aD2(f:∀ e,OE sc e){g}(hs:g=("isinstance":Str)/\aR sc "isinstance")(p1 p:Pos):∀ args,OE sc (.Call (.Name g p1) args [] p)
 | [e,.Name g' _]=>if h:g'=("str":Str)/\aR sc "str" then match f e with
   | some a=>some ⟨.bi .isstr a.1,by rw[h.1,hs.1];exact .isstr hs.2 h.2 a.2⟩
   | none=>none
  else none
 | _=>none
noncomputable def aD0(f:∀ e,OE sc e)(g:Str)(p1 p:Pos):∀ args,OE sc (.Call (.Name g p1) args [] p)
 | [e]=>match aDw g with
  | some b=>if h:aR sc (gB b.1) then match f e with
    | some a=>some ⟨.bi b.1 a.1,TrE.bi' b.2.2.2 b.2.1 b.2.2.1 h a.2⟩
    | none=>none
   else none
  | none=>none
 | _=>none
noncomputable def aCS(g:Str)(p1 p:Pos):∀ args,OE sc (.Call (.Name g p1) args [] p)
 | []=>if h:g=("deque":Str)/\aR sc "deque" then some ⟨.deq,by rw[h.1];exact .deq h.2⟩ else none
 | _=>none
noncomputable def aD1(cf:Cf)(f:∀ e,OE sc e)(g:Str)(p1 p:Pos)(args:List Expr):OE sc (.Call (.Name g p1) args [] p) :=
 if h:aR sc g/\(g==("__debug__":Str))=false then match mD f args with
  | some a=>if cf.ext.contains g then some ⟨_,.ext h.1 h.2 a.2⟩ else some ⟨_,.call h.1 h.2 a.2⟩
  | none=>none
 else none
noncomputable def aA2(cf:Cf)(f:∀ e,OE sc e)(g:Str)(p1 p:Pos)(args:List Expr):OE sc (.Call (.Name g p1) args [] p) :=
 (if h:g=("sorted":Str)/\aR sc "sorted" then aCY f h p1 p args else none).orElse λ _ =>
 (if h:g=("isinstance":Str)/\aR sc "isinstance" then aD2 f h p1 p args else none).orElse λ _ =>
 (aD0 f g p1 p args).orElse λ _=>(aCS g p1 p args).orElse λ _=>aD1 cf f g p1 p args
noncomputable def aCW(cf:Cf)(f:∀ e,OE sc e)(m:Str)(ap p:Pos):∀ o args,OE sc (.Call (.Attribute o m ap) args [] p)
 | .Name pn _,[e]=>if h:aR sc pn/\(pn==("__debug__":Str))=false/\(ap.endLine==p.line)=true then
   if cf.orc.contains pn then match f e with
    | some a=>some ⟨_,.orc h.1 h.2.1 a.2 h.2.2⟩
    | none=>none
   else none
  else none
 | _,_=>none
noncomputable def aD4(f:∀ e,OE sc e)(o:Expr)(m:Str)(ap p:Pos)(args:List Expr):OE sc (.Call (.Attribute o m ap) args [] p) :=
 match aDB m,f o,mD f args with
 | some b,some a,some as=>match abD o (iF b.1) with
  | some q=>if h:(ap.endLine==p.line)=true/\args.length<8 then some ⟨.me b.1 a.1 as.1,TrE.me' b.2 a.2 as.2 q.down h.1 h.2⟩ else none
  | none=>none
 | _,_,_=>none
noncomputable def aD5(f:∀ e,OE sc e)(o:Expr)(p:Pos):∀ i,OE sc (.Subscript o i p)
 | .Slice l u st _=>match f o,trP f l,trP f u,trP f st with
  | some a,some x,some y,some z=>some ⟨_,.sl a.2 x.2 y.2 z.2⟩
  | _,_,_,_=>none
 | i=>match f o,f i with
  | some a,some b=>some ⟨_,.sub a.2 b.2⟩
  | _,_=>none
noncomputable def aA3(f:∀ sc e,OE sc e)(elt:Expr)(scope:Scope)(p:Pos):∀ gs,OE sc (.ListComp elt gs scope p)
 | ⟨t,iter,ifs,0⟩::rest =>
  if h:scope.kind=.function/\(∀ y∈scope.names,y.2=.local->scope.names.lookup y.1=some .local)/\(scope.names.map (·.1)).Nodup/\(∀ y∈bZ scope,sc.names.lookup y=some .cell∨sc.names.lookup y=some .free) then
   match aA4 (f sc) iter,trT scope t,mD (f scope) ifs,aCT (f scope) rest,f scope elt with
   | some it,some tg,some fs,some gs,some el=>match Wl it.1,Lq tg.1 with
    | some s,some nm=>some ⟨_,.comp h.1 h.2.1 h.2.2.1 h.2.2.2 it.2 s.down (by rw[<- nm.2];exact tg.2) fs.2 gs.2 el.2⟩
    | _,_=>none
   | _,_,_,_,_=>none
  else none
 | _=>none
noncomputable def aA5(sc:Scope)(x:Str)(p:Pos):OE sc (.Name x p) :=
 if h:fY sc x/\(x==("__debug__":Str))=false/\(x==("__classdict__":Str))=false then some ⟨_,.v h.1 h.2.1 h.2.2⟩
 else if h:aR sc x/\x=("int":Str) then some ⟨_,.glob h.1 h.2⟩
 else if h:aR sc x/\x=("bool":Str) then some ⟨_,.globb h.1 h.2⟩
 else if h:aR sc x/\x=("str":Str) then some ⟨_,.globs h.1 h.2⟩ else none
noncomputable def trE(cf:Cf):Nat->∀ sc e,OE sc e
 | 0,_,_=>none
 | n+1,sc,e=>match e with
  | .Constant (.int _) _ _=>some ⟨_,.int⟩
  | .Constant (.str _) _ _=>some ⟨_,.str⟩
  | .Constant .none _ _=>some ⟨_,.none⟩
  | .Constant (.bool _) _ _=>some ⟨_,.bool⟩
  | .Name x p=>aA5 sc x p
  | .BinOp l _ r _=>match trE cf n sc l,trE cf n sc r with
   | some a,some b=>some ⟨_,.bin a.2 b.2⟩
   | _,_=>none
  | .UnaryOp .USub x _=>match trE cf n sc x with
   | some a=>some ⟨_,.neg a.2⟩
   | none=>none
  | .UnaryOp .Not x _=>match trE cf n sc x with
   | some a=>some ⟨_,.not a.2⟩
   | none=>none
  | .BoolOp _ es _=>match mD (trE cf n sc) es with
   | some a=>some ⟨_,.bop a.2⟩
   | none=>none
  | .Compare l [_] [r] _=>match trE cf n sc l,trE cf n sc r with
   | some a,some b=>some ⟨_,.cmp a.2 b.2⟩
   | _,_=>none
  | .Call (.Name g p1) args [] p=>aA2 cf (trE cf n sc) g p1 p args
  | .Call (.Attribute o m ap) args [] p=>(aCW cf (trE cf n sc) m ap p o args).orElse λ _=>aD4 (trE cf n sc) o m ap p args
  | .Attribute o a _=>match trE cf n sc o,abD o a with
   | some x,some q=>some ⟨_,.attr x.2 q.down⟩
   | _,_=>none
  | .Subscript o i p=>aD5 (trE cf n sc) o p i
  | .List es _=>match mD (trE cf n sc) es with
   | some a=>if h:a.1.length<1000 then some ⟨_,.list a.2 h⟩ else none
   | none=>none
  | .Tuple es _ _=>match mD (trE cf n sc) es with
   | some a=>if h:a.1.length<1000 then some ⟨_,.tuple a.2 h⟩ else none
   | none=>none
  | .ListComp elt gs scope p=>aA3 (trE cf n) elt scope p gs
  | _=>none
end
section
open PySem.SeqAt
noncomputable abbrev OOS(sc:Scope)(s:Stmt):=Option {x:Sx // TrS sc s x}
noncomputable def yJ(f:∀ s,OS sc s):∀ l,{x:List Sx // fJ sc l x}
 | []=>⟨[],.nil⟩
 | s::r=>⟨(f s).1::(yJ f r).1,.cons (f s).2 (yJ f r).2⟩
noncomputable def aCV(sc:Scope)(x:Str)(p1 p:Pos)(scope:Scope)(cp:Pos):∀ elt gens,OOS sc (.Assign [.Name x p1] (.ListComp elt gens scope cp) p)
 | .BinOp (.List [.Constant (.int 0) _ _] _) .Mult (.Call (.Name g _) [.Name l _] [] _) _,[⟨.Name y _,.Name l' _,[],0⟩] =>
  if h:(g=("len":Str)/\l=l'/\sc.names.lookup x=some .local/\scope.kind=.function/\(∀ y∈scope.names,y.2=.local->scope.names.lookup y.1=some .local))/\(scope.names.map (·.1)).Nodup /\
   bZ scope=[l]/\(sc.names.lookup l=some .cell∨sc.names.lookup l=some .free)/\scope.names.lookup y=some .local/\aR scope "len"/\(l==("__debug__":Str))=false/\(l==("__classdict__":Str))=false/\y≠l /\
   (p1.line==cp.line)=true/\(scope.names.any λ z=>z.1==x&&(z.2==.local||z.2==.cell))=false then
   some ⟨.mkm x l,by
    refine aBq h ?_;intro q1;refine Qb q1 ?_;intro h1 h2 h3 h4 h5;intro h6 h7 h8 h9 h10 h11 q2;refine kR q2 ?_;intro h12 h13 h14 h15;rw[h1,<- h2];exact .mkm h3 h4 h5 h6 h7 h8 h9 h10 h11 h12 h13 h14 h15⟩
  else none
 | _,_=>none
noncomputable def aA1(f:∀ e,OE sc e)(x:Str)(p1 p:Pos)(elt:Expr)(gens:List Comprehension)(scope:Scope)(cp:Pos):OOS sc (.Assign [.Name x p1] (.ListComp elt gens scope cp) p) :=
 (aCV sc x p1 p scope cp elt gens).orElse λ _ =>
 if h:sc.names.lookup x=some .local/\(p1.line==cp.line)=true/\(scope.names.any λ y=>y.1==x&&(y.2==.local||y.2==.cell))=false then
  match f (.ListComp elt gens scope cp) with
  | some a=>if hc:pU a.1=true then some ⟨_,.asgc h.1 a.2 h.2.1 h.2.2 hc⟩ else none
  | none=>none
 else none
noncomputable def vB(f:∀ e,OE sc e)(x:Str)(p1 p:Pos)(e:Expr):OOS sc (.Assign [.Name x p1] e p) :=
 if h:dJ sc x/\Zg e=false then match f e with
  | some a=>some ⟨_,.asg h.1 a.2 (a.2.noswapName h.2 _ _ _)⟩
  | none=>none
 else none
noncomputable def aCQ(cf:Cf)(f:∀ e,OE sc e)(x:Str)(p1 p:Pos):∀ e,OOS sc (.Assign [.Name x p1] e p)
 | .ListComp elt gens scope cp=>aA1 f x p1 p elt gens scope cp
 | .List es p2=>if cf.chg.contains x then match mD f es with
  | some a=>if h:dJ sc x/\a.1.length<1000 then some ⟨_,.mk h.1 a.2 h.2⟩ else none
  | none=>none
  else vB f x p1 p (.List es p2)
 | .Call (.Name C p2) args [] cp =>
  (if cf.cls.contains C then
   if h:dJ sc x/\aR sc C/\(C==("__debug__":Str))=false then match mD f args with
    | some a=>some ⟨.new x C a.1,.new h.1 h.2.1 h.2.2 a.2⟩
    | none=>none
   else none
  else none).orElse λ _=>vB f x p1 p _
 | .Call (.Attribute o m ap) args [] cp =>
  (vB f x p1 p (.Call (.Attribute o m ap) args [] cp)).orElse λ _ =>
   match f o,mD f args,abD o m with
   | some a,some as,some q=>if h:dJ sc x/\(ap.endLine==cp.line)=true/\args.length<8 then some ⟨.mcall (some x) a.1 m as.1,.mcall h.1 a.2 as.2 q.down h.2.1 h.2.2⟩ else none
   | _,_,_=>none
 | e=>vB f x p1 p e
noncomputable abbrev tB(sc:Scope)(x:Str):Prop:=fY sc x/\(x==("__debug__":Str))=false/\(x==("__classdict__":Str))=false
theorem TrS.app'{g e}(hg:g=("append":Str))(h:tB sc x)(te:TrE sc e a)(hp:(ap.endLine==p2.line)=true):TrS sc (.Expr (.Call (.Attribute (.Name x p1) g ap) [e] [] p2) p) (.app x a):=by
 subst hg;exact .app h.1 h.2.1 h.2.2 te hp
noncomputable def aCP(f:∀ e,OE sc e)(m:Str)(ap cp p:Pos):∀ o args,OOS sc (.Expr (.Call (.Attribute o m ap) args [] cp) p)
 | .Name x _,[e]=>if h:m=("append":Str)/\tB sc x/\(ap.endLine==cp.line)=true then match f e with
   | some a=>some ⟨_,.app' h.1 h.2.1 a.2 h.2.2⟩
   | none=>none
  else none
 | _,_=>none
noncomputable def aD3(f:∀ e,OE sc e)(o:Expr)(m:Str)(ap cp p:Pos)(args:List Expr):OOS sc (.Expr (.Call (.Attribute o m ap) args [] cp) p) :=
 match f o,mD f args,abD o m with
 | some a,some as,some q=>if h:(ap.endLine==cp.line)=true/\args.length<8 then some ⟨.mcall none a.1 m as.1,.mcalle a.2 as.2 q.down h.1 h.2⟩ else none
 | _,_,_=>none
noncomputable def aCZ(f:∀ e,OE sc e)(p3 p:Pos)(j e:Expr):∀ o,OOS sc (.Assign [.Subscript o j p3] e p)
 | .Subscript (.Name x _) i _=>if h:tB sc x then match f i,f j,f e with
   | some a,some b,some c=>some ⟨_,.st2 h.1 h.2.1 h.2.2 a.2 b.2 c.2⟩
   | _,_,_=>none
  else none
 | _=>none
noncomputable def aA6(f:∀ e,OE sc e)(x a:Str)(p1 p2 p:Pos):∀ e,OOS sc (.Assign [.Attribute (.Name x p1) a p2] e p)
 | .Call (.Attribute o m ap) args [] cp=>match f o,mD f args,abD o m with
  | some b,some bs,some q=>if h:tB sc x/\(ap.endLine==cp.line)=true/\args.length<8 then some ⟨.satm x a b.1 m bs.1,.satm h.1.1 h.1.2.1 h.1.2.2 b.2 bs.2 q.down h.2.1 h.2.2⟩ else none
  | _,_,_=>none
 | _=>none
noncomputable def aCX(f:∀ e,OE sc e)(a:Str)(p2 p:Pos)(e:Expr):∀ o,OOS sc (.Assign [.Attribute o a p2] e p)
 | .Name x p1=>if h:tB sc x then match f e with
   | some b=>some ⟨_,.sat h.1 h.2.1 h.2.2 b.2⟩
   | none=>aA6 f x a p1 p2 p e
  else none
 | _=>none
noncomputable def aCR(f:∀ e,OE sc e)(o:Operator)(p:Pos)(e:Expr):∀ t,OOS sc (.AugAssign t o e p)
 | .Name x _=>if h:dJ sc x/\(x==("__classdict__":Str))=false then match f e with
   | some b=>some ⟨_,.aug h.1 h.2 b.2⟩
   | none=>none
  else none
 | .Attribute (.Name x _) a _=>if h:tB sc x then match f e with
   | some b=>some ⟨_,.saug h.1 h.2.1 h.2.2 b.2⟩
   | none=>none
  else none
 | _=>none
noncomputable def trS(cf:Cf):Nat->∀ sc st,OS sc st
 | 0,_,_=>⟨.bad,.bad⟩
 | n+1,sc,st=>Option.getD (α:={x:Sx // TrS sc st x}) (match st with
  | .Assign [.Name x p1] e p=>aCQ cf (trE cf n sc) x p1 p e
  | .Assign [.Subscript o j p3] e p=>aCZ (trE cf n sc) p3 p j e o
  | .Assign [.Attribute o a p2] e p=>aCX (trE cf n sc) a p2 p e o
  | .AugAssign t o e p=>aCR (trE cf n sc) o p e t
  | .Expr (.Call (.Attribute o m ap) args [] cp) p=>(aCP (trE cf n sc) m ap cp p o args).orElse λ _=>aD3 (trE cf n sc) o m ap cp p args
  | .If t b c _=>match trE cf n sc t with
   | some a=>some ⟨_,.ite a.2 (yJ (trS cf n sc) b).2 (yJ (trS cf n sc) c).2⟩
   | none=>none
  | .While t b [] _=>match trE cf n sc t with
   | some a=>some ⟨_,.whl a.2 (yJ (trS cf n sc) b).2⟩
   | none=>none
  | .For t it b [] _=>match trT sc t,aA4 (trE cf n sc) it with
   | some a,some i=>match aDx a.1 i.1 with
    | some q=>some ⟨_,.forr a.2 i.2 q.down (yJ (trS cf n sc) b).2⟩
    | none=>none
   | _,_=>none
  | .Return (some e) _=>match trE cf n sc e with
   | some a=>some ⟨_,.ret a.2⟩
   | none=>none
  | .Break _=>some ⟨_,.brk⟩
  | .Continue _=>some ⟨_,.cont⟩
  | _=>none) ⟨.bad,.bad⟩
noncomputable def zI:Nat->List Stmt->List Str
 | 0,_=>[]
 | _,[]=>[]
 | n+1,s::r=>(match s with
  | .Expr (.Call (.Attribute (.Name x _) _ _) _ _ _) _=>[x]
  | .If _ b c _=>zI n b++zI n c
  | .While _ b _ _=>zI n b
  | .For _ _ b _ _=>zI n b
  | _=>[])++zI n r
noncomputable def Pk(cf:Cf)(n:Nat)(sc:Scope)(b:List Stmt):List Sx:=(yJ (trS { cf with chg:=zI 200 b } n sc) b).1
theorem tA(cf:Cf)(n:Nat)(sc:Scope)(b:List Stmt):fJ sc b (Pk cf n sc b):=(yJ (trS { cf with chg:=zI 200 b } n sc) b).2
end
noncomputable def By:Fn:=⟨["x","y"],[(.ret (.bin .Sub (.cmp .Gt (.v "x") (.v "y")) (.cmp .Lt (.v "x") (.v "y"))))]⟩
noncomputable def Ca:Fn:=⟨["text"],[(.ite (.orc "IPV4_RE" "search" (.v "text")) [(.ret (.c (.bool false)))] []),(.ite (.cmp .Eq (.v "text") (.c (.str ""))) [(.ret (.c (.bool false)))] []),(.ite (.bop .Or [(.cmp .Eq (.sub (.v "text") (.c (.int 0))) (.c (.str "."))),(.cmp .Eq (.sub (.v "text") (.neg (.c (.int 1)))) (.c (.str ".")))]) [(.ret (.c (.bool false)))] []),(.ret (.c (.bool true)))]⟩
noncomputable def tJ:Fn:=⟨["text"],[(.ite (.orc "IPV4_RE" "search" (.v "text")) [(.ret (.c (.bool false)))] []),(.ret (.c (.bool true)))]⟩
noncomputable def Cd:Fn:=⟨["A","B"],[(.asg "A" (.me .lower (.v "A") [])),(.asg "B" (.me .lower (.v "B") [])),(.ite (.not (.bop .And [(.call "liberal_is_HDN" [(.v "A")]),(.call "liberal_is_HDN" [(.v "B")])])) [(.ite (.cmp .Eq (.v "A") (.v "B")) [(.ret (.c (.bool true)))] []),(.ret (.c (.bool false)))] []),(.asg "initial_dot" (.me .startswith (.v "B") [(.c (.str "."))])),(.ite (.bop .And [(.v "initial_dot"),(.me .endswith (.v "A") [(.v "B")])]) [(.ret (.c (.bool true)))] []),(.ite (.bop .And [(.not (.v "initial_dot")),(.cmp .Eq (.v "A") (.v "B"))]) [(.ret (.c (.bool true)))] []),(.ret (.c (.bool false)))]⟩
noncomputable def oI:Fn:=⟨["h"],[(.asg "i" (.me .find (.v "h") [(.c (.str "."))])),(.ite (.cmp .GtE (.v "i") (.c (.int 0))) [(.asg "b" (.sl (.v "h") (.bin .Add (.v "i") (.c (.int 1))) (.c .none) (.c .none))),(.asg "i" (.me .find (.v "b") [(.c (.str "."))])),(.ite (.bop .And [(.call "is_HDN" [(.v "h")]),(.bop .Or [(.cmp .GtE (.v "i") (.c (.int 0))),(.cmp .Eq (.v "b") (.c (.str "local")))])]) [(.ret (.bin .Add (.c (.str ".")) (.v "b")))] [])] []),(.ret (.v "h"))]⟩
noncomputable def tG:Fn:=⟨["n","what"],[(.ite (.bop .And [(.cmp .IsNot (.bi .type (.v "n")) (.c (.fn (.type "int")))),(.cmp .IsNot (.bi .type (.v "n")) (.c (.fn (.type "bool"))))]) [.bad] []),(.asg "n" (.bi .int (.v "n"))),(.ite (.bop .Or [(.cmp .Gt (.v "n") (.c (.int 1099511627776))),(.cmp .Lt (.v "n") (.neg (.c (.int 1099511627776))))]) [.bad] []),(.ret (.v "n"))]⟩
noncomputable def kW:Fn:=⟨["self","initial_value","newline"],[(.ite (.bop .And [(.cmp .IsNot (.v "newline") (.c .none)),(.cmp .IsNot (.bi .type (.v "newline")) (.c (.fn (.type "str"))))]) [.bad] []),(.ite (.bop .And [(.cmp .IsNot (.v "newline") (.c .none)),(.cmp .NotEq (.v "newline") (.c (.str ""))),(.cmp .NotEq (.v "newline") (.c (.str "\n"))),(.cmp .NotEq (.v "newline") (.c (.str "\r"))),(.cmp .NotEq (.v "newline") (.c (.str "\r\n")))]) [.bad] []),(.ite (.bop .And [(.cmp .IsNot (.v "initial_value") (.c .none)),(.cmp .IsNot (.bi .type (.v "initial_value")) (.c (.fn (.type "str"))))]) [.bad] []),(.sat "self" "_StringIO__newline" (.v "newline")),(.sat "self" "_StringIO__buf" (.c (.str ""))),(.sat "self" "_StringIO__pos" (.c (.int 0))),(.ite (.cmp .IsNot (.v "initial_value") (.c .none)) [(.satm "self" "_StringIO__buf" (.v "self") "_StringIO__translated" [(.v "initial_value")])] [])]⟩
noncomputable def vH:Fn:=⟨["self","s"],[(.asg "newline" (.at (.v "self") "_StringIO__newline")),(.ite (.cmp .Is (.v "newline") (.c .none)) [.bad] []),(.ite (.bop .Or [(.cmp .Eq (.v "newline") (.c (.str "\r"))),(.cmp .Eq (.v "newline") (.c (.str "\r\n")))]) [.bad] []),(.ret (.v "s"))]⟩
noncomputable def vG:Fn:=⟨["self"],[(.ite (.cmp .Is (.at (.v "self") "_StringIO__buf") (.c .none)) [.bad] [])]⟩
noncomputable def jH:Fn:=⟨["self","size"],[(.ite (.cmp .Is (.v "size") (.c .none)) [(.asg "size" (.neg (.c (.int 1))))] []),(.asg "size" (.call "_index" [(.v "size"),(.c (.str "StringIO.read of a size that is no exact int"))])),(.mcall none (.v "self") "_StringIO__check" []),(.asg "start" (.at (.v "self") "_StringIO__pos")),(.asg "stop" (.bi .len (.at (.v "self") "_StringIO__buf"))),(.ite (.cmp .GtE (.v "start") (.v "stop")) [(.ret (.c (.str "")))] []),(.ite (.bop .And [(.cmp .GtE (.v "size") (.c (.int 0))),(.cmp .Lt (.bin .Add (.v "start") (.v "size")) (.v "stop"))]) [(.asg "stop" (.bin .Add (.v "start") (.v "size")))] []),(.sat "self" "_StringIO__pos" (.v "stop")),(.ret (.sl (.bin .Add (.sl (.at (.v "self") "_StringIO__buf") (.v "start") (.v "stop") (.c .none)) (.c (.str " "))) (.c .none) (.neg (.c (.int 1))) (.c .none)))]⟩
noncomputable def eY:Fn:=⟨["self","instream","infile","posix","punctuation_chars"],[(.ite (.bi .isstr (.v "instream")) [(.new "instream" "StringIO" [(.v "instream")])] []),(.ite (.cmp .IsNot (.v "instream") (.c .none)) [(.sat "self" "instream" (.v "instream")),(.sat "self" "infile" (.v "infile"))] [(.sat "self" "instream" (.call "_wall" [(.c (.int 34))])),(.sat "self" "infile" (.c .none))]),(.sat "self" "posix" (.v "posix")),(.ite (.v "posix") [(.sat "self" "eof" (.c .none))] [(.sat "self" "eof" (.c (.str "")))]),(.sat "self" "commenters" (.c (.str "#"))),(.sat "self" "wordchars" (.c (.str "abcdfeghijklmnopqrstuvwxyzABCDEFGHIJKLMNOPQRSTUVWXYZ0123456789_"))),(.ite (.at (.v "self") "posix") [(.saug "self" "wordchars" .Add (.c (.str "ßàáâãäåæçèéêëìíîïðñòóôõöøùúûüýþÿÀÁÂÃÄÅÆÇÈÉÊËÌÍÎÏÐÑÒÓÔÕÖØÙÚÛÜÝÞ")))] []),(.sat "self" "whitespace" (.c (.str " \t\r\n"))),(.sat "self" "whitespace_split" (.c (.bool false))),(.sat "self" "quotes" (.c (.str "'\""))),(.sat "self" "escape" (.c (.str "\\"))),(.sat "self" "escapedquotes" (.c (.str "\""))),(.sat "self" "state" (.c (.str " "))),(.sat "self" "pushback" .deq),(.sat "self" "lineno" (.c (.int 1))),(.sat "self" "debug" (.c (.int 0))),(.sat "self" "token" (.c (.str ""))),(.sat "self" "filestack" .deq),(.sat "self" "source" (.c .none)),(.ite (.not (.v "punctuation_chars")) [(.asg "punctuation_chars" (.c (.str "")))] [(.ite (.cmp .Is (.v "punctuation_chars") (.c (.bool true))) [(.asg "punctuation_chars" (.c (.str "();<>|&")))] [])]),(.sat "self" "_punctuation_chars" (.v "punctuation_chars")),(.ite (.v "punctuation_chars") [(.sat "self" "_pushback_chars" .deq),(.saug "self" "wordchars" .Add (.c (.str "~-./*?="))),.bad,(.satm "self" "wordchars" (.at (.v "self") "wordchars") "translate" [(.v "t")])] [])]⟩
noncomputable def tK:Fn:=⟨["self"],[(.ite (.at (.v "self") "pushback") [(.mcall (some "tok") (.at (.v "self") "pushback") "popleft" []),(.ite (.cmp .GtE (.at (.v "self") "debug") (.c (.int 1))) [.bad] []),(.ret (.v "tok"))] []),(.mcall (some "raw") (.v "self") "read_token" []),(.ite (.cmp .IsNot (.at (.v "self") "source") (.c .none)) [(.whl (.cmp .Eq (.v "raw") (.at (.v "self") "source")) [.bad,(.ite (.v "spec") [.bad,(.mcall none (.v "self") "push_source" [(.v "newstream"),(.v "newfile")])] []),(.mcall (some "raw") (.v "self") "get_token" [])])] []),(.whl (.cmp .Eq (.v "raw") (.at (.v "self") "eof")) [(.ite (.not (.at (.v "self") "filestack")) [(.ret (.at (.v "self") "eof"))] [(.mcall none (.v "self") "pop_source" []),(.mcall (some "raw") (.v "self") "get_token" [])])]),(.ite (.cmp .GtE (.at (.v "self") "debug") (.c (.int 1))) [(.ite (.cmp .NotEq (.v "raw") (.at (.v "self") "eof")) [.bad] [.bad])] []),(.ret (.v "raw"))]⟩
noncomputable def cY:Fn:=⟨["self"],[(.asg "quoted" (.c (.bool false))),(.asg "escapedstate" (.c (.str " "))),(.whl (.c (.bool true)) [(.ite (.bop .And [(.at (.v "self") "punctuation_chars"),(.at (.v "self") "_pushback_chars")]) [(.mcall (some "nextchar") (.at (.v "self") "_pushback_chars") "pop" [])] [(.mcall (some "nextchar") (.at (.v "self") "instream") "read" [(.c (.int 1))])]),(.ite (.cmp .Eq (.v "nextchar") (.c (.str "\n"))) [(.saug "self" "lineno" .Add (.c (.int 1)))] []),(.ite (.cmp .GtE (.at (.v "self") "debug") (.c (.int 3))) [.bad] []),(.ite (.cmp .Is (.at (.v "self") "state") (.c .none)) [(.sat "self" "token" (.c (.str ""))),.brk] [(.ite (.cmp .Eq (.at (.v "self") "state") (.c (.str " "))) [(.ite (.not (.v "nextchar")) [(.sat "self" "state" (.c .none)),.brk] [(.ite (.cmp .In (.v "nextchar") (.at (.v "self") "whitespace")) [(.ite (.cmp .GtE (.at (.v "self") "debug") (.c (.int 2))) [.bad] []),(.ite (.bop .Or [(.at (.v "self") "token"),(.bop .And [(.at (.v "self") "posix"),(.v "quoted")])]) [.brk] [.cont])] [(.ite (.cmp .In (.v "nextchar") (.at (.v "self") "commenters")) [(.mcall none (.at (.v "self") "instream") "readline" []),(.saug "self" "lineno" .Add (.c (.int 1)))] [(.ite (.bop .And [(.at (.v "self") "posix"),(.cmp .In (.v "nextchar") (.at (.v "self") "escape"))]) [(.asg "escapedstate" (.c (.str "a"))),(.sat "self" "state" (.v "nextchar"))] [(.ite (.cmp .In (.v "nextchar") (.at (.v "self") "wordchars")) [(.sat "self" "token" (.v "nextchar")),(.sat "self" "state" (.c (.str "a")))] [(.ite (.cmp .In (.v "nextchar") (.at (.v "self") "punctuation_chars")) [(.sat "self" "token" (.v "nextchar")),(.sat "self" "state" (.c (.str "c")))] [(.ite (.cmp .In (.v "nextchar") (.at (.v "self") "quotes")) [(.ite (.not (.at (.v "self") "posix")) [(.sat "self" "token" (.v "nextchar"))] []),(.sat "self" "state" (.v "nextchar"))] [(.ite (.at (.v "self") "whitespace_split") [(.sat "self" "token" (.v "nextchar")),(.sat "self" "state" (.c (.str "a")))] [(.sat "self" "token" (.v "nextchar")),(.ite (.bop .Or [(.at (.v "self") "token"),(.bop .And [(.at (.v "self") "posix"),(.v "quoted")])]) [.brk] [.cont])])])])])])])])])] [(.ite (.cmp .In (.at (.v "self") "state") (.at (.v "self") "quotes")) [(.asg "quoted" (.c (.bool true))),(.ite (.not (.v "nextchar")) [(.ite (.cmp .GtE (.at (.v "self") "debug") (.c (.int 2))) [.bad] []),.bad] []),(.ite (.cmp .Eq (.v "nextchar") (.at (.v "self") "state")) [(.ite (.not (.at (.v "self") "posix")) [(.saug "self" "token" .Add (.v "nextchar")),(.sat "self" "state" (.c (.str " "))),.brk] [(.sat "self" "state" (.c (.str "a")))])] [(.ite (.bop .And [(.at (.v "self") "posix"),(.cmp .In (.v "nextchar") (.at (.v "self") "escape")),(.cmp .In (.at (.v "self") "state") (.at (.v "self") "escapedquotes"))]) [(.asg "escapedstate" (.at (.v "self") "state")),(.sat "self" "state" (.v "nextchar"))] [(.saug "self" "token" .Add (.v "nextchar"))])])] [(.ite (.cmp .In (.at (.v "self") "state") (.at (.v "self") "escape")) [(.ite (.not (.v "nextchar")) [(.ite (.cmp .GtE (.at (.v "self") "debug") (.c (.int 2))) [.bad] []),.bad] []),(.ite (.bop .And [(.cmp .In (.v "escapedstate") (.at (.v "self") "quotes")),(.cmp .NotEq (.v "nextchar") (.at (.v "self") "state")),(.cmp .NotEq (.v "nextchar") (.v "escapedstate"))]) [(.saug "self" "token" .Add (.at (.v "self") "state"))] []),(.saug "self" "token" .Add (.v "nextchar")),(.sat "self" "state" (.v "escapedstate"))] [(.ite (.cmp .In (.at (.v "self") "state") (.tuple [(.c (.str "a")),(.c (.str "c"))])) [(.ite (.not (.v "nextchar")) [(.sat "self" "state" (.c .none)),.brk] [(.ite (.cmp .In (.v "nextchar") (.at (.v "self") "whitespace")) [(.ite (.cmp .GtE (.at (.v "self") "debug") (.c (.int 2))) [.bad] []),(.sat "self" "state" (.c (.str " "))),(.ite (.bop .Or [(.at (.v "self") "token"),(.bop .And [(.at (.v "self") "posix"),(.v "quoted")])]) [.brk] [.cont])] [(.ite (.cmp .In (.v "nextchar") (.at (.v "self") "commenters")) [(.mcall none (.at (.v "self") "instream") "readline" []),(.saug "self" "lineno" .Add (.c (.int 1))),(.ite (.at (.v "self") "posix") [(.sat "self" "state" (.c (.str " "))),(.ite (.bop .Or [(.at (.v "self") "token"),(.bop .And [(.at (.v "self") "posix"),(.v "quoted")])]) [.brk] [.cont])] [])] [(.ite (.cmp .Eq (.at (.v "self") "state") (.c (.str "c"))) [(.ite (.cmp .In (.v "nextchar") (.at (.v "self") "punctuation_chars")) [(.saug "self" "token" .Add (.v "nextchar"))] [(.ite (.cmp .NotIn (.v "nextchar") (.at (.v "self") "whitespace")) [(.mcall none (.at (.v "self") "_pushback_chars") "append" [(.v "nextchar")])] []),(.sat "self" "state" (.c (.str " "))),.brk])] [(.ite (.bop .And [(.at (.v "self") "posix"),(.cmp .In (.v "nextchar") (.at (.v "self") "quotes"))]) [(.sat "self" "state" (.v "nextchar"))] [(.ite (.bop .And [(.at (.v "self") "posix"),(.cmp .In (.v "nextchar") (.at (.v "self") "escape"))]) [(.asg "escapedstate" (.c (.str "a"))),(.sat "self" "state" (.v "nextchar"))] [(.ite (.bop .Or [(.cmp .In (.v "nextchar") (.at (.v "self") "wordchars")),(.cmp .In (.v "nextchar") (.at (.v "self") "quotes")),(.bop .And [(.at (.v "self") "whitespace_split"),(.cmp .NotIn (.v "nextchar") (.at (.v "self") "punctuation_chars"))])]) [(.saug "self" "token" .Add (.v "nextchar"))] [(.ite (.at (.v "self") "punctuation_chars") [(.mcall none (.at (.v "self") "_pushback_chars") "append" [(.v "nextchar")])] [(.mcall none (.at (.v "self") "pushback") "appendleft" [(.v "nextchar")])]),(.ite (.cmp .GtE (.at (.v "self") "debug") (.c (.int 2))) [.bad] []),(.sat "self" "state" (.c (.str " "))),(.ite (.bop .Or [(.at (.v "self") "token"),(.bop .And [(.at (.v "self") "posix"),(.v "quoted")])]) [.brk] [.cont])])])])])])])])] [])])])])])]),(.asg "result" (.at (.v "self") "token")),(.sat "self" "token" (.c (.str ""))),(.ite (.bop .And [(.at (.v "self") "posix"),(.not (.v "quoted")),(.cmp .Eq (.v "result") (.c (.str "")))]) [(.asg "result" (.c .none))] []),(.ite (.cmp .Gt (.at (.v "self") "debug") (.c (.int 1))) [(.ite (.v "result") [.bad] [.bad])] []),(.ret (.v "result"))]⟩
noncomputable def Hn:Fn:=⟨["self"],[(.ret (.at (.v "self") "_punctuation_chars"))]⟩
noncomputable def oH:Fn:=⟨["number"],[(.asg "table" (.list [(.c (.str "a")),(.c (.str "c d'")),(.c (.str "local")),(.c (.str "7"))])),(.ret (.comp ["number","table"] (.sub (.v "table") (.bin .Mod (.bin .FloorDiv (.v "number") (.bin .Pow (.c (.int 4)) (.bin .Add (.v "k") (.c (.int 1))))) (.c (.int 4)))) [(.mk (.n "k") (.range [(.bin .Add (.bin .Mod (.v "number") (.c (.int 4))) (.c (.int 1)))]) [])]))]⟩
noncomputable def jF:Fn:=⟨["host"],[(.mk "rungs" [(.v "host")]),(.asg "told" (.call "reach" [(.v "host")])),(.whl (.bop .And [(.cmp .NotEq (.v "told") (.me .lstrip (.sub (.v "rungs") (.neg (.c (.int 1)))) [(.c (.str "."))])),(.cmp .Lt (.bi .len (.v "rungs")) (.c (.int 9)))]) [(.app "rungs" (.v "told")),(.asg "told" (.call "reach" [(.sl (.v "told") (.c (.int 1)) (.c .none) (.c .none))]))]),(.ret (.v "rungs"))]⟩
noncomputable def Hm:Fn:=⟨["labels"],[(.mk "rungs" [(.me .join (.c (.str ".")) [(.v "labels")])]),(.ite (.bop .And [(.cmp .Gt (.bi .len (.v "labels")) (.c (.int 1))),(.cmp .Eq (.sub (.v "labels") (.neg (.c (.int 1)))) (.c (.str "7")))]) [(.ret (.v "rungs"))] []),(.forr (.n "k") (.range [(.c (.int 1)),(.bi .len (.v "labels"))]) [(.ite (.bop .Or [(.cmp .Gt (.bin .Sub (.bi .len (.v "labels")) (.v "k")) (.c (.int 1))),(.cmp .Eq (.sub (.v "labels") (.v "k")) (.c (.str "local")))]) [(.app "rungs" (.bin .Add (.c (.str ".")) (.me .join (.c (.str ".")) [(.sl (.v "labels") (.v "k") (.c .none) (.c .none))])))] [])]),(.ret (.v "rungs"))]⟩
noncomputable def Cb:Fn:=⟨["turned"],[(.asg "row" (.list [])),(.forr (.n "place") (.range [(.bi .len (.v "turned"))]) [(.asg "at" (.c (.int 0))),(.whl (.bop .And [(.cmp .Lt (.v "at") (.bi .len (.v "row"))),(.cmp .Lt (.call "three_way_cmp" [(.sub (.v "turned") (.sub (.v "row") (.v "at"))),(.sub (.v "turned") (.v "place"))]) (.c (.int 1)))]) [(.aug "at" .Add (.c (.int 1)))]),(.asg "row" (.bin .Add (.bin .Add (.sl (.v "row") (.c .none) (.v "at") (.c .none)) (.list [(.v "place")])) (.sl (.v "row") (.v "at") (.c .none) (.c .none))))]),(.ret (.v "row"))]⟩
noncomputable def oG:Fn:=⟨["one","other"],[(.asg "first" (.bi .list (.v "one"))),(.asg "second" (.bi .list (.v "other"))),(.asg "told" (.ext "sorted_list_difference" [(.v "first"),(.v "second")])),(.asg "lost" (.comp ["other"] (.v "rung") [(.mk (.n "rung") (.e (.v "one")) [(.cmp .NotIn (.v "rung") (.v "other"))])])),(.asg "gained" (.comp ["one"] (.v "rung") [(.mk (.n "rung") (.e (.v "other")) [(.cmp .NotIn (.v "rung") (.v "one"))])])),(.ite (.bop .Or [(.cmp .NotEq (.v "told") (.tuple [(.v "lost"),(.v "gained")])),(.cmp .NotEq (.v "first") (.v "one")),(.cmp .NotEq (.v "second") (.v "other"))]) [(.ret (.neg (.c (.int 1))))] []),(.ret (.bin .Add (.bi .len (.sub (.v "told") (.c (.int 0)))) (.bi .len (.sub (.v "told") (.c (.int 1))))))]⟩
noncomputable def Bz:Fn:=⟨["ladders"],[(.mkm "far" "ladders"),(.forr (.p "k" "one") (.enum (.v "ladders")) [(.forr (.n "place") (.range [(.v "k")]) [(.asg "steps" (.call "_law_apart" [(.v "one"),(.sub (.v "ladders") (.v "place"))])),(.ite (.cmp .Lt (.v "steps") (.c (.int 0))) [(.ret (.c .none))] []),(.st2 "far" (.v "k") (.v "place") (.v "steps")),(.st2 "far" (.v "place") (.v "k") (.v "steps"))])]),(.ret (.v "far"))]⟩
noncomputable def tF:Fn:=⟨["hosts","ladders","rungs"],[(.forr (.p "host" "ladder") (.zip (.v "hosts") (.v "ladders")) [(.forr (.n "rung") (.e (.v "rungs")) [(.ite (.cmp .IsNot (.call "user_domain_match" [(.me .upper (.v "host") []),(.v "rung")]) (.cmp .In (.v "rung") (.v "ladder"))) [(.ret (.c (.bool false)))] [])])]),(.ret (.c (.bool true)))]⟩
noncomputable def oS:Fn:=⟨["rest"],[(.ite (.cmp .Eq (.v "rest") (.list [])) [(.ret (.list [(.list [])]))] []),(.mk "orders" []),(.forr (.n "place") (.e (.v "rest")) [(.forr (.n "order") (.e (.call "_law_orders" [(.comp ["place"] (.v "other") [(.mk (.n "other") (.e (.v "rest")) [(.cmp .NotEq (.v "other") (.v "place"))])])])) [(.app "orders" (.bin .Add (.list [(.v "place")]) (.v "order")))])]),(.ret (.v "orders"))]⟩
noncomputable def oJ:Fn:=⟨["order","far"],[(.ret (.bi .sum (.comp ["far","order"] (.sub (.sub (.v "far") (.sub (.v "order") (.bin .Sub (.v "k") (.c (.int 1))))) (.sub (.v "order") (.v "k"))) [(.mk (.n "k") (.range [(.bi .len (.v "order"))]) [])])))]⟩
noncomputable def hV:Fn:=⟨["row","ladders","rungs"],[(.asg "far" (.call "_law_far" [(.comp [] (.bi .sorted (.v "ladder")) [(.mk (.n "ladder") (.e (.v "ladders")) [])])])),(.ite (.cmp .Is (.v "far") (.c .none)) [(.ret (.c (.bool false)))] []),(.asg "shared" (.comp ["ladders"] (.v "rung") [(.mk (.n "rung") (.e (.v "rungs")) [(.cmp .Eq (.bi .len (.comp ["rung"] (.v "ladder") [(.mk (.n "ladder") (.e (.v "ladders")) [(.cmp .In (.v "rung") (.v "ladder"))])])) (.bi .len (.v "ladders")))])])),(.asg "best" (.call "_law_round" [(.v "row"),(.v "far")])),(.ite (.cmp .NotEq (.v "best") (.bin .Mult (.c (.int 2)) (.bin .Sub (.bi .len (.v "rungs")) (.bi .len (.v "shared"))))) [(.ret (.c (.bool false)))] []),(.forr (.n "order") (.e (.call "_law_orders" [(.list [(.c (.int 1)),(.c (.int 2)),(.c (.int 3)),(.c (.int 4))])])) [(.asg "way" (.call "three_way_cmp" [(.call "_law_round" [(.bin .Add (.list [(.c (.int 0))]) (.v "order")),(.v "far")]),(.v "best")])),(.ite (.bop .Or [(.cmp .IsNot (.bi .type (.v "way")) (.c (.fn (.type "int")))),(.cmp .NotIn (.v "way") (.tuple [(.c (.int 0)),(.c (.int 1))]))]) [(.ret (.c (.bool false)))] [])]),(.ret (.c (.bool true)))]⟩
noncomputable def fR:Fn:=⟨["script"],[(.asg "own" (.list [(.c (.int 74)),(.c (.int 18)),(.c (.int 203)),(.c (.int 979)),(.c (.int 9))])),(.asg "parts" (.comp ["own","script"] (.call "_law_parts" [(.bin .Add (.sub (.v "own") (.v "k")) (.bi .sum (.sl (.v "script") (.v "k") (.c .none) (.c (.int 5)))))]) [(.mk (.n "k") (.range [(.c (.int 5))]) [])])),(.asg "names" (.comp [] (.me .join (.c (.str ".")) [(.sl (.v "part") (.c .none) (.c .none) (.neg (.c (.int 1))))]) [(.mk (.n "part") (.e (.v "parts")) [])])),(.asg "hosts" (.ext "split" [(.ext "join_shlex" [(.v "names")])])),(.ite (.bop .Or [(.cmp .NotEq (.v "hosts") (.v "names")),(.cmp .NotEq (.comp [] (.sl (.ext "_law_labels" [(.v "host")]) (.c .none) (.c .none) (.neg (.c (.int 1)))) [(.mk (.n "host") (.e (.v "hosts")) [])]) (.v "parts"))]) [(.ret (.c (.bool false)))] []),(.asg "ladders" (.comp [] (.call "_law_climbed" [(.v "host")]) [(.mk (.n "host") (.e (.v "hosts")) [])])),(.ite (.cmp .NotEq (.v "ladders") (.comp [] (.call "_law_due" [(.sl (.v "part") (.c .none) (.c .none) (.neg (.c (.int 1))))]) [(.mk (.n "part") (.e (.v "parts")) [])])) [(.ret (.c (.bool false)))] []),(.asg "rungs" (.bi .sortset (.comp [] (.v "rung") [(.mk (.n "ladder") (.e (.v "ladders")) []),(.mk (.n "rung") (.e (.v "ladder")) [])]))),(.ret (.bop .And [(.call "_law_held" [(.v "hosts"),(.v "ladders"),(.v "rungs")]),(.call "_law_shortest" [(.call "_law_row" [(.v "parts")]),(.v "ladders"),(.v "rungs")])]))]⟩
noncomputable def fnL:List (String×Fn):=[("three_way_cmp",By),("is_HDN",Ca),("liberal_is_HDN",tJ),("user_domain_match",Cd),("reach",oI),("_index",tG),
 ("_law_parts",oH),("_law_climbed",jF),("_law_due",Hm),("_law_row",Cb),("_law_apart",oG),("_law_far",Bz),("_law_held",tF),("_law_orders",oS),("_law_round",oJ),("_law_shortest",hV)]
section
set_option backward.match.sparseCases true
set_option backward.eqns.nonrecursive false
structure Base(w:World)(g:Heap):Prop where
 k:(KK w.params).In g
 lim:g.NoLimit
 bi:∃ mb,g.Ns builtinsNs mb/\∀ x:Str,x≠"__name__"->mb x=bootBuiltins x
theorem Base.mono(k:g.StaysIn g')(b:Base w g):Base w g' :=
 ⟨b.k.keeps k,b.lim.keeps k,b.bi.imp λ mb q=>⟨q.1.keeps k,q.2⟩⟩
noncomputable def glK(P:Params)(x:Str):Option Value:=match nsIn (KK P) mainGlobals x with
 | some (some v)=>some v
 | some none=>if x="__name__" then none else bootBuiltins x
 | none=>none
theorem Lx(P:Params):nsOkIn (KK P) mainGlobals=true:=by kernel_rfl
section
set_option tactic.hygienic true in
theorem uA{v}(b:Base w g)(e:glK w.params x=some v)(hk:env.scope.kind=.function)(hg:env.globals=mainGlobals)(hb:env.builtins=builtinsNs)(hx:env.kindOf x=some .globalImplicit)(k:g.StaysIn s.heap)(h:Q v s):wpAny (model prog w) A (loadName env x) Q E s:=by
 have X:=b.k.keeps k;have G:s.heap.Ns mainGlobals (s.heap.nsMap mainGlobals):=.of_isNs (isNs_of_in X (Lx _));unfold loadName;simp only[Env.blockKind,hk,hx,ScopeKind.isAnnotationScope,Bool.false_and,Bool.false_eq_true,if_false];unfold glK at e;split at e
 ·rename_i u q;have q:=sj e;clear e;subst q;exact loadGlobal_global (hg▸G) (mg_of X G q) h
 ·rename_i q;split at e
  ·exact nos e
  ·rename_i hn;refine aE b.bi λ mb hm he=>?_;exact loadGlobal_builtin (hg▸G) (mg_none_of X G q) (hb▸hm.keeps k) ((he x hn).trans e) h
 ·exact nos e
end
noncomputable def cfL:Cf:=⟨["sorted_list_difference","split","_law_labels","join_shlex"],["IPV4_RE"],["shlex","StringIO"],[]⟩
noncomputable def mkF:Stmt->Fn
 | .FunctionDef _ a b _ _ _ sc _ _ _=>⟨(a.posonlyargs++a.args).map (·.arg),Pk cfL 60 sc b⟩
 | _=>⟨[],[]⟩
noncomputable def aAY(sc:Scope)(x:Str):Bool:=sc.names.lookup x==some .local||sc.names.lookup x==some .cell
noncomputable def okF:Stmt->Bool
 | .FunctionDef _ a _ _ _ _ sc _ _ _=>!sc.isCoroutine&&!sc.isGenerator&&sc.kind==.function&&decide (((a.posonlyargs++a.args).map (·.arg)).Nodup)&&((a.posonlyargs++a.args).map (·.arg)).all (aAY sc)&&decide ((sc.names.map (·.1)).Nodup)&&sc.names.all (λ y=>y.2 != .free)
 | _=>false
set_option tactic.hygienic true in
theorem Jq{a qn pm dv F}(X:(KK P).In g)(h1:(KK P).lookup a=some ⟨.type "function",none,.func (bY st qn pm (.ref c) dv),#[]⟩)(h2:∃ o vs t,(KK P).lookup c=some o/\o.data=.fields vs/\vs[1]? = some (.str qn t))(h3:okF st=true)(h4:F=mkF st)(h5:∀(S:Setting) (vals:List Value),vals.length=F.ps.length->peek (KK P) S (bindArgs (bY st qn pm (.ref c) dv) ⟨vals,[]⟩)=some (F.ps.zip vals)) :
  ∃ o fd body,g.get? a=some o/\o.data=.func fd/\FnIs g F fd body:=by
 rcases st with⟨⟩<;>first|exact nft h3|skip
 rename_i n args b d1 d2 d3 sc d4 d5 d6;simp only[okF,Bool.and_eq_true,decide_eq_true_eq,Bool.not_eq_true',beq_iff_eq,List.all_eq_true,bne_iff_ne,ne_eq,aAY,Bool.or_eq_true] at h3;refine aK h3 ?_;intro y1;refine aK y1 ?_;intro y2;refine aK y2 ?_;intro y3;refine aK y3 ?_;intro y4;refine aK y4 ?_;intro y5;refine aK y5 ?_;intro q1 q2;intro q3;intro q4;intro q5;intro q6;intro q7;refine bQ h2 ?_;intro o vs t k1 k2 k3;subst h4;exact rS _ _ b (X _ _ h1) rfl ⟨⟨c,o,vs,t,rfl,X _ _ k1,k2,k3⟩,rfl,rfl,q1,q2,q3,rfl,rfl,λ s vals k hl M A E Q hq=>(Looks.of_peek (M:=M) (X.keeps k) (h5 _ vals hl)).here hq,q4,q5,q6,q7,tA _ _ _ _⟩
end
section
set_option backward.match.sparseCases true
noncomputable def mG(P:Params)(c:Addr)(qn:Str):Bool:=match (KK P).lookup c with
 | some ⟨_,_,.fields vs,_⟩=>(match (vs[1]? : Option Value) with
  | some (Value.str q _)=>q==qn
  | _=>false)
 | _=>false
set_option tactic.hygienic true in
theorem kY{qn}(h:mG P c qn=true):∃ o vs t,(KK P).lookup c=some o/\o.data=.fields vs/\vs[1]? = some (.str qn t):=by
 unfold mG at h;split at h
 ·rename_i e;split at h
  ·rename_i q t e2;have:=eq_of_beq h;clear h;subst this;exact rS _ _ t e rfl e2
  ·exact nft h
 ·exact nft h
noncomputable def FnAt(a:Addr)(F:Fn):Prop:=∀ P:Params,∃(c:Addr) (st:Stmt) (qn:Str) (pm dv:Value),(KK P).lookup a=some ⟨.type "function",none,.func (bY st qn pm (.ref c) dv),#[]⟩/\mG P c qn=true/\okF st=true/\F=mkF st /\
 ∀(S:Setting) (vals:List Value),vals.length=F.ps.length->peek (KK P) S (bindArgs (bY st qn pm (.ref c) dv) ⟨vals,[]⟩)=some (F.ps.zip vals)
theorem FnAt.get{a F}(f:FnAt a F)(b:Base w g):∃ o fd body,g.get? a=some o/\o.data=.func fd/\FnIs g F fd body:=by
 refine Ux (f w.params) λ _ _ _ _ _ h1 h2 q1=>bU q1 λ h3 h4 h5=>?_;exact Jq b.k h1 (kY h2) h3 h4 h5
theorem gR{l:List Value}(h:l.length=1):∃ a,l=[a]:=List.length_eq_one_iff.mp h
theorem oC{l:List Value}(h:l.length=2):∃ a b,l=[a,b]:=by
 refine eX (xC h) λ a r e h=>?_;refine aB (gR h) λ b e'=>?_;exact Uu a b (e'▸e)
theorem Lc{l:List Value}(h:l.length=3):∃ a b c,l=[a,b,c]:=by
 refine eX (xC h) λ a r e h=>?_;refine gM (oC h) λ b c e'=>?_;exact aD9 a b c (e'▸e)
theorem aDA{l:List Value}(h:l.length=5):∃ a b c d e,l=[a,b,c,d,e]:=by
 refine eX (xC h) λ a r e1 h=>?_;refine eX (xC h) λ b r e2 h=>?_;refine Qc (Lc h) λ c d e e3=>?_;exact aC9 a b c d e (e3▸e2▸e1)
theorem Ic:FnAt 58 By:=λ P=>⟨57,(bO 5),"three_way_cmp",(.str "cpy313.unittest.util" 331),.none,by kernel_rfl,by kernel_rfl,by kernel_rfl,by kernel_rfl,λ S vals h=>by
 refine gM (oC h) ?_;rintro a b rfl
 kernel_rfl⟩
theorem Ig:FnAt 70 Ca:=λ P=>⟨69,(bO 8),"is_HDN",(.str "cpy313.http.cookiejar" 355),.none,by kernel_rfl,by kernel_rfl,by kernel_rfl,by kernel_rfl,λ S vals h=>by
 refine aB (gR h) ?_;rintro a rfl
 kernel_rfl⟩
theorem Eg:FnAt 77 tJ:=λ P=>⟨76,(bO 9),"liberal_is_HDN",(.str "cpy313.http.cookiejar" 355),.none,by kernel_rfl,by kernel_rfl,by kernel_rfl,by kernel_rfl,λ S vals h=>by
 refine aB (gR h) ?_;rintro a rfl
 kernel_rfl⟩
theorem Ij:FnAt 84 Cd:=λ P=>⟨83,(bO 10),"user_domain_match",(.str "cpy313.http.cookiejar" 355),.none,by kernel_rfl,by kernel_rfl,by kernel_rfl,by kernel_rfl,λ S vals h=>by
 refine gM (oC h) ?_;clear h;rintro a b rfl
 kernel_rfl⟩
theorem yY:FnAt 91 oI:=λ P=>⟨90,(bO 11),"reach",(.str "cpy313.http.cookiejar" 355),.none,by kernel_rfl,by kernel_rfl,by kernel_rfl,by kernel_rfl,λ S vals h=>by
 refine aB (gR h) ?_;rintro a rfl
 kernel_rfl⟩
theorem yW:FnAt 110 tG:=λ P=>⟨109,(bO 15),"_index",(.str "io" 459),.none,by kernel_rfl,by kernel_rfl,by kernel_rfl,by kernel_rfl,λ S vals h=>by
 refine gM (oC h) ?_;rintro a b rfl
 kernel_rfl⟩
theorem yX:FnAt 811 oH:=λ P=>⟨810,(bO 38),"_law_parts",(.str "law_il0087_01" 1343),.none,by kernel_rfl,by kernel_rfl,by kernel_rfl,by kernel_rfl,λ S vals h=>by
 refine aB (gR h) ?_;rintro a rfl
 kernel_rfl⟩
theorem tO:FnAt 825 jF:=λ P=>⟨824,(bO 40),"_law_climbed",(.str "law_il0087_01" 1343),.none,by kernel_rfl,by kernel_rfl,by kernel_rfl,by kernel_rfl,λ S vals h=>by
 refine aB (gR h) ?_;rintro a rfl
 kernel_rfl⟩
theorem Id:FnAt 832 Hm:=λ P=>⟨831,(bO 41),"_law_due",(.str "law_il0087_01" 1343),.none,by kernel_rfl,by kernel_rfl,by kernel_rfl,by kernel_rfl,λ S vals h=>by
 refine aB (gR h) ?_;rintro a rfl
 kernel_rfl⟩
theorem Ii:FnAt 839 Cb:=λ P=>⟨838,(bO 42),"_law_row",(.str "law_il0087_01" 1343),.none,by kernel_rfl,by kernel_rfl,by kernel_rfl,by kernel_rfl,λ S vals h=>by
 refine aB (gR h) ?_;rintro a rfl
 kernel_rfl⟩
theorem yV:FnAt 844 oG:=λ P=>⟨843,(bO 43),"_law_apart",(.str "law_il0087_01" 1343),.none,by kernel_rfl,by kernel_rfl,by kernel_rfl,by kernel_rfl,λ S vals h=>by
 refine gM (oC h) ?_;rintro a b rfl
 kernel_rfl⟩
theorem Ie:FnAt 849 Bz:=λ P=>⟨848,(bO 44),"_law_far",(.str "law_il0087_01" 1343),.none,by kernel_rfl,by kernel_rfl,by kernel_rfl,by kernel_rfl,λ S vals h=>by
 refine aB (gR h) ?_;rintro a rfl
 kernel_rfl⟩
theorem Ee:FnAt 856 tF:=λ P=>⟨855,(bO 45),"_law_held",(.str "law_il0087_01" 1343),.none,by kernel_rfl,by kernel_rfl,by kernel_rfl,by kernel_rfl,λ S vals h=>by
 refine Qc (Lc h) ?_;clear h;rintro a b c rfl
 kernel_rfl⟩
theorem vM:FnAt 861 oS:=λ P=>⟨860,(bO 46),"_law_orders",(.str "law_il0087_01" 1343),.none,by kernel_rfl,by kernel_rfl,by kernel_rfl,by kernel_rfl,λ S vals h=>by
 refine aB (gR h) ?_;rintro a rfl
 kernel_rfl⟩
theorem yZ:FnAt 866 oJ:=λ P=>⟨865,(bO 47),"_law_round",(.str "law_il0087_01" 1343),.none,by kernel_rfl,by kernel_rfl,by kernel_rfl,by kernel_rfl,λ S vals h=>by
 refine gM (oC h) ?_;rintro a b rfl
 kernel_rfl⟩
theorem rD:FnAt 871 hV:=λ P=>⟨870,(bO 48),"_law_shortest",(.str "law_il0087_01" 1343),.none,by kernel_rfl,by kernel_rfl,by kernel_rfl,by kernel_rfl,λ S vals h=>by
 refine Qc (Lc h) ?_;rintro a b c rfl
 kernel_rfl⟩
theorem vP:FnAt 421 vH:=λ P=>⟨420,(cW 21 2),"StringIO.__translated",(.str "io" 459),.none,by kernel_rfl,by kernel_rfl,by kernel_rfl,by kernel_rfl,λ S vals h=>by
 refine gM (oC h) ?_;rintro a b rfl
 kernel_rfl⟩
theorem vN:FnAt 428 vG:=λ P=>⟨427,(cW 21 3),"StringIO.__check",(.str "io" 459),.none,by kernel_rfl,by kernel_rfl,by kernel_rfl,by kernel_rfl,λ S vals h=>by
 refine aB (gR h) ?_;rintro a rfl
 kernel_rfl⟩
theorem zA:FnAt 590 jH:=λ P=>⟨589,(cW 21 25),"StringIO.read",(.str "io" 459),(.ref 583),by kernel_rfl,by kernel_rfl,by kernel_rfl,by kernel_rfl,λ S vals h=>by
 refine gM (oC h) ?_;rintro a b rfl
 kernel_rfl⟩
theorem Ei:FnAt 740 tK:=λ P=>⟨739,(cW 31 5),"shlex.get_token",(.str "cpy313.shlex" 1175),.none,by kernel_rfl,by kernel_rfl,by kernel_rfl,by kernel_rfl,λ S vals h=>by
 refine aB (gR h) ?_;rintro a rfl
 kernel_rfl⟩
theorem zB:FnAt 747 cY:=λ P=>⟨746,(cW 31 6),"shlex.read_token",(.str "cpy313.shlex" 1175),.none,by kernel_rfl,by kernel_rfl,by kernel_rfl,by kernel_rfl,λ S vals h=>by
 refine aB (gR h) ?_;rintro a rfl
 kernel_rfl⟩
theorem vQ:FnAt 710 Hn:=λ P=>⟨709,(cW 31 1),"shlex.punctuation_chars",(.str "cpy313.shlex" 1175),.none,by kernel_rfl,by kernel_rfl,by kernel_rfl,by kernel_rfl,λ S vals h=>by
 refine aB (gR h) ?_;rintro a rfl
 kernel_rfl⟩
noncomputable def fnT:List (Str×Fn):=[("three_way_cmp",By),("is_HDN",Ca),("liberal_is_HDN",tJ),("user_domain_match",Cd),("reach",oI),("_index",tG),("_law_parts",oH),("_law_climbed",jF),("_law_due",Hm),("_law_row",Cb),("_law_apart",oG),("_law_far",Bz),("_law_held",tF),("_law_orders",oS),("_law_round",oJ),("_law_shortest",hV)]
noncomputable def Qk(e:Str×Fn):Prop:=∃ a,(∀ P,glK P e.1=some (.ref a))/\FnAt a e.2
theorem Ez:∀ e∈fnT,Qk e:=List.forall_mem_cons.mpr ⟨⟨58,λ P=>by kernel_rfl,Ic⟩,
 List.forall_mem_cons.mpr ⟨⟨70,λ P=>by kernel_rfl,Ig⟩,
 List.forall_mem_cons.mpr ⟨⟨77,λ P=>by kernel_rfl,Eg⟩,
 List.forall_mem_cons.mpr ⟨⟨84,λ P=>by kernel_rfl,Ij⟩,
 List.forall_mem_cons.mpr ⟨⟨91,λ P=>by kernel_rfl,yY⟩,
 List.forall_mem_cons.mpr ⟨⟨110,λ P=>by kernel_rfl,yW⟩,
 List.forall_mem_cons.mpr ⟨⟨811,λ P=>by kernel_rfl,yX⟩,
 List.forall_mem_cons.mpr ⟨⟨825,λ P=>by kernel_rfl,tO⟩,
 List.forall_mem_cons.mpr ⟨⟨832,λ P=>by kernel_rfl,Id⟩,
 List.forall_mem_cons.mpr ⟨⟨839,λ P=>by kernel_rfl,Ii⟩,
 List.forall_mem_cons.mpr ⟨⟨844,λ P=>by kernel_rfl,yV⟩,
 List.forall_mem_cons.mpr ⟨⟨849,λ P=>by kernel_rfl,Ie⟩,
 List.forall_mem_cons.mpr ⟨⟨856,λ P=>by kernel_rfl,Ee⟩,
 List.forall_mem_cons.mpr ⟨⟨861,λ P=>by kernel_rfl,vM⟩,
 List.forall_mem_cons.mpr ⟨⟨866,λ P=>by kernel_rfl,yZ⟩,
 List.forall_mem_cons.mpr ⟨⟨871,λ P=>by kernel_rfl,rD⟩,
 λ _ h=>(nomatch h)⟩⟩⟩⟩⟩⟩⟩⟩⟩⟩⟩⟩⟩⟩⟩⟩
end
section
set_option tactic.hygienic true in
theorem Fz{es:Array DictEntry}{ep:Nat}{m:Str->Option Value}{o:Obj}(hd:o.data=.dict es ep)(hk:StrKeys es)(hf:∀ y,nsFind es y=m y):lookIn x o=some (m x):=by
 unfold lookIn;rw[hd];dsimp only;have e:=hf x;unfold nsFind findBy at e;rw[<- Array.find?_toList] at e;split
 ·rename_i en he;rw[he] at e;rw[<- e];rfl
 ·rename_i he;rw[he] at e;have:es.toList.any (·.refKey)=false:=by
   rw[List.any_eq_false];intro y hy;refine gM (hk y (Array.mem_toList_iff.mp hy)) λ n t h=>?_;simp[DictEntry.refKey,h]
  rw[this];simp only[Bool.false_eq_true,if_false];rw[<- e];rfl
theorem Ss{M a m k name v Q}(hn:NsB s.heap a m k)(h:∀ h',NsB h' a (λ x=>if x=name then some v else m x) (if(m name).isSome then k else k+1)->Heap.SameBut a s.heap h'->Q () { s with heap:=h',toks:=s.toks+1 }):wpAny M A (nsSet a name v) Q E s:=by
 obtain⟨o,es,ep,ho,hd,hk,hm,hz⟩:=hn;unfold nsSet;refine wB (wB (wpAny_askSetting (wP (wB (wpAny_mkText (wB (wpAny_loadPart ho ?_)))))));have hany:es.any (·.refKey)=false:=by
  rw[Array.any_eq_false'];intro e he;refine gM (hk e he) λ n t h=>?_;simp[DictEntry.refKey,h]
 rw[hd];dsimp only;rw[aRefKeyMayBeTheName_at,hany,Bool.and_false];refine wpAny_updatePart ho (h _ ?_ (Heap.SameBut.update ..));obtain⟨c,d,dt,sl⟩:=o;subst hd;have hmn:(m name).isSome=(es.findIdx? (·.key.isStr name)).isSome:=by
  rw[<- hm name,nsFind,findBy_of_findIdx?];cases hi:es.findIdx? (·.key.isStr name) with
  | none=>rfl
  | some i =>
   obtain⟨hj,_⟩:=Array.findIdx?_eq_some_iff_getElem.mp hi;simp[Array.getElem?_eq_getElem hj]
 cases hi:es.findIdx? (·.key.isStr name) with
 | some i =>
  refine⟨_,_,ep,Heap.get?_update_self _ ho (by simp only[Obj.putName_eq,Obj.putNameByArray,hi];rfl),by simp only[Obj.putName_eq,Obj.putNameByArray,hi];rfl,hk.modify _ _,λ x=>?_,by rw[hmn,hi,Array.size_modify];exact hz⟩
  show _=if x=name then some v else m x
  rw[<- hm];exact findBy_modify (λ n v=>v.isStr n) Value.isStr_inj es name x v i hi
 | none =>
  refine⟨_,_,ep+1,Heap.get?_update_self _ ho (by simp only[Obj.putName_eq,Obj.putNameByArray,hi];rfl),by simp only[Obj.putName_eq,Obj.putNameByArray,hi];rfl,hk.push _ _ _ _,λ x=>?_,by rw[hmn,hi,Array.size_push];exact Nat.succ_le_succ hz⟩
  show _=if x=name then some v else m x
  rw[<- hm];exact findBy_push (λ n v=>v.isStr n) es name x _ _ v (λ y=>by
   show(name==y)=decide (y=name);by_cases h:y=name
   ·subst h;simp
   ·have:¬ name=y:=λ e=>h e.symm;simp[h,this]) hi
section
variable{K:Frag}{x C d:Addr}{m:Str->Option Value}
theorem lK{h:Heap}(hx:h.get? x=some (gX C d))(hn:h.Ns d m):∃ od,InstAt h x (gX C d) C (some od)/\∀ a,lookIn a od=some (m a) :=
 let⟨o,_,_,ho,hd,hk,hf⟩:=hn
 ⟨o,⟨hx,rfl,rfl,ho⟩,λ _=>Fz hd hk hf⟩
theorem wM{a v}(X:K.In s.heap)(hga:findIn K (.ref C) "__getattribute__"=some (some (.builtin "object.__getattribute__")))(hh:hasDictIn K C=true)(ha:findIn K (.ref C) a=some none)(hx:s.heap.get? x=some (gX C d))(hn:s.heap.Ns d m)(hv:m a=some v)(nb:∀ i,v≠.builtin i)(h:∀ tk,Q v { s with toks:=tk }):wpAny (model prog w) A (getAttr (.ref x) a true) Q E s:=by
 refine aE (lK hx hn) λ od I hl=>?_;refine get_value X I hga (findObj_own hh ha rfl ((hl a).trans (by rw[hv]))) ?_ (h _)
 rcases v with⟨⟩<;>first|rfl|exact absurd rfl (nb _)
theorem uN{name f pl Q}(X:K.In s.heap)(hga:findIn K (.ref C) "__getattribute__"=some (some (.builtin "object.__getattribute__")))(hk:findIn K (.ref C) "__getattr__"=some none)(hf:findIn K (.ref C) name=some (some (.ref f)))(ht:typeIn K (.ref f)=some (.type "function"))(hx:s.heap.get? x=some (gX C d))(hn:s.heap.Ns d m)(hm:m name=none)(h:Q (.ref f,[.ref x]) s) :
  wpAny (model prog w) A (getMethod (.ref x) name pl) Q E s:=by
 refine aE (lK hx hn) λ od I hl=>?_;exact method_fn X I hga hk hf ht (by show(lookIn name od).map _=_;rw[hl,hm];rfl) h
theorem Ok{name v k Q}(X:K.In s.heap)(hs:findIn K (.ref C) "__setattr__"=some (some (.builtin "object.__setattr__")))(hp:plainOver K C=true)(ht:takerIn K C name=some none)(hh:(clsIn K C).any (·.hasDict)=true)(hx:s.heap.get? x=some (gX C d))(hn:NsB s.heap d m k)(hk:k<100000)(ne:x≠d)(h:∀ h' tk,Heap.SameBut d s.heap h'->NsB h' d (λ y=>if y=name then some v else m y) (if(m name).isSome then k else k+1)->Q () { s with heap:=h',toks:=tk }) :
  wpAny (model prog w) A (setAttr (.ref x) name v) Q E s:=by
 refine aE (lK hx hn.ns) λ od I hl=>?_;refine set_plain X I hs (osa_open (s:={ s with toks:=s.toks+1 }) X I hp ht λ b=>?_);refine aE (any_some hh) λ cd hc hd'=>?_;obtain⟨hp0,g0,dr0,t0,os0⟩:=s;dsimp only at hx hn hc X;refine wB (wP (wB (wB (wpAny_loadPart hx (wB (Looks.here (s:=⟨hp0,g0,dr0,t0+1,os0⟩) (looks_clsIn X hc) ?_))))));rw[hd'];refine wP (a:=some d) (wB (wP (wB ?_)));refine Ss (s:=⟨hp0,g0,dr0,t0+1,os0⟩) hn λ h' hn' hsb=>?_;obtain⟨o',es',ep',D',hd2,_,_,hz'⟩:=id hn';refine wB (wpAny_lookBehind D' (by rw[hd2];exact pastItsLine_dict (by rw[sizeLine_eq];split at hz'<;>(first|exact lx2 ‹_› ‹_› (by rfl)|exact lx4 ‹_› ‹_› (by rfl)))) ?_)
 exact wP (h _ _ hsb hn')
end
end
noncomputable def Pv:List Str:=["instream","infile","posix","eof","commenters","wordchars","whitespace","whitespace_split","quotes","escape","escapedquotes","state","pushback","lineno","debug","token","filestack","source","_punctuation_chars"]
noncomputable def Od:List Str:=["_StringIO__newline","_StringIO__buf","_StringIO__pos"]
noncomputable def Ar(C:Addr)(a:Str):Bool:=if C=779 then Pv.contains a else if C=644 then Od.contains a else false
noncomputable def Lw(P:Params)(C:Addr)(l:List Str):Bool:=l.all λ a=>decide (findIn (KK P) (.ref C) a=some none)
structure ClsFacts(P:Params)(C:Addr):Prop where
 ga:findIn (KK P) (.ref C) "__getattribute__"=some (some (.builtin "object.__getattribute__"))
 gt:findIn (KK P) (.ref C) "__getattr__"=some none
 sa:findIn (KK P) (.ref C) "__setattr__"=some (some (.builtin "object.__setattr__"))
 hd:hasDictIn (KK P) C=true
 po:plainOver (KK P) C=true
theorem gO(P:Params):ClsFacts P 779:=⟨by kernel_rfl,by kernel_rfl,by kernel_rfl,by kernel_rfl,by kernel_rfl⟩
theorem oL(P:Params):ClsFacts P 644:=⟨by kernel_rfl,by kernel_rfl,by kernel_rfl,by kernel_rfl,by kernel_rfl⟩
theorem aAk(P:Params):Lw P 779 Pv=true:=by kernel_rfl
theorem aAj(P:Params):Lw P 644 Od=true:=by kernel_rfl
theorem fH(P:Params){C a}(h:Ar C a=true):ClsFacts P C/\findIn (KK P) (.ref C) a=some none:=by
 unfold Ar at h;split at h
 ·rename_i e;subst e;exact aY (gO P) (of_decide_eq_true (List.all_eq_true.mp (aAk P) a (List.contains_iff_mem.mp h)))
 ·split at h
  ·rename_i e;subst e;exact aY (oL P) (of_decide_eq_true (List.all_eq_true.mp (aAj P) a (List.contains_iff_mem.mp h)))
  ·exact nft h
noncomputable def aCe:List (Addr×Str×Addr×Fn):=[(779,"get_token",740,tK),(779,"read_token",747,cY),(644,"read",590,jH),(644,"_StringIO__check",428,vG),(644,"_StringIO__translated",421,vH)]
noncomputable def aAf(C:Addr)(m:Str):Option Fn:=(aCe.find? λ e=>decide (e.1=C)&&e.2.1==m).map (·.2.2.2)
noncomputable def Vo(e:Addr×Str×Addr×Fn):Prop:=(∀ P,ClsFacts P e.1)/\(∀ P,findIn (KK P) (.ref e.1) e.2.1=some (some (.ref e.2.2.1)))/\(∀ P,typeIn (KK P) (.ref e.2.2.1)=some (.type "function"))/\FnAt e.2.2.1 e.2.2.2
theorem Sk:∀ e∈aCe,Vo e:=List.forall_mem_cons.mpr ⟨⟨gO,λ P=>by kernel_rfl,λ P=>by kernel_rfl,Ei⟩,List.forall_mem_cons.mpr ⟨⟨gO,λ P=>by kernel_rfl,λ P=>by kernel_rfl,zB⟩,
 List.forall_mem_cons.mpr ⟨⟨oL,λ P=>by kernel_rfl,λ P=>by kernel_rfl,zA⟩,List.forall_mem_cons.mpr ⟨⟨oL,λ P=>by kernel_rfl,λ P=>by kernel_rfl,vN⟩,List.forall_mem_cons.mpr ⟨⟨oL,λ P=>by kernel_rfl,λ P=>by kernel_rfl,vP⟩,λ _ h=>(nomatch h)⟩⟩⟩⟩⟩
theorem Lo{C F}(h:aAf C m=some F):∃ f,Vo (C,m,f,F):=by
 unfold aAf at h;refine aE (Option.map_eq_some_iff.mp h) ?_;rintro⟨c,n,f,G⟩ he rfl;have hb:=List.find?_some he;simp only[Bool.and_eq_true,decide_eq_true_eq,beq_iff_eq] at hb;refine aK hb ?_;clear hb;clear h;rintro rfl rfl;exact bM f (Sk _ (List.mem_of_find?_eq_some he))
noncomputable def Nn(C:Addr)(a:Str):Option Str:=if C=779/\a="punctuation_chars" then some "_punctuation_chars" else none
theorem As(P:Params):findIn (KK P) (.ref 779) "punctuation_chars"=some (some (.ref 711))/\specialIn (KK P) (.ref 711) "__get__"=some (some (.builtin "property.__get__"))/\takesIn (KK P) (.ref 711)=some true /\
  ∃ rest,recIn (KK P) 711 "property"=some (.ref 710::rest):=⟨by kernel_rfl,by kernel_rfl,by kernel_rfl,[.none,.none,.none,.str "punctuation_chars" 1208,.bool false],by kernel_rfl⟩
section
theorem yN(b:Base w g){x d m v}(hroom:A.depth<recursionLimit)(k:g.StaysIn s.heap)(hx:s.heap.get? x=some (gX 779 d))(hn:s.heap.Ns d m)(hv:m "_punctuation_chars"=some v)(nb:∀ i,v≠.builtin i)(h:∀ h' tk,s.heap.StaysIn h'->R (.ok (.ret v)) { s with heap:=h',toks:=tk }):codeAny (model prog w) A (.call (.ref 710) ⟨[.ref x],[]⟩) R s:=by
 refine bQ (vQ.get b) λ o fd body h1 h2 hf=>?_;refine zS hf hroom (b.lim.keeps k) (H:=[]) (ρ:=[]) (σ:=[]) (.nil λ _ q=>nomatch q) (vs:=[.fn (.ref x)]) (.cons (.frozen (.fn _)) .nil) (hf.bind s [.ref x] k rfl) k (k _ _ h1) h2 λ h₁ tk env oc I Fx' En=>?_;have kp:s.heap.StaysIn h₁:=En.keep;have tr:=hf.tr;refine bB tr.inv ?_;clear tr;rintro _ _ rfl t tn;have q:_=_:=tn.inv;clear tn;subst q;refine eX t.inv ?_;clear t;rintro _ _ rfl te;refine bB te.inv ?_;clear te;rintro _ _ rfl to hb;refine rB to.inv ?_;clear to;clear hf;rintro _ rfl hk hd hc;refine wpAny_execs_cons (wpAny_Return_some ?_);dsimp only [arm_eval_Attribute,hb];refine wB (wpAny_Name (cS hk hc (v:=.fn (.ref x)) (by rfl) Fx' I λ rx rr=>?_) hd)
 have rx':rx=.ref x:=by
  have q:_=_:=rr.inv;clear rr;subst q;rfl
 clear rr;subst rx';refine wB (wpAny_standAt (wB (wpAny_holding ?_)));have X':=(b.k.keeps k).keeps kp;refine wM (s:={ s with heap:=h₁,toks:=tk }) X' (gO _).ga (gO _).hd (fH _ (C:=779) (a:="_punctuation_chars") (by decide +kernel)).2 (kp _ _ hx) (hn.keeps kp) hv nb λ tk2=>?_
 exact wB (wpAny_letTemporaryGo (wP (h h₁ tk2 kp)))
theorem Tf(b:Base w g){F x d m v}(C:CxB (Base w) 8 A s.heap H F)(k:g.StaysIn s.heap)(hx:s.heap.get? x=some (gX 779 d))(hn:s.heap.Ns d m)(hv:m "_punctuation_chars"=some v)(nb:∀ i,v≠.builtin i)(h:∀ h' tk,s.heap.StaysIn h'->Q v { s with heap:=h',toks:=tk }):wpAny (model prog w) A (getAttr (.ref x) "punctuation_chars" true) Q E s:=by
 refine aE (lK hx hn) λ od I hl=>?_;have X:=b.k.keeps k;refine kR (As w.params) λ p1 p2 p3 q1=>aB q1 λ rest p4=>?_;refine get_bind X I (gO _).ga (findObj_data (by refine aE (any_some (gO w.params).hd) λ cd hc _=>?_;rw[hc];rfl) p1 p2 p3) (gO _).gt (wpAny_call (prop_get (s:={ s with toks:=s.toks+1 }) X p4 ?_))
 refine yN (s:={ s with toks:=s.toks+1 }) b (by have:=C.dp;simp only[Around.in1_depth];exact ll6 ‹_›) k hx hn hv nb λ h' tk kk=>?_
 exact handed_on (by rcases v with⟨⟩<;>first|rfl|exact absurd rfl (nb _)) (h h' tk kk)
end
theorem Cw{qn}{pm dv cv}{ps:List Str}{dvs:List Value}{k:Nat}(X:(KK P).In g)(h5:∀(S:Setting) (vals:List Value),vals.length=k->peek (KK P) S (bindArgs (bY st qn pm cv dv) ⟨vals,[]⟩)=some (ps.zip (vals++dvs)))(s:Shared)(vals:List Value)(ks:g.StaysIn s.heap)(hl:vals.length=k) :
  BindsTo s (bY st qn pm cv dv) ⟨vals,[]⟩ (ps.zip (vals++dvs)):=λ M A E Q hq=>(Looks.of_peek (M:=M) (X.keeps ks) (h5 _ vals hl)).here hq
set_option tactic.hygienic true in
theorem Jr{qn pm dv F}(X:(KK P).In g)(h2:mG P c qn=true)(h3:okF st=true)(h4:F=mkF st)(h5:∀(S:Setting) (vals:List Value),vals.length=F.ps.length->peek (KK P) S (bindArgs (bY st qn pm (.ref c) dv) ⟨vals,[]⟩)=some (F.ps.zip vals)):∃ body,FnIs g F (bY st qn pm (.ref c) dv) body:=by
 rcases st with⟨⟩<;>try(simp[okF] at h3;done)
 rename_i n args b d1 d2 d3 sc d4 d5 d6;simp only[okF,Bool.and_eq_true,decide_eq_true_eq,Bool.not_eq_true',beq_iff_eq,List.all_eq_true,bne_iff_ne,ne_eq,aAY,Bool.or_eq_true] at h3;refine aK h3 ?_;intro y1;refine aK y1 ?_;intro y2;refine aK y2 ?_;intro y3;refine aK y3 ?_;intro y4;refine aK y4 ?_;intro y5;refine aK y5 ?_;intro q1 q2;intro q3;intro q4;intro q5;intro q6;intro q7;refine bQ (kY h2) λ o vs t k1 k2 k3=>?_;subst h4;exact bM b ⟨⟨c,o,vs,t,rfl,X _ _ k1,k2,k3⟩,rfl,rfl,q1,q2,q3,rfl,rfl,λ s vals k hl M A E Q hq=>(Looks.of_peek (M:=M) (X.keeps k) (h5 _ vals hl)).here hq,q4,q5,q6,q7,tA _ _ _ _⟩
noncomputable abbrev xFd:FuncData:=bY (cW 31 0) "shlex.__init__" (.str "cpy313.shlex" 1175) (.ref 702) (.ref 696)
noncomputable abbrev sFd:FuncData:=bY (cW 21 1) "StringIO.__init__" (.str "io" 459) (.ref 413) (.ref 407)
theorem Pw(P:Params):(KK P).lookup 703=some ⟨.type "function",none,.func xFd,#[]⟩:=by kernel_rfl
theorem aAD(P:Params):(KK P).lookup 414=some ⟨.type "function",none,.func sFd,#[]⟩:=by kernel_rfl
theorem Py(b:Base w g):∃ body,FnIs g eY xFd body:=Jr b.k (by kernel_rfl) (by kernel_rfl) (by kernel_rfl) λ S vals h=>by
 refine aDd (aDA h) ?_;clear h;rintro a b c d e rfl
 kernel_rfl
theorem aAE(b:Base w g):∃ body,FnIs g kW sFd body:=Jr b.k (by kernel_rfl) (by kernel_rfl) (by kernel_rfl) λ S vals h=>by
 refine Qc (Lc h) ?_;clear h;rintro a b c rfl
 kernel_rfl
theorem Of(P:Params)(S:Setting)(vals:List Value)(h:vals.length=2):peek (KK P) S (bindArgs sFd ⟨vals,[]⟩)=some (kW.ps.zip (vals++[.str "\n" 844])):=by
 refine gM (oC h) ?_;rintro a b rfl
 kernel_rfl
theorem Px(P:Params)(S:Setting)(vals:List Value)(h:vals.length=2):peek (KK P) S (bindArgs xFd ⟨vals,[]⟩)=some (eY.ps.zip (vals++[.none,.bool false,.bool false])):=by
 refine gM (oC h) ?_;rintro a b rfl
 kernel_rfl
theorem Ku(P:Params):keepIn (KK P) (.ref 779)=true:=by kernel_rfl
theorem Zi(P:Params):keepIn (KK P) (.ref 644)=true:=by kernel_rfl
theorem Se(P:Params):makesIn (KK P) 779=true:=by kernel_rfl
theorem Kk(P:Params):findIn (KK P) (.ref 779) "__init__"=some (some (.ref 703))/\typeIn (KK P) (.ref 703)=some (.type "function"):=⟨by kernel_rfl,by kernel_rfl⟩
section
theorem qZ(A:Around)(C:Addr)(vals:List Value)(kw:List (Str×Value)):A.under (.builtin "type.__call__" ⟨.ref C::vals,kw⟩)={ A with depth:=A.depth+1,units:=A.units+1 }:=by
 rfl
theorem sM{h d}(e:h.get? d=some emptyDict):NsB h d (λ _=>none) 0:=⟨_,#[],0,e,rfl,(λ _ h=>by simp at h),(λ _=>rfl),Nat.le_refl _⟩
theorem Li(b:Base w g){kw}(k:g.StaysIn s.heap)(h:∀ h₁ tk x d,s.heap.StaysIn h₁->s.heap.get? x=none->s.heap.get? d=none->x≠d->h₁.get? x=some (gX 779 d)->NsB h₁ d (λ _=>none) 0->∀ A',(∃ k≤4,∃ j≤1,A'={ A with depth:=A.depth+j,units:=A.units+k }) ->
   codeAny (model prog w) A' (.call (.ref 703) ⟨.ref x::rvs,kw⟩) (λ r s'=>match r with|.ok (.ret v)=>v=.none/\Q (.ref x) s'|_=>False) { s with heap:=h₁,toks:=tk }) :
  wpAny (model prog w) A (call (.ref 779) rvs kw) Q E s:=by
 obtain⟨hp,g0,d0,t0,os0⟩:=s;have X:=b.k.keeps k;refine wpAny_call (make_core (makes_of X (Se _)) (looks_findIn X (Kk _).1) (λ self=>bind_fn X self (Kk _).2) (.inl rfl) ?_);have ge:∀ a,hp.objs.size≤a->hp.get? a=none:=λ a ha=>by
  cases q:hp.get? a with
  | none=>rfl
  | some o=>exact absurd (Heap.lt_size q) (Nat.not_lt.mpr ha)
 have e1:((hp.push emptyDict).push (instObj 779 hp.objs.size)).get? hp.objs.size=some emptyDict:=Heap.get?_push_of_some _ (Heap.get?_push_size _ rfl);have e2:((hp.push emptyDict).push (instObj 779 hp.objs.size)).get? (hp.objs.size+1)=some (instObj 779 hp.objs.size):=by
  have:((hp.push emptyDict).push (instObj 779 hp.objs.size)).get? (hp.push emptyDict).objs.size=some (instObj 779 hp.objs.size):=Heap.get?_push_size _ rfl
  rwa [Heap.size_push] at this
 rw[qZ];refine codeAny_mono (h _ t0 (hp.objs.size+1) hp.objs.size (λ b o e=>Heap.get?_push_of_some _ (Heap.get?_push_of_some _ e)) (ge _ (Nat.le_succ _)) (ge _ (Nat.le_refl _)) (Nat.succ_ne_self _) e2 (sM e1) _ ⟨1,by exact Nat.le_add_left _ _,1,by exact Nat.le_add_left _ _,rfl⟩) λ r s' z=>?_
 rcases r with e|(v|_|_|_)<;>first|exact z.elim|exact z
end
section
theorem dC{t:Sem α}{r:α}(X:(KK w.params).In g)(e:∀ p:Program,peek (KK w.params) ⟨p,w.params⟩ t=some r):Looks (model prog w) g t r:=Looks.of_peek X (e _)
noncomputable def Je:ClassData:={ name:="StringIO",bases:=[.ref 167],mro:=[.ref 644,.ref 167,.ref 140,.type "object"],ns:=643,qualname:="StringIO" }
theorem tR(P:Params):(KK P).lookup 644=some ⟨.type "type",none,.cls Je,#[some (.ref 400),none,some (.str "StringIO" 829),some (.str "StringIO" 837),some .none,some (.bool true)]⟩:=by kernel_rfl
theorem aCg{h}{g}{d}{t}{os:OsState}(X:(KK w.params).In h)(hq:R (.ok (.ret (.ref (h.objs.size+1)))) ⟨(h.push emptyDict).push (instObj 644 h.objs.size),g,d,t,os⟩) :
  codeAny (model prog w) A (.call (.builtin "object.__new__") ⟨[.ref 644],[]⟩) R ⟨h,g,d,t,os⟩:=by
 have F:=PySem.F.objNew;refine codeAny_call_builtin_code (Code.quiet_builtin _ F.quiet) ?_;refine Looks.at (dC (r:=()) X λ p=>by kernel_rfl) ?_
 refine codeAny_builtin F.entry ?_;unfold Builtin.«object.__new__»;have hC:=X 644 _ (tR w.params);have fin:∀ A',wpAny (model prog w) A' (do
   let d <- if typeHasDict (.ref 644) then some <$> alloc { cls:=.type "dict",data:=.dict #[] } else pure none
   ret (<- newObj (.ref 644) .plain d)) (λ fin s'=>match fin with|.done f=>R (.ok f) s'|.again c'=>c'.quiet=true/\codeAny (model prog w) A c' R s') (λ e s'=>R (.error e) s') ⟨h,g,d,t,os⟩:=by
  intro A';show wpAny _ _ ((alloc emptyDict >>= λ x=>pure (some x)) >>= _) _ _ _;refine wB (wB (wpAny_alloc (wP (wB ?_))));show wpAny _ _ (newObjAsIs _ _ _) _ _ _;unfold newObjAsIs classHasDel;refine wB (wpAny_alloc (wB (wB (wpAny_load (Heap.get?_push_of_some _ (Heap.get?_push_of_some _ hC)) (wP ?_)))));refine wP (wP ?_);show R _ _;rw[Heap.size_push];exact hq
 have L1:Looks (model prog w) h (isType (.ref 644)) true:=dC X λ p=>by kernel_rfl
 have L2:Looks (model prog w) h (Bind.madeHere "object.__new__" (.ref 644)) ():=dC X λ p=>by kernel_rfl
 have L3:Looks (model prog w) h (classData 644) Je:=dC X λ p=>by kernel_rfl
 repeat (first|dsimp only [show Je.abstract=false from rfl,Bool.false_eq_true,if_false]|exact fin _|lk)
end
noncomputable abbrev jR:FuncData:=bY (cW 17 1) "IOBase.__new__" (.str "io" 459) (.ref 136) .none
theorem Su(P:Params):(KK P).lookup 137=some ⟨.type "function",none,.func jR,#[]⟩:=by kernel_rfl
theorem Sv(a v:Value):bindArgs jR ⟨[a,v],[]⟩=(newTuple [v] >>= λ t=>alloc { cls:=.type "dict",data:=.dict #[] } >>= λ d=>pure [(("cls":Str),a),(("args":Str),t),(("kwargs":Str),.ref d)]):=by kernel_rfl
noncomputable def Ak:List Stmt:=match cW 17 1 with
 | .FunctionDef _ _ b _ _ _ _ _ _ _=>b
 | _=>[]
theorem Sw:jR.body=.stmts Ak:=by kernel_rfl
theorem Lz:∃ p1 p2 p3 p4 p5 p6 p7 b1 p8 p9 p10 p11 p12 p13,Ak=[.If (.BoolOp .And [.Compare (.Name "cls" p1) [.IsNot] [.Name "BytesIO" p2] p3,.Compare (.Name "cls" p4) [.IsNot] [.Name "StringIO" p5] p6] p7) b1 [] p8,
  .Return (some (.Call (.Attribute (.Name "object" p9) "__new__" p10) [.Name "cls" p11] [] p12)) p13]/\(p10.endLine==p12.line)=true:=⟨_,_,_,_,_,_,_,_,_,_,_,_,_,_,rfl,rfl⟩
theorem Ly:jR.scope.isCoroutine=false/\jR.scope.isGenerator=false/\jR.scope.kind=.function/\jR.scope.names.lookup ("cls":Str)=some .local/\jR.scope.names.lookup ("args":Str)=some .local/\jR.scope.names.lookup ("kwargs":Str)=some .local /\
  jR.scope.names.lookup ("BytesIO":Str)=some .globalImplicit/\jR.scope.names.lookup ("StringIO":Str)=some .globalImplicit/\jR.scope.names.lookup ("object":Str)=some .globalImplicit:=⟨by kernel_rfl,by kernel_rfl,by kernel_rfl,by kernel_rfl,by kernel_rfl,by kernel_rfl,by kernel_rfl,by kernel_rfl,by kernel_rfl⟩
theorem Sz{h}(X:(KK P).In h):h.CodeRec (.ref 136) "IOBase.__new__":=by
 refine bQ (kY (P:=P) (c:=136) (qn:="IOBase.__new__") (by kernel_rfl)) λ o vs t e1 e2 e3=>?_
 exact jD 136 o vs t rfl (X _ _ e1) e2 e3
theorem Al:findCls [] (.type "object") (.type "type") "__new__"=some (.val (.builtin "object.__new__")):=by kernel_rfl
theorem Cz(P:Params):glK P "BytesIO"=some (.ref 397)/\glK P "StringIO"=some (.ref 644)/\glK P "object"=some (.type "object"):=⟨by kernel_rfl,by kernel_rfl,by kernel_rfl⟩
theorem xM:Manifest.isStub "object"=false:=by decide +kernel
theorem xL:handedIn (.builtin "object.__new__")=true:=by decide +kernel
theorem Ir(P:Params):(KK P).lookup 397=some (((KK P).lookup 397).getD default):=by kernel_rfl
section
theorem uO{K T name v pl Q}(X:K.In s.heap)(ht:typeOf (.type T)=pure (.type "type"))(hs:Manifest.isStub T=false)(e:findCls K (.type T) (.type "type") name=some (.val v))(hh:handedIn v=true)(h:Q (v,[]) { s with toks:=s.toks+1 }):wpAny (model prog w) A (getMethod (.type T) name pl) Q E s:=by
 have hstub:opaqueClassAbove (.type T)=pure none:=by unfold opaqueClassAbove;dsimp only;rw[hs];rfl
 have L0:Looks (model prog w) s.heap (typeOf (.type T)) (.type "type"):=Looks.of_pure ht;have hg:findIn K (.type "type") "__getattribute__"=some (some (.builtin "type.__getattribute__")):=type_tga;unfold getMethod specialOf;refine wB (wB (L0.here ((looks_findIn X hg).here ?_)));dsimp only;rw[if_pos canon_tga];refine wB (wpAny_mono (Q:=λ v=>Q (v,[])) (E:=E) ?_ (λ _ _ z=>wP z) λ _ _ z=>z);have LO:Looks (model prog w) s.heap (opaqueClassAbove (.type T)) none:=Looks.of_pure hstub;refine cls_open X LO L0 hg (looks_hook X (r:=none) (by rfl)) (by show subIn K _ _=_;rfl) e
  (wP (by show wpAny _ _ (handedOut v) _ _ _;rw[handedOut_of hh];exact wP h))
theorem Ta{m}(b:Base w g)(k:g.StaysIn s.heap)(hk:env.scope.kind=.function)(hg:env.globals=mainGlobals)(hb:env.builtins=builtinsNs)(hc:env.kindOf "cls"=some .local)(h1:env.kindOf "BytesIO"=some .globalImplicit)(h2:env.kindOf "StringIO"=some .globalImplicit)(h3:env.kindOf "object"=some .globalImplicit)(ns:s.heap.Ns env.locals m)(hm:m "cls"=some (.ref 644)){Q}(h:∀ h₁ tk x d,s.heap.StaysIn h₁->s.heap.get? x=none->s.heap.get? d=none->x≠d->h₁.get? x=some (gX 644 d)->NsB h₁ d (λ _=>none) 0->Q (.ret (.ref x)) { s with heap:=h₁,toks:=tk }):wpAny (model prog w) A (execs Ak env) Q E s:=by
 have X1:=b.k.keeps k;have kf:∀{y:Str},env.kindOf y=some .globalImplicit->∀{u:Value} {p:Pos} {A':Around} {tk:Nat} {Q E:Value->Shared->Prop},glK w.params y=some u->(y=="__debug__")=false->Q u { s with toks:=tk }->wpAny (model prog w) A' (eval (.Name y p) env) Q E { s with toks:=tk } :=
  λ hy=>λ{_ _ _ _ _ _} e hd q=>wpAny_Name (uA b e hk hg hb hy k q) hd
 have hcls:∀{p:Pos} {A':Around} {tk:Nat} {Q E:Value->Shared->Prop},Q (.ref 644) { s with toks:=tk }->wpAny (model prog w) A' (eval (.Name "cls" p) env) Q E { s with toks:=tk } :=
  λ q=>wpAny_Name (wpAny_loadName_local hk hc ns hm q) (by decide)
 refine kT Lz λ p1 p2 p3 p4 p5 p6 p7 y1=>kT y1 λ b1 p8 p9 p10 p11 p12 p13 y2=>aK y2 λ eb el=>?_;rw[eb];have ob1:=X1 397 _ (Ir w.params);have ob2:=X1 644 _ (tR w.params);refine wpAny_execs_cons (wpAny_If (wpAny_isTrue_BoolOp (wpAny_allTrue_And_cons (wpAny_isTrue_Compare1 (hcls (tk:=s.toks) (kf h1 (Cz _).1 (by decide) ?_)) rfl))))
 refine wpAny_isNot_ref_other (by decide) ob2 ob1 (by decide) (wpAny_truthy_bool ?_)
 refine wpAny_allTrue_And_cons (wpAny_isTrue_Compare1 (hcls (tk:=s.toks) (kf h2 (Cz _).2.1 (by decide) ?_)) rfl)
 refine wpAny_isNot_ref_self (wpAny_truthy_bool ?_);refine wpAny_execs_nil (wpAny_execs_cons (wpAny_Return_some ?_));refine iS rfl rfl el (kf (tk:=s.toks) h3 (Cz _).2.2 (by decide) λ pl=>?_)
 refine uO (T:="object") (name:="__new__") (v:=.builtin "object.__new__") (K:=[]) (λ _ _ e=>nomatch e) meta_object xM Al xL ?_;refine eG (P:=λ _=>True) rfl cH ?_;refine spliced_cons (hcls (spliced_nil ⟨trivial,?_⟩));obtain⟨hp,g0,d0,t0,os0⟩:=s;refine wpAny_call (aCg X1 ?_);have ge:∀ a,hp.objs.size≤a->hp.get? a=none:=λ a ha=>by
  cases q:hp.get? a with
  | none=>rfl
  | some o=>exact absurd (Heap.lt_size q) (Nat.not_lt.mpr ha)
 have e1:((hp.push emptyDict).push (instObj 644 hp.objs.size)).get? hp.objs.size=some emptyDict:=Heap.get?_push_of_some _ (Heap.get?_push_size _ rfl);have e2:((hp.push emptyDict).push (instObj 644 hp.objs.size)).get? (hp.objs.size+1)=some (instObj 644 hp.objs.size):=by
  have:((hp.push emptyDict).push (instObj 644 hp.objs.size)).get? (hp.push emptyDict).objs.size=some (instObj 644 hp.objs.size):=Heap.get?_push_size _ rfl
  rwa [Heap.size_push] at this
 exact h _ _ (hp.objs.size+1) hp.objs.size (λ b o e=>Heap.get?_push_of_some _ (Heap.get?_push_of_some _ e)) (ge _ (Nat.le_succ _)) (ge _ (Nat.le_refl _)) (Nat.succ_ne_self _) e2 (sM e1)
theorem Sy(b:Base w g){v}(hroom:A.depth<recursionLimit)(k:g.StaysIn s.heap)(h:∀ h₁ tk x d,s.heap.StaysIn h₁->s.heap.get? x=none->s.heap.get? d=none->x≠d->h₁.get? x=some (gX 644 d)->NsB h₁ d (λ _=>none) 0->R (.ok (.ret (.ref x))) { s with heap:=h₁,toks:=tk }) :
  codeAny (model prog w) A (.call (.ref 137) ⟨[.ref 644,v],[]⟩) R s:=by
 refine aBq Ly λ q1 q2 q3 q4 q5 q6 q7 y3=>aK y3 λ q8 q9=>?_;have X:=b.k.keeps k;refine codeAny_call_function hroom (X _ _ (Su _)) rfl q1 q2 Sw (Sz X) ?_;rw[Sv];have q10:jR.globals=mainGlobals/\jR.builtins=builtinsNs/\jR.closure=[]:=⟨by kernel_rfl,by kernel_rfl,by kernel_rfl⟩
 generalize jR=fd at q1 q2 q3 q4 q5 q6 q7 q8 q9 q10 ⊢;refine bU q10 ?_;clear q10;intro q10 q11 q12;refine wB (wpAny_newTuple (wB (wpAny_alloc (wP ?_))));have k1:s.heap.StaysIn ((s.heap.push (seqObj "tuple" [v].toArray 0)).push { cls:=.type "dict",data:=.dict #[] }):=λ b o e=>Heap.get?_push_of_some _ (Heap.get?_push_of_some _ e);rw[q12];refine wpAny_newFunctionEnv_cells q3 (λ y hy=>.inl ?_) λ env he s' x=>?_
 ·simp only[List.mem_cons,List.mem_nil_iff,or_false] at hy;rcases hy with rfl|rfl|rfl
  ·exact q4
  ·exact q5
  ·exact q6
 refine gM x.toInCall.same λ h₁ tk e1=>?_;have k2:=x.toInCall.keep;have ns:=x.toInCall.ns;clear x;subst e1;have k3:s.heap.StaysIn h₁:=λ b o e=>k2 b o (k1 b o e);have es:env.scope=fd.scope/\env.globals=fd.globals/\env.builtins=fd.builtins:=by rw[he];exact fP rfl rfl rfl
 have ek:∀ y,env.kindOf y=fd.scope.names.lookup y:=λ y=>by rw[he];rfl
 refine aY ((b.lim.keeps k).keeps k3) (codeAny_func ?_);refine Ta b (λ b o e=>k3 b o (k b o e)) (by rw[es.1];exact q3) (by rw[es.2.1];exact q10) (by rw[es.2.2];exact q11) (by rw[ek];exact q4) (by rw[ek];exact q7) (by rw[ek];exact q8) (by rw[ek];exact q9) ns ?_ λ h₂ tk2 x d k4 f1 f2 ne a1 a2=>?_
 ·refine rB (gU (g:=h₁) (ρ:=[]) (k:=env.kindOf) (x:=("cls":Str)) (v:=.fn (.ref 644)) [("cls":Str),"args","kwargs"]
    [.fn (.ref 644),.fn (.ref s.heap.objs.size),.fn (.ref (s.heap.push (seqObj "tuple" [v].toArray 0)).objs.size)] [.ref 644,.ref s.heap.objs.size,.ref (s.heap.push (seqObj "tuple" [v].toArray 0)).objs.size] (λ _=>none) (λ _=>none) (by decide +kernel) (.cons (.frozen (.fn _)) (.cons (.frozen (.fn _)) (.cons (.frozen (.fn _)) .nil))) (by rfl)) λ rv _ a2 a3 _=>?_
  have q:_=_:=a2.inv;clear a2;subst q;exact a3 (by rw[ek];exact q4)
 ·have nn:∀ a,h₁.get? a=none->s.heap.get? a=none:=λ a e=>by
   cases q:s.heap.get? a with
   | none=>rfl
   | some o=>rw[k3 _ _ q] at e;exact nso e
  exact h h₂ tk2 x d (λ b o e=>k4 b o (k3 b o e)) (nn _ f1) (nn _ f2) ne a1 a2
end
theorem aAM(P:Params):readsIn (KK P) 644 (.type "type")=true:=by kernel_rfl
theorem aDU(P:Params):findCls (KK P) (.ref 644) (.type "type") "__new__"=some (.get (.builtin "staticmethod.__get__") (.ref 141) .none (.ref 644)):=by kernel_rfl
theorem ssm(P:Params):recIn (KK P) 141 "staticmethod"=some [.ref 137]:=by kernel_rfl
theorem Ym(P:Params):findIn (KK P) (.ref 644) "__init__"=some (some (.ref 414))/\typeIn (KK P) (.ref 414)=some (.type "function")/\specialIn (KK P) (.ref 644) "__call__"=some (some (.builtin "type.__call__"))/\instIn (KK P) (.ref 644) (.type "type")=some true:=⟨by kernel_rfl,by kernel_rfl,by kernel_rfl,by kernel_rfl⟩
section
set_option maxHeartbeats 1000000 in
theorem aAc(b:Base w g){v}(hd:A.depth+4<recursionLimit)(k:g.StaysIn s.heap)(h:∀ h₁ tk x d,s.heap.StaysIn h₁->s.heap.get? x=none->s.heap.get? d=none->x≠d->h₁.get? x=some (gX 644 d)->NsB h₁ d (λ _=>none) 0->∀ A',(∃ k≤4,∃ j≤1,A'={ A with depth:=A.depth+j,units:=A.units+k }) ->
   codeAny (model prog w) A' (.call (.ref 414) ⟨[.ref x,v],[]⟩) (λ r s'=>match r with|.ok (.ret v)=>v=.none/\Q (.ref x) s'|_=>False) { s with heap:=h₁,toks:=tk }) :
  wpAny (model prog w) A (call (.ref 644) [v]) Q E s:=by
 obtain⟨hp,g0,d0,t0,os0⟩:=s;have X:=b.k.keeps k;refine kR (Ym w.params) λ i1 i2 i3 i4=>?_;have hC:=X 644 _ (tR w.params);have hcall:=looks_specialIn (M:=model prog w) X i3;have typ:=looks_instIn (M:=model prog w) X i4;have hm:Looks (model prog w) hp (mroOf (.ref 644)) Je.mro:=dC X λ p=>by kernel_rfl
 have made:Looks (model prog w) hp (Bind.madeBy (.ref 644)) none:=dC X λ p=>by kernel_rfl
 refine wpAny_call (codeAny_of_tree ?_);show wpAny _ _ (callAny (.ref 644) _) _ _ _;refine nd_load hC ?_;show wpAny _ _ (callAny.viaDunder (.ref 644) _) _ _ _;dsimp only [callAny.viaDunder];refine wB (hcall.at ?_);dsimp only;rw[tc_bind];refine wB (wP (wB (wP ?_)));refine wP (a:=Fin.again (.call (.builtin "type.__call__") ⟨.ref 644::[v],[]⟩)) (And.intro rfl ?_);refine codeAny_call_builtin_at (Code.quiet_builtin _ (by decide +kernel)) entry_typeCall (check_slot tc_kind tc_split typ (tc_args _ _ _) ?_)
 unfold Builtin.«type.__call__»;dsimp only [qZ];have gnew:∀{A':Around} {Q' E':Value->Shared->Prop},Q' (.ref 137) ⟨hp,g0,d0,t0+1,os0⟩->wpAny (model prog w) A' (getAttr (.ref 644) "__new__") Q' E' ⟨hp,g0,d0,t0,os0⟩ :=
  λ q=>cls_bind X (aAM _) (aDU _) (wpAny_call (sm_get (s:=⟨hp,g0,d0,t0+1,os0⟩) X (ssm _) (handed_on rfl q)))
 repeat (first|dsimp only [show Je.mro.isEmpty=false from rfl,Bool.false_eq_true,if_false]|with_reducible refine gnew ?_|with_reducible refine wpAny_call ?_|lk)
 refine Sy b (by show A.depth+1<_;exact ll5 ‹_› (by rfl)) k λ h₁ tk x d k1 f1 f2 ne a1 a2=>?_
 have X1:=X.keeps k1;have t1:Looks (model prog w) h₁ (typeOf (.ref x)) (.ref 644):=(Looks.ld a1).andThen .now;have s1:Looks (model prog w) h₁ (isSubtype (.ref 644) (.ref 644)) true:=dC X1 λ p=>by kernel_rfl
 have j1:=looks_findIn (M:=model prog w) X1 i1;have b1:=bind_fn (M:=model prog w) X1 (.ref x) i2;dsimp only;unfold isInstance callSpecial? specialOf
 repeat (first|dsimp only [Bool.not_true,Bool.false_eq_true,if_false]|with_reducible refine wpAny_call ?_|lk)
 refine codeAny_mono (h h₁ tk x d k1 f1 f2 ne a1 a2 _ ⟨1,by exact Nat.le_add_left _ _,1,by exact Nat.le_add_left _ _,rfl⟩) λ r s' z=>?_
 rcases r with e|(v|_|_|_)<;>first|exact z.elim|skip
 refine aK z ?_;clear z;rintro rfl z;exact wP (wP z)
end
noncomputable def Xl(n:Str):Option (Addr×Fn×List PV):=if n="StringIO" then some (644,kW,[.str "\n"]) else if n="shlex" then some (779,eY,[.none,.bool false,.bool false]) else none
noncomputable def sZ(ext:Str->List PV->Option PV)(orc:Str->Str->PV->Option PV):Tab where
 fn:=λ f=>fnT.lookup f
 ext:=ext
 orc:=orc
 plain:=Ar
 prop:=Nn
 mth:=aAf
 cls:=Xl
noncomputable def okB:BI->Prop:=λ f=>∀ P,glK P (gB f)=some (Io f)
theorem Xj:okB .len:=λ P=>by kernel_rfl
theorem Xk:okB .sum:=λ P=>by kernel_rfl
theorem Qn:okB .list:=λ P=>by kernel_rfl
theorem Ej:okB .sorted:=λ P=>by kernel_rfl
theorem zF:okB .sortset:=λ P=>by kernel_rfl
theorem Qo:okB .type:=λ P=>by kernel_rfl
theorem Xi:okB .int:=λ P=>by kernel_rfl
theorem Ip:okB .isstr:=λ P=>by kernel_rfl
theorem Kb(P:Params):glK P "range"=some (.type "range"):=by kernel_rfl
theorem Yj(P:Params):glK P "zip"=some (.type "zip"):=by kernel_rfl
theorem Rh(P:Params):glK P "enumerate"=some (.type "enumerate"):=by kernel_rfl
theorem Ye(P:Params):glK P "int"=some (.type "int"):=by kernel_rfl
theorem Rg(P:Params):glK P "bool"=some (.type "bool"):=by kernel_rfl
theorem Yh(P:Params):glK P "set"=some (.type "set"):=by kernel_rfl
theorem Yi(P:Params):glK P "str"=some (.type "str"):=by kernel_rfl
theorem Yd(P:Params):glK P "deque"=some (.type "collections.deque"):=by kernel_rfl
theorem aBX(P:Params):glK P "shlex"=some (.ref 779):=by kernel_rfl
theorem Xh(f:BI):okB f:=match f with
 | .len=>Xj
 | .sum=>Xk
 | .list=>Qn
 | .sorted=>Ej
 | .sortset=>zF
 | .type=>Qo
 | .int=>Xi
 | .isstr=>Ip
theorem xE{F}:∀{l:List (Str×Fn)},l.lookup x=some F->(x,F)∈l:=by
 intro l9;induction l9 with
 | nil=>intros;first|contradiction|(rename_i h;exact nomatch h)
 | cons x9 r ih =>
  obtain⟨y,d⟩:=x9;intro e;dsimp only [List.lookup_cons] at e;cases q:(x==y) with
  | true=>rw[q] at e;simp only[Option.some.injEq] at e;rw[eq_of_beq q,e];exact .head _
  | false=>rw[q] at e;exact .tail _ (ih e)
noncomputable def Vn(prog:Program)(w:World)(ext:Str->List PV->Option PV):Prop:=∀{f:Str} {vs:List PV} {v:PV},ext f vs=some v->∃ a,glK w.params f=some (.ref a)/\(∀ g,Base w g->∃ o fd,g.get? a=some o/\o.data=.func fd) /\
  ∀{A:Around} {H:List Addr} {s:Shared} {rvs:List Value} {Q E:Value->Shared->Prop},CxB (Base w) 200 A s.heap H H->(∀ b∈H,∃ o,s.heap.get? b=some o)->VRels (fz s.heap H) vs rvs->kF H s Q v ->
   wpAny (model prog w) A (call (.ref a) rvs) Q E s
noncomputable def Vq(prog:Program)(w:World)(orc:Str->Str->PV->Option PV):Prop:=∀{p m:Str} {v r:PV},orc p m v=some r->∃ a Ty id,glK w.params p=some (.ref a)/\PlainAttrs Ty/\Slot Ty m id/\typeOf (.builtin id)=pure (.type "method_descriptor") /\
  (∀ g,Base w g->∃ ob,g.get? a=some ob/\ob.cls=.type Ty/\ob.dict=none) /\
  ∀{A:Around} {H:List Addr} {s:Shared} {rv:Value} {Q E:Value->Shared->Prop},CxB (Base w) 0 A s.heap H H->(∀ b∈H,∃ o,s.heap.get? b=some o)->VRel (fz s.heap H) v rv->VPost H s Q r ->
   wpAny (model prog w) A (call (.builtin id) [.ref a,rv]) Q E s
section
theorem Xm{n C F ds}(e:Xl n=some (C,F,ds)):∃ f,glK w.params n=some (.ref C)/\(∀ g,Base w g->(∃ k,(k=Keeper.frame∨k=Keeper.machine∨k=Keeper.boundFrame)/\Looks (model prog w) g (keeperOf (.ref C)) k) /\
   ∃ o fd body dvs,g.get? f=some o/\o.data=.func fd/\FnIs g F fd body/\VRels g ds dvs/\∀(s:Shared) (vals:List Value),g.StaysIn s.heap->vals.length+ds.length=F.ps.length->BindsTo s fd ⟨vals,[]⟩ (F.ps.zip (vals++dvs))) /\
  ∀{g:Heap},Base w g->∀{A:Around} {s:Shared} {Q E:Value->Shared->Prop} {H Fr:List Addr} {rvs:List Value},CxB (Base w) 8 A s.heap H Fr->g.StaysIn s.heap->rvs.length+ds.length+1=F.ps.length ->
   (∀ h₁ tk x d,s.heap.StaysIn h₁->s.heap.get? x=none->s.heap.get? d=none->x≠d->h₁.get? x=some (gX C d)->NsB h₁ d (λ _=>none) 0->∀ A',(∃ k≤4,∃ j≤1,A'={ A with depth:=A.depth+j,units:=A.units+k }) ->
    codeAny (model prog w) A' (.call (.ref f) ⟨.ref x::rvs,[]⟩) (λ r s'=>match r with|.ok (.ret v)=>v=.none/\Q (.ref x) s'|_=>False) { s with heap:=h₁,toks:=tk }) ->
   wpAny (model prog w) A (call (.ref C) rvs) Q E s:=by
 unfold Xl at e;split at e
 ·rename_i hn;subst hn;refine bU (dD e) ?_;clear e;rintro rfl rfl rfl;refine rA 414 ((Cz _).2.1) (λ g b=>⟨keeps_K (Zi _) g b.k,?_⟩) λ{g} b {A s Q E H Fr rvs} C k hl h=>?_
  ·refine aB (aAE b) λ body hf=>?_;exact jD _ sFd body [.str "\n" 844] (b.k _ _ (aAD _)) rfl hf (aY (.cons (.str _ _) .nil) λ s vals ks hl=>Cw b.k (Of _) s vals ks (by simp only[List.length_cons,List.length_nil,kW] at hl;lia))
  ·refine aB (gR (l:=rvs) (by simp only[List.length_cons,List.length_nil,kW] at hl;omega)) ?_;clear hl;rintro v rfl
   exact aAc b (by have:=C.dp;exact ll5 ‹_› (by rfl)) k h
 ·split at e
  ·rename_i hn;subst hn;refine bU (dD e) ?_;clear e;rintro rfl rfl rfl;refine rA 703 (aBX _) (λ g b=>⟨keeps_K (Ku _) g b.k,?_⟩) λ{g} b {A s Q E H Fr rvs} C k hl h=>Li b k h;refine aB (Py b) λ body hf=>?_;exact jD _ xFd body [.none,.bool false,.bool false] (b.k _ _ (Pw _)) rfl hf (aY (.cons .none (.cons (.bool _) (.cons (.bool _) .nil))) λ s vals ks hl=>Cw b.k (Px _) s vals ks (by simp only[List.length_cons,List.length_nil,eY] at hl;lia))
  ·exact nos e
noncomputable def Wo{ext orc}(hx:Vn prog w ext)(ho:Vq prog w orc):Sys prog w where
 T:=sZ ext orc
 B:=Base w
 mono:=Base.mono
 nolimit:=λ b=>b.lim
 gl:=glK w.params
 glOk:=λ b e=>λ{_ _ _ _ _} hk hg hb hx k h=>uA b e hk hg hb hx k h
 biOk:=λ f=>Xh f _
 rangeOk:=Kb _
 zipOk:=Yj _
 enumOk:=Rh _
 intOk:=Ye _
 boolOk:=Rg _
 setOk:=Yh _
 strOk:=Yi _
 deqOk:=Yd _
 plainGet:=@λ C a hp g b A s E Q x d m v k hx hn hv nb h=>wM (b.k.keeps k) (fH _ hp).1.ga (fH _ hp).1.hd (fH _ hp).2 hx hn hv nb h
 propGet:=λ{C a b} hp {g} bb {A s E Q H F x d m v} cx k hx hn hv nb h=>by
  have hp':Nn C a=some b:=hp;unfold Nn at hp';split at hp'
  ·rename_i q;refine aK q ?_;clear q;rintro rfl rfl;have q:=sj hp';clear hp';clear hp;subst q;exact Tf bb cx k hx hn hv nb h
  ·exact nos hp'
 plainSet:=λ{C a} hp {g} b {A s Q E x d m v k} ks hx hn hk ne h=>by
  refine aK (fH w.params (C:=C) (a:=a) hp) λ f1 f2=>?_;exact Ok (b.k.keeps ks) f1.sa f1.po (by unfold takerIn;rw[f2];rfl) f1.hd hx hn hk ne h
 mthOk:=λ{C m F} hm=>by
  refine rB (Lo hm) λ f h1 h2 h3 h4=>?_;exact bK f (λ g b=>h4.get b) λ{g} b {A s Q E x d mm pl} k hx hn hm h=>uN (b.k.keeps k) (h1 _).ga (h1 _).gt (h2 _) (h3 _) hx hn hm h
 clsOk:=λ e=>Xm e
 fnOk:=λ{f F} hf=>by
  refine aE (Ez _ (xE hf)) λ a h1 h2=>?_;exact bK a (h1 _) λ g b=>h2.get b
 extOk:=hx
 orcOk:=ho
end
noncomputable def Ww:Fn:=⟨["self"],[(.ret (.v "self"))]⟩
noncomputable def Wx:Fn:=⟨["self"],[(.mcall (some "token") (.v "self") "get_token" []),(.ite (.cmp .Eq (.v "token") (.at (.v "self") "eof")) [.bad] []),(.ret (.v "token"))]⟩
noncomputable def jG:Fn:=⟨["s","comments","posix"],[(.ite (.cmp .Is (.v "s") (.c .none)) [.bad] []),.bad,(.sat "lex" "whitespace_split" (.c (.bool true))),(.ite (.not (.v "comments")) [(.sat "lex" "commenters" (.c (.str "")))] []),(.ret (.bi .list (.v "lex")))]⟩
noncomputable def kU:Fn:=⟨["host"],[(.new "lexer" "shlex" [(.v "host")]),(.sat "lexer" "whitespace" (.c (.str "."))),(.sat "lexer" "whitespace_split" (.c (.bool true))),(.sat "lexer" "quotes" (.c (.str ""))),(.sat "lexer" "commenters" (.c (.str ""))),(.ret (.bi .list (.v "lexer")))]⟩
noncomputable def aBx:Fn:=⟨["expected","actual"],[.bad,(.asg "missing" (.list [])),(.asg "unexpected" (.list [])),(.whl (.c (.bool true)) [.bad]),(.ret (.tuple [(.v "missing"),(.v "unexpected")]))]⟩
noncomputable def Qj:Fn:=⟨["s"],[(.ite (.not (.v "s")) [(.ret (.c (.str "''")))] []),(.ite (.cmp .Is (.call "_find_unsafe" [(.v "s")]) (.c .none)) [(.ret (.v "s"))] []),.bad]⟩
noncomputable def eV:Stmt->List Stmt
 | .FunctionDef _ _ b _ _ _ _ _ _ _=>b
 | _=>[]
noncomputable def fA:Stmt->Scope
 | .FunctionDef _ _ _ _ _ _ sc _ _ _=>sc
 | _=>default
noncomputable def FnOfS(st:Stmt)(a:Addr)(F:Fn):Prop:=∀ P:Params,∃(c:Addr) (qn:Str) (pm dv:Value),(KK P).lookup a=some ⟨.type "function",none,.func (bY st qn pm (.ref c) dv),#[]⟩/\mG P c qn=true/\okF st=true/\F=mkF st /\
 ∀(S:Setting) (vals:List Value),vals.length=F.ps.length->peek (KK P) S (bindArgs (bY st qn pm (.ref c) dv) ⟨vals,[]⟩)=some (F.ps.zip vals)
theorem FnOfS.get{a F}(f:FnOfS st a F)(b:Base w g):∃ o fd,g.get? a=some o/\o.data=.func fd/\FnIs g F fd (eV st)/\fd.scope=fA st:=by
 refine gS (f w.params) λ c qn pm dv h1 h2 h3 q1=>aK q1 λ h4 h5=>?_;refine bQ (Jq b.k h1 (kY h2) h3 h4 h5) λ o fd body k1 k2 k3=>?_;have e:=b.k _ _ h1;rw[k1] at e;have q:=sj e;clear e;subst q;rcases k2 with⟨⟩;have eb:=k3.bod;rcases st with⟨⟩<;>first|(simp[okF] at h3;done)|skip
 clear f h1 h3 q1 h4 h5;rcases eb with⟨⟩;exact aBo _ _ k1 rfl k3 rfl
theorem Ef:FnAt 769 Ww:=λ P=>⟨768,(cW 31 9),"shlex.__iter__",(.str "cpy313.shlex" 1175),.none,by kernel_rfl,by kernel_rfl,by kernel_rfl,by kernel_rfl,λ S vals h=>by
 refine aB (gR h) ?_;rintro a rfl
 kernel_rfl⟩
theorem Eh:FnOfS (cW 31 10) 776 Wx:=λ P=>⟨775,"shlex.__next__",(.str "cpy313.shlex" 1175),.none,by kernel_rfl,by kernel_rfl,by kernel_rfl,by kernel_rfl,λ S vals h=>by
 refine aB (gR h) ?_;clear h;rintro a rfl
 kernel_rfl⟩
theorem oX:FnOfS (bO 32) 791 jG:=λ P=>⟨790,"split",(.str "cpy313.shlex" 1175),(.ref 784),by kernel_rfl,by kernel_rfl,by kernel_rfl,by kernel_rfl,λ S vals h=>by
 refine Qc (Lc h) ?_;clear h;rintro a b c rfl
 kernel_rfl⟩
theorem nE:FnOfS (bO 39) 818 kU:=λ P=>⟨817,"_law_labels",(.str "law_il0087_01" 1343),.none,by kernel_rfl,by kernel_rfl,by kernel_rfl,by kernel_rfl,λ S vals h=>by
 refine aB (gR h) ?_;rintro a rfl
 kernel_rfl⟩
theorem vO:FnOfS (bO 4) 51 aBx:=λ P=>⟨50,"sorted_list_difference",(.str "cpy313.unittest.util" 331),.none,by kernel_rfl,by kernel_rfl,by kernel_rfl,by kernel_rfl,λ S vals h=>by
 refine gM (oC h) ?_;clear h;rintro a b rfl
 kernel_rfl⟩
theorem oW:FnOfS (bO 36) 806 Qj:=λ P=>⟨805,"quote",(.str "cpy313.shlex" 1175),.none,by kernel_rfl,by kernel_rfl,by kernel_rfl,by kernel_rfl,λ S vals h=>by
 refine aB (gR h) ?_;rintro a rfl
 kernel_rfl⟩
theorem Ih:FnOfS (bO 49) 876 fR:=λ P=>⟨875,"law",(.str "law_il0087_01" 1343),.none,by kernel_rfl,by kernel_rfl,by kernel_rfl,by kernel_rfl,λ S vals h=>by
 refine aB (gR h) ?_;clear h;rintro a rfl
 kernel_rfl⟩
theorem Ri(P:Params):glK P "StopIteration"=some (.type "StopIteration"):=by kernel_rfl
theorem Yg(P:Params):glK P "IndexError"=some (.type "IndexError"):=by kernel_rfl
theorem oM(P:Params):glK P "_law_labels"=some (.ref 818)/\glK P "sorted_list_difference"=some (.ref 51)/\glK P "split"=some (.ref 791)/\glK P "join_shlex"=some (.ref 798)/\glK P "quote"=some (.ref 806):=⟨by kernel_rfl,by kernel_rfl,by kernel_rfl,by kernel_rfl,by kernel_rfl⟩
theorem gF(P:Params):findIn (KK P) (.ref 779) "__iter__"=some (some (.ref 769))/\findIn (KK P) (.ref 779) "__next__"=some (some (.ref 776))/\isFn (KK P) (.ref 769)=true/\isFn (KK P) (.ref 776)=true/\findIn (KK P) (.ref 779) "__len__"=some none/\findIn (KK P) (.ref 779) "__length_hint__"=some none :=
 ⟨by kernel_rfl,by kernel_rfl,by kernel_rfl,by kernel_rfl,by kernel_rfl,by kernel_rfl⟩
section
section
noncomputable abbrev frs(l:List Env):List Addr:=l.filterMap (·.frame)
theorem FrOk.mem{h F}(f:FrOk A h H F){l}(hl:A.frames=some l){b}(hb:b∈frs l):b∈H/\∃ o es n,h.get? b=some o/\o.data=.dict es n:=by
 refine aE f ?_;clear f;intro l' e r;rw[hl] at e;obtain rfl:=sj e;refine aE (List.mem_filterMap.mp hb) λ env he hf=>?_;refine aK (r env he) λ _ y1=>gS y1 λ L o es n q1 q2 _ y2=>aK y2 λ q3 q4=>?_;rw[hf] at q1;have q:=sj q1;clear q1;clear y2;subst q;exact aY q2 (vE o es n q3 q4)
theorem FrOk.base{h F}(f:FrOk A h H F){l}(hl:A.frames=some l):h.FunFrames (fz h (frs l)) l/\∀ h',(fz h (frs l)).StaysIn h'->h.UpToSlots h'->Up H h h':=by
 have hm:=λ{b}=>f.mem hl (b:=b);refine aY ?_ λ h' k u=>⟨λ b o n e=>k b o (dG e λ q=>n (hm q).1),λ b o d e=>k b o (dG e λ q=>?_),λ b o e=>?_⟩
 ·refine aE f ?_;clear f;intro l' e r;rw[hl] at e;have q:=sj e;clear e;subst q;have:∀ l2:List Env,(∀ env∈l2,env∈l)->h.FunFrames (fz h (frs l)) l2:=by
   intro l2;induction l2 with
   | nil=>intro _;trivial
   | cons env r2 ih =>
    intro hs;refine aK (r env (hs _ (.head _))) λ p y3=>gS y3 λ L o es n q1 _ _ y4=>aK y4 λ q3 q4=>?_;exact fP p ⟨L,o,q1,hideAll_none _ (List.mem_filterMap.mpr ⟨env,hs _ (.head _),q1⟩),q3,λ vs z=>by rw[q4] at z;cases z⟩ (ih λ e he=>hs e (.tail _ he))
  exact this l λ _ h=>h
 ·refine aK (hm q) λ _ y5=>jE y5 λ o' es n e' d'=>?_;rw[e] at e';have q:=sj e';clear e';subst q;rw[cN,d'] at d;exact ntf d
 ·by_cases q:b∈frs l
  ·refine aK (hm q) λ _ y6=>jE y6 λ o' es n e' d'=>?_;rw[e] at e';have q:=sj e';clear e';subst q;exact u b o e λ vs z=>by rw[d'] at z;cases z
  ·exact bM o.slots (k b o (dG e q))
theorem Ae{L l F h₀ e cls args Q}(hl:A.frames=some (env::l))(f:FrOk A h₀ H F)(hf:env.frame=some L)(m:Heap.MadeExcOf h₀ s.heap e (.type cls) args)(h:∀ h',Up H h₀ h'->(∃ o,h'.get? e=some o/\o.cls=.type cls)->Q () { s with heap:=h' }):wpAny (model prog w) A (leaving env (.ref e)) Q E s:=by
 refine aK (f.base hl) λ b1 b2=>?_;refine wpAny_leaves_madeW (base:=fz h₀ (frs (env::l))) (h:=h₀) hl hf aP b1 m λ h' t q1 _ _ q4=>?_;exact h h' (b2 h' q1.1 ((Heap.UpToSlots.of_keeps m.keeps).trans q4)) q1.there
end
section
variable(S:Sys prog w)
theorem Av(hg:S.gl "StopIteration"=some (.type "StopIteration")){l}{np}{Q}{Q' E':Value->Shared->Prop}(hl:A.frames=some l)(C:CxI S n (A.deeper env) s.heap X env oc ρ)(F:Fx sc env oc)(hs:aR sc "StopIteration")(hf:env.frame=some env.locals)(I:Inv X env oc ρ s.heap lv σ)(h:∀ h' e,Inv X env oc ρ h' lv σ->Step X env oc ρ s.heap ρ h'->(∃ o,h'.get? e=some o/\o.cls=.type "StopIteration")->Q' (.ref e) { s with heap:=h' }) :
  wpAny (model prog w) (A.deeper env) (exec (.Raise (some (.Name "StopIteration" np)) none pos) env) Q (λ e s'=>wpAny (model prog w) (A.deeper env) (leaving env e) (λ _ s''=>Q' e s'') E' s') s:=by
 refine owsi_raiseC C.hd (wpAny_Name (S.glOk C.base hg F.kind F.glob F.bi (F.gl _ hs) aP ⟨rfl,rfl⟩) (by decide +kernel)) λ h' e m=>?_
 refine Ae (Around.frames_deeper hl) C.fr hf m.of λ h2 u ob=>?_;exact h h2 e (I.ext u) (.of_up u) ob
end
end
noncomputable def Wf:Str->List PV->Option PV:=λ _ _=>none
noncomputable def Wg:Str->Str->PV->Option PV:=λ _ _ _=>none
noncomputable def T0:Tab:=sZ Wf Wg
noncomputable def S0(prog:Program)(w:World):Sys prog w:=Wo (ext:=Wf) (orc:=Wg) (λ h=>nomatch h) (λ h=>nomatch h)
inductive NextBody:List Stmt->Prop
 | mk {s1 s3:Stmt} {e:Expr} {p1 p2 p3:Pos}:NextBody [s1,.If e [.Raise (some (.Name "StopIteration" p1)) none p2] [] p3,s3]
theorem Sq:NextBody (eV (cW 31 10)):=.mk
noncomputable def Vp:List Stmt->Prop
 | [_,.If _ (b::_) _ _,_]=>∃ p1 p2,b=.Raise (some (.Name "StopIteration" p1)) none p2
 | _=>True
theorem NextBody.inv{l}(h:NextBody l):Vp l:=by
 apply NextBody.casesOn (motive:=λ l _=>Vp l) h
 intros
 exact Uu _ _ rfl
theorem Sp:aR (fA (cW 31 10)) "StopIteration":=by unfold aR;kernel_rfl
noncomputable def Gy:Sx:=.mcall (some "token") (.v "self") "get_token" []
noncomputable def Bq:Ex:=.cmp .Eq (.v "token") (.at (.v "self") "eof")
section
theorem Fu{lv1 σ1 p b}(C:CxI (S0 prog w) (n+2) A s.heap X env oc ρ)(I:Inv X env oc ρ s.heap lv σ)(hi:ρ[i]? = some p)(e1:ex T0 (n+1) Gy [("self",.mref i)] σ=some (.next,lv1,σ1))(e2:evT T0 (n+1) Bq lv1 σ1=some b)(h1:b=true->∀ h' tk ρ' e,Inv X env oc ρ' h' lv σ1->Step X env oc ρ s.heap ρ' h'->(∃ o,h'.get? e=some o/\o.cls=.type "StopIteration")->R (.error (.ref e)) { s with heap:=h',toks:=tk })(h2:b=false->∃ v,lv1.lookup ("token":Str)=some v/\∀ h' tk ρ' rv,Inv X env oc ρ' h' lv σ1->Step X env oc ρ s.heap ρ' h'->XRel (GG X env oc ρ' h') ρ' v rv->R (.ok (.ret rv)) { s with heap:=h',toks:=tk }) :
  codeAny (model prog w) A (.call (.ref 776) ⟨[.ref p.1],[]⟩) R s:=by
 have al:=dE (S0 prog w) (n+1);refine kS (Eh.get C.base) λ o fd q1 q2 q3 q4=>?_;refine aE C.fr λ l hl _=>?_;have gst:=Sp;simp only[<- q4] at gst;have nok:=Sq;generalize eV (cW 31 10)=body at q3 nok;refine pH (S:=S0 prog w) (n:=n+1) q3 C.mid I.mid (vs:=[.mref i]) (rvs:=[.ref p.1]) (.cons (by exact .mr hi) .nil) (q3.bind s [.ref p.1] aP rfl) aP (aP _ _ q1) q2 λ h₁ tk env' oc' I1 C1 fx En=>?_
 have tr:=q3.tr;refine bB tr.inv ?_;clear tr;rintro _ _ rfl t1 tr;refine bB tr.inv ?_;clear tr;rintro _ _ rfl t2 tr;refine bB tr.inv ?_;clear tr;rintro _ _ rfl t3 tr;have q:_=_:=tr.inv;clear tr;subst q;refine gS t2.inv ?_;clear t2;rintro _ _ _ _ rfl tt tb tc;have q:_=_:=tc.inv;clear tc;subst q;refine bB tb.inv ?_;clear tb;rintro _ _ rfl tb tbn;have q:_=_:=tbn.inv;clear tbn;subst q;refine eX t3.inv ?_;clear t3;rintro _ _ rfl te;refine wpAny_execs_cons (al.s t1 e1 C1 fx I1 λ h2 tk2 ρ2 f I2 st2 fr=>?_);have C2:=Cx.step C1 I1 I2 st2;cases fr;refine wpAny_execs_cons (wpAny_If (al.t tt e2 C2 fx I2 λ h3 tk3 k3=>?_));have I3:=I2.ext k3;have C3:=Cx.up C2 k3;cases b with
 | true =>
  dsimp only [if_pos rfl];refine gM (nok.inv) ?_;clear tb q3 nok;rintro _ _ rfl;refine wpAny_execs_cons (Av (S0 prog w) (Ri w.params) hl C3 fx gst En.frame I3 λ h4 e I4 st4 ob=>?_);refine bU (qA En I4 (st2.trans ((Step.of_up k3).trans st4))) λ M st back=>?_;refine aK (I.back M st) λ I5 st5=>?_;exact h1 rfl h4 tk3 ρ2 e I5 st5 ob
 | false =>
  rw[if_neg (by decide)]
  refine aE (h2 rfl) λ v hv hR=>?_;refine wpAny_execs_nil (wpAny_execs_cons (wpAny_Return_some (al.e te (v:=v) (hv) C3 fx I3 λ h4 tk4 rv k4 r4=>?_)));refine bU (qA En (I3.ext k4) (st2.trans (.of_up (k3.trans k4)))) λ M st back=>?_;refine aK (I.back M st) λ I5 st5=>?_;exact hR h4 tk4 ρ2 rv I5 st5 (by simp only[GG,gQ];exact r4.mono back)
end
noncomputable def isX(σ:List MObj)(i:Nat):Bool:=match σ[i]? with
 | some (.inst C _)=>C==779
 | _=>false
noncomputable def fT(i n:Nat):Nat->List MObj->Option (List PV×List MObj)
 | 0,_=>none
 | k+1,σ=>if isX σ i then match ex T0 (n+1) Gy [("self",.mref i)] σ with
  | some (.next,lv1,σ1)=>match evT T0 (n+1) Bq lv1 σ1 with
   | some true=>some ([],σ1)
   | some false=>(lv1.lookup ("token":Str)).bind λ v=>(fzv v).bind λ v=>(fT i n k σ1).bind λ r=>some (v::r.1,r.2)
   | none=>none
  | _=>none else none
section
theorem oN{h}(I:Inv X env oc ρ h lv σ){p}(hi:ρ[i]? = some p)(hx:isX σ i=true):∃ d od,InstAt h p.1 (gX 779 d) 779 (some od):=by
 refine aE (I.chg.get hi) λ o ho m=>?_;unfold isX at hx;rw[ho] at hx;cases o with
 | inst C at' =>
  have:=eq_of_beq hx;subst this;refine kS m ?_;intro d mm _ hob hn _;refine aE (lK hob hn.ns) λ od q _=>?_;exact Uu d od q
 | list _=>exact nft hx
 | mat _=>exact nft hx
theorem Pc:isSubtype (.type "StopIteration") (.type "StopIteration")=pure true:=owsi_facts.sub
theorem Sr{lv1 σ1 p b Q}(C:CxI (S0 prog w) (n+2) A s.heap X env oc ρ)(I:Inv X env oc ρ s.heap lv σ)(hi:ρ[i]? = some p)(hx:isX σ i=true)(e1:ex T0 (n+1) Gy [("self",.mref i)] σ=some (.next,lv1,σ1))(e2:evT T0 (n+1) Bq lv1 σ1=some b)(h1:b=true->∀ h' tk ρ',Inv X env oc ρ' h' lv σ1->Step X env oc ρ s.heap ρ' h'->Q none { s with heap:=h',toks:=tk })(h2:b=false->∃ v,lv1.lookup ("token":Str)=some v/\∀ h' tk ρ' rv,Inv X env oc ρ' h' lv σ1->Step X env oc ρ s.heap ρ' h'->XRel (GG X env oc ρ' h') ρ' v rv->Q (some rv) { s with heap:=h',toks:=tk }) :
  wpAny (model prog w) A (pyNext (.ref p.1)) Q E s:=by
 refine gM (oN I hi hx) λ d od Ix=>?_;have X0:(KK w.params).In s.heap:=(show Base w (GG X env oc ρ s.heap) from C.base).k.keeps aP;unfold pyNext;refine wB (wpAny_attempt (special_fn (name:="__next__") (args:=[]) X0 Ix (gF _).2.1 (beq_iff_eq.mp (gF _).2.2.2.1) (wpAny_call (Fu C I hi e1 e2 (λ hb h' tk ρ' e I' st ob=>?_) λ hb=>?_))))
 ·refine wB (wpAny_isInstance ob Pc ?_);exact wP (h1 hb h' tk ρ' I' st)
 ·refine aE (h2 hb) λ v q hR=>?_;exact bK v q λ h' tk ρ' rv I' st r=>wP (hR h' tk ρ' rv I' st r)
theorem Rs{p}(C:CxI (S0 prog w) (n+5) A s.heap X env oc ρ)(I:Inv X env oc ρ s.heap lv σ)(hi:ρ[i]? = some p)(hx:isX σ i=true)(h:∀ h' tk ρ',Inv X env oc ρ' h' lv σ->Step X env oc ρ s.heap ρ' h'->Q (.ref p.1) { s with heap:=h',toks:=tk }) :
  wpAny (model prog w) A (pyIter (.ref p.1)) Q E s:=by
 refine gM (oN I hi hx) λ d od Ix=>?_;have Bs:Base w (GG X env oc ρ s.heap):=C.base;have X0:=Bs.k.keeps (aP (h:=s.heap));have hs:=(gF w.params).1;have hf:=beq_iff_eq.mp (gF w.params).2.2.1;refine bQ (Ef.get Bs) λ o fd body q1 q2 q3=>?_;have hcall:∀{E:Value->Shared->Prop},wpAny (model prog w) A (call (.ref 769) [.ref p.1]) (OwitIt (model prog w) A Q E) E s:=by
  intro E;refine qO (S0 prog w) (dE (S0 prog w) (n+4)).ss q3 C I (vs:=[.mref i]) (rvs:=[.ref p.1]) (.cons (by exact .mr hi) .nil) (q3.bind s [.ref p.1] aP rfl) aP (aP _ _ q1) q2 (fl:=.ret (.mref i)) (lv':=[("self",.mref i)]) (σ':=σ) rfl λ h' tk ρ' rv I' st hr _=>?_
  have r:=hr _ rfl;refine aB st.grow λ ρ₂ hρ=>?_;have hi':ρ'[i]? = some p:=by rw[hρ,List.getElem?_append_left (List.getElem?_eq_some_iff.mp hi).1];exact hi
  refine aE r.mref ?_;rintro pp q rfl;rw[hi'] at q;have e:=sj q;clear q;clear hr r;subst e;refine gM (oN I' hi' hx) λ d' od' Ix'=>?_;unfold OwitIt;exact wB (Ix'.type.here ((looks_findIn (((show Base w (GG X env oc ρ' h') from(Cx.step C I I' st).base).k).keeps aP) (gF _).2.1).here (h h' tk ρ' I' st)))
 have fin:∀{E:Value->Shared->Prop},wpAny (model prog w) A (call (.ref 769) [.ref p.1] >>= λ v=>pure (some v)) (λ r s'=>∃ v,r=some v/\OwitIt (model prog w) A Q E v s') E s :=
  wB (wpAny_mono hcall (λ v s' h'=>wP ⟨v,rfl,h'⟩) λ _ _ z=>z)
 have one:∀ refuse:Sem Value,wpAny (model prog w) A (callSpecialIfBoundUnlessNone? (.ref p.1) "__iter__" refuse) (λ r s'=>∃ v,r=some v/\OwitIt (model prog w) A Q E v s') E s:=by
  intro refuse;simp only[callSpecialIfBoundUnlessNone?,bindSpecialIfBound?];refine wpAny_holding (wB (wB (wB (Ix.type.here ((looks_findIn X0 hs).here ?_)))));refine wB (wpAny_askSetting (wpAny_ite ?_));have fin2:wpAny (model prog w) A (if(Value.ref 769==Value.none)=true then(refuse >>= λ v=>pure (some v)) else(call (.ref 769) [.ref p.1] >>= λ v=>pure (some v))) (λ r s'=>∃ v,r=some v/\OwitIt (model prog w) A Q E v s') E s:=by
   rw[if_neg (show ¬ ((Value.ref 769==Value.none)=true) from Bool.false_ne_true)];exact fin
  split
  ·exact wB ((bind_fn X0 _ hf).here (wP (by exact fin2)))
  ·exact wpAny_tryCatch (wB ((bind_fn X0 _ hf).here (wP (by exact fin2))))
 unfold pyIter;refine wB (wB (Ix.type.here ((looks_findIn X0 hs).here ?_)));show wpAny _ A (callSpecialIfBoundUnlessNone? (.ref p.1) "__iter__" _ >>= _) Q E s;refine wB (wpAny_mono (one _) (λ r s' hr=>?_) λ _ _ z=>z);refine aE hr ?_;clear hr;rintro v rfl hv;refine wB (wpAny_mono hv (λ r s₂ hr=>?_) λ _ _ z=>z);cases r with
 | none=>exact hr.elim
 | some g=>exact wP hr
end
section
noncomputable abbrev qB(a:Array Value)(c:Nat):Obj:={ cls:=.type "list",dict:=none,data:=.seq a c,slots:=#[] }
section
variable{ρ' ρ'':Ro}{h h'':Heap}{L:Addr}
theorem Step.then(f:h.get? L=none)(a:Step X env oc ρ h ρ' h')(b:Step (L::X) env oc ρ' h' ρ'' h''):Step X env oc ρ h ρ'' h'' where
 grow:=let⟨x,ex⟩:=a.grow;let⟨y,ey⟩:=b.grow;⟨x++y,by simp only[ey,ex,List.append_assoc]⟩
 up:=a.up.after' b.up a.new λ c q=>by
  refine bN q (λ q=>?_) λ q=>?_
  ·refine mc2 q (λ q=>?_) λ q=>?_
   ·exact .inr (q▸f)
   ·exact .inl (mL q)
  ·exact(a.new c q).imp (λ z=>mR z) id
 new:=λ c m=>by
  rcases b.new c m with q|q
  ·exact a.new c q
  ·by_cases z:c∈aH env oc ρ
   ·exact .inl z
   ·cases e:h.get? c with
    | none=>exact .inr rfl
    | some o=>refine aB (a.up.sl c o z e) λ _ this=>?_;simp only[q] at this;exact nos this
theorem Step.thenL(f:h.get? L=none)(a:Step X env oc ρ h ρ' h')(b:∀ b o,b≠L->h'.get? b=some o->h''.get? b=some o):Step X env oc ρ h ρ' h'' :=
 ⟨a.grow,a.up.after' (N₂:=[L]) (H₂:=[]) (.only (λ c o n e=>b c o (λ q=>n (q▸.head _)) e) λ _ q=>q) (λ c q=>.inr (xm1 q▸f)) (λ _ q=>nomatch q),a.new⟩
theorem Inv.thenL(I:Inv (L::X) env oc ρ h lv σ)(b:∀ b o,b≠L->h.get? b=some o->h'.get? b=some o){o}(e:h'.get? L=some o):Inv (L::X) env oc ρ h' lv σ :=
 I.hid (λ c o n q=>b c o (λ z=>n (z▸.head _)) q) λ a ha=>by
  by_cases z:a=L
  ·exact bM o (z▸e)
  ·refine aB (I.live a (mL ha)) λ o' q=>?_;exact bM o' (b a o' z q)
theorem wL(b:∀ b o,b≠L->h.get? b=some o->h'.get? b=some o):(GG (L::X) env oc ρ h).StaysIn (GG (L::X) env oc ρ h') :=
 aU λ c o e n=>⟨b c o (λ z=>n (z▸.head _)) e,n⟩
end
theorem VRels.snocV{x v}(h:VRels g xs vs)(r:VRel g x v):VRels g (xs++[x]) (vs++[v]) :=
 VRels.ind (M:=λ xs vs=>VRels g (xs++[x]) (vs++[v])) (.cons r .nil) (λ a _ ih=>.cons a ih) h
section
theorem Cx.thenL{h L}(C:CxI (S0 prog w) n A h (L::X) env oc ρ)(f:∃ o,h.get? L=some o/\cN o=false)(b:∀ b o,b≠L->h.get? b=some o->h'.get? b=some o):CxI (S0 prog w) n A h' (L::X) env oc ρ :=
 Cx.move (S:=S0 prog w) C (wL b) λ M hM hF o es k e d=>⟨hM,hF,o,es,k,b M o (λ z=>by
  refine aE f ?_;clear f;intro o' q1 q2;simp only[<- z,e] at q1;have q:=sj q1;clear q1;subst q;simp only[cN,d] at q2;exact ntf q2) e,d⟩
set_option tactic.hygienic true in
theorem zR{p L h0 ρ0 res all}(f0:h0.get? L=none)(len:all.length≤1000){g0 d0 os0}(hR:∀ h' tk ρ' acc' c',Inv (L::X) env oc ρ' h' lv σ'->Step X env oc ρ0 h0 ρ' h'->h'.get? L=some (qB acc' c')->VRels (GG (L::X) env oc ρ' h') all acc'.toList->R (.ok (.ret res)) ⟨h',g0,d0,tk,os0⟩) :
  ∀(k:Nat) {σ:List MObj} {h:Heap} {tk:Nat} {acc:Array Value} {c:Nat} {av vs:List PV} {ρ:Ro},fT i n k σ=some (vs,σ')->CxI (S0 prog w) (n+2) A.in1 h (L::X) env oc ρ->Inv (L::X) env oc ρ h lv σ->ρ[i]? = some p->Step X env oc ρ0 h0 ρ h ->
   h.get? L=some (qB acc c)->VRels (GG (L::X) env oc ρ h) av acc.toList->av++vs=all->codeAny (model prog w) A (.builtin "list.extend.loop" ⟨[.ref L,.ref p.1,res],[]⟩) R ⟨h,g0,d0,tk,os0⟩:=by
 intro l9;induction l9 with
 | zero =>
  intro _ _ _ _ _ _ _ _ dr _ _ _ _ _ _ _;simp[fT] at dr
 | succ k ih =>
  intro σ h tk acc c av vs ρ dr C I hi st0 hL ra ea;simp only[fT] at dr;split at dr
  case isFalse=>exact nos dr
  rename_i hx;split at dr
  case h_2=>exact nos dr
  rename_i lv1 σ1 e1;refine codeAny_builtin F.entry_extend_loop ?_;rw[Around.under_plainId F.plain_extend_loop _];show wpAny _ A.in1 (pyNext (.ref p.1) >>= _) _ _ _;have key:∀ b,evT T0 (n+1) Bq lv1 σ1=some b->wpAny (model prog w) A.in1 (pyNext (.ref p.1)) (λ r s'=>∃ h' tk' ρ' ,s'=⟨h',g0,d0,tk',os0⟩/\Inv (L::X) env oc ρ' h' lv σ1/\Step (L::X) env oc ρ h ρ' h'/\h'.get? L=some (qB acc c) /\
    match b with|true=>r=none|false=>∃ v rv,r=some rv/\lv1.lookup ("token":Str)=some v/\XRel (GG (L::X) env oc ρ' h') ρ' v rv) (λ _ _=>False) ⟨h,g0,d0,tk,os0⟩:=by
   intro b e2;have hLs:∀{ρ' h'},Step (L::X) env oc ρ h ρ' h'->h'.get? L=some (qB acc c):=λ st=>st.up.nd L _ (I.off L (.head _)) rfl hL;refine Sr C I hi hx e1 e2 (λ hb h' tk ρ' I' st=>?_) λ hb=>?_
   ·clear e2;subst hb;exact aBp h' tk ρ' rfl I' st (hLs st) rfl
   ·subst hb;cases q:lv1.lookup ("token":Str) with
    | none =>
     rw[e2] at dr;simp only[q,Option.bind_none] at dr;exact nos dr
    | some v=>exact bK v rfl λ h' tk ρ' rv I' st r=>⟨h',tk,ρ',rfl,I',st,hLs st,v,rv,rfl,rfl,r⟩
  cases e2:evT T0 (n+1) Bq lv1 σ1 with
  | none=>rw[e2] at dr;exact nos dr
  | some b =>
   refine wB (wpAny_mono (key b e2) (λ r s' hr=>?_) λ _ _ z=>z.elim);refine Uw hr ?_;clear hr;rintro h' tk' ρ' rfl I' st hL' hb;have gr:VRels (GG (L::X) env oc ρ' h') av acc.toList:=ra.mono st.fz;cases b with
   | true =>
    simp only at hb;subst hb;rw[e2] at dr;simp only[Option.some.injEq,Prod.mk.injEq] at dr;refine aK dr ?_;clear dr;rintro rfl rfl;rw[List.append_nil] at ea;clear len ih;subst ea;exact wP (hR h' tk' ρ' acc c I' (st0.then f0 st) hL' gr)
   | false =>
    refine bB hb ?_;clear hb;rintro v rv rfl hv rx;rw[e2] at dr;simp only[hv,Option.bind_some,Option.bind_eq_some_iff,Option.some.injEq,Prod.mk.injEq] at dr;refine aE dr ?_;clear dr;intro v' hfz y1;refine fQ y1 ?_;clear y1;clear hR;rintro⟨vs',σ''⟩ dr' rfl rfl;have rv':=rx.fzv hfz;have lens:acc.size=av.length:=by rw[<- Array.length_toList,ra.length]
    have alen:av.length<1000:=by rw[<- ea] at len;simp only[List.length_append,List.length_cons] at len;exact ll6 ‹_›
    show wpAny _ A.in1 (updateSeq L (·.push rv) >>= _) _ _ _;refine wB ?_;have oth:∀ b o,b≠L->h'.get? b=some o->(h'.update L (Obj.mapSeq (·.push rv))).get? b=some o:=λ b o nb e=>(Heap.get?_update_other _ _ (Ne.symm nb)).trans e;have self':=Heap.get?_update_self (Obj.mapSeq (·.push rv)) hL' rfl;refine aB st.grow λ ρ₂ hρ=>?_;refine wpAny_updateSeq hL' rfl (wP ⟨plainId_quiet F.plain_extend_loop _,ih dr' ?_ (I'.thenL oth self') (by rw[hρ,List.getElem?_append_left (List.getElem?_eq_some_iff.mp hi).1];exact hi) ((st0.then f0 st).thenL f0 oth) self' (av:=av++[v']) ?_ (by rw[List.append_assoc];exact ea)⟩) (by have:=sizeLine_eq;exact lq2 ‹_› ‹_› (by rfl)) (by rw[Array.size_push];have:=sizeLine_eq;exact lq1 ‹_› ‹_› (by rfl))
    ·exact Cx.thenL (Cx.step C I I' st) ⟨_,hL',rfl⟩ oth
    ·have:=(gr.snocV rv').mono (wL (X:=X) (env:=env) (oc:=oc) (ρ:=ρ') oth);rw[Array.toList_push];exact this
theorem Po{h}(I:Inv X env oc ρ h lv σ){p}(hi:ρ[i]? = some p)(hx:isX σ i=true){g d tk os}(q:Q (.ref 779) ⟨h,g,d,tk,os⟩):wpAny (model prog w) A (typeOf (.ref p.1)) Q E ⟨h,g,d,tk,os⟩ :=
 let⟨_,_,Ix⟩:=oN I hi hx
 Ix.type.here (s:=⟨h,g,d,tk,os⟩) q
theorem Af{k p vs}(C:CxI (S0 prog w) (n+6) A s.heap X env oc ρ)(I:Inv X env oc ρ s.heap lv σ)(hi:ρ[i]? = some p)(dr:fT i n k σ=some (vs,σ'))(hx:isX σ i=true)(len:vs.length≤1000)(h:∀ h' tk ρ' rv,Inv X env oc ρ' h' lv σ'->Step X env oc ρ s.heap ρ' h'->VRel (GG X env oc ρ' h') (.list vs) rv->Q rv { s with heap:=h',toks:=tk }) :
  wpAny (model prog w) A (call (.type "list") [.ref p.1]) Q E s:=by
 obtain⟨h0,g0,d0,tk0,os0⟩:=s;have f0:h0.get? h0.objs.size=none:=by
  cases q:h0.get? h0.objs.size with
  | none=>rfl
  | some o=>exact absurd (Heap.lt_size q) (Nat.lt_irrefl _)
 refine callType_codes (Q₁:=λ obj s₁=>obj=.ref h0.objs.size/\s₁=⟨h0.push { cls:=.type "list",data:=.seq #[] },g0,d0,tk0,os0⟩) F.called_list (F.typeCall_list_1 _) F.entry_list_init (code_list_new _ ⟨rfl,rfl⟩) λ obj s₁ h₁=>?_;refine aK h₁ ?_;clear h₁;rintro rfl rfl;have hS:(h0.push { cls:=.type "list",data:=.seq #[] }).get? h0.objs.size=some (qB #[] 0):=Heap.get?_push_size _ rfl;generalize hL:h0.objs.size=L at *;have k1:h0.StaysIn (h0.push { cls:=.type "list",data:=.seq #[] }):=λ b o e=>Heap.get?_push_of_some _ e;generalize h0.push { cls:=.type "list",data:=.seq #[] }=h1 at *;have I1:Inv ([L]++X) env oc ρ h1 lv σ:=I.hide (λ a ha=>by simp only[xm1 ha];exact f0) (.of k1) λ a ha=>⟨qB #[] 0,by simp only[xm1 ha];exact hS⟩
 have kg:(GG X env oc ρ h0).StaysIn (GG (L::X) env oc ρ h1):=aU λ b o e nb=>⟨k1 b o e,λ q=>by
  refine mc2 q (λ q=>?_) λ q=>?_
  ·simp only[q,f0] at e;exact nos e
  ·exact nb q⟩
 have C1:CxI (S0 prog w) (n+5) A.in1.in1 h1 (L::X) env oc ρ:=by
  refine⟨C.hd,by have:=C.dp;show A.depth+(n+5)<_;exact ll2 ‹_› (by rfl),by have:=C.un;show A.units+1+1+8 * (n+5)+16<_;lia,(S0 prog w).mono kg C.base,?_⟩
  refine aE C.fr λ l hl hf=>?_;refine bK l hl λ en he=>?_;refine aK (hf en he) λ q y2=>gS y2 λ M o es m q1 q2 q3 y3=>aK y3 λ q4 q5=>?_;exact aY q (jD M o es m q1 (.tail _ q2) ((List.mem_cons.mp q3).elim (λ z=>z▸.head _) λ z=>.tail _ (.tail _ z)) (aY (k1 _ _ q4) q5))
 refine fP ⟨_,hS,rfl⟩ (F.args_list_init_2 _ _) ?_;show wpAny _ A.in1.in1 (do let old <- Builtin.List.listItems (.ref L);Builtin.List.listUpdate (.ref L) (λ _=>#[]);letGo old.toList.reverse;Builtin.List.listExtendWith (.ref L) (.ref p.1) .none) _ _ _
 refine wB ?_;dsimp only [Builtin.List.listItems];refine wB (wpAny_seqItems hS rfl (wP ?_));show wpAny _ A.in1.in1 (updateSeq L (λ _=>#[]) >>= λ _=>letGo (#[]:Array Value).toList.reverse >>= λ _=>Builtin.List.listExtendWith (.ref L) (.ref p.1) .none) _ _ _;refine wB (wpAny_updateSeq hS rfl ?_);have oth:∀{h:Heap} (f:Array Value->Array Value),∀ b o,b≠L->h.get? b=some o->(h.update L (Obj.mapSeq f)).get? b=some o:=λ f b o nb e=>(Heap.get?_update_other _ _ (Ne.symm nb)).trans e;have hS2:=Heap.get?_update_self (Obj.mapSeq (λ _=>(#[]:Array Value))) hS rfl;have I2:=Inv.thenL (L:=L) I1 (oth λ _=>#[]) hS2;have C2:=Cx.thenL (L:=L) C1 ⟨_,hS,rfl⟩ (oth λ _=>#[]);have st2:Step X env oc ρ h0 ρ (h1.update L (Obj.mapSeq λ _=>#[])):=(Step.of_up (.of k1)).thenL f0 (oth λ _=>#[]);refine wB (wpAny_letGo ?_);generalize h1.update L (Obj.mapSeq λ _=>#[])=h2 at *;have X2:=λ{ρ h} (C:CxI (S0 prog w) (n+5) A.in1.in1 h (L::X) env oc ρ)=>(show Base w (GG (L::X) env oc ρ h) from C.base).k.keeps (aP (h:=h));have hLI:L≠p.1:=λ z=>I2.off L (.head _) (aN (Ro.mem_all (List.mem_of_getElem? hi) (z▸.head _)));dsimp only [Builtin.List.listExtendWith];refine wB (Po I2 hi hx ?_);have t1:Builtin.List.listSameRef (.ref L) (.ref p.1)=false:=by simp[Builtin.List.listSameRef,hLI]
 have t2:(Value.ref 779==Value.type "list")=false:=by decide
 have t3:(Value.ref 779==Value.type "tuple")=false:=by decide
 simp only[t1,t2,t3,Bool.or_false,Bool.false_eq_true,if_false];refine wB (Rs C2 I2 hi hx λ h3 tk3 ρ3 I3 st3=>?_);refine aB st3.grow λ ρ₂ hρ=>?_;have hi3:ρ3[i]? = some p:=by simp only[hρ,List.getElem?_append_left (List.getElem?_eq_some_iff.mp hi).1];exact hi
 have C3:=Cx.step C2 I2 I3 st3;have hS3:h3.get? L=some (qB #[] _):=st3.up.nd L _ (I2.off L (.head _)) rfl hS2;refine wB (wpAny_holding ?_);unfold Builtin.List.listLengthHint specialOf;refine wB (wB (Po I3 hi3 hx ((looks_findIn (X2 C3) (gF _).2.2.2.2.1).here ?_)));refine wB (wB (Po I3 hi3 hx ((looks_findIn (X2 C3) (gF _).2.2.2.2.2).here ?_)));refine wP ?_;show wpAny _ A.in1.in1 (rule "list.extend.makes-room" >>= λ _=>Builtin.List.listTouch (.ref L) >>= λ _=>again (.builtin "list.extend.loop" ⟨[.ref L,.ref p.1,.none],[]⟩)) _ _ _;refine wB (wpAny_rule (wB ?_));show wpAny _ A.in1.in1 (updateSeq L (·.push .none) >>= λ _=>updateSeq L (·.pop)) _ _ _;refine wB (wpAny_updateSeq hS3 rfl ?_);have hS4:=Heap.get?_update_self (Obj.mapSeq (·.push Value.none)) hS3 rfl;refine wpAny_updateSeq hS4 rfl ?_;have hS5:=Heap.get?_update_self (Obj.mapSeq (·.pop)) hS4 rfl;have oth5:∀ b o,b≠L->h3.get? b=some o->((h3.update L (Obj.mapSeq (·.push Value.none))).update L (Obj.mapSeq (·.pop))).get? b=some o:=λ b o nb e=>oth _ b o nb (oth _ b o nb e);have st5:=(st2.then f0 st3).thenL f0 oth5;refine wP ⟨plainId_quiet F.plain_extend_loop _,zR f0 len (λ h' tk ρ' acc' c' I' st' hL' rr=>?_) k dr ((Cx.thenL (L:=L) C3 ⟨_,hS3,rfl⟩ oth5).le (by lia)) (I3.thenL oth5 hS5) hi3 st5 hS5 .nil rfl⟩
 refine aY rfl (h h' tk ρ' _ (Inv.unhide (as:=[L]) I') st' ?_);have kk:(GG (L::X) env oc ρ' h').StaysIn (GG X env oc ρ' h'):=aU λ b o e nb=>⟨e,λ q=>nb (.tail _ q)⟩;refine .list (n:=c') (dG ?_ λ q=>?_) (rr.mono kk)
 ·exact hL'
 ·refine bN q (λ q=>?_) λ q=>?_
  ·refine aB (I.live L (mL q)) λ o e=>?_;simp only[f0] at e;exact nos e
  ·exact I'.off L (.head _) q
end
end
section
theorem RSs.split(xs:List Sx):∀{ys:List Sx} {sts:List Stmt},fJ sc sts (xs++ys)->∃ a b,sts=a++b/\fJ sc a xs/\fJ sc b ys:=by
 induction xs with
 | nil=>exact λ t=>⟨[],_,rfl,.nil,t⟩
 | cons x xs ih =>
  intro ys sts t;refine bB t.inv ?_;clear t;rintro s r rfl t r;refine bB (ih r) λ a b e p q=>?_;exact dR (s::a) b (by rw[e];rfl) (.cons t p) q
section
variable(S:Sys prog w)
theorem oR:∀(n:Nat) {sc:Scope} {a b:List Stmt} {xs:List Sx} {lv lv':LV} {σ σ':List MObj},fJ sc a xs->exs S.T n xs lv σ=some (.next,lv',σ')->∀{A:Around} {env:Env} {X:List Addr} {oc:List (Str×Addr)} {ρ:Ro} {s:Shared} {Q:Flow->Shared->Prop} {E:Value->Shared->Prop},
  CxI S n A s.heap X env oc ρ->Fx sc env oc->Inv X env oc ρ s.heap lv σ->(∀ h' tk ρ',Inv X env oc ρ' h' lv' σ'->Step X env oc ρ s.heap ρ' h'->wpAny (model prog w) A (execs b env) Q E { s with heap:=h',toks:=tk })->wpAny (model prog w) A (execs (a++b) env) Q E s:=by
 intro n;induction n with
 | zero=>intro _ _ _ _ _ _ _ _ _ e;exact nos e
 | succ n ih =>
  intro sc a b xs lv lv' σ σ' t e A env X oc ρ s Q E C F I h;cases xs with
  | nil =>
   obtain rfl:a=[]:=t;refine bU (dD e) ?_;clear e;rintro _ rfl rfl;exact h s.heap s.toks _ I (.refl _ _)
  | cons x xs =>
   refine bB t.inv ?_;clear t;rintro _ _ rfl t r;refine aZ e ?_;clear e;rintro⟨fl1,lv1,σ1⟩ e1 e2;refine wpAny_execs_cons ((dE S n).s t e1 C.down F I λ h1 tk1 ρ1 f I1 st1 fr=>?_);clear e1;cases fr with
   | next=>exact ih r e2 (Cx.step C.down I I1 st1) F I1 λ h2 tk2 ρ2 I2 st2=>h h2 tk2 ρ2 I2 (st1.trans st2)
   | brk=>cases e2
   | cont=>cases e2
   | ret _=>cases e2
end
section
theorem xR{k}(t:TrS sc st (.ret (.bi .list (.v x)))){vs Q}(C:CxI (S0 prog w) (n+6) A s.heap X env oc ρ)(F:Fx sc env oc)(I:Inv X env oc ρ s.heap lv σ)(hl:lv.lookup x=some (.mref i))(dr:fT i n k σ=some (vs,σ'))(hx:isX σ i=true)(len:vs.length≤1000)(h:∀ h' tk ρ' rv,Inv X env oc ρ' h' lv σ'->Step X env oc ρ s.heap ρ' h'->VRel (GG X env oc ρ' h') (.list vs) rv->Q (.ret rv) { s with heap:=h',toks:=tk }):wpAny (model prog w) A (exec st env) Q E s:=by
 refine eX t.inv ?_;clear t;rintro _ _ rfl te;refine bQ te.inv ?_;clear te;rintro _ _ _ rfl hg te;refine wpAny_Return_some (kX (S0 prog w) (dE (S0 prog w) 1).e hg ((S0 prog w).biOk .list) (by decide +kernel) eC te (y:=.mref i) hl (C.le (by exact Nat.le_add_left _ _)) F I λ h1 tk rv k1 r1=>?_)
 refine aE r1.mref ?_;clear r1;rintro p hi rfl;exact Af (s:={ s with heap:=h1,toks:=tk }) (Cx.up C k1) (I.ext k1) hi dr hx len λ h' tk ρ' rv I' st r=>h h' tk ρ' rv I' ((Step.of_up k1).trans st) r
end
noncomputable def iX(k:Nat)(x:Str):R3->Option (List PV)
 | some (.next,lv,σ)=>match lv.lookup x with
  | some (.mref i)=>if isX σ i then(fT i 190 k σ).bind λ r=>if r.1.length≤1000 then some r.1 else none else none
  | _=>none
 | _=>none
set_option tactic.hygienic true in
theorem lW{k r vs}(e:iX k x r=some vs):∃ lv σ i σ',r=some (.next,lv,σ)/\lv.lookup x=some (.mref i)/\isX σ i=true/\fT i 190 k σ=some (vs,σ')/\vs.length≤1000:=by
 unfold iX at e;split at e
 ·rename_i lv σ;split at e
  ·rename_i i hi;split at e
   ·rename_i hx;refine aE (Option.bind_eq_some_iff.mp e) ?_;rintro⟨vs',σ'⟩ d e;refine Qa e ?_;clear e;intro q e;obtain rfl:=sj e;exact jD lv σ i σ' rfl hi hx (aY d q)
   ·exact nos e
  ·exact nos e
 ·exact nos e
noncomputable def lL(host:PV):Option (List PV):=iX 100 "lexer" (exs T0 198 (kU.body.take 5) [("host",host)] [])
section
theorem Fk{host vs}(e:lL host=some vs)(C:CxB (Base w) 200 A s.heap H H)(lH:∀ b∈H,∃ o,s.heap.get? b=some o)(r:VRel (fz s.heap H) host rv)(h:kF H s Q (.list vs)) :
  wpAny (model prog w) A (call (.ref 818) [rv]) Q E s:=by
 refine gS (lW e) λ lv σ i σ' e1 e2 e3 y1=>aK y1 λ e4 e5=>?_;refine kS (nE.get C.base) λ o fd q1 q2 q3 _=>?_;generalize eV (bO 39)=body at q3;have hH:H=H++Ro.all ([]:Ro):=by simp[Ro.all]
 refine wpAny_call (pH (S:=S0 prog w) (n:=199) q3 (H:=H) (ρ:=[]) (σ:=[]) (by simp only[<- hH];exact C) (.nil lH) (vs:=[host]) (hH▸.cons (.frozen r) .nil) (q3.bind s [rv] aP rfl) aP (aP _ _ q1) q2 λ h₁ tk env oc I C1 fx En=>?_)
 refine bB (RSs.split (kU.body.take 5) (ys:=[.ret (.bi .list (.v "lexer"))]) q3.tr) ?_;rintro a b rfl ta tb;refine bB tb.inv ?_;clear tb;rintro _ _ rfl tb tn;have q:_=_:=tn.inv;clear tn;clear q3;subst q;refine oR (S0 prog w) 198 ta e1 C1.down fx I λ h2 tk2 ρ2 I2 st2=>?_;have C2:=Cx.step C1 I I2 st2;refine wpAny_execs_cons (xR tb (C2.le (by exact Nat.le_add_left _ _)) fx I2 e2 e4 e3 e5 λ h3 tk3 ρ3 rv I3 st3 r3=>?_)
 refine bU (qA En I3 (st2.trans st3)) λ M st back=>?_;have k0:Up H s.heap h3:=hH▸(st.up.toUp:Up (H++Ro.all []) s.heap h3);exact h h3 tk3 _ k0 (gD M.off M.chg (.frozen (r3.mono back)) rfl)
end
end
theorem Hg(P:Params)(S:Setting)(a b p:Value):peek (KK P) S (bindArgs xFd ⟨[a,b],[("posix",p)]⟩)=some (eY.ps.zip [a,b,.none,p,.bool false]):=by kernel_rfl
noncomputable abbrev Op:FuncData:=bY (bO 32) "split" (.str "cpy313.shlex" 1175) (.ref 790) (.ref 784)
theorem Oq(P:Params):(KK P).lookup 791=some ⟨.type "function",none,.func Op,#[]⟩:=by kernel_rfl
theorem Bj(P:Params)(S:Setting)(a:Value):peek (KK P) S (bindArgs Op ⟨[a],[]⟩)=some (jG.ps.zip [a,.bool false,.bool true]):=by kernel_rfl
inductive SplBody:List Stmt->Prop
 | mk {s1 s3 s4 s5:Stmt} {p1 p2 p3 p4 p5 p6 p7:Pos}:SplBody [s1,.Assign [.Name "lex" p1] (.Call (.Name "shlex" p2) [.Name "s" p3] [⟨some "posix",.Name "posix" p4,p5⟩] p6) p7,s3,s4,s5]
theorem aAK:SplBody (eV (bO 32)):=.mk
noncomputable def aBA:List Stmt->Prop
 | _::s2::_=>∃ p1 p2 p3 p4 p5 p6 p7,s2=.Assign [.Name "lex" p1] (.Call (.Name "shlex" p2) [.Name "s" p3] [⟨some "posix",.Name "posix" p4,p5⟩] p6) p7
 | _=>True
theorem SplBody.inv{l}(h:SplBody l):aBA l:=by
 apply SplBody.casesOn (motive:=λ l _=>aBA l) h
 intros
 exact Hh _ _ _ _ _ _ _ rfl
theorem aAL:dJ (fA (bO 32)) "lex"/\fY (fA (bO 32)) "s"/\fY (fA (bO 32)) "posix"/\aR (fA (bO 32)) "shlex":=⟨.inl (by kernel_rfl),.inl (by kernel_rfl),.inl (by kernel_rfl),by unfold aR;kernel_rfl⟩
noncomputable abbrev kE(line:PV):LV:=[("posix",.bool true),("comments",.bool false),("s",line)]
noncomputable abbrev Ea(line:PV):LV:=(eY.ps.zip [.mref 0,line,.none,.bool true,.bool false]).reverse
noncomputable def kQ(line:PV):Option (List PV):=match evT T0 190 (.cmp .Is (.v "s") (.c .none)) (kE line) [] with
 | some false=>match exs T0 190 eY.body (Ea line) [.inst 779 []] with
  | some (.next,_,σ1)=>iX 100 "lex" (exs T0 197 ((jG.body.drop 2).take 2) (("lex",.mref 0)::kE line) σ1)
  | _=>none
 | _=>none
section
theorem Ai{v}(hk:fY sc x)(hd:(x=="__debug__")=false)(hc:(x=="__classdict__")=false)(F:Fx sc env oc)(I:Inv X env oc ρ s.heap lv σ)(e:lv.lookup x=some v)(h:∀ rv,XRel (GG X env oc ρ s.heap) ρ v rv->Q rv s):wpAny (model prog w) A (eval (.Name x p) env) Q E s :=
 wpAny_Name (cS hk hc e F I λ rv r=>h rv r) hd
theorem Bk{line vs}(e:kQ line=some vs):∃ lvx σ1,evT T0 190 (.cmp .Is (.v "s") (.c .none)) (kE line) []=some false/\exs T0 190 eY.body (Ea line) [.inst 779 []]=some (.next,lvx,σ1)/\iX 100 "lex" (exs T0 197 ((jG.body.drop 2).take 2) (("lex",.mref 0)::kE line) σ1)=some vs:=by
 unfold kQ at e;generalize evT T0 190 (.cmp .Is (.v "s") (.c .none)) (kE line) []=a at e ⊢;cases a with
 | none=>exact nos e
 | some a=>cases a with
  | true=>exact nos e
  | false =>
   generalize exs T0 190 eY.body (Ea line) [.inst 779 []]=b at e ⊢;cases b with
   | none=>exact nos e
   | some b =>
    obtain⟨fl,lvx,σ1⟩:=b;rcases fl with⟨⟩<;>first|exact nos e|exact dR _ _ rfl rfl e
theorem Ot{line vs}(e:kQ line=some vs)(C:CxB (Base w) 200 A s.heap H H)(lH:∀ b∈H,∃ o,s.heap.get? b=some o)(r:VRel (fz s.heap H) line rv)(h:kF H s Q (.list vs)) :
  wpAny (model prog w) A (call (.ref 791) [rv]) Q E s:=by
 refine bB (Bk e) λ lvx σ1 e1 e2 e=>?_;refine gS (lW e) λ lv σ i σ' e3 e4 e5 y1=>aK y1 λ e6 e7=>?_;refine kS (oX.get C.base) λ o fd q1 q2 q3 q4=>?_;have b0:Base w (fz s.heap H):=C.base;have hat:=b0.k _ _ (Oq _);rw[q1] at hat;obtain rfl:=sj hat;rcases q2 with⟨⟩;have sok:=aAK;refine kR aAL λ sc1 sc2 sc3 sc4=>?_;rw[<- q4] at sc1 sc2 sc3 sc4;generalize eV (bO 32)=body at q3 sok;have hH:H=H++Ro.all ([]:Ro):=by simp[Ro.all]
 refine wpAny_call (pH (S:=S0 prog w) (n:=199) q3 (H:=H) (ρ:=[]) (σ:=[]) (by rw[<- hH];exact C) (.nil lH) (vs:=[line,.bool false,.bool true]) (rvs:=[rv,.bool false,.bool true]) (hH▸.cons (.frozen r) (.cons (.frozen (.bool _)) (.cons (.frozen (.bool _)) .nil)))
  (act:=⟨[rv],[]⟩) (λ M A E Q hq=>(Looks.of_peek (M:=M) (b0.k.keeps aP) (Bj _ _ _)).here hq) aP (aP _ _ q1) rfl λ h₁ tk env oc I C1 fx En=>?_)
 generalize Op=fd at *;have tr:=q3.tr;refine bB tr.inv ?_;clear tr;rintro _ _ rfl t1 tr;refine bB tr.inv ?_;clear tr;rintro _ _ rfl t2 tr;refine bB (RSs.split ((jG.body.drop 2).take 2) (ys:=[.ret (.bi .list (.v "lex"))]) tr) ?_;rintro a b rfl ta tb;refine bB tb.inv ?_;clear tb;rintro _ _ rfl tb tn;have q:_=_:=tn.inv;clear tn;clear tr;subst q;refine gS t1.inv ?_;clear t1;rintro _ _ _ _ rfl tt tbb tc;have q:_=_:=tc.inv;clear tc;subst q;have al:=dE (S0 prog w);refine wpAny_execs_cons (wpAny_If ((al 190).t tt e1 (C1.le (by exact Nat.le_add_left _ _)) fx I λ h2 tk2 k2=>?_))
 have I2:=I.ext k2;have C2:=Cx.up C1 k2;rw[if_neg (by decide)]
 refine wpAny_execs_nil ?_;refine kT sok.inv ?_;clear sok;clear t2 q3;rintro p1 p2 p3 p4 p5 p6 p7 rfl;refine wpAny_execs_cons (wpAny_Assign_Name ?_ rfl);show wpAny _ _ (do callWith p6 (<- eval (.Name "shlex" p2) env) [] (backTo p6 (starEach [.Name "s" p3] env)) (backToKw p6 (keywordEach [⟨some "posix",.Name "posix" p4,p5⟩] env))) _ _ _
 refine wB (bR (S0 prog w) sc4 (aBX w.params) (by decide +kernel) C2 fx ?_)
 refine callWith_of (P:=λ h=>∃ k,(k=Keeper.frame∨k=Keeper.machine∨k=Keeper.boundFrame)/\Looks (model prog w) h (keeperOf (.ref 779)) k) rfl (λ _ z=>z) (evalArgs_kw2 rfl ?_);refine spliced_cons (Ai sc2 (by decide +kernel) (by decide +kernel) fx I2 (v:=line) (by rfl) λ rv2 r2=>spliced_nil ?_)
 refine kwAll_cons (Ai sc3 (by decide +kernel) (by decide +kernel) fx I2 (v:=.bool true) (by rfl) λ rv3 r3=>kwAll_nil ?_)
 have B2:Base w (GG H env oc [] h2):=C2.base;refine aY (keeps_K (Ku _) _ (B2.k.keeps aP)) ?_;refine Li B2 aP λ h3 tk3 ix dx k3 f1 f2 nxd a1 a2 A' hA'=>?_;refine aE hA' ?_;clear hA';intro j hj y2;refine aE y2 ?_;clear y2;rintro jd hjd rfl;have hf:∀ a∈(ix,[dx]).1::(ix,[dx]).2,h2.get? a=none:=λ a ha=>by
  refine mc2 ha (λ q=>?_) λ q=>?_
  ·exact q▸f1
  ·exact xm1 q▸f2
 have I3:=I2.newObj (h':=h3) (p:=(ix,[dx])) (o:=.inst 779 []) hf (by simpa using nxd) (.of k3) (λ a ha=>by
   refine mc2 ha (λ q=>?_) λ q=>?_
   ·exact bM _ (by rw[q];exact a1)
   ·obtain⟨o,_,_,e,_⟩:=a2;exact bM o (by rw[xm1 q];exact e)) ⟨dx,_,rfl,a1,a2,(λ _ _ q=>by exact nos q),(λ _ _=>rfl)⟩
 have st3:Step H env oc [] h2 ([]++[(ix,[dx])]) h3:=⟨⟨_,rfl⟩,.of (.of k3),λ b hb=>by
  rw[cI] at hb;refine bN hb (λ q=>?_) λ q=>?_
  ·exact .inl q
  ·exact .inr (hf b q)⟩
 have C3:=Cx.step C2 I2 I3 st3;have C4:CxI (S0 prog w) 191 { A.deeper env with depth:=(A.deeper env).depth+jd,units:=(A.deeper env).units+j } h3 H env oc ([]++[(ix,[dx])]):=⟨C3.hd,by have:=C3.dp;show(A.deeper env).depth+jd+191<_;lia,by have:=C3.un;show(A.deeper env).units+j+8 * 191+16<_;lia,C3.base,C3.fr⟩
 refine aB (Py (C3.base:Base w _)) λ bx hx=>?_;have B3:Base w (GG H env oc ([]++[(ix,[dx])]) h3):=C3.base;refine iY (S0 prog w) (al 190).ss (s:={ s with heap:=h3,toks:=tk3 }) hx C4 I3 (vs:=[.mref 0,line,.none,.bool true,.bool false]) (rvs:=[.ref ix,rv2,.none,rv3,.bool false])
  (.cons (.mr (p:=(ix,[dx])) rfl) (.cons (r2.mono st3.fz).more (.cons (.frozen .none) (.cons (r3.mono st3.fz).more (.cons (.frozen (.bool _)) .nil))))) (act:=⟨[.ref ix,rv2],[("posix",rv3)]⟩) (λ M A E Q hq=>(Looks.of_peek (M:=M) (B3.k.keeps aP) (Hg _ _ _ _ _)).here hq)
  aP (aP _ _ (B3.k _ _ (Pw _))) rfl e2 λ h4 tk4 ρ4 rv4 I4 st4 _ hnx=>⟨hnx rfl,?_⟩
 refine aB st4.grow ?_;rintro ρx rfl;refine bJ (v:=.mref 0) sc1 fx I4 (.mr (p:=(ix,[dx])) rfl) λ h5 tk5 I5 k5=>?_;have st5:=(Step.of_up k2).trans (st3.trans (st4.trans (.local k5)));have C5:=Cx.step C1 I I5 st5;refine oR (S0 prog w) 197 ta e3 (C5.le (by exact Nat.le_add_left _ _)) fx I5 λ h6 tk6 ρ6 I6 st6=>?_
 have C6:=Cx.step C5 I5 I6 st6;refine wpAny_execs_cons (xR tb (C6.le (by exact Nat.le_add_left _ _)) fx I6 e4 e6 e5 e7 λ h7 tk7 ρ7 rv7 I7 st7 r7=>?_)
 refine bU (qA En I7 (st5.trans (st6.trans st7))) λ M st back=>?_;have k0:Up H s.heap h7:=hH▸(st.up.toUp:Up (H++Ro.all []) s.heap h7);exact h h7 tk7 _ k0 (gD M.off M.chg (.frozen (r7.mono back)) rfl)
end
section
noncomputable abbrev exO(t:Addr)(tb c2:Value):Obj:={ cls:=.type "IndexError",dict:=none,data:=.fields #[.ref t,tb,c2,.none,.bool false,.none],slots:=#[] }
noncomputable abbrev tbO(ts:Array Value):Obj:={ cls:=.type "traceback",dict:=none,data:=.fields ts,slots:=#[] }
noncomputable def HOk(A:Around)(h:Heap):Prop:=A.handled=none∨∃ e t tb,A.handled=some (.ref e)/\h.get? e=some (exO t tb .none)
structure Thr(A:Around)(h h':Heap)(e:Addr):Prop where
 keeps:h.StaysIn h'
 new:h.get? e=none
 there:∃ t c2,h'.get? e=some (exO t .none c2)/\(A.handled=none->c2=.none)
theorem rI:entryFor table "proto.unchain"=some Builtin.«proto.unchain»:=entryFor_of_fast (by kernel_rfl)
theorem rK:plainId "proto.unchain"=true:=by decide +kernel
section
theorem xP{msg Q}(hh:HOk A s.heap)(h:∀ h' tk e,Thr A s.heap h' e->E (.ref e) { s with heap:=h',toks:=tk }):wpAny (model prog w) A (raiseErrorWords "IndexError" msg:Sem α) Q E s:=by
 dsimp only [raiseErrorWords];refine wB (wpAny_mkText (wB (wpAny_newExc_plain plainExc_IndexError λ h' e m=>?_)));refine aE m.there λ t he _=>?_;rcases hh with hh|⟨e1,t1,tb1,hh,h1⟩
 ·refine wpAny_raiseNew_none hh (h _ _ _ ⟨m.keeps,m.new,t,_,he,λ _=>rfl⟩)
 ·have ne:e1≠e:=λ z=>by
   have:=m.new;rw[<- z,show s.heap.get? e1=some _ from h1] at this;exact nso this
  dsimp only [raiseNew];refine wB (wpAny_handled ?_);rw[hh];dsimp only;have hn:(Value.ref e1 != Value.ref e)=true:=by simp[ne]
  rw[if_pos hn];refine wB (wpAny_holding (wpAny_runValue (codeAny_builtin rI ?_)));dsimp only [Around.under_plainId rK _];have h1':=m.keeps _ _ h1;show wpAny _ _ (field (.ref e1) 2 >>= _) _ _ _;refine wB (wpAny_field (x:=.none) h1' rfl rfl ?_);refine wP ?_;show wpAny _ _ (setField (.ref e) 2 (.ref e1) >>= λ _=>throw (.ref e)) _ _ _;refine wB ?_;refine wpAny_setField_rec he (by show 2<6;decide) λ h2 e2 sb=>?_
  refine wpAny_throw (h _ _ _ ⟨λ b o q=>sb.extBut b o (λ z=>?_) (m.keeps b o q),m.new,t,_,e2,λ q=>by rw[hh] at q;exact nso q⟩)
  have:=m.new;rw[<- z,q] at this;exact nso this
theorem Kr{l}{items}{i:Int}{k:Nat}{t:Tok}(hA:HOk A s.heap)(hl:s.heap.IsList l items)(hi:i=k)(hout:items.size≤k)(hhi:k<1000000)(hE:∀ h' tk e,Thr A s.heap h' e->E (.ref e) { s with heap:=h',toks:=tk }):wpAny (model prog w) A (getItem (.ref l) (.int i t)) Q E s:=by
 refine fQ (id hl) λ o ho hc q1=>aB q1 λ ne hd=>?_;dsimp only [getItem]
 try with_reducible refine wpAny_holding ?_
 first|refine wB (wP ?_)|skip
 refine wB (wpAny_sequenceKey hl.typeIs (by decide) ?_)
 refine wB (wpAny_callSpecial?_slot (name:=Str.ofString "__getitem__") hl.typeIs slot_list_getitem
  (wpAny_call_entry slot_list_getitem hl.typeIs entry_list_getitem ?_ (args_list_getitem _ _)))
 show wpAny _ _ (Builtin.List.listSubscript? (.int i t) >>= _) _ _ s;have fits:Builtin.List.listFitsIndex i=true:=fitsIndex_both (by lia) (by omega)
 clear hhi;refine wB (wpAny_listSubscript_int fits ?_);have hx:items[k]? = none:=Array.getElem?_eq_none hout;clear fits;subst hi;show wpAny _ _ ((seqItemAt l k >>= λ r=>pure (r.map (k,·))) >>= _) _ _ s;refine wB (wB (wpAny_seqItemAt ho hd (wP ?_)));rw[hx];refine wB (wpAny_rule ?_);exact wB (xP (A:=A.in1) (show HOk A.in1 s.heap from hA) λ h' tk e z=>hE h' tk e ⟨z.keeps,z.new,z.there⟩)
end
inductive Fly(h:Heap)(e T:Addr)(c2 fl:Value):Prop
 | mk (t ts:_):h.get? e=some (exO t (.ref T) c2)->h.get? T=some (tbO ts)->ts[3]? = some fl->T≠e->Fly h e T c2 fl
theorem Fly.up{h e T c2 fl}(f:Fly h e T c2 fl)(k:h'.get? e=h.get? e)(k':h'.get? T=h.get? T):Fly h' e T c2 fl :=
 let⟨t,ts,a,b,c,d⟩:=f;⟨t,ts,k.trans a,k'.trans b,c,d⟩
section
variable{M:Model}
theorem aV{a cls vs k x Q}(ho:s.heap.get? a=some { cls:=cls,dict:=none,data:=.fields vs,slots:=#[] })(hk:k<vs.size)(h:∀ h',h'.get? a=some { cls:=cls,dict:=none,data:=.fields (vs.setIfInBounds k x),slots:=#[] }->Heap.SameBut a s.heap h'->Q () { s with heap:=h' }):wpAny M A (setField (.ref a) k x) Q E s :=
 wpAny_setField ho rfl hk (h _ (Heap.get?_update_self _ ho rfl) (Heap.SameBut.update ..))
theorem Aj{base outer L e t c2 Q}(hfr:A.frames=some (env::outer))(hl:s.heap.FunFrames base (env::outer))(hf:env.frame=some L)(he:s.heap.get? e=some (exO t .none c2))(hkb:base.StaysIn s.heap)(hen:base.get? e=none)(h:∀ h' T,base.StaysIn h'->s.heap.UpToSlots h'->s.heap.get? T=none->Fly h' e T c2 (rawInt L)->Q () { s with heap:=h' }):wpAny M A (noteFrame (.ref e) env) Q E s:=by
 dsimp only [noteFrame];simp only[hf];refine wB (wpAny_field (x:=.none) he rfl rfl ?_);rw[if_neg (by decide)]
 have hene:e∉(env::outer).filterMap (·.frame):=λ hm=>by
  refine aK (hl.mem hm) λ _ q2=>aE q2 λ o ho hnf=>?_;simp only[he] at ho;injection ho with ho;subst ho;exact hnf _ rfl
 refine wB (wpAny_frameOf_fun hfr hl hf λ h₁ hs₁=>?_);refine wB (wpAny_entryPlaceOf λ pl hpl=>?_);unfold EntryCells.newEntry newFields;refine wB (wpAny_newObj_type ?_ (hpl.sizeOk5 _ _ _ _ _));have he₁:h₁.get? e=some (exO t .none c2):=(hs₁.2.1 e hene).trans he;have hT:=Heap.get?_push_size h₁ (o:={ cls:=.type "traceback",dict:=none,data:=.fields ([.none,.ref L,.none,rawInt L,.none]++(if pl.isEmpty then List.replicate 6 Value.none else pl)).toArray }) rfl
 have keep:∀ b o,h₁.get? b=some o->(h₁.push { cls:=.type "traceback",dict:=none,data:=.fields ([.none,.ref L,.none,rawInt L,.none]++(if pl.isEmpty then List.replicate 6 Value.none else pl)).toArray }).get? b=some o:=λ b o=>Heap.get?_push_of_some _
 have hTe:h₁.objs.size≠e:=Nat.ne_of_gt (Heap.lt_size he₁);refine aV (keep _ _ he₁) (by show 1<6;decide) λ h2 e2 sb=>?_
 refine h h2 h₁.objs.size (λ b o hb=>sb.extBut b o (λ q=>by simp only[q,hen] at hb;exact nos hb) (keep b o ((hs₁.2.1 b λ hm=>by simp only[(hl.mem hm).1] at hb;exact nos hb).trans (hkb b o hb)))) (λ b o hb hn=>?_) ?_ ⟨t,_,e2,sb.extBut _ _ hTe hT,?_,hTe⟩
 ·refine aB (hs₁.2.2 b o hb) λ sl q=>?_;exact bM sl (sb.extBut b _ (λ z=>by simp only[z,he] at hb;injection hb with hb;clear q;subst hb;exact hn _ rfl) (keep b _ q))
 ·cases q:s.heap.get? h₁.objs.size with
  | none=>rfl
  | some o=>have:=Heap.lt_size q;simp only[hs₁.1] at this;exact absurd this (Nat.lt_irrefl _)
 ·first|(simp;done)|(rcases hpl with rfl|⟨_,_,_,_,_,_,_,rfl⟩<;>simp)
theorem gG{L e T c2 Q}(hf:env.frame=some L)(f:Fly s.heap e T c2 (rawInt L))(h:Q () s):wpAny M A (noteFrame (.ref e) env) Q E s:=by
 obtain⟨t,ts,a,b,c,d⟩:=f;dsimp only [noteFrame];simp only[hf];refine wB (wpAny_field (x:=.ref T) a rfl rfl ?_);rw[if_pos (show(Value.ref T != Value.none)=true from by rfl)]
 refine wB (wpAny_field b rfl c ?_);rw[if_pos (show(rawInt L==rawInt L)=true from by simp)]
 exact wP h
theorem gV{e T c2 fl fr Q}(f:Fly s.heap e T c2 fl)(h:∀ h',Fly h' e T c2 (fr.elim .none λ f=>rawInt f)->Heap.SameBut T s.heap h'->Q () { s with heap:=h' }):wpAny M A (setFlight (.ref e) fr) Q E s:=by
 obtain⟨t,ts,a,b,c,d⟩:=f;unfold setFlight;refine wB (wpAny_field (x:=.ref T) a rfl rfl ?_);rw[if_pos (show(Value.ref T != Value.none)=true from by rfl)]
 have h3:3<ts.size:=(Array.getElem?_eq_some_iff.mp c).1;refine aV b h3 λ h2 e2 sb=>h h2 ⟨t,_,(sb.2 e (Ne.symm d)).trans a,e2,by simp[h3],d⟩ sb
end
end
section
section
structure Fra(prog:Program)(w:World)(A:Around)(H:List Addr)(env:Env)(oc:List (Str×Addr))(h₁:Heap)(lv0:LV)(l:List Env)(sc:Scope):Prop where
 C:CxI (S0 prog w) 100 A h₁ H env oc []
 I:Inv H env oc [] h₁ lv0 []
 hl:A.frames=some (env::l)
 hf:env.frame=some env.locals
 fx:Fx sc env oc
structure Kp(H:List Addr)(env:Env)(oc:List (Str×Addr))(h₁:Heap)(as:List Addr)(ρ:Ro)(h:Heap)(lv:LV)(σ:List MObj):Prop where
 I:Inv (as++H) env oc ρ h lv σ
 st:Step H env oc [] h₁ ρ h
 new:∀ a∈as,h₁.get? a=none
variable{A2:Around}{h₁:Heap}{lv0:LV}{l:List Env}{as:List Addr}{h:Heap}
theorem Kp.live(k:Kp H env oc h₁ as ρ h lv σ){b}(e:h.get? b=none):h₁.get? b=none:=by
 cases q:h₁.get? b with
 | none=>rfl
 | some o =>
  by_cases z:b∈aH env oc []
  ·refine aB (k.I.live b (mR (aW z))) λ o' q'=>?_;simp only[e] at q';exact nos q'
  ·refine aB (k.st.up.sl b o z q) λ _ q'=>?_;simp only[e] at q';exact nos q'
theorem Kp.cx(F:Fra prog w A H env oc h₁ lv0 l sc)(k:Kp H env oc h₁ as ρ h lv σ):CxI (S0 prog w) 100 A h H env oc ρ:=Cx.step F.C F.I k.I.unhide k.st
theorem Kp.asOff(k:Kp H env oc h₁ as ρ h lv σ){b}(m:b∈as):b∉aH env oc []:=λ q=>k.I.off b (mL m) (aW q)
theorem Kp.asLive(k:Kp H env oc h₁ as ρ h lv σ){b}(m:b∈as):∃ o,h.get? b=some o:=k.I.live b (mL (mL m))
theorem Kp.store{v Q}(hx:dJ sc x)(fx:Fx sc env oc)(k:Kp H env oc h₁ as ρ s.heap lv σ)(r:XRel (GG (as++H) env oc ρ s.heap) ρ v rv)(hq:∀ h' tk,Kp H env oc h₁ as ρ h' ((x,v)::lv) σ->(∀ b∈as,h'.get? b=s.heap.get? b)->Q () { s with heap:=h',toks:=tk }):wpAny (model prog w) A2 (storeName env x rv) Q E s :=
 bJ hx fx k.I r λ h' tk I' loc=>hq h' tk ⟨I',k.st.trans (.local loc),k.new⟩ λ b hb=>by
  refine aB (k.asLive hb) λ o e=>?_;simp only[e];exact loc b o (k.asOff hb) e
theorem Kp.note{A' e Q}(F:Fra prog w A H env oc h₁ lv0 l sc)(hfr:A2.frames=some (env::l))(k:Kp H env oc h₁ as ρ h lv σ)(z:Thr A' h s.heap e)(hq:∀ h' T c2,Kp H env oc h₁ (e::T::as) ρ h' lv σ->Fly h' e T c2 (rawInt env.locals)->(∀ b∈as,h'.get? b=h.get? b)->T∉as->(A'.handled=none->c2=.none)->Q () { s with heap:=h' }):wpAny (model prog w) A2 (noteFrame (.ref e) env) Q E s:=by
 refine aK ((k.cx F).fr.base F.hl) λ b1 b2=>?_;refine eX z.there λ t c2 he hc=>?_;refine Aj (base:=fz h (frs (env::l))) hfr (b1.of_keeps λ b o q _=>⟨o,z.keeps b o q,rfl⟩) F.hf he (λ b o q=>z.keeps b o (aP b o q)) (by
  cases q:(fz h (frs (env::l))).get? e with
  | none=>rfl
  | some o=>have:=z.new;rw[(dT q).1] at this;exact nso this) λ h' T k1 k2 f3 fl=>?_
 have hTn:h.get? T=none:=by
  cases q:h.get? T with
  | none=>rfl
  | some o=>rw[z.keeps _ _ q] at f3;exact nso f3
 have up:=b2 h' k1 ((Heap.UpToSlots.of_keeps z.keeps).trans k2);have up':Up ((as++H)++aH env oc ρ) h h':=⟨λ b o n q=>up.out b o (λ m=>n (by rw[List.append_assoc];exact mR m)) q,up.nd,up.sl⟩
 have lv':∀ a∈[e,T],∃ o,h'.get? a=some o:=by
  obtain⟨_,_,q1,q2,_⟩:=fl;intro a ha;simp only[List.mem_cons,List.mem_nil_iff,or_false] at ha;rcases ha with rfl|rfl
  ·exact bM _ q1
  ·exact bM _ q2
 have nw:∀ a∈[e,T],h.get? a=none:=by
  intro a ha;simp only[List.mem_cons,List.mem_nil_iff,or_false] at ha;rcases ha with rfl|rfl
  ·exact z.new
  ·exact hTn
 refine hq h' T c2 ⟨k.I.hide (as:=[e,T]) nw up' lv',k.st.trans (.of_up up),λ a ha=>?_⟩ fl (λ b hb=>?_) (λ m=>?_) hc
 ·rcases List.mem_cons.mp ha with rfl|ha
  ·exact k.live z.new
  ·rcases List.mem_cons.mp ha with rfl|ha
   ·exact k.live hTn
   ·exact k.new a ha
 ·refine aB (k.asLive hb) λ o q=>?_;rw[q];refine up.out b o (λ m=>?_) q;have hn:=k.new b hb;refine bN m (λ m=>?_) λ m=>?_
  ·refine aB (F.I.live b (mL m)) λ o' q'=>?_;rw[hn] at q';exact nos q'
  ·exact k.I.off b (mL hb) m
 ·refine aB (k.asLive m) λ o q=>?_;rw[hTn] at q;exact nos q
theorem Kp.flight{e T}(k:Kp H env oc h₁ (e::T::as) ρ h lv σ)(sb:Heap.SameBut T h h')(lt:∃ o,h'.get? T=some o):Kp H env oc h₁ (e::T::as) ρ h' lv σ where
 I:=k.I.hid (λ b o n q=>sb.extBut b o (λ z=>n (z▸.tail _ (.head _))) q) λ a ha=>by
  refine aB (k.I.live a (mL ha)) λ o q=>?_;by_cases z:a=T
  ·exact z▸lt
  ·exact bM o ((sb.2 a z).trans q)
 st:=k.st.thenL (L:=T) (k.new T (.tail _ (.head _))) λ b o n q=>sb.extBut b o n q
 new:=k.new
end
end
section
structure Nm(sc:Scope)(x:Str):Prop where
 k:sc.names.lookup x=some .local
 d:(x==("__debug__":Str))=false
 c:(x==("__classdict__":Str))=false
section
variable{A2:Around}{h₁:Heap}{lv0:LV}{l:List Env}{as:List Addr}
theorem Nm.wp{v}(n:Nm sc x)(F:Fx sc env oc)(I:Inv X env oc ρ s.heap lv σ)(e:lv.lookup x=some v)(h:∀ rv,XRel (GG X env oc ρ s.heap) ρ v rv->Q rv s):wpAny (model prog w) A2 (eval (.Name x p) env) Q E s :=
 Ai (.inl n.k) n.d n.c F I e h
theorem Df{xs:List Str}{k:Nat}{p3:Pos}(nx:Nm sc x)(ny:Nm sc y)(fx:Fx sc env oc)(I:Inv X env oc ρ s.heap lv σ)(ex:lv.lookup x=some (.list (xs.map .str)))(ey:lv.lookup y=some (.int k))(hk:k<100000)(hh:HOk A2 s.heap)(hin:∀ v t,xs[k]? = some v->Q (.str v t) s)(hout:xs.length≤k->∀ h' tk e,Thr A2 s.heap h' e->E (.ref e) { s with heap:=h',toks:=tk }):wpAny (model prog w) A2 (eval (.Subscript (.Name x p1) (.Name y p2) p3) env) Q E s:=by
 refine Bo (sc:=sc) (b:=.v y) (.v (.inl ny.k) ny.d ny.c) (nx.wp fx I ex λ ro r=>ny.wp fx I ey λ ri r'=>?_);cases r with|frozen r =>
 cases r with|list e' v =>
 refine aB r'.inv ?_;clear r';rintro t rfl;have e2:=aP _ _ e';refine dR "list" _ slot_list_getitem.lookup ⟨_,e2,rfl⟩ ?_;by_cases hl:k<xs.length
 ·refine aE (v.get (show(xs.map PV.str)[k]? = some (.str xs[k]) by simp[hl])) λ x' hx hr=>?_
  refine aB hr.inv ?_;clear hr;rintro _ rfl;exact wpAny_getItem_list (k:=(k:Int)) (aI e2) (by lia) (by omega) (by simp only[Int.toNat_natCast,List.getElem?_toArray];exact hx) (hin _ _ (by simp[hl]))
 ·exact Kr hh (aI e2) rfl (by simp only[List.size_toArray,v.length,List.length_map];omega) (by exact ll1 ‹_› (by rfl)) (hout (by omega))
theorem Kj{k m:Nat}{p3:Pos}{Q:Flow->Shared->Prop}(ny:Nm sc y)(fx:Fx sc env oc)(kp:Kp H env oc h₁ as ρ s.heap lv σ)(ey:lv.lookup y=some (.int k))(h:∀ h' tk,Kp H env oc h₁ as ρ h' ((y,.int ((k+1:Nat):Int))::lv) σ->(∀ b∈as,h'.get? b=s.heap.get? b)->Q .next { s with heap:=h',toks:=tk }) :
  wpAny (model prog w) A2 (exec (.AugAssign (.Name y p1) .Add (.Constant (.int 1) m p2) p3) env) Q E s:=by
 refine wpAny_AugAssign_Name (cS (.inl ny.k) ny.c ey fx kp.I λ rv r=>?_);refine aB r.inv ?_;clear r;rintro t rfl;refine wpAny_Constant_int ?_;refine AutoIntOps.iadd_0 ?_;exact kp.store (v:=.int ((k+1:Nat):Int)) (.inl ny.k) fx (.frozen (.int _ _)) h
theorem mE{M e T L c2}(hf:env.frame=some L)(fl:Fly s.heap e T c2 (rawInt L))(h:∀ h',Fly h' e T c2 (rawInt L)->Heap.SameBut T s.heap h'->E (.ref e) { s with heap:=h' }):cameBackBy M A2 env E (.ref e) s:=by
 obtain⟨t,ts,q1,q2,q3,q4⟩:=id fl;dsimp only [cameBackBy];refine wB (wpAny_field (x:=.ref T) q1 rfl rfl ?_);rw[if_neg (by simp)]
 refine gV fl λ h3 fl3 sb=>?_;rw[hf] at fl3;exact h h3 fl3 sb
theorem yK{k Q}(h:Q true s):wpAny (model prog w) A2 (isTrue (.Constant (.bool true) k p) env (eval (.Constant (.bool true) k p) env)) Q E s :=
 wpAny_isTrue_value (wpAny_Constant_bool (wpAny_truthy_bool h)) rfl
theorem jC{v}{xs:List Str}{k m:Nat}{a:Str}{p3 p4 p5 p6 p7 p8 p9:Pos}{Q:Flow->Shared->Prop}(nx:Nm sc x)(ny:Nm sc y)(nv:Nm sc v)(F:Fra prog w A H env oc h₁ lv0 l sc)(hfr:A2.frames=some (env::l))(hu:A2.units+8<cLine)(kp:Kp H env oc h₁ as ρ s.heap lv σ)(ex:lv.lookup x=some (.list (xs.map .str)))(ey:lv.lookup y=some (.int k))(ev:lv.lookup v=some (.str a))(hk:k<100000)(hh:HOk A2 s.heap)(hne:∀ b,xs[k]? = some b->b≠a)(hnext:k<xs.length->Q .next s)(hthrow:xs.length≤k->∀ h' tk e T c2,Kp H env oc h₁ (e::T::as) ρ h' lv σ->Fly h' e T c2 (rawInt env.locals)->(∀ b∈as,h'.get? b=s.heap.get? b)->(A2.handled=none->c2=.none)->E (.ref e) { s with heap:=h',toks:=tk }) :
  wpAny (model prog w) A2 (exec (.While (.Compare (.Subscript (.Name x p1) (.Name y p2) p3) [.Eq] [.Name v p4] p5) [.AugAssign (.Name y p6) .Add (.Constant (.int 1) m p7) p8] [] p9) env) Q E s:=by
 refine wpAny_While (codeAny_of_tree ?_);show wpAny _ A2 ((whileTurn _ _ [] env).onRaise (λ x=>do noteFrame x env;theTreesLotGoes x)) _ _ s
 refine wpAny_noted ?_;dsimp only [whileTurn];refine wB (wpAny_isTrue_Compare1 (Df nx ny F.fx kp.I ex ey hk hh (λ b t hb=>?_) (λ hout h' tk e z=>?_)) rfl)
 ·refine nv.wp F.fx kp.I ev λ rv r=>?_;refine aB r.inv ?_;clear r;rintro t2 rfl;have hlt:k<xs.length:=(List.getElem?_eq_some_iff.mp hb).1;refine rX (g:=s.heap) (a:=.str b) (b:=.str a) (r:=false) hu (λ _ _ e=>e) (.frozen (.str b t)) (.frozen (.str a t2)) ?_ (wpAny_truthy_bool ?_)
  ·have:(b==a)=false:=by simpa using hne b hb
   exact congrArg some this
  ·rw[if_neg (by decide)]
   exact wB (wpAny_execs_nil (wP (hnext hlt)))
 ·show wpAny _ _ (noteFrame (.ref e) env) _ _ _;refine kp.note (s:={ s with heap:=h',toks:=tk }) F hfr z λ h2 T c2 kp2 fl same nT hc=>?_;refine mE F.hf fl λ h3 fl3 sb=>?_;refine hthrow hout h3 tk e T c2 (kp2.flight sb (by obtain⟨_,_,_,z,_⟩:=fl3;exact bM _ z)) fl3 (λ b hb=>?_) hc
  have:b≠T:=λ z=>nT (z▸hb);exact(sb.2 b this).trans (same b hb)
end
end
inductive IsItemS(v x y:Str)(st:Stmt):Prop
 | mk (p1 p2 p3 p4 p5:Pos):st=.Assign [.Name v p1] (.Subscript (.Name x p2) (.Name y p3) p4) p5->IsItemS v x y st
inductive IsInc(y:Str)(st:Stmt):Prop
 | mk (p1:Pos) (m:Nat) (p2 p3:Pos):st=.AugAssign (.Name y p1) .Add (.Constant (.int 1) m p2) p3->IsInc y st
inductive IsWEq(x y v:Str)(st:Stmt):Prop
 | mk (p1 p2 p3 p4 p5 p6:Pos) (m:Nat) (p7 p8 p9:Pos):st=.While (.Compare (.Subscript (.Name x p1) (.Name y p2) p3) [.Eq] [.Name v p4] p5) [.AugAssign (.Name y p6) .Add (.Constant (.int 1) m p7) p8] [] p9->IsWEq x y v st
inductive IsApp(m v:Str)(st:Stmt):Prop
 | mk (p1 ap p2 p3 p4:Pos):st=.Expr (.Call (.Attribute (.Name m p1) "append" ap) [.Name v p2] [] p3) p4->(ap.endLine==p3.line)=true->IsApp m v st
inductive IsExt(m x y:Str)(st:Stmt):Prop
 | mk (p1 ap p2 p3 p4 p5 p6 p7:Pos):st=.Expr (.Call (.Attribute (.Name m p1) "extend" ap) [.Subscript (.Name x p2) (.Slice (some (.Name y p3)) none none p4) p5] [] p6) p7->(ap.endLine==p6.line)=true->IsExt m x y st
inductive IsCmp(o:CmpOp)(x y:Str)(e:Expr):Prop
 | mk (p1 p2 p3:Pos):e=.Compare (.Name x p1) [o] [.Name y p2] p3->IsCmp o x y e
inductive SldTry:List Stmt->Prop
 | mk {t1 t2 b1 b2 b3 c1 c2 c3 d1 w1 f1 f2:Stmt} {x1 x2:Expr} {p1 p2 p3:Pos}:IsItemS "e" "expected" "i" t1->IsItemS "a" "actual" "j" t2->IsCmp .Lt "e" "a" x1->IsApp "missing" "e" b1->IsInc "i" b2->IsWEq "expected" "i" "e" b3 ->
   IsCmp .Gt "e" "a" x2->IsApp "unexpected" "a" c1->IsInc "j" c2->IsWEq "actual" "j" "a" c3->IsInc "i" d1->IsWEq "expected" "i" "e" w1->IsInc "j" f1->IsWEq "actual" "j" "a" f2 ->
   SldTry [t1,t2,.If x1 [b1,b2,b3] [.If x2 [c1,c2,c3] [d1,.Try [w1] [] [] [f1,f2] p1] p2] p3]
inductive SldBody:List Stmt->Prop
 | mk {g1 g2:Stmt} {tb:List Stmt} {m m' k:Nat} {p1 p2 p3 p4 p5 p6 p7 p8 p9 q1 q2 q3 q4 q5 q6 q7 r1 r2 r3 r4:Pos}:SldTry tb->IsExt "missing" "expected" "i" g1->IsExt "unexpected" "actual" "j" g2 ->
   SldBody [.Assign [.Name "i" p1,.Name "j" p2] (.Constant (.int 0) m' p3) p4,.Assign [.Name "missing" p5] (.List [] p6) p7,.Assign [.Name "unexpected" p8] (.List [] p9) q1,
    .While (.Constant (.bool true) m q2) [.Try tb [.ExceptHandler (some (.Name "IndexError" q3)) none [g1,g2,.Break q4] q5] [] [] q6] [] q7,.Return (some (.Tuple [.Name "missing" r1,.Name "unexpected" r2] k r3)) r4]
theorem Om:SldBody (eV (bO 4)):=by
 refine SldBody.mk (.mk ⟨_,_,_,_,_,rfl⟩ ⟨_,_,_,_,_,rfl⟩ ⟨_,_,_,rfl⟩ ⟨_,_,_,_,_,rfl,rfl⟩ ⟨_,_,_,_,rfl⟩ ⟨_,_,_,_,_,_,_,_,_,_,rfl⟩ ⟨_,_,_,rfl⟩ ⟨_,_,_,_,_,rfl,rfl⟩ ⟨_,_,_,_,rfl⟩ ⟨_,_,_,_,_,_,_,_,_,_,rfl⟩ ⟨_,_,_,_,rfl⟩ ⟨_,_,_,_,_,_,_,_,_,_,rfl⟩ ⟨_,_,_,_,rfl⟩ ⟨_,_,_,_,_,_,_,_,_,_,rfl⟩) ⟨_,_,_,_,_,_,_,_,rfl,rfl⟩ ⟨_,_,_,_,_,_,_,_,rfl,rfl⟩
section
theorem Hc:typeOf (.builtin "list.extend")=pure (.type "method_descriptor"):=by kernel_rfl
section
variable{A2:Around}{h₁:Heap}{lv0:LV}{l:List Env}{as:List Addr}
theorem Kp.ext{h}(k:Kp H env oc h₁ as ρ h lv σ)(u:h.StaysIn h'):Kp H env oc h₁ as ρ h' lv σ:=⟨k.I.ext (.of u),k.st.trans (.of_up (.of u)),k.new⟩
theorem Kp.set{h q pp ms c}(k:Kp H env oc h₁ as ρ h lv σ)(hi:ρ[q]? = some pp)(hz:pp.2=[])(sb:Heap.SameBut pp.1 h h')(e:h'.get? pp.1=some (cK vs c))(r:VRels (GG (as++H) env oc ρ h) ms vs):Kp H env oc h₁ as ρ h' lv (σ.set q (.list ms)) where
 I:=k.I.setObj hi (.head _) sb ⟨hz,vs,c,e,r⟩
 st:=k.st.trans ⟨⟨[],by simp⟩,.only (N':=[pp.1]) (λ b o n e=>sb.extBut b o (by simpa using n) e) λ b q=>xm1 q▸aN (Ro.mem_all (List.mem_of_getElem? hi) (.head _)),λ b hb=>.inl hb⟩
 new:=k.new
theorem Vy{q k:Nat}{ms:List PV}{xs:List Str}{Q:Flow->Shared->Prop}(hs:IsExt m x y st)(nm:Nm sc m)(nx:Nm sc x)(ny:Nm sc y)(fx:Fx sc env oc)(kp:Kp H env oc h₁ as ρ s.heap lv σ)(em:lv.lookup m=some (.mref q))(hq:σ[q]? = some (.list ms))(ex:lv.lookup x=some (.list (xs.map .str)))(ey:lv.lookup y=some (.int k))(len:ms.length+xs.length<100000)(h:∀ h' tk,Kp H env oc h₁ as ρ h' lv (σ.set q (.list (ms++(xs.drop k).map .str)))->(∀ b∈as,h'.get? b=s.heap.get? b)->Q .next { s with heap:=h',toks:=tk }):wpAny (model prog w) A2 (exec st env) Q E s:=by
 obtain⟨p1,ap,p2,p3,p4,p5,p6,p7,rfl,hl⟩:=hs;have hint:interactive env=false:=by dsimp only [interactive];rw[fx.kind];rfl
 refine wpAny_Expr_any (wpAny_Call_method (T:="list") (id:="list.extend") rfl rfl hl F.plainAttrs_list F.slot_list_extend Hc (nm.wp fx kp.I em λ rv r=>?_)) hint rfl;refine aE r.mref ?_;clear r;rintro pp hi rfl;refine aE (kp.I.chg.get hi) λ o ho mr=>?_;rw[hq] at ho;have q:=sj ho;clear ho;subst q;refine aK mr ?_;clear mr;rintro hz ⟨vs,c,ea,rs⟩;refine fP ⟨_,ea,rfl⟩ (λ a e=>by cases e;exact⟨_,ea,rfl⟩) ?_
 refine P.extend_list (l:=pp.1) (xZ (nx.wp fx kp.I ex λ ro r2=>wpAny_Slice ?_));show wpAny _ _ (eval (.Name y p3) env) _ _ _;refine ny.wp fx kp.I ey λ ri r3=>?_;refine wP (wP ?_);refine bQ r2.inv ?_;clear r2;rintro a2 vs2 n2 rfl e2 rs2;refine aB r3.inv ?_;clear r3;rintro t3 rfl;have e2':=aP _ _ e2;have k1:=aS s.heap { cls:=.type "slice",data:=.fields #[.int k t3,.none,.none] };have oC:vs2.length=xs.length:=by rw[rs2.length,List.length_map]
 refine dR "list" _ slot_list_getitem.lookup ⟨_,k1 _ _ e2',rfl⟩ (wpAny_getItem_list_slice (aI (k1 _ _ e2')) (Heap.IsSliceOf.new ..) (.int k t3) .none .none (by decide) ?_ (by rw[List.size_toArray,sizeLine_eq];lia))
 rw[slicePick_from'];have k2:=aS (s.heap.push { cls:=.type "slice",data:=.fields #[.int k t3,.none,.none] }) { cls:=.type "list",data:=.seq (vs2.drop k).toArray };have gl:=Heap.get?_push_size (s.heap.push { cls:=.type "slice",data:=.fields #[.int k t3,.none,.none] }) (o:={ cls:=.type "list",data:=.seq (vs2.drop k).toArray }) rfl;have k12:=aM k1 k2;have kp2:=kp.ext k12;have ea2:=k12 _ _ ea;have ln1:=rs.length;have hz2:vs.length+(vs2.drop k).length<100000:=by rw[List.length_drop];omega
 refine⟨_,vs.toArray,(vs2.drop k).toArray,c,0,by rw[List.size_toArray,sizeLine_eq];lia,by rw[List.size_toArray,List.size_toArray,sizeLine_eq];exact ll2 ‹_› (by rfl),?_,rfl,ea2,gl,?_⟩
 ·simp only[Bool.and_eq_true,not_and];intro _ q;dsimp only [Builtin.List.listTooLong] at q;simp only[List.size_toArray,decide_eq_true_eq] at q;have:=sizeLine_eq
  lia
 have self:=IsL.update (show IsL _ pp.1 vs.toArray c from ea2) (λ xs=>xs++(vs2.drop k).toArray);have sb:Heap.SameBut pp.1 _ _:=Heap.SameBut.update ((s.heap.push { cls:=.type "slice",data:=.fields #[.int k t3,.none,.none] }).push { cls:=.type "list",data:=.seq (vs2.drop k).toArray }) pp.1 (Obj.mapSeq λ xs=>xs++(vs2.drop k).toArray);refine h _ s.toks (kp2.set (vs:=vs++vs2.drop k) hi hz sb (self.trans (by rw[List.append_toArray])) ?_) λ b hb=>?_
 ·exact(rs.append (by rw[List.map_drop];exact rs2.drop k)).mono (iB k12)
 ·refine aB (kp.asLive hb) λ o q=>?_;rw[q];exact sb.extBut b _ (λ z=>kp.I.off b (mL hb) (z▸aN (Ro.mem_all (List.mem_of_getElem? hi) (.head _)))) (k12 _ _ q)
end
end
section
structure LvI(lv:LV)(xs ys:List Str)(i j:Nat):Prop where
 ex:lv.lookup ("expected":Str)=some (.list (xs.map .str))
 ac:lv.lookup ("actual":Str)=some (.list (ys.map .str))
 mi:lv.lookup ("missing":Str)=some (.mref 0)
 un:lv.lookup ("unexpected":Str)=some (.mref 1)
 i:lv.lookup ("i":Str)=some (.int i)
 j:lv.lookup ("j":Str)=some (.int j)
theorem lkn{v r}(n:¬ y=x)(e:lv.lookup y=r):((x,v)::lv).lookup y=r:=by rw[bE,if_neg n];exact e
theorem lks{v}:((x,v)::lv).lookup x=some v:=by rw[bE,if_pos rfl]
section
variable{xs ys:List Str}{j:Nat}
theorem LvI.toE(k:LvI lv xs ys i j)(v:PV):LvI (("e",v)::lv) xs ys i j:=⟨lkn (by decide +kernel) k.ex,lkn (by decide +kernel) k.ac,lkn (by decide +kernel) k.mi,lkn (by decide +kernel) k.un,lkn (by decide +kernel) k.i,lkn (by decide +kernel) k.j⟩
theorem LvI.toA(k:LvI lv xs ys i j)(v:PV):LvI (("a",v)::lv) xs ys i j:=⟨lkn (by decide +kernel) k.ex,lkn (by decide +kernel) k.ac,lkn (by decide +kernel) k.mi,lkn (by decide +kernel) k.un,lkn (by decide +kernel) k.i,lkn (by decide +kernel) k.j⟩
theorem LvI.toI(k:LvI lv xs ys i j)(m:Nat):LvI (("i",.int m)::lv) xs ys m j:=⟨lkn (by decide +kernel) k.ex,lkn (by decide +kernel) k.ac,lkn (by decide +kernel) k.mi,lkn (by decide +kernel) k.un,lks,lkn (by decide +kernel) k.j⟩
theorem LvI.toJ(k:LvI lv xs ys i j)(m:Nat):LvI (("j",.int m)::lv) xs ys i m:=⟨lkn (by decide +kernel) k.ex,lkn (by decide +kernel) k.ac,lkn (by decide +kernel) k.mi,lkn (by decide +kernel) k.un,lkn (by decide +kernel) k.i,lks⟩
end
structure Nms(sc:Scope):Prop where
 ex:Nm sc "expected"
 ac:Nm sc "actual"
 mi:Nm sc "missing"
 un:Nm sc "unexpected"
 i:Nm sc "i"
 j:Nm sc "j"
 e:Nm sc "e"
 a:Nm sc "a"
 ix:aR sc "IndexError"
noncomputable abbrev two(ms us:List PV):List MObj:=[.list ms,.list us]
section
variable{A2:Around}{h₁:Heap}{lv0:LV}{l:List Env}{as:List Addr}{xs ys:List Str}{j:Nat}{ms us:List PV}
theorem Ks{v:Str}{k:Nat}{zs:List Str}{Q:Flow->Shared->Prop}(hs:IsItemS v x y st)(nv:Nm sc v)(nx:Nm sc x)(ny:Nm sc y)(fx:Fx sc env oc)(kp:Kp H env oc h₁ as ρ s.heap lv σ)(ex:lv.lookup x=some (.list (zs.map .str)))(ey:lv.lookup y=some (.int k))(hk:k<100000)(hh:HOk A2 s.heap)(hin:∀ b,zs[k]? = some b->∀ h' tk,Kp H env oc h₁ as ρ h' ((v,.str b)::lv) σ->Q .next { s with heap:=h',toks:=tk })(hout:zs.length≤k->∀ h' tk e,Thr A2 s.heap h' e->E (.ref e) { s with heap:=h',toks:=tk }):wpAny (model prog w) A2 (exec st env) Q E s:=by
 obtain⟨p1,p2,p3,p4,p5,rfl⟩:=hs;refine wpAny_Assign_Name (Df nx ny fx kp.I ex ey hk hh (λ b t hb=>?_) hout) rfl;exact kp.store (.inl nv.k) fx (.frozen (.str b t)) λ h' tk k' _=>hin b hb h' tk k'
theorem Vr{v q ms b Q}(hs:IsApp m v st)(nm:Nm sc m)(nv:Nm sc v)(F:Fra prog w A H env oc h₁ lv0 l sc)(kp:Kp H env oc h₁ [] ρ s.heap lv σ)(em:lv.lookup m=some (.mref q))(hq:σ[q]? = some (.list ms))(ev':lv.lookup v=some (.str b))(len:ms.length<100000)(h:∀ h' tk ρ',Kp H env oc h₁ [] ρ' h' lv (σ.set q (.list (ms++[.str b])))->Q .next { s with heap:=h',toks:=tk }):wpAny (model prog w) A (exec st env) Q E s:=by
 obtain⟨p1,ap,p2,p3,p4,rfl,hl⟩:=hs;have e:ex T0 50 (.app m (.v v)) lv σ=some (.next,lv,σ.set q (.list (ms++[.str b]))):=by simp[Va,Vb,Qd,Qe,Vc,Vd,Ve,Hi,Vf,Vg,Vh,aBu,aBv,Vi,Vj,Vk,xq1,xq2,xq3,xq4,xq5,xq6,xq7,xq8,xq9,aDe,aDf,aDg,aDh,aDi,aDj,aDk,Uy,aEd,Uz,em,hq,ev',Mu,Mv,Gb,Mw,Mx,My,Mz,len,Mt]
 refine(dE (S0 prog w) 50).s (.app (.inl nm.k) nm.d nm.c (.v (.inl nv.k) nv.d nv.c) hl) e ((kp.cx F).le (by exact Nat.le_add_left _ _)) F.fx kp.I λ h' tk ρ' f I' st fr=>?_
 cases fr;exact h h' tk ρ' ⟨I',kp.st.trans st,kp.new⟩
inductive ErrAt(A:Around)(H:List Addr)(env:Env)(oc:List (Str×Addr))(h₁:Heap)(xs ys:List Str)(fin:List PV×List PV)(s0:Shared)(v:Value)(s':Shared):Prop
 | mk (e:Addr) (h:Heap) (tk:Nat):v=.ref e->s'={ s0 with heap:=h,toks:=tk }->∀(ρ:Ro) (lv:LV) (i j:Nat) (ms us:List PV),LvI lv xs ys i j->fin=(ms++(xs.drop i).map .str,us++(ys.drop j).map .str)->ms.length+xs.length<100000->us.length+ys.length<100000 ->
  ((∃ h0,Kp H env oc h₁ [] ρ h0 lv (two ms us)/\Thr A h0 h e)∨(∃ as T c2,Kp H env oc h₁ (e::T::as) ρ h lv (two ms us)/\Fly h e T c2 (rawInt env.locals)))->ErrAt A H env oc h₁ xs ys fin s0 v s'
theorem mM:isSubtype (.type "IndexError") (.type "BaseException")=pure true/\isSubtype (.type ((Manifest.find? "IndexError").elim "type" λ x=>x.metatype)) (.type "tuple")=pure false/\isSubtype (.type "IndexError") (.type "IndexError")=pure true :=
 ⟨by rw[isSubtype_type];kernel_rfl,by rw[isSubtype_type];kernel_rfl,by rw[isSubtype_type];kernel_rfl⟩
theorem Rk{g1 g2 q3 q4 q5 fin s0 s' v Q}(F:Fra prog w A H env oc h₁ lv0 l sc)(N:Nms sc)(x1:IsExt "missing" "expected" "i" g1)(x2:IsExt "unexpected" "actual" "j" g2)(er:ErrAt A H env oc h₁ xs ys fin s0 v s')(hQ:∀ h' tk as ρ lv i j,Kp H env oc h₁ as ρ h' lv (two fin.1 fin.2)->LvI lv xs ys i j->Q .brk { s0 with heap:=h',toks:=tk }) :
  wpAny (model prog w) A (noteFrame v env) (λ _ s₂=>wpAny (model prog w) A (setFlight v none) (λ _ s₃=>wpAny (model prog w) A (handleBy v env [.ExceptHandler (some (.Name "IndexError" q3)) none [g1,g2,.Break q4] q5]) Q E s₃) E s₂) E s':=by
 obtain⟨e,h,tk,rfl,rfl,ρ,lv,i,j,ms,us,L,rfl,l1,l2,hc⟩:=er;have next:∀ h as T c2,Kp H env oc h₁ (e::T::as) ρ h lv (two ms us)->Fly h e T c2 (rawInt env.locals)->wpAny (model prog w) A (setFlight (.ref e) none) (λ _ s₃=>wpAny (model prog w) A (handleBy (.ref e) env [.ExceptHandler (some (.Name "IndexError" q3)) none [g1,g2,.Break q4] q5]) Q E s₃) E { s0 with heap:=h,toks:=tk }:=by
  intro h as T c2 kp fl;refine gV fl λ h2 fl2 sb=>?_;have kp2:=kp.flight sb (by obtain⟨_,_,_,z,_⟩:=fl2;exact bM _ z)
  refine wpAny_handleBy_builtin (X:="IndexError") (T:="IndexError") (b:=true) mM.1 mM.2.1 mM.2.2 (wpAny_Name ((S0 prog w).glOk (kp2.cx F).base (show(S0 prog w).gl "IndexError"=some (.type "IndexError") from Yg w.params) F.fx.kind F.fx.glob F.fx.bi (F.fx.gl _ N.ix) aP ?_) (by decide +kernel))
  refine fP rfl (by obtain⟨t,_,z,_⟩:=fl2;exact⟨_,z,rfl⟩) ?_
  dsimp only [if_pos rfl];refine gV fl2 λ h3 fl3 sb3=>?_;have kp3:=kp2.flight sb3 (by obtain⟨_,_,_,z,_⟩:=fl3;exact bM _ z)
  refine wpAny_execs_cons (Vy x1 N.mi N.ex N.i F.fx kp3 L.mi rfl L.ex L.i l1 λ h4 tk4 kp4 _=>?_);refine wpAny_execs_cons (Vy x2 N.un N.ac N.j F.fx kp4 L.un rfl L.ac L.j l2 λ h5 tk5 kp5 _=>?_);exact wpAny_execs_cons (wpAny_Break (hQ h5 tk5 _ ρ lv i j kp5 L))
 rcases hc with⟨h0,kp,z⟩|⟨as,T,c2,kp,fl⟩
 ·exact kp.note (s:={ s0 with heap:=h,toks:=tk }) F F.hl z λ h2 T c2 kp2 fl _ _ _=>next h2 [] T c2 kp2 fl
 ·exact gG F.hf fl (next h as T c2 kp fl)
end
end
section
noncomputable def gL:Nat->List Str->List Str->List Str×List Str
 | 0,_,_=>([],[])
 | _+1,[],ys=>([],ys)
 | _+1,x::xs,[]=>(x::xs,[])
 | n+1,x::xs,y::ys=>if sLt x y then(x::(gL n xs (y::ys)).1,(gL n xs (y::ys)).2) else if sLt y x then((gL n (x::xs) ys).1,y::(gL n (x::xs) ys).2) else gL n xs ys
theorem uP{xs ys}:gL (n+1) (x::xs) (y::ys)=if sLt x y=true then(x::(gL n xs (y::ys)).1,(gL n xs (y::ys)).2) else if sLt y x=true then((gL n (x::xs) ys).1,y::(gL n (x::xs) ys).2) else gL n xs ys:=rfl
theorem aAe{ys}:gL (n+1) [] ys=([],ys):=rfl
theorem Sj{xs}:gL (n+1) (x::xs) []=(x::xs,[]):=rfl
noncomputable def Adj(xs:List Str):Prop:=∀ k a b,xs[k]? = some a->xs[k+1]? = some b->b≠a
noncomputable abbrev iH(xs:List Str):List PV:=xs.map .str
structure Turn(xs ys:List Str)(n i j:Nat)(ms us:List PV)(fin:List PV×List PV):Prop where
 hi:i≤xs.length
 hj:j≤ys.length
 m:ms.length≤i
 u:us.length≤j
 f:fin=(ms++iH (gL n (xs.drop i) (ys.drop j)).1,us++iH (gL n (xs.drop i) (ys.drop j)).2)
 hn:(xs.length - i)+(ys.length - j)<n
theorem jJ{xs:List Str}{k:Nat}{b:Str}(h:xs[k]? = some b):xs.drop k=b::xs.drop (k+1):=by
 obtain⟨hk,rfl⟩:=List.getElem?_eq_some_iff.mp h;exact List.drop_eq_getElem_cons hk
theorem hn1{a b}(h:i<a)(q:a - i+b<n+1):a - (i+1)+b<n:=Nat.lt_of_lt_of_le (Nat.add_lt_add_right (Wp h) b) (Nat.le_of_lt_succ q)
theorem hn2{a b}(h:i<a)(q:b+(a - i)<n+1):b+(a - (i+1))<n:=Nat.lt_of_lt_of_le (Nat.add_lt_add_left (Wp h) b) (Nat.le_of_lt_succ q)
theorem Wj{a}(h:a<n):n=n - 1+1:=(Nat.succ_pred_eq_of_pos (Nat.zero_lt_of_lt h)).symm
section
variable{xs ys:List Str}{j:Nat}{ms us:List PV}{fin:List PV×List PV}{e a:Str}
theorem Turn.endI(t:Turn xs ys n i j ms us fin)(h:xs.length≤i):fin=(ms++iH (xs.drop i),us++iH (ys.drop j)):=by
 rw[Wj t.hn] at t;rw[t.f,List.drop_eq_nil_of_le h];rfl
theorem Turn.endJ(t:Turn xs ys n i j ms us fin)(h:ys.length≤j):fin=(ms++iH (xs.drop i),us++iH (ys.drop j)):=by
 rw[Wj t.hn] at t;rw[t.f,List.drop_eq_nil_of_le h];cases xs.drop i<;>rfl
theorem Turn.less(t:Turn xs ys (n+1) i j ms us fin)(he:xs[i]? = some e)(ha:ys[j]? = some a)(h:sLt e a=true):Turn xs ys n (i+1) j (ms++[.str e]) us fin:=by
 have hi:=(List.getElem?_eq_some_iff.mp he).1;refine⟨hi,t.hj,by rw[List.length_append];have:=t.m;simp;assumption,t.u,?_,hn1 hi t.hn⟩
 rw[t.f,jJ he,jJ ha,uP,if_pos h];simp
theorem Turn.more(t:Turn xs ys (n+1) i j ms us fin)(he:xs[i]? = some e)(ha:ys[j]? = some a)(h:sLt e a=false)(h2:sLt a e=true):Turn xs ys n i (j+1) ms (us++[.str a]) fin:=by
 have hj:=(List.getElem?_eq_some_iff.mp ha).1;refine⟨t.hi,hj,t.m,by rw[List.length_append];have:=t.u;simp;assumption,?_,hn2 hj t.hn⟩
 rw[t.f,jJ he,jJ ha,uP,if_neg (by rw[h];decide),if_pos h2]
 simp
theorem Turn.same(t:Turn xs ys (n+1) i j ms us fin)(he:xs[i]? = some e)(ha:ys[j]? = some a)(h:sLt e a=false)(h2:sLt a e=false):Turn xs ys n (i+1) (j+1) ms us fin:=by
 have hi:=(List.getElem?_eq_some_iff.mp he).1;have hj:=(List.getElem?_eq_some_iff.mp ha).1;refine⟨hi,hj,Nat.le_succ_of_le t.m,Nat.le_succ_of_le t.u,?_,Nat.lt_of_le_of_lt (Nat.add_le_add_left (Nat.sub_le_sub_left (Nat.le_succ j) _) _) (hn1 hi t.hn)⟩;rw[t.f,jJ he,jJ ha,uP,if_neg (by rw[h];decide),if_neg (by rw[h2];decide)]
end
section
variable{A2:Around}{h₁:Heap}{lv0:LV}{l:List Env}{as:List Addr}{xs ys:List Str}{j:Nat}{ms us:List PV}{fin:List PV×List PV}
theorem Cn{o a b e Q}(hs:IsCmp o x y e)(nx:Nm sc x)(ny:Nm sc y)(fx:Fx sc env oc)(I:Inv X env oc ρ s.heap lv σ)(ex:lv.lookup x=some (.str a))(ey:lv.lookup y=some (.str b))(ho:∀ t u,∀{Q:Value->Shared->Prop},Q (.bool r) s->wpAny (model prog w) A2 (compareOp o (.str a t) (.str b u)) Q E s)(h:Q r s):wpAny (model prog w) A2 (isTrue e env (eval e env)) Q E s:=by
 obtain⟨p1,p2,p3,rfl⟩:=hs;refine wpAny_isTrue_Compare1 (nx.wp fx I ex λ rv r1=>ny.wp fx I ey λ ru r2=>?_) rfl;refine aB r1.inv ?_;clear r1;rintro t rfl;refine aB r2.inv ?_;clear r2;rintro u rfl;exact ho t u (wpAny_truthy_bool h)
@[elab_as_elim] theorem gen{P:α->Prop}(a:α)(h:∀ x,P x):P a:=h a
theorem Pl{tb s0 h tk Q}(tb':SldTry tb)(F:Fra prog w A H env oc h₁ lv0 l sc)(N:Nms sc)(hx:Adj xs)(hy:Adj ys)(lx:xs.length<40000)(ly:ys.length<40000)(kp:Kp H env oc h₁ [] ρ h lv (two ms us))(L:LvI lv xs ys i j)(t:Turn xs ys (n+1) i j ms us fin)(hQ:∀ h' tk' ρ' lv' i' j' ms' us',Kp H env oc h₁ [] ρ' h' lv' (two ms' us')->LvI lv' xs ys i' j'->Turn xs ys n i' j' ms' us' fin->Q .next { s0 with heap:=h',toks:=tk' }) :
  wpAny (model prog w) A (execs tb env) Q (ErrAt A H env oc h₁ xs ys fin s0) { s0 with heap:=h,toks:=tk }:=by
 obtain⟨t1,t2,x1,b1,b2,b3,x2,c1,c2,c3,d1,w1,f1,f2⟩:=tb';have hA:A.handled=none:=F.C.hd;have hu:A.units+8<cLine:=F.C.room;have mi:=t.m;have uj:=t.u;have ti:=t.hi;have tj:=t.hj;refine wpAny_execs_cons (Ks t1 N.e N.ex N.i F.fx kp L.ex L.i (by exact lx1 ‹_› ‹_› (by rfl)) (.inl hA) (λ e he h1 tk1 kp1=>?_) λ ho h1 tk1 e z=>?_)
 ·have L1:=L.toE (.str e);refine wpAny_execs_cons (Ks t2 N.a N.ac N.j F.fx kp1 L1.ac L1.j (by exact lx1 ‹_› ‹_› (by rfl)) (.inl hA) (λ a ha h2 tk2 kp2=>?_) λ ho h2 tk2 e2 z=>?_)
  ·have L2:=L1.toA (.str a);have le:((("a":Str),PV.str a)::(("e":Str),PV.str e)::lv).lookup ("e":Str)=some (.str e):=lkn (by decide +kernel) lks
   have la:((("a":Str),PV.str a)::(("e":Str),PV.str e)::lv).lookup ("a":Str)=some (.str a):=lks;revert kp2 L2 le la;refine gen ((("a":Str),PV.str a)::(("e":Str),PV.str e)::lv) λ lv kp2 L2 le la=>?_;have hi:=(List.getElem?_eq_some_iff.mp he).1;have hj:=(List.getElem?_eq_some_iff.mp ha).1;refine wpAny_execs_cons (wpAny_If (Cn (r:=sLt e a) x1 N.e N.a F.fx kp2.I le la (λ t u {Q} q=>P.lt_str q) ?_));cases c1':sLt e a with
   | true =>
    rw[if_pos rfl];have T1:=t.less he ha c1';refine wpAny_execs_cons (Vr b1 N.mi N.e F kp2 L2.mi rfl le (by omega) λ h3 tk3 ρ3 kp3=>?_)
    obtain⟨p1,m,p2,p3,rfl⟩:=b2;refine wpAny_execs_cons (Kj N.i F.fx kp3 L2.i λ h4 tk4 kp4 _=>?_);have L4:=L2.toI (i+1);obtain⟨_,_,_,_,_,_,_,_,_,_,rfl⟩:=b3;refine wpAny_execs_cons (jC N.ex N.i N.e F F.hl hu kp4 L4.ex L4.i (lkn (by decide +kernel) le) (by exact lx1 ‹_› ‹_› (by rfl)) (.inl hA) (λ b hb=>hx i e b he hb) (λ _=>wpAny_execs_nil (wpAny_execs_nil (hQ _ _ _ _ _ _ _ _ kp4 L4 T1))) λ ho h5 tk5 e5 T5 c5 kp5 fl5 _ _=>?_)
    exact⟨e5,h5,tk5,rfl,rfl,_,_,_,_,_,_,L4,T1.endI ho,by simp;omega,by omega,.inr ⟨[],T5,c5,kp5,fl5⟩⟩
   | false =>
    rw[if_neg (by decide)]
    refine wpAny_execs_cons (wpAny_If (Cn (r:=sLt a e) x2 N.e N.a F.fx kp2.I le la (λ t u {Q} q=>Dc q) ?_));cases c2':sLt a e with
    | true =>
     rw[if_pos rfl];have T1:=t.more he ha c1' c2';refine wpAny_execs_cons (Vr c1 N.un N.a F kp2 L2.un rfl la (by omega) λ h3 tk3 ρ3 kp3=>?_)
     obtain⟨p1,m,p2,p3,rfl⟩:=c2;refine wpAny_execs_cons (Kj N.j F.fx kp3 L2.j λ h4 tk4 kp4 _=>?_);have L4:=L2.toJ (j+1);obtain⟨_,_,_,_,_,_,_,_,_,_,rfl⟩:=c3;refine wpAny_execs_cons (jC N.ac N.j N.a F F.hl hu kp4 L4.ac L4.j (lkn (by decide +kernel) la) (by exact lx1 ‹_› ‹_› (by rfl)) (.inl hA) (λ b hb=>hy j a b ha hb) (λ _=>wpAny_execs_nil (wpAny_execs_nil (wpAny_execs_nil (hQ _ _ _ _ _ _ _ _ kp4 L4 T1)))) λ ho h5 tk5 e5 T5 c5 kp5 fl5 _ _=>?_)
     exact⟨e5,h5,tk5,rfl,rfl,_,_,_,_,_,_,L4,T1.endJ ho,by omega,by simp;omega,.inr ⟨[],T5,c5,kp5,fl5⟩⟩
    | false =>
     rw[if_neg (by decide)]
     have T1:=t.same he ha c1' c2';obtain⟨p1,m,p2,p3,rfl⟩:=d1;refine wpAny_execs_cons (Kj N.i F.fx kp2 L2.i λ h4 tk4 kp4 _=>?_);have L4:=L2.toI (i+1);obtain⟨_,_,_,_,_,_,_,_,_,_,rfl⟩:=w1;obtain⟨_,_,_,_,rfl⟩:=f1;obtain⟨_,_,_,_,_,_,_,_,_,_,rfl⟩:=f2;have le4:((("i":Str),PV.int ((i+1:Nat):Int))::lv).lookup ("e":Str)=some (.str e):=lkn (by decide +kernel) le
     have la4:((("i":Str),PV.int ((i+1:Nat):Int))::lv).lookup ("a":Str)=some (.str a):=lkn (by decide +kernel) la
     refine wpAny_execs_cons (wpAny_Try_finally (wpAny_execs_cons (jC N.ex N.i N.e F F.hl hu kp4 L4.ex L4.i le4 (by exact lx1 ‹_› ‹_› (by rfl)) (.inl hA) (λ b hb=>hx i e b he hb) (λ _=>wpAny_execs_nil (wpAny_execs_nil ?_)) λ ho h5 tk5 e5 T5 c5 kp5 fl5 _ hc5=>?_)))
     ·refine wpAny_execs_cons (Kj N.j F.fx kp4 L4.j λ h5 tk5 kp5 _=>?_);have L5:=L4.toJ (j+1);refine wpAny_execs_cons (jC N.ac N.j N.a F F.hl hu kp5 L5.ac L5.j (lkn (by decide +kernel) la4) (by exact lx1 ‹_› ‹_› (by rfl)) (.inl hA) (λ b hb=>hy j a b ha hb) (λ _=>wpAny_execs_nil (wpAny_execs_nil (wpAny_execs_nil (wpAny_execs_nil (hQ _ _ _ _ _ _ _ _ kp5 L5 T1))))) λ ho h6 tk6 e6 T6 c6 kp6 fl6 _ _=>?_)
      refine gG F.hf fl6 (mE F.hf fl6 λ h7 fl7 sb7=>?_);exact⟨e6,h7,tk6,rfl,rfl,_,_,_,_,_,_,L5,T1.endJ ho,by omega,by omega,.inr ⟨[],T6,c6,kp6.flight sb7 (by obtain⟨_,_,_,z,_⟩:=fl7;exact bM _ z),fl7⟩⟩
     ·refine gG F.hf fl5 ⟨(by intro q;cases q),gG F.hf fl5 (gV fl5 λ h6 fl6 sb6=>?_)⟩
      have kp6:=kp5.flight sb6 (by obtain⟨_,_,_,z,_⟩:=fl6;exact bM _ z)
      refine wpAny_execs_cons (Kj N.j F.fx kp6 L4.j λ h7 tk7 kp7 same7=>?_);have L7:=L4.toJ (j+1);have fl7:Fly h7 e5 T5 c5 .none:=fl6.up (same7 e5 (.head _)) (same7 T5 (.tail _ (.head _)));have hok:HOk (A.mark (some (.ref e5))) h7:=by
       obtain⟨t',ts,q1,_⟩:=fl7;rw[hc5 hA] at q1;exact .inr ⟨e5,t',_,rfl,q1⟩
      refine wpAny_execs_cons (jC N.ac N.j N.a F F.hl hu kp7 L7.ac L7.j (lkn (by decide +kernel) la4) (by exact lx1 ‹_› ‹_› (by rfl)) hok (λ b hb=>hy j a b ha hb) (λ _=>wpAny_execs_nil ?_) λ ho2 h8 tk8 e8 T8 c8 kp8 fl8 _ _=>?_)
      ·obtain⟨t',ts,q1,_⟩:=id fl7;dsimp only [PySem.passOn];refine wB (wpAny_field (x:=.ref T5) q1 rfl rfl ?_);rw[if_neg (by simp)]
       refine wB (gV fl7 λ h8 fl8 sb8=>wpAny_throw ?_);rw[F.hf] at fl8;exact⟨e5,h8,tk7,rfl,rfl,_,_,_,_,_,_,L7,T1.endI ho,by omega,by omega,.inr ⟨[],T5,c5,kp7.flight sb8 (by obtain⟨_,_,_,z,_⟩:=fl8;exact bM _ z),fl8⟩⟩
      ·refine gG F.hf fl8 (mE F.hf fl8 λ h9 fl9 sb9=>?_);exact⟨e8,h9,tk8,rfl,rfl,_,_,_,_,_,_,L7,T1.endI ho,by omega,by omega,.inr ⟨[e5,T5],T8,c8,kp8.flight sb9 (by obtain⟨_,_,_,z,_⟩:=fl9;exact bM _ z),fl9⟩⟩
  ·exact⟨e2,h2,tk2,rfl,rfl,_,_,_,_,_,_,L1,t.endJ ho,by omega,by omega,.inl ⟨_,kp1,⟨z.keeps,z.new,z.there⟩⟩⟩
 ·exact⟨e,h1,tk1,rfl,rfl,_,_,_,_,_,_,L,t.endI ho,by omega,by omega,.inl ⟨_,kp,⟨z.keeps,z.new,z.there⟩⟩⟩
end
end
section
noncomputable def nmB(sc:Scope)(x:Str):Bool:=sc.names.lookup x==some .local&&!(x=="__debug__")&&!(x=="__classdict__")
theorem jY(h:nmB sc x=true):Nm sc x:=by
 simp only[nmB,Bool.and_eq_true,beq_iff_eq,Bool.not_eq_true'] at h;exact⟨h.1.1,h.1.2,h.2⟩
theorem Tt:Nms (fA (bO 4)):=⟨jY (by kernel_rfl),jY (by kernel_rfl),jY (by kernel_rfl),jY (by kernel_rfl),jY (by kernel_rfl),jY (by kernel_rfl),jY (by kernel_rfl),jY (by kernel_rfl),by unfold aR;kernel_rfl⟩
section
variable{h₁:Heap}{lv0:LV}{l:List Env}{xs ys:List Str}{fin:List PV×List PV}
theorem On{tb}{g1 g2}{m}{q2 q3 q4 q5 q6}{s0:Shared}(tb':SldTry tb)(x1:IsExt "missing" "expected" "i" g1)(x2:IsExt "unexpected" "actual" "j" g2)(F:Fra prog w A H env oc h₁ lv0 l sc)(N:Nms sc)(hx:Adj xs)(hy:Adj ys)(lx:xs.length<40000)(ly:ys.length<40000)(hR:∀ h' tk as ρ lv i j,Kp H env oc h₁ as ρ h' lv (two fin.1 fin.2)->LvI lv xs ys i j->R (.ok .next) { s0 with heap:=h',toks:=tk }) :
  ∀(n:Nat) {ρ:Ro} {h:Heap} {tk:Nat} {lv:LV} {i j:Nat} {ms us:List PV},Kp H env oc h₁ [] ρ h lv (two ms us)->LvI lv xs ys i j->Turn xs ys n i j ms us fin ->
   codeAny (model prog w) A (.whileLoop (.Constant (.bool true) m q2) [.Try tb [.ExceptHandler (some (.Name "IndexError" q3)) none [g1,g2,.Break q4] q5] [] [] q6] [] env) R { s0 with heap:=h,toks:=tk }:=by
 intro l9;induction l9 with
 | zero =>
  intro _ _ _ _ _ _ _ _ _ _ t;exact absurd t.hn (Nat.not_lt_zero _)
 | succ n ih =>
  intro ρ h tk lv i j ms us kp L t;refine codeAny_of_tree ?_;show wpAny _ A ((whileTurn _ _ [] env).onRaise (λ x=>do noteFrame x env;theTreesLotGoes x)) _ _ _
  refine wpAny_noted ?_;unfold whileTurn;refine wB (yK ?_);rw[if_pos rfl];refine wB (wpAny_execs_cons (wpAny_Try_except (wpAny_mono (Pl (s0:=s0) (Q:=λ f s'=>f=.next/\∃ h' tk' ρ' lv' i' j' ms' us',s'={ s0 with heap:=h',toks:=tk' }/\Kp H env oc h₁ [] ρ' h' lv' (two ms' us')/\LvI lv' xs ys i' j'/\Turn xs ys n i' j' ms' us' fin) tb' F N hx hy lx ly kp L t
   λ h' tk' ρ' lv' i' j' ms' us' k' L' t'=>⟨rfl,h',tk',ρ',lv',i',j',ms',us',rfl,k',L',t'⟩) (λ f s' hf=>?_) λ v s' er=>Rk F N x1 x2 er λ h' tk' as ρ' lv' i' j' k' L'=>?_)))
  ·refine aK hf ?_;clear hf;intro rfl y1;refine kT y1 ?_;clear y1;intro h' tk' ρ' lv' i' j' ms' y2;refine rB y2 ?_;clear y2;rintro us' rfl k' L' t';refine wpAny_execs_nil (wpAny_execs_nil (wP ⟨rfl,?_⟩));exact ih k' L' t'
  ·exact wP (hR h' tk' as ρ' lv' i' j' k' L')
theorem aAI{xs ys}{r1 r2:Value}(hx:Adj xs)(hy:Adj ys)(lx:xs.length<40000)(ly:ys.length<40000)(C:CxB (Base w) 200 A s.heap H H)(lH:∀ b∈H,∃ o,s.heap.get? b=some o)(v1:VRel (fz s.heap H) (.list (iH xs)) r1)(v2:VRel (fz s.heap H) (.list (iH ys)) r2)(h:kF H s Q (.tuple [.list (iH (gL (xs.length+ys.length+1) xs ys).1),.list (iH (gL (xs.length+ys.length+1) xs ys).2)])):wpAny (model prog w) A (call (.ref 51) [r1,r2]) Q E s:=by
 refine kS (vO.get C.base) λ o fd q1 q2 q3 q4=>?_;have sb:=Om;have N:=Tt;rw[<- q4] at N;generalize eV (bO 4)=body at q3 sb;obtain⟨tb',x1,x2⟩:=sb;have hH:H=H++Ro.all ([]:Ro):=by simp[Ro.all]
 refine aE C.fr λ l hl _=>?_;refine wpAny_call (pH (S:=S0 prog w) (n:=199) q3 (H:=H) (ρ:=[]) (σ:=[]) (by rw[<- hH];exact C) (.nil lH) (vs:=[.list (iH xs),.list (iH ys)]) (hH▸.cons (.frozen v1) (.cons (.frozen v2) .nil)) (q3.bind s [r1,r2] aP rfl) aP (aP _ _ q1) q2 λ h₁ tk env oc I C1 fx En=>?_)
 have F:Fra prog w (A.deeper env) H env oc h₁ _ l fd.scope:=⟨C1.le (by exact Nat.le_add_left _ _),I,Around.frames_deeper hl,En.frame,fx⟩
 have kp:Kp H env oc h₁ [] [] h₁ [("actual",.list (iH ys)),("expected",.list (iH xs))] []:=⟨I,.refl _ _,λ _ q=>nomatch q⟩;refine wpAny_execs_cons (wpAny_Assign_two (wpAny_Constant_int (wpAny_assign_Name ?_)));refine kp.store (s:={ s with heap:=h₁,toks:=_ }) (v:=.int 0) (.inl N.i.k) fx (.frozen (.int _ _)) λ h2 tk2 kp2 _=>wpAny_assign_Name ?_;refine kp2.store (s:={ s with heap:=h2,toks:=_ }) (v:=.int 0) (.inl N.j.k) fx (.frozen (.int _ _)) λ h3 tk3 kp3 _=>?_;refine wpAny_execs_cons ((dE (S0 prog w) 50).s (.mk (.inl N.mi.k) .nil (by decide)) (by simp[Va,Vb,Qd,Qe,Vc,Vd,Ve,Hi,Vf,Vg,Vh,aBu,aBv,Vi,Vj,Vk,aBs,aBt,fzvs];exact fP rfl rfl rfl) ((kp3.cx F).le (by exact Nat.le_add_left _ _)) fx kp3.I λ h4 tk4 ρ4 f4 I4 st4 fr4=>?_)
 cases fr4;have kp4:Kp H env oc h₁ [] ρ4 h4 _ _:=⟨I4,kp3.st.trans st4,λ _ q=>nomatch q⟩;refine wpAny_execs_cons ((dE (S0 prog w) 50).s (.mk (.inl N.un.k) .nil (by decide)) (by simp[Va,Vb,Qd,Qe,Vc,Vd,Ve,Hi,Vf,Vg,Vh,aBu,aBv,Vi,Vj,Vk,aBs,aBt,fzvs];exact fP rfl rfl rfl) ((kp4.cx F).le (by exact Nat.le_add_left _ _)) fx kp4.I λ h5 tk5 ρ5 f5 I5 st5 fr5=>?_)
 cases fr5;have kp5:Kp H env oc h₁ [] ρ5 h5 _ _:=⟨I5,kp4.st.trans st5,λ _ q=>nomatch q⟩;refine wpAny_execs_cons (wpAny_While (On (s0:={ s with heap:=h5,toks:=tk5 }) (fin:=(iH (gL (xs.length+ys.length+1) xs ys).1,iH (gL (xs.length+ys.length+1) xs ys).2)) tb' x1 x2 F N hx hy lx ly (λ h6 tk6 as ρ6 lv6 i6 j6 kp6 L6=>?_) (xs.length+ys.length+1) (i:=0) (j:=0) (ms:=[]) (us:=[]) kp5
  ⟨lkn (by decide +kernel) (lkn (by decide +kernel) (lkn (by decide +kernel) (lkn (by decide +kernel) (lkn (by decide +kernel) lks)))),lkn (by decide +kernel) (lkn (by decide +kernel) (lkn (by decide +kernel) (lkn (by decide +kernel) lks))),lkn (by decide +kernel) lks,lks,lkn (by decide +kernel) (lkn (by decide +kernel) (lkn (by decide +kernel) lks)),lkn (by decide +kernel) (lkn (by decide +kernel) lks)⟩
  ⟨Nat.zero_le _,Nat.zero_le _,Nat.le_refl _,Nat.le_refl _,by rfl,by exact Nat.lt_succ_self _⟩))
 refine wpAny_execs_cons (wpAny_Return_some (wpAny_Tuple_spliced ?_));refine spliced_cons (N.mi.wp fx kp6.I L6.mi λ rm rrm=>?_);refine spliced_cons (N.un.wp fx kp6.I L6.un λ ru rru=>spliced_nil ⟨by show 2≤2 ^ 24;decide,?_⟩)
 refine aE rrm.mref ?_;clear rrm;rintro pm hm rfl;refine aE rru.mref ?_;clear rru;rintro pu hu rfl;have k7:=aS h6 { cls:=.type "tuple",data:=.seq #[.ref pm.1,.ref pu.1] };have kp7:=kp6.ext k7;refine bU (qA En kp7.I.unhide kp7.st) λ M st back=>?_;have k0:Up H s.heap (h6.push { cls:=.type "tuple",data:=.seq #[.ref pm.1,.ref pu.1] }):=hH▸(st.up.toUp:Up (H++Ro.all []) s.heap _);refine h _ tk6 _ k0 (.tuple (vs:=[.ref pm.1,.ref pu.1]) (n:=0) (dG (Heap.get?_push_size _ rfl) λ q=>?_) (.cons (gD M.off M.chg (.mr hm) rfl) (.cons (gD M.off M.chg (.mr hu) rfl) .nil)));refine aB (k0.live (lH _ q)) λ o' e'=>?_;refine aB (kp6.I.live _ (mL (mR q))) λ o2 e2=>?_;exact Nat.lt_irrefl _ (Heap.lt_size e2)
end
end
section
open Builtin.Re
noncomputable def Kl:Array Nat:=#[14,8,1,2,4294967295,1,1,46,0,16,46,24,9,1,4294967295,13,4,8,0,0,1,6,5,1]
theorem Fh(P:Params)(S:Setting)(x:Str)(t:Tok):peek (KK P) S (reTarget "re.Pattern.search" "search" ⟨[.ref 63,.str x t],[]⟩) =
  some { pattern:=.ref 63,string:=.str x t,code:=Kl,text:=x.cps,kind:=0,groups:=0,pos:=0,lim:=min (9223372036854775807:Nat) x.cps.size }:=by kernel_rfl
noncomputable def ipM(x:Str):Sre.M:=Sre.forSearch Kl x.cps 0 0 (min (9223372036854775807:Nat) x.cps.size) false
noncomputable def ipB(x:Str):Bool:=match x.cps.toList.reverse with
 | 55::46::_=>true
 | _=>false
noncomputable def bT:List Str:=[⟨#[97]⟩,⟨#[99,32,100,39]⟩,⟨#[108,111,99,97,108]⟩,⟨#[55]⟩]
noncomputable def aX:List Str->List Nat
 | []=>[]
 | x::r=>46::x.cps.toList++aX r
noncomputable def bI(l:List Str):Str:=⟨(aX l).toArray⟩
noncomputable def aF(l:List Str):Str:=⟨(aX l).tail.toArray⟩
noncomputable def drv:Nat->Sre.M->Option Bool
 | 0,_=>none
 | n+1,m=>match (m.runFor 4).outcome with
  | some .matched=>some true
  | some .failed=>some false
  | some _=>none
  | none=>drv n (m.runFor 4)
theorem Xr{K:Frag}{S:Setting}{n:Nat}:∀{k m b},drv n m=some b->n≤k->∃ m',m'.outcome=some (if b then .matched else .failed)/\∀{β} (f:Sre.M->Sem β),peek K S (reDrive k m >>= f)=peek K S (f m'):=by
 induction n with
 | zero=>intro k m b h _;cases h
 | succ n ih =>
  intro k m b h l;cases k with
  | zero=>cases l
  | succ k =>
   dsimp only [drv] at h;show ∃ m',_/\∀{β} (f:_->Sem β),peek K S ((if(m.runFor 4).outcome.isSome then pure (m.runFor 4) else(rule "sre.turn" >>= λ _=>reDrive k (m.runFor 4))) >>= f)=_
   cases q:(m.runFor 4).outcome with
   | none=>rw[q] at h;exact ih h (Nat.le_of_succ_le_succ l)
   | some o =>
    refine⟨_,?_,λ _=>rfl⟩;rw[q] at h ⊢;cases o<;>cases h<;>rfl
theorem aAt{K:Frag}{S:Setting}{β:Type}{f:PUnit->Sem β}{c:Nat->Bool}{g:Nat->String}:∀ L:List Nat,peek K S (forIn L PUnit.unit (λ i _=>if c i=true then(rule (g i) >>= λ _=>pure (.yield PUnit.unit)) else pure (.yield PUnit.unit)) >>= f)=peek K S (f PUnit.unit):=by
 intro L;induction L with
 | nil=>rfl
 | cons i L ih =>
  rw[List.forIn_cons];cases c i<;>exact ih
theorem Cs{K:Frag}{S:Setting}{m b}(h:drv 500 m=some b):∃ r,peek K S (reRunToEnd m)=some r/\r.isSome=b:=by
 unfold reRunToEnd;refine aE (Xr (K:=K) (S:=S) h (by decide:500≤2 ^ 64)) λ m' c a=>?_
 rw[a,aAt,c];cases b
 ·exact⟨_,rfl,rfl⟩
 ·exact⟨_,rfl,rfl⟩
noncomputable def pT(x:Str):Bool:=decide (drv 500 (ipM x)=some (ipB x))
noncomputable def more(l:List (List Str)):List (List Str):=bT.flatMap λ x=>l.map (x::·)
noncomputable def dK(pre:List Str):Bool:=(more [[]]).all λ r=>(more [[]]).all λ q=>pT (aF (pre++q++r))
theorem Yo:dK [⟨#[97]⟩,⟨#[97]⟩]=true:=by kernel_rfl
theorem Yp:dK [⟨#[97]⟩,⟨#[99,32,100,39]⟩]=true:=by kernel_rfl
theorem Yq:dK [⟨#[97]⟩,⟨#[108,111,99,97,108]⟩]=true:=by kernel_rfl
theorem Yr:dK [⟨#[97]⟩,⟨#[55]⟩]=true:=by kernel_rfl
theorem Ys:dK [⟨#[99,32,100,39]⟩,⟨#[97]⟩]=true:=by kernel_rfl
theorem Yt:dK [⟨#[99,32,100,39]⟩,⟨#[99,32,100,39]⟩]=true:=by kernel_rfl
theorem Yu:dK [⟨#[99,32,100,39]⟩,⟨#[108,111,99,97,108]⟩]=true:=by kernel_rfl
theorem Yv:dK [⟨#[99,32,100,39]⟩,⟨#[55]⟩]=true:=by kernel_rfl
theorem Yw:dK [⟨#[108,111,99,97,108]⟩,⟨#[97]⟩]=true:=by kernel_rfl
theorem Yx:dK [⟨#[108,111,99,97,108]⟩,⟨#[99,32,100,39]⟩]=true:=by kernel_rfl
theorem Yy:dK [⟨#[108,111,99,97,108]⟩,⟨#[108,111,99,97,108]⟩]=true:=by kernel_rfl
theorem Yz:dK [⟨#[108,111,99,97,108]⟩,⟨#[55]⟩]=true:=by kernel_rfl
theorem Za:dK [⟨#[55]⟩,⟨#[97]⟩]=true:=by kernel_rfl
theorem Zb:dK [⟨#[55]⟩,⟨#[99,32,100,39]⟩]=true:=by kernel_rfl
theorem Zc:dK [⟨#[55]⟩,⟨#[108,111,99,97,108]⟩]=true:=by kernel_rfl
theorem Zd:dK [⟨#[55]⟩,⟨#[55]⟩]=true:=by kernel_rfl
theorem aB1:dK [⟨#[97]⟩]=true:=by kernel_rfl
theorem aB6:((more [[]]).all λ r=>(more [[]]).all λ q=>pT (bI (⟨#[97]⟩::q++r)))=true:=by kernel_rfl
theorem aB2:dK [⟨#[99,32,100,39]⟩]=true:=by kernel_rfl
theorem aB7:((more [[]]).all λ r=>(more [[]]).all λ q=>pT (bI (⟨#[99,32,100,39]⟩::q++r)))=true:=by kernel_rfl
theorem aB3:dK [⟨#[108,111,99,97,108]⟩]=true:=by kernel_rfl
theorem aB8:((more [[]]).all λ r=>(more [[]]).all λ q=>pT (bI (⟨#[108,111,99,97,108]⟩::q++r)))=true:=by kernel_rfl
theorem aB4:dK [⟨#[55]⟩]=true:=by kernel_rfl
theorem aB9:((more [[]]).all λ r=>(more [[]]).all λ q=>pT (bI (⟨#[55]⟩::q++r)))=true:=by kernel_rfl
theorem ip2:dK []=true:=by kernel_rfl
theorem ir2:((more [[]]).all λ r=>(more [[]]).all λ q=>pT (bI (q++r)))=true:=by kernel_rfl
theorem ip1:(bT.all λ x=>pT (aF [x])&&pT (bI [x]))=true:=by kernel_rfl
end
section
open Builtin.Re
noncomputable def gK:List Nat->List (List Nat)
 | []=>[[]]
 | c::r=>if c=46 then []::gK r else match gK r with
  | []=>[[c]]
  | a::b=>(c::a)::b
noncomputable def eZ:List (List Nat)->List Nat
 | []=>[]
 | x::r=>46::x++eZ r
theorem yA:∀ l:List Nat,gK l≠[]:=by
 intro l9;induction l9 with
 | nil =>
  simp[gK]
 | cons c r ih =>
  dsimp only [gK];split
  ·simp
  ·split<;>simp
theorem Bl:∀ l:List Nat,eZ (gK l)=46::l:=by
 intro l9;induction l9 with
 | nil =>
  exact rfl
 | cons c r ih =>
  have ih:=ih;dsimp only [gK];split
  ·rename_i e;show 46::([]++eZ (gK r))=_;simp only[ih,e];rfl
  ·cases q:gK r with
   | nil=>exact absurd q (yA r)
   | cons a b =>
    simp only[q] at ih;have:a++eZ b=r:=by simpa[eZ] using ih
    show 46::(c::a)++eZ b=_;simp[this]
noncomputable def Ko(p:List Nat):Bool:=bT.any λ l=>l.cps.toList==p
noncomputable def dH(x:Str):Bool:=match gK x.cps.toList with
 | []=>false
 | []::r=>decide (1≤r.length/\r.length≤3)&&r.all Ko
 | r=>decide (r.length≤4)&&r.all Ko
theorem Dg:∀{r:List (List Nat)},r.all Ko=true->∃ ls:List Str,(∀ l∈ls,l∈bT)/\ls.length=r.length/\eZ r=aX ls:=by
 intro l9;induction l9 with
 | nil =>
  intro _;exact⟨[],λ _ h=>(nomatch h),rfl,rfl⟩
 | cons p r ih =>
  intro h;simp only[List.all_cons,Bool.and_eq_true] at h;refine fQ (ih h.2) λ ls a b c=>?_;refine aE (List.any_eq_true.mp h.1) λ l hl e=>?_;have e':=eq_of_beq e;exact rA (l::ls) (λ y hy=>(List.mem_cons.mp hy).elim (λ q=>q▸hl) (λ q=>a y q)) (by simp only[List.length_cons,List.length_cons,b]) (by
   show 46::p++eZ r=46::l.cps.toList++aX ls;simp only[e',c])
set_option tactic.hygienic true in
theorem Sm(h:dH x=true):∃ ls:List Str,(∀ l∈ls,l∈bT)/\((x=bI ls/\1≤ls.length/\ls.length≤3)∨(x=aF ls/\1≤ls.length/\ls.length≤4)):=by
 have j:=Bl x.cps.toList;have back:∀ l:List Nat,x.cps.toList=l->x=⟨l.toArray⟩:=λ l e=>by subst e;rcases x with⟨⟩;simp
 unfold dH at h;split at h
 ·exact nft h
 ·rename_i r q;simp only[Bool.and_eq_true,decide_eq_true_eq] at h;refine fQ (Dg h.2) λ ls a b c=>?_;simp only[q] at j;have j':x.cps.toList=eZ r:=by simpa[eZ] using j.symm
  exact bK ls a (.inl ⟨back _ (j'.trans c),by omega,by omega⟩)
 ·rename_i r q1 q2;simp only[Bool.and_eq_true,decide_eq_true_eq] at h;refine fQ (Dg h.2) λ ls a b c=>?_;have hl:1≤ls.length:=by
   simp only[b];cases e:gK x.cps.toList with
   | nil=>exact absurd e (yA _)
   | cons=>simp
  refine bK ls a (.inr ⟨back _ ?_,hl,by lia⟩)
  simp only[<- c,j];rfl
theorem lP{l}(h:l∈bT):[l]∈more [[]]:=List.mem_flatMap.mpr ⟨l,h,.head _⟩
noncomputable def bS(P:Str->Bool)(pre:List Str):Bool:=(more [[]]).all λ r=>(more [[]]).all λ q=>P (aF (pre++q++r))
noncomputable def Dv(P:Str->Bool)(pre:List Str):Bool:=(more [[]]).all λ r=>(more [[]]).all λ q=>P (bI (pre++q++r))
theorem fZ{P pre}(h:bS P pre=true){a b}(ha:a∈bT)(hb:b∈bT):P (aF (pre++[a]++[b]))=true :=
 List.all_eq_true.mp (List.all_eq_true.mp h _ (lP hb)) _ (lP ha)
theorem xU{P pre}(h:Dv P pre=true){a b}(ha:a∈bT)(hb:b∈bT):P (bI (pre++[a]++[b]))=true :=
 List.all_eq_true.mp (List.all_eq_true.mp h _ (lP hb)) _ (lP ha)
theorem fW{P:Str->Prop}(a:P ⟨#[97]⟩)(b:P ⟨#[99,32,100,39]⟩)(c:P ⟨#[108,111,99,97,108]⟩)(d:P ⟨#[55]⟩):∀ l∈bT,P l:=by
 intro l hl;simp only[bT,List.mem_cons,List.mem_nil_iff,or_false] at hl;rcases hl with rfl|rfl|rfl|rfl<;>assumption
theorem Rp:∀ a∈bT,∀ b∈bT,dK [a,b]=true :=
 fW (fW Yo Yp Yq Yr) (fW Ys Yt Yu Yv) (fW Yw Yx Yy Yz) (fW Za Zb Zc Zd)
theorem Ft{P}(h4:∀ a∈bT,∀ b∈bT,bS P [a,b]=true)(h3:∀ a∈bT,bS P [a]=true)(r3:∀ a∈bT,Dv P [a]=true)(h2:bS P []=true)(r2:Dv P []=true)(h1:(bT.all λ x=>P (aF [x])&&P (bI [x]))=true)(h:dH x=true):P x=true:=by
 refine aE (Sm h) ?_;clear h;rintro ls a (⟨rfl,k1,k2⟩|⟨rfl,k1,k2⟩)
 ·exact lL4 (M:=λ ls=>ls.length≤3->(∀ l∈ls,l∈bT)->1≤ls.length->P (bI ls)=true) (λ _ _ q=>absurd q (by decide)) (λ p _ a _=>(Bool.and_eq_true _ _▸List.all_eq_true.mp h1 p (a p (.head _)):_/\_).2) (λ p q _ a _=>xU r2 (a p (.head _)) (a q (.tail _ (.head _))))
   (λ p q r _ a _=>xU (r3 p (a p (.head _))) (a q (.tail _ (.head _))) (a r (.tail _ (.tail _ (.head _))))) (λ _ _ _ _ q=>absurd q (Nat.not_succ_le_self 3)) ls (Nat.le_succ_of_le k2) k2 a k1
 ·exact lL4 (M:=λ ls=>(∀ l∈ls,l∈bT)->1≤ls.length->P (aF ls)=true) (λ _ q=>absurd q (by decide)) (λ p a _=>(Bool.and_eq_true _ _▸List.all_eq_true.mp h1 p (a p (.head _)):_/\_).1) (λ p q a _=>fZ h2 (a p (.head _)) (a q (.tail _ (.head _))))
   (λ p q r a _=>fZ (h3 p (a p (.head _))) (a q (.tail _ (.head _))) (a r (.tail _ (.tail _ (.head _))))) (λ p q r t a _=>fZ (h4 p (a p (.head _)) q (a q (.tail _ (.head _)))) (a r (.tail _ (.tail _ (.head _)))) (a t (.tail _ (.tail _ (.tail _ (.head _)))))) ls k2 a k1
theorem Ze(h:dH x=true):pT x=true :=
 Ft (P:=pT) Rp (fW (P:=λ p=>dK [p]=true) aB1 aB2 aB3 aB4) (fW (P:=λ p=>Dv pT [p]=true) aB6 aB7 aB8 aB9) ip2 ir2 ip1 h
theorem Zf{S}(h:dH x=true):∃ r,peek [] S (reRunToEnd (ipM x))=some r/\r.isSome=ipB x:=Cs (of_decide_eq_true (Ze h))
end
section
open Builtin.Re
noncomputable def Na(p m:Str)(v:PV):Option PV:=if p="IPV4_RE"/\m="search" then match v with
  | .str x=>if dH x then some (if ipB x then .obj "re.Match" else .none) else none
  | _=>none
 else none
theorem Nr:PlainAttrs "re.Pattern":=⟨⟨"object.__getattribute__",by rw[typeLookup_type,builtinLookup_eq_fast];kernel_rfl,by decide +kernel⟩,by rw[typeLookup_type,builtinLookup_eq_fast];kernel_rfl⟩
theorem Tm:Slot "re.Pattern" "search" "re.Pattern.search" :=
 Slot.of (owner:="re.Pattern") (n:="search") (by rw[typeLookup_type,builtinLookup_eq_fast];kernel_rfl) (by decide +kernel) (by decide +kernel) (by decide +kernel) (.inr (by decide +kernel)) (by rw[isSubtype_type];kernel_rfl)
theorem Tn:typeOf (.builtin "re.Pattern.search")=pure (.type "method_descriptor"):=by kernel_rfl
theorem xQ:entryFor table "re.Pattern.search"=some Builtin.«re.Pattern.search»:=entryFor_of_tree (by kernel_rfl)
theorem aCB:(Code.builtin "re.Pattern.search" ⟨[],[]⟩).quiet=true:=by decide +kernel
theorem Km(P:Params)(S:Setting)(x:Str)(t:Tok):peek (KK P) S (checkBuiltinCall "re.Pattern.search" ⟨[.ref 63,.str x t],[]⟩)=some ():=by kernel_rfl
theorem Kn(x:Str)(t:Tok)(pos lim:Nat)(m:Sre.M):reNewMatch (.ref 63) (.str x t) 0 pos lim m=(newTuple [rawInt m.start,rawInt m.handed] >>= λ tp=>newFields "re.Match" [.str x t,.ref 63,rawInt pos,rawInt lim,rawInt m.lastindex,tp]):=by kernel_rfl
theorem aBU(P:Params):glK P "IPV4_RE"=some (.ref 63):=by kernel_rfl
theorem aB5(P:Params):(KK P).lookup 63=some ⟨.type "re.Pattern",none,.fields #[.str "\\.\\d+$" 358,.int 256 385,.int 0 0,.none,.none,.ref 62,.int 0 0],#[]⟩:=by kernel_rfl
section
theorem Rq{t}(X:(KK w.params).In s.heap)(l:∀ b∈H,∃ o,s.heap.get? b=some o)(hx:dH x=true)(h:VPost H s Q (if ipB x then .obj "re.Match" else .none)):wpAny (model prog w) A (call (.builtin "re.Pattern.search") [.ref 63,.str x t]) Q E s:=by
 refine wpAny_call (codeAny_call_builtin_code (Code.quiet_builtin _ (by decide +kernel)) ?_)
 refine Looks.here (dC (r:=()) X λ p=>Km _ _ x t) ?_;refine codeAny_builtin xQ ?_;unfold Builtin.«re.Pattern.search»;refine wB (Looks.here (dC X λ p=>Fh _ _ x t) ?_);dsimp only [reAnswer];refine aE (Zf (S:=⟨prog,w.params⟩) hx) λ r e1 e2=>?_;refine wB (Looks.here (r:=r) (Looks.of_peek (K:=[]) (λ _ _ e=>nomatch e) e1) ?_);clear e1;cases r with
 | none =>
  rw[<- e2] at h;exact wP (h s.heap s.toks _ (aQ _) .none)
 | some m =>
  rw[<- e2] at h;dsimp only;rw[Kn];refine wB (wB (wpAny_newTuple (wpAny_newObj_type (wP ?_) (by size_fits))))
  have k:s.heap.StaysIn ((s.heap.push (seqObj "tuple" [rawInt m.start,rawInt m.handed].toArray 0)).push { cls:=.type "re.Match",dict:=none,data:=.fields [.str x t,.ref 63,rawInt (0:Nat),rawInt (min (9223372036854775807:Nat) x.cps.size:Nat),rawInt m.lastindex,.ref s.heap.objs.size].toArray }) :=
   λ b o e=>Heap.get?_push_of_some _ (Heap.get?_push_of_some _ e)
  refine h _ s.toks _ k (.obj (o:={ cls:=.type "re.Match",dict:=none,data:=.fields [.str x t,.ref 63,rawInt (0:Nat),rawInt (min (9223372036854775807:Nat) x.cps.size:Nat),rawInt m.lastindex,.ref s.heap.objs.size].toArray }) (dG (Heap.get?_push_size _ rfl) ?_) rfl (by intro ov;simp) (λ q=>absurd q (by decide)))
  intro q;refine aB (l _ q) λ o ho=>?_;have h1:=Heap.lt_size ho;rw[Heap.size_push] at h1;exact absurd (Nat.lt_of_succ_lt h1) (Nat.lt_irrefl _)
set_option tactic.hygienic true in
theorem aAp:Vq prog w Na:=by
 intro p m v r e;unfold Na at e;split at e
 ·rename_i hp;refine aK hp ?_;clear hp;rintro rfl rfl;split at e
  ·rename_i x;split at e
   ·rename_i hx;have q:=sj e;clear e;subst q;refine⟨63,"re.Pattern","re.Pattern.search",aBU _,Nr,Tm,Tn,λ g b=>⟨_,b.k 63 _ (aB5 _),rfl,rfl⟩,λ{A H s rv Q E} C l rv' h=>?_⟩;refine aB rv'.inv ?_;clear rv';rintro _ rfl;exact Rq (C.base.k.keeps aP) l hx h
   ·exact nos e
  ·exact nos e
 ·exact nos e
end
end
section
open Builtin.Re
noncomputable def Pq:Array Nat:=#[14,17,4,1,1,21,9,0,604043296,1,0,0,0,0,0,8,4,0,13,14,21,9,0,604043296,1,0,0,0,0,0,8,4,0,1]
theorem He(P:Params)(S:Setting)(x:Str)(t:Tok):peek (KK P) S (reTarget "re.Pattern.search" "search" ⟨[.ref 96,.str x t],[]⟩) =
  some { pattern:=.ref 96,string:=.str x t,code:=Pq,text:=x.cps,kind:=0,groups:=0,pos:=0,lim:=min (9223372036854775807:Nat) x.cps.size }:=by kernel_rfl
noncomputable def unM(x:Str):Sre.M:=Sre.forSearch Pq x.cps 0 0 (min (9223372036854775807:Nat) x.cps.size) false
noncomputable def unB(x:Str):Bool:=x.cps.toList.any λ c=>c==32||c==39
noncomputable def fO(x:Str):Bool:=decide (drv 500 (unM x)=some (unB x))
theorem aA7:bS fO [⟨#[97]⟩,⟨#[97]⟩]=true:=by kernel_rfl
theorem aA8:bS fO [⟨#[97]⟩,⟨#[99,32,100,39]⟩]=true:=by kernel_rfl
theorem aA9:bS fO [⟨#[97]⟩,⟨#[108,111,99,97,108]⟩]=true:=by kernel_rfl
theorem aBa:bS fO [⟨#[97]⟩,⟨#[55]⟩]=true:=by kernel_rfl
theorem aBb:bS fO [⟨#[99,32,100,39]⟩,⟨#[97]⟩]=true:=by kernel_rfl
theorem aBc:bS fO [⟨#[99,32,100,39]⟩,⟨#[99,32,100,39]⟩]=true:=by kernel_rfl
theorem aBd:bS fO [⟨#[99,32,100,39]⟩,⟨#[108,111,99,97,108]⟩]=true:=by kernel_rfl
theorem aBe:bS fO [⟨#[99,32,100,39]⟩,⟨#[55]⟩]=true:=by kernel_rfl
theorem aBf:bS fO [⟨#[108,111,99,97,108]⟩,⟨#[97]⟩]=true:=by kernel_rfl
theorem aBg:bS fO [⟨#[108,111,99,97,108]⟩,⟨#[99,32,100,39]⟩]=true:=by kernel_rfl
theorem aBh:bS fO [⟨#[108,111,99,97,108]⟩,⟨#[108,111,99,97,108]⟩]=true:=by kernel_rfl
theorem aBi:bS fO [⟨#[108,111,99,97,108]⟩,⟨#[55]⟩]=true:=by kernel_rfl
theorem aBj:bS fO [⟨#[55]⟩,⟨#[97]⟩]=true:=by kernel_rfl
theorem aBk:bS fO [⟨#[55]⟩,⟨#[99,32,100,39]⟩]=true:=by kernel_rfl
theorem aBl:bS fO [⟨#[55]⟩,⟨#[108,111,99,97,108]⟩]=true:=by kernel_rfl
theorem aBm:bS fO [⟨#[55]⟩,⟨#[55]⟩]=true:=by kernel_rfl
theorem aC0:bS fO [⟨#[97]⟩]=true:=by kernel_rfl
theorem aC1:bS fO [⟨#[99,32,100,39]⟩]=true:=by kernel_rfl
theorem aC2:bS fO [⟨#[108,111,99,97,108]⟩]=true:=by kernel_rfl
theorem aC3:bS fO [⟨#[55]⟩]=true:=by kernel_rfl
theorem un2:bS fO []=true:=by kernel_rfl
theorem un1:(bT.all λ x=>fO (aF [x]))=true:=by kernel_rfl
theorem Ul:∀ a∈bT,∀ b∈bT,bS fO [a,b]=true :=
 fW (fW aA7 aA8 aA9 aBa) (fW aBb aBc aBd aBe) (fW aBf aBg aBh aBi) (fW aBj aBk aBl aBm)
theorem Ff{P:Str->Bool}(h4:∀ a∈bT,∀ b∈bT,bS P [a,b]=true)(h3:∀ a∈bT,bS P [a]=true)(h2:bS P []=true)(h1:(bT.all λ x=>P (aF [x]))=true)(a:∀ l∈ls,l∈bT)(k1:1≤ls.length)(k2:ls.length≤4):P (aF ls)=true:=by
 refine lL4 (M:=λ ls=>(∀ l∈ls,l∈bT)->1≤ls.length->P (aF ls)=true) (λ _ q=>absurd q (by decide)) (λ p a _=>List.all_eq_true.mp h1 p (a p (.head _))) (λ p q a _=>fZ h2 (a p (.head _)) (a q (.tail _ (.head _))))
  (λ p q r a _=>fZ (h3 p (a p (.head _))) (a q (.tail _ (.head _))) (a r (.tail _ (.tail _ (.head _))))) (λ p q r t a _=>fZ (h4 p (a p (.head _)) q (a q (.tail _ (.head _)))) (a r (.tail _ (.tail _ (.head _)))) (a t (.tail _ (.tail _ (.tail _ (.head _)))))) ls k2 a k1
theorem aBn{S:Setting}(a:∀ l∈ls,l∈bT)(k1:1≤ls.length)(k2:ls.length≤4):∃ r,peek [] S (reRunToEnd (unM (aF ls)))=some r/\r.isSome=unB (aF ls):=Cs (of_decide_eq_true (Ff (P:=fO) Ul (fW (P:=λ p=>bS fO [p]=true) aC0 aC1 aC2 aC3) un2 un1 a k1 k2))
end
section
set_option backward.match.sparseCases true
noncomputable def yS:List Str->Bool
 | a::b::r=>!(b==a)&&yS (b::r)
 | _=>true
theorem yT:∀{xs:List Str},yS xs=true->Adj xs
 | [],_=>λ k a b h _=>by simp at h
 | [_],_=>λ k a b h h2=>by simp at h2
 | x::y::r,e=>λ k a b h h2=>by
  simp only[yS,Bool.and_eq_true,Bool.not_eq_true',beq_eq_false_iff_ne,ne_eq] at e;cases k with
  | zero =>
   simp only[List.getElem?_cons_zero,List.getElem?_cons_succ,Option.some.injEq] at h h2;subst h;subst h2;exact e.1
  | succ k=>exact yT e.2 k a b (h) (h2)
noncomputable def aAH(a b:List PV):Option PV:=(cC a).bind λ xs=>(cC b).bind λ ys=>if yS xs/\yS ys/\xs.length<1000/\ys.length<1000 then some (.tuple [.list (iH (gL (xs.length+ys.length+1) xs ys).1),.list (iH (gL (xs.length+ys.length+1) xs ys).2)]) else none
noncomputable def Et(f:Str)(vs:List PV):Option PV :=
 if f="_law_labels" then match vs with
  | [h]=>(lL h).map .list
  | _=>none
 else if f="sorted_list_difference" then match vs with
  | [.list a,.list b]=>aAH a b
  | _=>none
 else none
set_option tactic.hygienic true in
theorem uZ:∀{a:List PV} {xs:List Str},cC a=some xs->a=iH xs:=by
 intro l9;induction l9 with
 | nil =>
  intro xs e;obtain rfl:=sj e;rfl
 | cons x r ih =>
  intro xs e;rcases x with⟨⟩<;>first|exact nos e|skip
  rename_i y;simp only[cC,Option.map_eq_some_iff] at e;refine aE e ?_;clear e;rintro ys e1 rfl;rw[ih e1];rfl
section
set_option tactic.hygienic true in
theorem Xy:Vn prog w Et:=by
 intro f vs v e;unfold Et at e;split at e
 ·rename_i hf;subst hf;split at e
  ·rename_i host;refine aE (Option.map_eq_some_iff.mp e) ?_;clear e;rintro ls e1 rfl;refine rA 818 ((oM _).1) (λ g b=>?_) λ{A H s rvs Q E} C lH r h=>?_
   ·refine bB (nE.get b) λ o fd q1 q2 _=>?_;exact rR o fd q1 q2
   ·refine bB r.inv ?_;clear r;rintro _ _ rfl r rn;have q:_=_:=rn.inv;clear rn;subst q;exact Fk e1 C lH r h
  ·exact nos e
 ·split at e
  ·rename_i hf;subst hf;split at e
   ·rename_i a b;unfold aAH at e;simp only[Option.bind_eq_some_iff,Option.ite_none_right_eq_some,Option.some.injEq] at e;refine aE e ?_;clear e;intro xs e1 y1;refine fQ y1 ?_;clear y1;intro ys e2 y2;refine kR y2 ?_;clear y2;intro hx hy lx ly;rintro rfl;refine rA 51 ((oM _).2.1) (λ g b=>?_) λ{A H s rvs Q E} C lH r h=>?_
    ·refine bB (vO.get b) λ o fd q1 q2 _=>?_;exact rR o fd q1 q2
    ·refine bB r.inv ?_;clear r;rintro _ _ rfl r1 rn;refine bB rn.inv ?_;clear rn;rintro _ _ rfl r2 rn;have q:_=_:=rn.inv;clear rn;subst q;rw[uZ e1] at r1;rw[uZ e2] at r2;exact aAI (yT hx) (yT hy) (by exact ll1 ‹_› (by rfl)) (by exact ll1 ‹_› (by rfl)) C lH r1 r2 h
   ·exact nos e
  ·exact nos e
noncomputable def S1(prog:Program)(w:World):Sys prog w:=Wo (ext:=Et) (orc:=Na) (λ h=>Xy h) (λ h=>aAp h)
end
noncomputable def T1:Tab:=sZ Et Na
end
section
open Builtin.Re
theorem Pr(P:Params)(S:Setting)(x:Str)(t:Tok):peek (KK P) S (checkBoundCall "re.Pattern.search" ⟨[.ref 96,.str x t],[]⟩)=some ():=by kernel_rfl
theorem Ps(x:Str)(t:Tok)(pos lim:Nat)(m:Sre.M):reNewMatch (.ref 96) (.str x t) 0 pos lim m=(newTuple [rawInt m.start,rawInt m.handed] >>= λ tp=>newFields "re.Match" [.str x t,.ref 96,rawInt pos,rawInt lim,rawInt m.lastindex,tp]):=by kernel_rfl
theorem aBW(P:Params):glK P "_find_unsafe"=some (.ref 799):=by kernel_rfl
theorem aC4(P:Params):(KK P).lookup 799=some ⟨.type "builtin_function_or_method",none,.fields #[.builtin "re.Pattern.search",.ref 96],#[]⟩:=by kernel_rfl
section
theorem Un{h}(X:(KK w.params).In h):∃ k,(k=Keeper.frame∨k=Keeper.machine∨k=Keeper.boundFrame)/\Looks (model prog w) h (keeperOf (.ref 799)) k :=
 ⟨.machine,.inr (.inl rfl),dC X λ p=>by kernel_rfl⟩
theorem Um{t}(X:(KK w.params).In s.heap)(hx:∃ r,peek [] ⟨prog,w.params⟩ (reRunToEnd (unM x))=some r/\r.isSome=unB x)(h:∀ h' tk v,s.heap.StaysIn h'->(unB x=false->v=.none)->(unB x=true->∃ m,v=.ref m)->Q v { s with heap:=h',toks:=tk }):wpAny (model prog w) A (call (.ref 799) [.str x t]) Q E s:=by
 refine wpAny_call (codeAny_of_tree ?_);show wpAny _ _ (callAny (.ref 799) _) _ _ _;refine wB (wpAny_load (X 799 _ (aC4 _)) ?_);refine wB (Looks.here (dC (r:=()) X λ p=>Pr _ _ x t) ?_);refine wB (wP (a:=Fin.again (.builtin "re.Pattern.search" ⟨[.ref 96,.str x t],[]⟩)) ?_);refine wP (And.intro (Code.quiet_builtin _ (by decide +kernel)) (codeAny_builtin xQ ?_))
 unfold Builtin.«re.Pattern.search»;refine wB (Looks.here (dC X λ p=>He _ _ x t) ?_);dsimp only [reAnswer];refine aE hx ?_;clear hx;intro r e1 e2;refine wB (Looks.here (r:=r) (Looks.of_peek (K:=[]) (λ _ _ e=>nomatch e) e1) ?_);clear e1;cases r with
 | none=>exact wP (h s.heap s.toks _ (aQ _) (λ _=>rfl) λ q=>by rw[<- e2] at q;exact nft q)
 | some m =>
  dsimp only;rw[Ps];refine wB (wB (wpAny_newTuple (wpAny_newObj_type (wP ?_) (by size_fits))))
  exact h _ s.toks _ (λ b o e=>Heap.get?_push_of_some _ (Heap.get?_push_of_some _ e)) (λ q=>by rw[<- e2] at q;exact ntf q) λ _=>⟨_,rfl⟩
end
end
section
open Builtin.Re
inductive QuoBody:List Stmt->Prop
 | mk {r:Stmt} {k1 k2 k3 k4 k5:Nat} {p1 p2 p3 p4 p5 p6 p7 p8 p9 p10 p11 q1 q2 q3 q4 q5 q6 q7 q8 q9 q10:Pos}:(q3.endLine==q6.line)=true ->
   QuoBody [.If (.UnaryOp .Not (.Name "s" p1) p2) [r] [] p3,.If (.Compare (.Call (.Name "_find_unsafe" p4) [.Name "s" p5] [] p6) [.Is] [.Constant .none k1 p7] p8) [.Return (some (.Name "s" p9)) p10] [] p11,
    .Return (some (.BinOp (.BinOp (.Constant (.str "'") k2 q1) .Add (.Call (.Attribute (.Name "s" q2) "replace" q3) [.Constant (.str "'") k3 q4,.Constant (.str "'\"'\"'") k4 q5] [] q6) q7) .Add (.Constant (.str "'") k5 q8) q9)) q10]
theorem No:QuoBody (eV (bO 36)):=.mk rfl
theorem aAw:Nm (fA (bO 36)) "s":=jY (by kernel_rfl)
theorem aAy:aR (fA (bO 36)) "_find_unsafe":=by unfold aR;kernel_rfl
noncomputable def dA(x:Str):Str:=if unB x then("'"++Txt.replace x "'" "'\"'\"'")++"'" else x
section
theorem Np{t}(b:Base w g)(k:g.StaysIn s.heap)(room:A.depth<recursionLimit)(hx:∃ r,peek [] ⟨prog,w.params⟩ (reRunToEnd (unM x))=some r/\r.isSome=unB x)(h0:x.length≠0)(h1:x.length≤1000)(hr:(Txt.replace x "'" "'\"'\"'").length≤100000)(h:∀ h' tk tk',s.heap.StaysIn h'->Q (.str (dA x) tk') { s with heap:=h',toks:=tk }):wpAny (model prog w) A (call (.ref 806) [.str x t]) Q E s:=by
 refine kS (oW.get b) λ o fd q1 q2 q3 q4=>?_;have sb:=No;have N:=aAw;have U:=aAy;rw[<- q4] at N U;generalize eV (bO 36)=body at q3 sb;refine wpAny_call (zS q3 (H:=[]) (ρ:=[]) (σ:=[]) room (b.lim.keeps k) (Mid.nil λ _ q=>nomatch q) (vs:=[.str x]) (.cons (.frozen (.str x t)) .nil) (q3.bind s [.str x t] k rfl) k (k _ _ q1) q2 λ h₁ tk env oc I fx En=>?_);clear q3;cases sb with | @mk r kc1 kc2 kc3 kc4 kc5 p1 p2 p3 p4 p5 p6 p7 p8 p9 p10 p11 c1 c2 c3 c4 c5 c6 c7 c8 c9 c10 hl =>
 have k1:g.StaysIn h₁:=λ b o e=>En.keep b o (k b o e);refine wpAny_execs_cons (wpAny_If (wpAny_isTrue_Not (wpAny_isTrue_value (N.wp fx I rfl λ rv r=>?_) rfl)));refine aB r.inv ?_;clear r;rintro t1 rfl;refine P.truthy_str (by lia) ?_
 have e0:((x.length:Int) != 0)=true:=by simp;exact h0
 rw[e0];refine wpAny_execs_nil ?_;refine wpAny_execs_cons (wpAny_If (wpAny_isTrue_Compare1 (wpAny_Call_NameR (wpAny_Name (uA b (aBW _) fx.kind fx.glob fx.bi (fx.gl _ U) k1 ?_) (by decide +kernel))) rfl))
 refine eG (P:=λ h=>(KK w.params).In h) rfl (λ _ X=>Un X) (spliced_cons (N.wp fx I rfl λ rv r=>spliced_nil ?_));refine aB r.inv ?_;clear r;rintro t2 rfl;have X1:(KK w.params).In h₁:=b.k.keeps k1;refine aY X1 (Um X1 hx λ h2 tk2 v k2 d1 d2=>?_);have I2:=I.ext (Up.of k2);have k3:s.heap.StaysIn h2:=λ b o e=>k2 b o (En.keep b o e);refine wpAny_Constant_none ?_;cases hu:unB x with
 | false =>
  rw[d1 hu];refine is_none_none (wpAny_truthy_bool ?_);refine wpAny_execs_cons (wpAny_Return_some (N.wp fx I2 rfl λ rv r=>?_));refine aB r.inv ?_;clear r;rintro t3 rfl;have z:=h h2 tk2 t3 k3;rw[dA,hu] at z;exact z
 | true =>
  refine aB (d2 hu) ?_;clear d1 d2;rintro m rfl;refine is_none_ne (by intro q;cases q) (wpAny_truthy_bool ?_)
  refine wpAny_execs_nil ?_;refine wpAny_execs_cons (wpAny_Return_some (wpAny_BinOp (wpAny_BinOp (wpAny_Constant_str ?_))));refine wpAny_Call_method (T:="str") (id:="str.replace") rfl rfl hl F.plainAttrs_str F.slot_str_replace F.type_str_replace (N.wp fx I2 rfl λ rv r=>?_);refine aB r.inv ?_;clear r;rintro t3 rfl;refine fP (typeIs_str _ _ _) (λ a q=>by(cases q)) ?_
  refine eG (P:=λ _=>True) rfl cH ?_;refine spliced_cons ?_;refine wpAny_Constant_str (x:="'") (k:=kc3) (pos:=c4) (env:=env) ?_;refine spliced_cons ?_;refine wpAny_Constant_str (x:="'\"'\"'") (k:=kc4) (pos:=c5) (env:=env) ?_;refine spliced_nil ⟨trivial,?_⟩;have l1:(("'\"'\"'":Str)).length=5:=by decide +kernel
  have l2:(("'":Str)).length=1:=by decide +kernel
  refine SC.replace (by simp) (by simp) (by simp) (by decide +kernel) (by rw[l1];lia) λ t' k'=>?_
  refine SB.add (λ t4 k4=>?_) (by rw[l2];unfold sizeLine;omega)
  refine wpAny_Constant_str (SB.add (λ t5 k5=>?_) (by rw[size_cat,l2];unfold sizeLine;omega))
  have z:=h h2 k5 t5 k3;rw[dA,hu] at z;exact z
end
end
section
open Builtin.Re
inductive JoiBody:List Stmt->Prop
 | mk {k:Nat} {p1 p2 p3 p4 p5 p6 p7 p8 p9 p10:Pos} {sc:Scope}:(p2.endLine==p9.line)=true->sc.isCoroutine=false->(∀ env,closureFor sc env=pure [])->(∀ y∈sc.names,y.2≠.cell)->sc.names.lookup (".0":Str)=some .local ->
   sc.names.lookup ("arg":Str)=some .local->sc.names.lookup ("quote":Str)=some .globalImplicit->sc.kind=.function ->
   JoiBody [.Return (some (.Call (.Attribute (.Constant (.str " ") k p1) "join" p2) [.GeneratorExp (.Call (.Name "quote" p3) [.Name "arg" p4] [] p5) [⟨.Name "arg" p6,.Name "split_command" p7,[],0⟩] sc p8] [] p9)) p10]
theorem Kt:JoiBody (eV (bO 33)):=.mk rfl rfl (λ _=>rfl) (by decide +kernel) (by decide +kernel) (by decide +kernel) (by decide +kernel) rfl
noncomputable def tH:Fn:=⟨["split_command"],[.bad]⟩
theorem rW(P:Params):∃(qn:Str) (pm dv:Value),(KK P).lookup 798=some ⟨.type "function",none,.func (bY (bO 33) qn pm (.ref 797) dv),#[]⟩/\mG P 797 qn=true/\okF (bO 33)=true/\tH=mkF (bO 33) /\
  ∀(S:Setting) (vals:List Value),vals.length=tH.ps.length->peek (KK P) S (bindArgs (bY (bO 33) qn pm (.ref 797) dv) ⟨vals,[]⟩)=some (tH.ps.zip vals) :=
 ⟨"join",(.str "cpy313.shlex" 1175),.none,by kernel_rfl,by kernel_rfl,by kernel_rfl,by kernel_rfl,λ S vals h=>by
  refine aB (gR h) ?_;clear h;rintro a rfl
  kernel_rfl⟩
end
section
open Builtin.Re
noncomputable def cX(P:Params):Obj:=((KK P).lookup 797).getD default
noncomputable def vX(P:Params):Array Value:=match (cX P).data with
 | .fields vs=>vs
 | _=>#[]
noncomputable def fX(P:Params)(i:Nat):Value:=(vX P).getD i .none
noncomputable def sX(v:Value):Str×Nat:=match v with
 | .str x t=>(x,t)
 | _=>default
noncomputable def nX(v:Value):Int×Nat:=match v with
 | .int x t=>(x,t)
 | _=>default
noncomputable def bX(v:Value):Bool:=match v with
 | .bool x=>x
 | _=>false
theorem wW{h}(X:(KK P).In h)(t:h.get? 793=some ⟨.none,none,.fields #[],#[]⟩):h.IsCode 797 793 #[]/\h.TableAt 797 793 #[]:=by
 have ho:h.get? 797=some (cX P):=X _ _ (by kernel_rfl)
 have hd:(cX P).data=.fields (vX P):=by kernel_rfl
 exact fP ⟨cX P,vX P,(sX (fX P 18)).1,(sX (fX P 18)).2,(nX (fX P 7)).1,(nX (fX P 7)).2,bX (fX P 9),(nX (fX P 10)).1,(nX (fX P 10)).2,_,ho,hd,by kernel_rfl,by kernel_rfl,by kernel_rfl,by kernel_rfl,by kernel_rfl,t,rfl,trivial,by decide⟩ ⟨cX P,vX P,ho,by kernel_rfl,hd,by kernel_rfl⟩ t
theorem aBV(P:Params):glK P "quote"=some (.ref 806)/\glK P "__builtins__"=some (.ref 4):=⟨by kernel_rfl,by kernel_rfl⟩
noncomputable def Wc(P:Params):Bool:=match (KK P).lookup 4 with
 | some o=>o.cls==.type "module"&&o.dict==some builtinsNs&&(match o.data with|.plain=>true|_=>false)
 | none=>false
theorem Ln(P:Params):Wc P=true:=by kernel_rfl
set_option tactic.hygienic true in
theorem aDC(P:Params):∃ o,(KK P).lookup 4=some o/\o.cls=.type "module"/\o.dict=some builtinsNs/\o.data=.plain:=by
 have e:=Ln P;unfold Wc at e;split at e
 case h_2=>exact nft e
 rename_i o ho;simp only[Bool.and_eq_true,beq_iff_eq] at e;refine aK e ?_;intro q1;refine aK q1 ?_;intro e1 e2;intro e3;split at e3
 case h_2=>exact nft e3
 rename_i hd;exact yM o ho e1 e2 hd
structure QuoOk(prog:Program)(w:World)(x:Str):Prop where
 run:∃ r,peek [] ⟨prog,w.params⟩ (reRunToEnd (unM x))=some r/\r.isSome=unB x
 ne:x.length≠0
 le:x.length≤1000
 rep:(Txt.replace x "'" "'\"'\"'").length≤100000
end
section
open Builtin.Re
theorem aCi(P:Params):nsIn (KK P) mainGlobals "__builtins__"=some (some (.ref 4)):=by kernel_rfl
theorem nU(n:Nat):passing (λ _=>true) n 0=List.range n:=by unfold passing;simp
section
theorem Sf{names:List Str}{lt:List (Str×Tok)}(hvn:n=names.length)(h:ItemsOf (λ j v=>∃ i,(passing (λ _=>true) n 0)[j]? = some i/\∃ z t,names[i]? = some z/\v=Value.str (dA z) t) (strValues lt).toArray (passing (λ _=>true) n 0).length):lt.map (·.1)=names.map dA:=by
 simp only[nU,List.length_range] at h;have hs:lt.length=names.length:=by
  have:=h.1;simp only[List.size_toArray,hvn] at this;simp only[<- this,strValues,List.length_map]
 apply List.ext_getElem?;intro j;simp only[List.getElem?_map,List.getElem?_map];rcases Nat.lt_or_ge j names.length with hj|hj
 ·have hj':j<lt.length:=hs▸hj;refine aE (h.2 j (.str lt[j].1 lt[j].2) (by simp[strValues,List.getElem?_eq_getElem hj'])) λ i hi y1=>eX y1 λ z t hz e=>?_
  simp only[List.getElem?_range (hvn▸hj)] at hi;simp only[<- sj hi] at hz;simp only[hz,List.getElem?_eq_getElem hj']
  injection e with e1 _
  exact congrArg some e1
 ·simp only[List.getElem?_eq_none hj,List.getElem?_eq_none (hs▸hj)]
  rfl
set_option tactic.hygienic true in
theorem Ru{names:List Str}(b:Base w (fz s.heap H))(t793:s.heap.get? 793=some ⟨.none,none,.fields #[],#[]⟩)(h793:793∈H)(room:A.depth+4<recursionLimit)(hh:A.handled=none)(G:AllBare s.gens)(r:VRel (fz s.heap H) (.list (names.map .str)) rv)(ok:∀ x∈names,QuoOk prog w x)(hj:JoinOk " " (names.map dA)=true)(hn:names.length≤1000)(h:∀ h' gs tk tk' ps,(∀ b o,b≠793->s.heap.get? b=some o->h'.get? b=some o)->h'.get? 793=some ⟨.none,none,.fields ps,#[]⟩->AllBare gs->Q (.str (Txt.join " " (names.map dA)) tk') { s with heap:=h',gens:=gs,toks:=tk }) :
  wpAny (model prog w) A (call (.ref 798) [rv]) Q E s:=by
 refine Uw (rW w.params) λ qn pm dv f1 f2 f3 f4 f5=>?_;refine bQ (Jq b.k f1 (kY f2) f3 f4 f5) λ o fd body q1 q2 q3=>?_;obtain rfl:=sj (q1.symm.trans (b.k _ _ f1));cases q2;have sb:=Kt;have eb:body=eV (bO 33):=by have:=q3.bod;clear q3;cases this;rfl
 have hcd:(bY (bO 33) qn pm (.ref 797) dv).code=.ref 797:=rfl;have hps:tH.ps=[("split_command":Str)]:=rfl;have htg:=q3.tg ("split_command":Str) (by simp only[hps];exact .head _)
 have hloc:(bY (bO 33) qn pm (.ref 797) dv).scope.names.lookup ("split_command":Str)=some NameKind.local:=by kernel_rfl
 simp only[<- eb] at sb;clear eb f1 f2 f3 f4 f5;generalize bY (bO 33) qn pm (.ref 797) dv=fd at *;have k0:(fz s.heap H).StaysIn s.heap:=aP;refine wpAny_call (nH (by exact ll6 ‹_›) (k0 _ _ q1) rfl (b.lim.keeps k0) (q3.crec.keeps k0) q3.bod (q3.bind s [rv] k0 rfl) q3.clo (λ x hx=>?_) (λ s₁ x=>?_) q3.co q3.gen q3.kind)
 ·simp only[xm1 (show x∈[(("split_command":Str),rv)] from hx)];exact .inl hloc
 have xn:=x.toInCall.ns;have xk:=x.toInCall.keep;refine gM x.toInCall.same ?_;rintro h₁ tk rfl;have ek:(callEnvC fd s.heap.objs.size 798).kindOf=(callEnvC fd s.heap.objs.size 798).kindOf:=rfl;have ec:(callEnvC fd s.heap.objs.size 798).code=.ref 797:=hcd;have esc:(callEnvC fd s.heap.objs.size 798).scope.kind=.function:=q3.kind;have egl:(callEnvC fd s.heap.objs.size 798).globals=mainGlobals:=q3.gl;have ebi:(callEnvC fd s.heap.objs.size 798).builtins=builtinsNs:=q3.bi;have elo:(callEnvC fd s.heap.objs.size 798).kindOf "split_command"=some .local:=hloc;clear x;generalize callEnvC fd s.heap.objs.size 798=env at *;cases r with|list ea va =>
 rename_i a vs cap;refine aK (dT ea) λ ea naH=>?_;have hl:h₁.IsList a vs.toArray:=aI (xk _ _ ea);have hvn:vs.length=names.length:=by simp only[va.length,List.length_map]
 have hv:∀ i v,vs.toArray[i]? = some v->∃ y t,names[i]? = some y/\v=Value.str y t:=λ i v e=>by
  rw[List.getElem?_toArray] at e;have hi:i<names.length:=by simp only[<- hvn];exact(List.getElem?_eq_some_iff.mp e).1
  refine aE (va.get (show(names.map PV.str)[i]? = some (.str names[i]) by simp[hi])) λ rv e1 e2=>?_
  simp only[e] at e1;have q:=sj e1;clear e1;subst q;refine aB e2.inv ?_;clear e2;clear e;rintro _ rfl;exact rR _ _ (List.getElem?_eq_getElem hi) rfl
 have hlim:h₁.NoLimit:=(b.lim.keeps k0).keeps xk;have hI:a≠h₁.objs.size:=Nat.ne_of_lt (Heap.lt_size (xk _ _ ea));clear q3;cases sb with | @mk k p1 p2 p3 p4 p5 p6 p7 p8 p9 p10 sc hll c1 c2 c3 c4 c5 c6 c7 =>
 refine wpAny_execs_cons (wpAny_Return_some ?_);refine wpAny_Call_method (T:="str") (id:="str.join") rfl rfl hll F.plainAttrs_str F.slot_str_join F.type_str_join ?_;refine wpAny_Constant_str ⟨typeIs_str _ _ _,λ a q=>(by cases q),?_⟩
 refine eG (P:=λ _=>True) rfl cH (spliced_cons ?_);refine wpAny_GeneratorExp_walksQD (cl:=[]) hh c1 (c2 env) c3 c4 c5 c7 (by show A.depth+1<_;exact ll5 ‹_› (by rfl)) ?_ (λ _=>rfl)
 refine wpAny_Name (wpAny_loadName_local (v:=.ref a) esc elo xn (by simp only[hps];show bindL env.kindOf [(("split_command":Str),Value.ref a)] _ _=_;unfold bindL;simp only[if_pos elo];unfold bindL;exact if_pos rfl) ?_) (by decide +kernel)
 refine wpAny_pyIter_list hl ⟨hlim.push _,?_⟩;have K1:∀ b o,s.heap.get? b=some o->(h₁.push { cls:=.type "list_iterator",data:=.fields #[.ref a,.int 0 0] }).get? b=some o:=λ b o e=>Heap.get?_push_of_some _ (xk b o e);refine aK (wW (b.k.keeps (λ b o e=>K1 b o (k0 b o e))) (K1 _ _ t793)) λ ic ta=>?_;refine wpAny_genexprCodeX ec ic ta rfl λ c' h5 tk5 kx s1 s2 ic' cr ta' px=>?_;have X5:∀ b o,b≠793->s.heap.get? b=some o->h5.get? b=some o:=λ b o n e=>kx b o n (K1 b o e);have B5:∀ b o,(fz s.heap H).get? b=some o->h5.get? b=some o:=λ b o e=>X5 b o (λ q=>(dT e).2 (q▸h793)) (dT e).1;have hsz:h₁.objs.size<h5.objs.size:=Nat.lt_trans (Nat.lt_of_lt_of_le (by show _<(h₁.push _).objs.size;simp only[Heap.size_push];exact Nat.lt_succ_self _) s1) s2
 have lt1:∀{b o},s.heap.get? b=some o->b<h₁.objs.size:=λ e=>Heap.lt_size (xk _ _ e);have Xg:(KK w.params).In h5:=b.k.keeps B5;have Gm:h5.Ns mainGlobals (h5.nsMap mainGlobals):=.of_isNs (isNs_of_in Xg (Lx _));refine rB (aDC w.params) λ om m1 m2 m3 m4=>?_;refine wpAny_builtinsFor (bm:=4) (egl▸Gm) (mg_of Xg Gm (aCi _)) (by decide) (Xg _ _ m1) m2 m3 m4 ?_
 have l5:h5.NoLimit:=b.lim.keeps B5;have hI5:h5.get? h₁.objs.size=some { cls:=.type "list_iterator",data:=.fields #[.ref a,.int 0 0] }:=kx _ _ (λ q=>Nat.ne_of_lt (lt1 t793) q.symm) (Heap.get?_push_size _ rfl);have ha793:a≠793:=λ q=>naH (q▸h793);refine⟨h₁.objs.size,[h₁.objs.size,a],[h₁.objs.size],vs.toArray.size,_,_,λ _=>true,λ i y=>∃ z t,names[i]? = some z/\y=Value.str (dA z) t,rfl,λ A' hA=>Walks.list hA _ _ hI vs.toArray,⟨⟨_,hI5,rfl,rfl⟩,aI (X5 _ _ ha793 ea)⟩,?_,l5,?_,?_,?_⟩
 ·exact λ x hx=>mc2 hx (λ q=>q▸hsz) λ q=>by simp only[xm1 q];exact Heap.lt_size (X5 _ _ ha793 ea)
 ·intro hm;refine aE hlim ?_;clear hlim;intro _ z _;exact Nat.ne_of_lt z.lt (xm1 hm)
 ·intro href hk;refine⟨λ A' E' i v s₂ m₂ hA _ _ hp hns hm kp=>wP ⟨rfl,_,_,rfl,λ _ _ e=>e⟩,λ A' E' i v s₂ m₂ hA hd _ hp _ hns hm kp=>?_⟩;refine eX (hv i v hp) ?_;clear hp;rintro z t hz rfl;have kg:(fz s.heap H).StaysIn s₂.heap:=λ b o e=>kp b (List.mem_range.mpr (Heap.lt_size (B5 b o e))) (λ q=>Nat.ne_of_lt (lt1 (dT e).1) (xm1 q)) o (hk b o (B5 b o e));refine wpAny_Call_NameR (wpAny_Name (uA b (aBV _).1 c7 egl rfl c6 kg ?_) (by decide +kernel))
  refine eG (P:=λ h=>∃ o fd,h.get? 806=some o/\o.data=.func fd) rfl gY (spliced_cons (wpAny_Name (wpAny_loadName_local c7 c5 hns hm (spliced_nil ?_)) (by decide +kernel)))
  refine kS (oW.get b) λ oq fq u1 u2 _ _=>?_;have okz:=ok z (List.mem_of_getElem? hz);refine aY ⟨oq,fq,kg _ _ u1,u2⟩ (Np b kg (by have h9:A'.depth≤A.depth+1+1:=hd;exact Nat.lt_of_le_of_lt h9 (Nat.lt_of_le_of_lt (Nat.add_le_add_left (show 2≤4 by decide) A.depth) room)) okz.run okz.ne okz.le okz.rep λ h' tk tk' k=>⟨⟨z,tk',hz,rfl⟩,h',tk,rfl,k⟩)
 ·intro x h₅ tk gs hb lt hs5 keep W st;refine spliced_nil ⟨trivial,?_⟩;refine SC.joinGen W.in4_2 (λ i s' st=>st.1.typeIs) st ?_ (List.mem_cons_self ..) (λ i v ⟨j,_,z,t,_,e⟩=>⟨_,_,e⟩) (λ s' lt hm hacc=>?_) ?_
  ·exact λ y hy=>hs5▸mc3 hy (λ q=>q▸Nat.lt_succ_self _) (λ q=>q▸Nat.lt_succ_of_lt lt) λ q=>Nat.lt_succ_of_lt (Nat.lt_trans (List.mem_range.mp q) lt)
  ·have hl':lt.map (·.1)=names.map dA:=Sf (by simp only[List.size_toArray];exact hvn) hacc
   simp only[hl'];refine aY hj λ t' k=>?_;have hm':=hm;obtain⟨mh,mg,md,mo,mt⟩:=hm;obtain⟨sh,sg,sd,stk,so⟩:=s';cases md;cases mo;refine h sh sg k t' _ (λ b o n e=>mh b o ?_ (keep b o (X5 b o n e))) (mh _ _ ?_ (keep _ _ ta'.2)) (mg.bare ?_)
   ·exact λ q=>mc2 q (Nat.ne_of_lt (Heap.lt_size (X5 _ _ n e))) λ q=>Nat.ne_of_lt (lt1 e) (xm1 q)
   ·exact λ q=>mc2 q (Nat.ne_of_lt (Heap.lt_size ta'.2)) λ q=>Nat.ne_of_lt (lt1 t793) (xm1 q)
   ·intro y hy;rcases Array.mem_push.mp hy with hy|rfl
    ·exact G y hy
    ·exact hb
  ·simp only[nU,List.length_range,List.size_toArray,hvn];unfold sizeLine;exact ll4 ‹_› (by rfl)
end
end
theorem nQ(t:SetTable)(n:Nat):(t.orStandIn n).led=t.led/\(t.plain=false->(t.orStandIn n).plain=false):=by
 unfold SetTable.orStandIn;split
 ·exact aY rfl id
 ·exact aY rfl λ _=>rfl
set_option tactic.hygienic true in
theorem Ad(t:SetTable)(es:Array (Int×Value))(h:Int)(x:Value):(layNew t es h x).2.1.led=t.led/\(t.plain=false->(layNew t es h x).2.1.plain=false):=by
 unfold layNew;split
 ·rename_i slot wd _;exact aY ((nQ (t.put slot).1 _).1) λ q=>(nQ (t.put slot).1 _).2 q
 ·exact aY rfl λ _=>rfl
theorem Ba{t t':SetTable}{hs:Array Int}{order:Array Nat}(e:t.relaid hs n=some (t',order)):t'.led=t.led/\t'.plain=t.plain:=by
 unfold SetTable.relaid SetTable.laid at e;cases q:SetTable.layClean (SetTable.sizeAbove n - 1) hs with
 | none=>rw[q] at e;exact nos e
 | some o=>rw[q] at e;cases e;exact aY rfl rfl
set_option tactic.hygienic true in
theorem Gi(t:SetTable)(es:Array (Int×Value))(n:Nat):(relayAll t es n).2.1.led=t.led/\(t.plain=false->(relayAll t es n).2.1.plain=false):=by
 unfold relayAll;split
 ·rename_i t' order e;have:=Ba e;dsimp only;split
  ·exact aY this.1 λ q=>this.2.trans q
  ·dsimp only [SetTable.standIn];simp
 ·dsimp only [SetTable.standIn];simp
section
structure SetD(prog:Program)(w:World)(es:Array (Int×Value))(t:SetTable)(led:Bool)(ks:List Str):Prop where
 el:ElemsOf (strKind prog w) es.toList
 mem:∀ k,k∈ks↔∃ e∈es.toList,(strKind prog w).is k e.2=true
 fits:t.fits es.size=true
 size:es.size=ks.length
 led:t.led=led
 pl:ks≠[]->t.plain=false
inductive SetL(prog:Program)(w:World)(h:Heap)(a:Addr)(led:Bool)(ks:List Str):Prop
 | mk (es:Array (Int×Value)) (ep:Nat) (t:SetTable):h.get? a=some { cls:=.type "set",dict:=none,data:=.set es ep t }->SetD prog w es t led ks->SetL prog w h a led ks
noncomputable def jP(ks:List Str)(k:Str):List Str:=if k∈ks then ks else ks++[k]
theorem aDs(es':Array (Int×Value))(t':SetTable){es ep t}:Obj.putSet es' t' { cls:=.type "set",dict:=none,data:=.set es ep t }={ cls:=.type "set",dict:=none,data:=.set es' (ep+1) t' }:=rfl
theorem yC{a es ep t es' t' Q}(ho:s.heap.get? a=some { cls:=.type "set",dict:=none,data:=.set es ep t })(hz:es'.size<scanBound)(h:∀ h',h'.get? a=some { cls:=.type "set",dict:=none,data:=.set es' (ep+1) t' }->Heap.SameBut a s.heap h'->Q () { s with heap:=h' }):wpAny (model prog w) A (storeSet a es' t') Q E s :=
 wpAny_storeSet_of ho rfl (h _ (Heap.get?_update_self (Obj.putSet es' t') ho rfl) (Heap.SameBut.update ..)) (fits_of_scanBound hz)
theorem aDv{a k u led ks Q}(hS:SetL prog w s.heap a led ks)(room:ks.length+1<scanBound)(h:∀ b h',Heap.SameBut a s.heap h'->SetL prog w h' a led (jP ks k)->Q b { s with heap:=h' }):wpAny (model prog w) A (setAddHashed a (.str k u) ((strKind prog w).hash k)) Q E s:=by
 obtain⟨es,ep,t,ho,D⟩:=hS;have hkey:=strKind_is prog w k u;have hb1:es.size+1<scanBound:=by rw[D.size];exact room
 unfold setAddHashed setAddHashedIn;refine wpAny_holding (wB (wpAny_setState_of ho rfl D.fits ?_));dsimp only;rw[byScan_of (x:=.str k u) rfl (Nat.lt_of_succ_lt hb1) D.el];simp only[↓reduceIte];unfold setAddByScan;refine wB ?_;refine wB (wpAny_rule ?_);refine wB (wpAny_setScan_of hkey ho rfl D.fits D.el ?_);cases hr:List.findIdx? (λ e=>(strKind prog w).is k e.2) es.toList with
 | some j =>
  dsimp only;obtain⟨hj,hpj,_⟩:=List.findIdx?_eq_some_iff_getElem.mp hr;have hk:k∈ks:=(D.mem k).mpr ⟨es.toList[j],List.getElem_mem hj,hpj⟩;refine wP (wP ?_);exact h false s.heap (Heap.SameBut.refl a s.heap) ⟨es,ep,t,ho,by unfold jP;rw[if_pos hk];exact D⟩
 | none =>
  dsimp only;have hk:k∉ks:=λ q=>by
   refine aE ((D.mem k).mp q) λ e he hp=>?_;have:=List.findIdx?_eq_none_iff.mp hr e he;rw[hp] at this;exact ntf this
  have ea:jP ks k=ks++[k]:=if_neg hk;have hp:=layNew_perm t es ((strKind prog w).hash k) (.str k u);have hf:=layNew_fits t es ((strKind prog w).hash k) (.str k u);have hl:=Ad t es ((strKind prog w).hash k) (.str k u);generalize layNew t es ((strKind prog w).hash k) (.str k u)=L at hp hf hl ⊢;obtain⟨es1,t1,wd,gave⟩:=L;dsimp only at hp hf hl ⊢;rw[Array.toList_push] at hp;have sz:es1.size=ks.length+1:=by rw[<- Array.length_toList,hp.length_eq,List.length_append,Array.length_toList,D.size];rfl
  have D1:∀ t2:SetTable,t2.fits es1.size=true->t2.led=t1.led->t2.plain=false->SetD prog w es1 t2 led (ks++[k]):=λ t2 z1 z2 z3 =>
   ⟨(D.el.push hkey rfl).perm hp,λ k'=>by
    have:=mem_push_iff (S:=λ k=>decide (k∈ks)) hkey (λ k'=>by rw[decide_eq_true_eq];exact D.mem k') hp k'
    rw[<- this];simp,z1,by rw[sz];simp,z2.trans (hl.1.trans D.led),λ _=>z3⟩
  have tail:∀{t2:SetTable},SetD prog w es1 t2 led (ks++[k])->∀{g:Bool->Sem Unit},(∀(b:Bool) (s₁:Shared) (Q':Unit->Shared->Prop),Q' () s₁->wpAny (model prog w) A (g b) Q' E s₁)->∀{R:Option Bool->Shared->Prop},(∀ h',Heap.SameBut a s.heap h'->SetL prog w h' a led (jP ks k)->R (some true) { s with heap:=h' }) ->
    wpAny (model prog w) A (do
    storeSet a es1 t2
    if(!wd&&t2.tooFull)=true then do
      g (relayAll t2 es1 (SetTable.grown es1.size)).2.2
      storeSet a (relayAll t2 es1 (SetTable.grown es1.size)).1 (relayAll t2 es1 (SetTable.grown es1.size)).2.1
      pure (some true)
     else pure (some true)) R E s:=λ{t2} D2 {g} hg {R} hR=>by
   refine wB (yC ho (by rw[sz];exact room) λ h1 e1 sb1=>?_)
   split
   ·have rp:=relayAll_perm t2 es1 (SetTable.grown es1.size);have rf:=relayAll_fits t2 es1 (SetTable.grown es1.size);have rl:=Gi t2 es1 (SetTable.grown es1.size);generalize relayAll t2 es1 (SetTable.grown es1.size)=Rl at rp rf rl ⊢;obtain⟨es2,t3,gv⟩:=Rl;dsimp only at rp rf rl ⊢;have sz2:es2.size=es1.size:=by rw[<- Array.length_toList,rp.length_eq,Array.length_toList]
    refine wB (hg _ _ _ ?_);refine wB (yC e1 (by rw[sz2,sz];exact room) λ h2 e2 sb2=>?_)
    refine wP (hR h2 (sb1.trans sb2) ⟨es2,_,t3,e2,?_⟩);rw[ea];exact⟨D2.el.perm rp,λ k'=>(D2.mem k').trans ⟨λ⟨e,he,q⟩=>⟨e,rp.mem_iff.mpr he,q⟩,λ⟨e,he,q⟩=>⟨e,rp.mem_iff.mp he,q⟩⟩,rf,sz2.trans D2.size,rl.1.trans D2.led,λ q=>rl.2 (D2.pl q)⟩
   ·exact wP (hR h1 sb1 ⟨es1,_,t2,e1,by rw[ea];exact D2⟩)
  have hgw:∀(b:Bool) {s₁:Shared} {Q':Unit->Shared->Prop},Q' () s₁->wpAny (model prog w) A (match b with|true=>rule "set.scan.the-table-gave-way" | false=>pure ()) Q' E s₁ :=
   λ b s₁ Q' hq=>by rcases b with⟨⟩<;>first|exact wP hq|exact wpAny_rule hq
  refine wB (hgw _ ?_);split
  ·refine wB ?_;rw[hashByValue_scannable 8 (x:=.str k u) rfl];refine wP ?_;rw[if_neg (show ¬ (plainKind (Value.str k u)=true) from Bool.false_ne_true)];refine tail (t2:={ t1 with plain:=false }) (D1 _ (SetTable.fits_plain_off hf) rfl rfl) (λ b s₁ Q' hq=>?_) λ h' sb S'=>wP (h true h' sb S');rcases b with⟨⟩<;>first|exact wP hq|exact wpAny_rule hq
  ·rename_i hpl;refine wB (wP ?_);simp only[↓reduceIte];refine tail (t2:=t1) (D1 _ hf rfl (by simpa using hpl)) (λ b s₁ Q' hq=>?_) λ h' sb S'=>wP (h true h' sb S')
   rcases b with⟨⟩<;>first|exact wP hq|exact wpAny_rule hq
end
section
noncomputable def gH(xs:List Str):List Str:=xs.foldl jP []
theorem Hx{ks k}:x∈jP ks k↔x∈ks∨x=k:=by
 unfold jP;split
 ·rename_i h;exact⟨.inl,λ q=>q.elim id λ e=>e▸h⟩
 ·simp
theorem yR{ks k}(h:ks.Nodup):(jP ks k).Nodup:=by
 unfold jP;split
 ·exact h
 ·rename_i q;exact List.nodup_append.mpr ⟨h,by simp,λ a ha b hb e=>q (by rw[List.mem_singleton] at hb;exact hb▸e▸ha)⟩
theorem Hw{ks k}:(jP ks k).length≤ks.length+1:=by
 unfold jP;split<;>simp
theorem zW:∀{xs ks:List Str},ks.Nodup->(xs.foldl jP ks).Nodup:=by
 intro l9;induction l9 with
 | nil =>
  intro _ h;exact h
 | cons _ r ih =>
  intro _ h;exact ih (yR h)
theorem Jw:∀{xs ks:List Str},x∈xs.foldl jP ks↔x∈ks∨x∈xs:=by
 intro l9;induction l9 with
 | nil =>
  intro ks;simp
 | cons y r ih =>
  intro ks;rw[List.foldl_cons,ih,Hx,List.mem_cons];exact or_assoc
theorem pO:∀{xs ks:List Str},(xs.foldl jP ks).length≤ks.length+xs.length:=by
 intro l9;induction l9 with
 | nil =>
  intro ks;simp
 | cons y r ih =>
  intro ks;have h1:=ih (ks:=jP ks y);have h2:=Hw (ks:=ks) (k:=y);dsimp only [List.foldl_cons,List.length_cons]
  lia
theorem qR(xs:List Str):(gH xs).Nodup:=zW .nil
theorem xY{xs}:x∈gH xs↔x∈xs:=by unfold gH;rw[Jw];simp
theorem Gw{xs:List Str}(h:i<xs.length):gH (xs.take (i+1))=jP (gH (xs.take i)) xs[i]:=by
 unfold gH;rw[List.take_succ_eq_append_getElem h,List.foldl_append]
 rfl
section
variable{I:Addr}{wr:List Addr}{G:Array GenState->Array GenState->Prop}{P:Nat->Value->Prop}{St:Nat->Shared->Prop}
theorem Ey{xs led}(W:WalksS prog w A.in1 I fp wr G xs.length P St)(S:Addr)(hSf:S∉fp)(hval:∀ i v,P i v->∃ y t,xs[i]? = some y/\v=Value.str y t)(hb:xs.length+1<scanBound) :
  ∀(k i:Nat) (s:Shared),xs.length - i=k->i≤xs.length->St i s->SetL prog w s.heap S led (gH (xs.take i)) ->
   (∀ s',Moved (S::wr) G s s'->SetL prog w s'.heap S led (gH xs)->R (.ok (.ret .none)) s') ->
   codeAny (model prog w) A (.builtin "set.update.loop" ⟨[.ref S,.ref I],[]⟩) R s:=by
 have hSw:S∉wr:=λ h=>hSf (W.sub _ h);have hsub:∀ b∈wr,b∈S::wr:=λ b hb=>List.mem_cons_of_mem _ hb;have hmv:∀{s s':Shared} {ks:List Str},Moved wr G s s'->SetL prog w s.heap S led ks->SetL prog w s'.heap S led ks:=λ m ⟨es,ep,t,ho,D⟩=>⟨es,ep,t,m.heap S _ hSw ho,D⟩;intro k;induction k with
 | zero =>
  intro i s hk hi hst hS hR;have hin:i=xs.length:=by lia
  clear hk hi;subst hin;refine codeAny_builtin F.entry_set_update_loop ?_;rw[Around.under_plainId F.plain_set_update_loop _];show wpAny _ A.in1 (pyNext (.ref I) >>= _) _ _ s;refine wB (W.done s _ _ hst λ s' hm=>?_);show wpAny _ A.in1 (ret Value.none) _ _ s';exact wP (hR s' (hm.mono hsub) (by have:=hmv hm hS;rwa [List.take_length] at this))
 | succ k ih =>
  intro i s hk hi hst hS hR;have hlt:i<xs.length:=by omega
  refine codeAny_builtin F.entry_set_update_loop ?_;rw[Around.under_plainId F.plain_set_update_loop _];show wpAny _ A.in1 (pyNext (.ref I) >>= _) _ _ s;refine wB (W.item i s _ _ hlt hst λ v s' hP hst' hm=>?_);refine eX (hval i v hP) ?_;rintro y t hy rfl;have hy':y=xs[i]:=by rw[List.getElem?_eq_getElem hlt] at hy;exact(sj hy).symm
  clear hy hP;subst hy';show wpAny _ A.in1 (holding [Value.str xs[i] t] (setAdd S (.str xs[i] t)) >>= _) _ _ s';refine wB (wpAny_holding ?_);unfold setAdd;refine wpAny_holding ?_;refine wB ((strKind prog w).pyHash (k:=xs[i]) (strKind_is _ _ _ _) ?_);have hl:(gH (xs.take i)).length≤i:=by
   have:=pO (xs:=xs.take i) (ks:=[]);rw[List.length_take] at this;unfold gH;simp at this ⊢
   lia
  have hS1:SetL prog w s'.heap S led (gH (xs.take i)):=hmv hm hS;refine aDv (s:={ s' with toks:=s'.toks+1 }) hS1 (by lia) λ b h' sb S2=>?_
  rw[<- Gw hlt] at S2;refine wP ⟨plainId_quiet F.plain_set_update_loop _,ih (i+1) _ (by exact Pg ‹_›) hlt (W.frame _ s' _ _ hst' (Nat.le_succ _) λ b hb o e=>?_) S2 λ s'' hm'' hS''=>?_⟩
  ·rw[sb.2 b (λ h:b=S=>hSf (by rw[<- h];exact hb))];exact e
  ·refine hR s'' (Moved.trans W.gtrans ((hm.mono hsub).then_heap (Nat.le_succ _) λ b o hb e=>?_) hm'') hS'';rw[sb.2 b (λ h:b=S=>hb (by rw[h];exact List.mem_cons_self))];exact e
end
end
noncomputable abbrev byT(w:World):Bool:=w.params.followText "set-order"
noncomputable abbrev gE(led:Bool):Obj:={ cls:=.type "set",dict:=none,data:=.set #[] 0 (.fresh 0 0 led) }
section
theorem So(a:Value){Q₁}(h:Q₁ (.ref s.heap.objs.size) { s with heap:=s.heap.push (gE (!byT w)) }) :
  codeAny (model prog w) A (.call (.builtin "set.__new__") ⟨[.type "set",a],[]⟩) (wants Q₁ E) s:=by
 refine codeAny_of_tree ?_;show wpAny _ A.in1 (do checkBuiltinCall "set.__new__" ⟨[.type "set",a],[]⟩;again (.builtin "set.__new__" ⟨[.type "set",a],[]⟩)) _ _ s
 refine wB (wpAny_of_eq (F.newCall_set_1 a) (wP ⟨plainId_quiet F.plain_set_new _,codeAny_builtin F.entry_set_new ?_⟩));rw[Around.under_plainId F.plain_set_new _];unfold Builtin.«set.__new__» Builtin.Frozenset.newClass;have hsub:=sub_set_self;obtain⟨hp,g,d,tk,os⟩:=s;dsimp only
 wp_walk
 refine wpAny_askSetting (wP ?_);dsimp only;dsimp only [newObj];exact wB (wpAny_alloc (wP (wP h)))
noncomputable def Ql(prog:Program)(w:World)(s:Shared)(xs:List Str)(Q:Value->Shared->Prop):Prop :=
 ∀ h' tk,SetL prog w h' s.heap.objs.size (!byT w) (gH xs)->s.heap.StaysIn h'->Q (.ref s.heap.objs.size) { s with heap:=h',toks:=tk }
set_option maxHeartbeats 3200000 in
theorem aAF{l items xs}(hh:A.handled=none)(hl:s.heap.IsList l items)(hi:∀(i:Nat) (v:Value),items[i]? = some v->∃(y:Str) (t:Tok),xs[i]? = some y/\v=Value.str y t)(hz:items.size=xs.length)(hb:xs.length+1<scanBound)(h:Ql prog w s xs Q):wpAny (model prog w) A (call (.type "set") [.ref l]) Q E s:=by
 refine gM F.called_set.mro λ c tl hmro=>?_;have hmade:=F.called_set.made;have hsub:=F.called_set.sub;refine wpAny_call (codeAny_of_tree ?_);show wpAny _ _ (callAny (.type "set") _) _ _ _;refine wP ⟨Code.quiet_builtin _ (by decide +kernel),codeAny_builtin F.entry_type_call ?_⟩
 dsimp only [Around.under_plain (weight_type_call_type "set" [.ref l] []) rfl];have h1:=F.called_set.notType;have h2:=F.called_set.canCreate;have hct:=F.typeCall_set_1 (.ref l)
 repeat (any_goals (first|assumption|wp_step))
 have hS:(s.heap.push (gE (!byT w))).get? s.heap.objs.size=some (gE (!byT w)):=Heap.get?_push_size _ rfl;refine codeAny_mono (So (w:=w) (.ref l) (E:=E) (Q₁:=λ obj s₁=>obj=.ref s.heap.objs.size/\s₁={ s with heap:=s.heap.push (gE (!byT w)) }) ⟨rfl,rfl⟩) λ r s₁ hr=>?_;cases r with
 | error e=>exact hr
 | ok fl =>
  cases fl with
  | ret obj =>
   refine aK hr ?_;clear hr;rintro rfl rfl;have hT:Shared.TypeIs { s with heap:=s.heap.push (gE (!byT w)) } (.ref s.heap.objs.size) "set":=⟨_,hS,rfl⟩;have hli:=F.called_set.init.lookup;have hbi:=F.called_set.init.bind (.ref s.heap.objs.size)
   repeat (any_goals (first|assumption|wp_step))
   refine codeAny_mono (codeAny_call_builtin (R:=wants (λ r s₂=>r=.none/\∃ h' tk,s₂={ s with heap:=h',toks:=tk }/\SetL prog w h' s.heap.objs.size (!byT w) (gH xs)/\s.heap.StaysIn h') E) F.called_set.init.plain F.entry_set_init (check_set_init_1 hT ?_)) λ r₂ s₂ hr₂=>?_
   ·refine fQ hl ?_;clear hl;rintro⟨oc,od,odt,osl⟩ hol hcl q1;refine aB q1 ?_;clear q1;intro nl hdl;simp only at hcl hdl;subst hcl;subst hdl;have hol':(s.heap.push (gE (!byT w))).get? l=some { cls:=.type "list",dict:=od,data:=.seq items nl,slots:=osl }:=Heap.get?_push_of_some _ hol;have hl1:(s.heap.push (gE (!byT w))).IsList l items:=⟨_,hol',rfl,nl,rfl⟩;have hsls:=F.sub_list_set;have hslf:=F.sub_list_frozenset;have hne:(Value.type "list"==Value.type "dict")=false:=by decide
    unfold Builtin.«set.__init__» noKeywords Builtin.Frozenset.updateFrom;generalize hPI:pyIter=PI
    wp_walk
    subst hPI;refine wpAny_pyIter_list hl1 ?_;refine wB (wpAny_runValue ?_);have hlS:l<s.heap.objs.size:=Heap.lt_size hol;have sz:=Heap.size_push s.heap (gE (!byT w));have hIne:l≠(s.heap.push (gE (!byT w))).objs.size:=by simp only[sz];exact Nat.ne_of_lt (Nat.lt_succ_of_lt hlS)
    have hSI:s.heap.objs.size≠(s.heap.push (gE (!byT w))).objs.size:=by simp only[sz];exact Nat.ne_of_lt (Nat.lt_succ_self _)
    have hSf:s.heap.objs.size∉[(s.heap.push (gE (!byT w))).objs.size,l]:=λ q=>by
     refine mc2 q (λ q=>?_) λ q=>?_
     ·exact hSI q
     ·exact Nat.ne_of_gt hlS (xm1 q)
    have W:=(Walks.list (prog:=prog) (w:=w) (show A.in1.in1.in1.handled=none from hh) _ l hIne items).toS;simp only[hz] at W;refine Ey (xs:=xs) (led:=!byT w) W s.heap.objs.size hSf hi hb xs.length 0 _ rfl (Nat.zero_le _) ⟨⟨_,Heap.get?_push_size _ rfl,rfl,rfl⟩,hl1.push _⟩ ?_ λ s' hm hS'=>?_
    ·refine⟨#[],0,.fresh 0 0 (!byT w),Heap.get?_push_of_some _ hS,(λ e q=>nomatch q),λ k=>?_,rfl,rfl,rfl,λ q=>absurd rfl q⟩;simp[gH]
    ·obtain⟨h',g',d',tk',os'⟩:=s';have eg:g'=s.gens:=hm.gens;have ed:d'=s.drawn:=hm.drawn;have eo:os'=s.os:=hm.os;subst eg;subst ed;subst eo;refine wP ?_;refine wP ⟨rfl,h',tk',rfl,hS',λ b o e=>?_⟩;have hlt:=Heap.lt_size e;refine hm.heap b o (λ q=>?_) (Heap.get?_push_of_some _ (Heap.get?_push_of_some _ e));refine mc2 q (λ q=>?_) λ q=>?_
     ·exact Nat.lt_irrefl _ (q▸hlt)
     ·have:=xm1 q;simp only[sz] at this;exact Nat.lt_irrefl _ (Nat.lt_trans (Nat.lt_succ_self _) (this▸hlt))
   ·cases r₂ with
    | error e=>exact hr₂
    | ok fl₂ =>
     cases fl₂ with
     | ret r =>
      refine aK hr₂ ?_;clear hr₂;intro rfl q2;refine bB q2 ?_;clear q2;rintro h' tk rfl hS' hk'
      repeat (any_goals (first|assumption|wp_step))
      exact h _ _ hS' hk'
     | _=>exact hr₂.elim
  | _=>exact hr.elim
end
theorem kI:∀{l:List α} {i:Nat} (h:i<l.length),(l[i]::l.eraseIdx i).Perm l
 | [],_,h=>absurd h (Nat.not_lt_zero _)
 | x::r,0,_=>List.Perm.refl _
 | x::r,i+1,h=>(List.Perm.swap x _ _).trans ((kI (l:=r) (i:=i) (Nat.lt_of_succ_lt_succ h)).cons x)
theorem Ge(next:Nat->Nat):∀(n k:Nat) (l:List α) (out:Array α),l.length=n->(pickOrder.go next n k l out).toList.Perm (out.toList++l):=by
 intro l9;induction l9 with
 | zero =>
  intro k l out h;have:l=[]:=List.length_eq_zero_iff.mp h;clear h;subst this;show out.toList.Perm _;rw[List.append_nil]
 | succ n ih =>
  intro k l out h;have hi:next k % l.length<l.length:=Nat.mod_lt _ (by lia)
  show(match l[next k % l.length]? with|some x=>pickOrder.go next n (k+1) (l.eraseIdx (next k % l.length)) (out.push x)|none=>out).toList.Perm _
  rw[List.getElem?_eq_getElem hi];refine(ih (k+1) (l.eraseIdx (next k % l.length)) _ (by rw[List.length_eraseIdx_of_lt hi,h];rfl)).trans ?_
  rw[Array.toList_push,List.append_assoc];exact List.Perm.append_left _ (kI hi)
theorem qL(next:Nat->Nat)(xs:Array α):(pickOrder next xs).toList.Perm xs.toList:=by
 have:=Ge next xs.size 0 xs.toList #[] (by rfl)
 unfold pickOrder;simpa using this
section
theorem El{src Q}(hn:n≠0)(h:∀ i d,i<n->Q i { s with drawn:=d }):wpAny (model prog w) A (choose src n) Q E s :=
 λ Γ p _=>by
  unfold choose;rw[Sem.wp_choose];exact aY hn (h _ _ (Nat.mod_lt _ (Nat.pos_of_ne_zero hn)))
theorem Cr:∀(n:Nat) (xs:List α) {s:Shared} {Q:List α->Shared->Prop},xs.length=n->(∀ ys d,ys.Perm xs->Q ys { s with drawn:=d })->wpAny (model prog w) A (drawOrder n xs) Q E s
 | 0,xs,s,Q,e,h=>by
  have:xs=[]:=List.length_eq_zero_iff.mp e;clear e;subst this;exact wP (h [] s.drawn (List.Perm.refl _))
 | n+1,[],s,Q,e,h=>by cases e
 | n+1,x::r,s,Q,e,h=>by
  refine wB (m:=choose .order (x::r).length) (El (by simp) λ i d hi=>?_)
  rw[List.getElem?_eq_getElem hi];dsimp only;refine wB (Cr n _ (by rw[List.length_eraseIdx_of_lt hi,e];rfl) λ ys d' p=>wP ?_)
  exact h _ d' ((p.cons _).trans (kI hi))
end
theorem cV:Slot "set_iterator" "__next__" "set_iterator.__next__" :=
 .of (owner:="set_iterator") (n:="__next__") (by rw[typeLookup_type,builtinLookup_eq_fast];kernel_rfl) (by decide +kernel) (by decide +kernel) (by decide +kernel)
  (by first|exact .inl (by decide +kernel)|exact .inr (by decide +kernel)) (by rw[isSubtype_type];kernel_rfl)
theorem jA:Slot "set_iterator" "__iter__" "set_iterator.__iter__" :=
 .of (owner:="set_iterator") (n:="__iter__") (by rw[typeLookup_type,builtinLookup_eq_fast];kernel_rfl) (by decide +kernel) (by decide +kernel) (by decide +kernel)
  (by first|exact .inl (by decide +kernel)|exact .inr (by decide +kernel)) (by rw[isSubtype_type];kernel_rfl)
theorem iL:entryFor table "set_iterator.__next__"=some Builtin.«set_iterator.__next__»:=entryFor_of_tree (by kernel_rfl)
theorem oB:entryFor table "set_iterator.__iter__"=some Builtin.«dict_keyiterator.__iter__» :=
 entryFor_alias (id':="dict_keyiterator.__iter__") (by rw[fastTable_eq_tree];kernel_rfl) rfl (by decide +kernel) (by rw[fastTable_eq_tree];kernel_rfl)
theorem pI:entryFor table "set.__iter__"=some Builtin.«frozenset.__iter__» :=
 entryFor_alias (id':="frozenset.__iter__") (by rw[fastTable_eq_tree];kernel_rfl) rfl (by decide +kernel) (by rw[fastTable_eq_tree];kernel_rfl)
theorem qJ:Manifest.owners.lookup (String.ofList ['r','o','t','a','r','e','t','i','_','t','e','s'].reverse)=some Manifest.sig_set_iterator:=by kernel_rfl
theorem iR(a:Value):argsOk "set_iterator.__next__" ⟨[a],[]⟩:=by
 unfold argsOk;rw[signature?_of (id:="set_iterator.__next__") (n:=['_','_','t','x','e','n','_','_']) (o:=['r','o','t','a','r','e','t','i','_','t','e','s']) (by kernel_rfl) qJ];kernel_rfl
theorem oV(a:Value):argsOk "set_iterator.__iter__" ⟨[a],[]⟩:=by
 unfold argsOk;rw[signature?_of (id:="set_iterator.__iter__") (n:=['_','_','r','e','t','i','_','_']) (o:=['r','o','t','a','r','e','t','i','_','t','e','s']) (by kernel_rfl) qJ];kernel_rfl
section
noncomputable abbrev xX(es:Array (Int×Value))(ep:Nat)(t:SetTable):Obj:={ cls:=.type "set",dict:=none,data:=.set es ep t }
noncomputable abbrev aCa(first:Value)(i:Nat)(S:Addr)(n ep:Nat):Obj:={ cls:=.type "set_iterator",dict:=none,data:=.fields #[first,rawInt i,.ref S,rawInt n,rawInt ep],slots:=#[] }
inductive ItAt(w:World)(S:Addr)(es:Array (Int×Value))(ep:Nat)(t:SetTable)(L:List Value)(i:Nat)(h:Heap):Value->Prop
 | text:byT w=true->L=(pickOrder (w.params.setOrder S ep) es).toList.map (·.2)->ItAt w S es ep t L i h (rawInt 0)
 | drawn {P:Addr} {pl:List Nat} {n:Nat}:h.get? P=some { cls:=.type "tuple",data:=.seq (pl.map λ(j:Nat)=>rawInt j).toArray n }->(∀ j∈pl,j<es.size)->L=pl.map (λ j=>(es.getD j (0,.none)).2)->ItAt w S es ep t L i h (.ref P)
 | one {j:Nat} {k:Int} {x:Value}:byT w=false->t.led=true->es=#[(k,x)]->L=[x]->t.place=#[j]->ItAt w S es ep t L i h (rawInt (if i=0 then 0 else j+1))
inductive StI(w:World)(I S:Addr)(es:Array (Int×Value))(ep:Nat)(t:SetTable)(L:List Value)(P:Addr)(i:Nat)(h:Heap):Prop
 | mk (first:Value):h.get? I=some (aCa first i S es.size ep)->h.get? S=some (xX es ep t)->ItAt w S es ep t L i h first->(∀ a,first=.ref a->a=P)->StI w I S es ep t L P i h
section
variable{I S P:Addr}{es:Array (Int×Value)}{ep:Nat}{t:SetTable}{L:List Value}
theorem jI{Q}(h:Q (byT w) s):wpAny (model prog w) A setsByText Q E s:=by
 unfold setsByText;exact wB (wpAny_askSetting (wP h))
theorem We{k given Q}(hS:s.heap.get? S=some (xX es ep t))(hf:t.fits es.size=true)(hb:byT w=true)(h:Q (((pickOrder (w.params.setOrder S ep) es)[given]?).map λ e=>(e.2,k)) s):wpAny (model prog w) A (setNext S k given ep) Q E s:=by
 unfold setNext;refine wB (wpAny_setState_of hS rfl hf ?_);dsimp only;refine wB (jI ?_);rw[hb,if_pos rfl];rw[if_neg (by simp)]
 refine wB ?_;unfold setWalk;refine wB (wpAny_setState_of hS rfl hf ?_);dsimp only;refine wB (jI ?_);rw[hb,if_pos rfl];exact wB (wpAny_askSetting (wP (wP h)))
theorem Wd{k x j slot given Q}(hS:s.heap.get? S=some (xX #[(k,x)] ep t))(hf:t.fits 1=true)(hb:byT w=false)(hl:t.led=true)(hp:t.place=#[j])(h:Q (if j<slot then none else some (x,j+1)) s):wpAny (model prog w) A (setNext S slot given ep) Q E s:=by
 unfold setNext;refine wB (wpAny_setState_of hS rfl hf ?_);dsimp only;refine wB (jI ?_);rw[hb,if_neg Bool.false_ne_true];have h1:¬ ((!t.plain&&decide ((#[(k,x)]:Array (Int×Value)).size > 1))=true):=by simp
 have h2:¬ ((!t.led&&!(#[(k,x)]:Array (Int×Value)).isEmpty)=true):=by simp[hl]
 split
 ·rename_i q;exact absurd q h1
 refine wB (wpAny_of_eq (a:=()) (if_neg h2) ?_);have hz:SetTable.below t.place slot=if j<slot then 1 else 0:=by
  rw[hp];simp[SetTable.below,SetTable.below.go]
 rw[hz,hp];by_cases q:j<slot
 ·rw[if_pos q] at h ⊢;exact wP h
 ·rw[if_neg q] at h ⊢;exact wP h
theorem Fw{Q}(hf:t.fits es.size=true)(hl:L.length=es.size)(hIS:I≠S)(hIP:I≠P)(hi:i<L.length)(st:StI w I S es ep t L P i s.heap)(h:∀ v h',L[i]? = some v->StI w I S es ep t L P (i+1) h'->Heap.SameBut I s.heap h'->Q (some v) { s with heap:=h' }):wpAny (model prog w) A (pyNext (.ref I)) Q E s:=by
 obtain⟨first,hI,hS,at1,hP⟩:=st
 have hT:s.TypeIs (.ref I) "set_iterator":=⟨_,hI,rfl⟩;dsimp only [pyNext];refine wB (wpAny_attempt (wpAny_callSpecial?_slot (name:=Str.ofString "__next__") hT cV (wpAny_call_entry cV hT iL ?_ (iR _))));unfold Builtin.«set_iterator.__next__»;refine wB (m:=slotArgs "__next__" 0 ⟨[.ref I],[]⟩) (wP ?_);refine wB (wpAny_fieldsOf hI rfl ?_);dsimp only;refine wB (wpAny_setEntries_of hS rfl hf ?_);rw[if_neg (by simp)]
 cases at1 with
 | text hb hL =>
  have hi':i<(pickOrder (w.params.setOrder S ep) es).size:=by rw[hL,List.length_map,Array.length_toList] at hi;exact hi
  have hx:L[i]? = some ((pickOrder (w.params.setOrder S ep) es)[i]).2:=by rw[hL,List.getElem?_map,Array.getElem?_toList,Array.getElem?_eq_getElem hi'];rfl
  show wpAny _ _ (setNext S (0:Int).toNat (i:Int).toNat (ep:Int).toNat >>= _) _ _ s;refine wB (We hS hf hb ?_);rw[show(ep:Int).toNat=ep from Int.toNat_natCast _,show(i:Int).toNat=i from Int.toNat_natCast _,Array.getElem?_eq_getElem hi'];show wpAny _ _ (setField (.ref I) 0 (rawInt (((0:Int).toNat:Nat):Int)) >>= λ _=>setField (.ref I) 1 (rawInt ((i:Int)+1)) >>= λ _=>ret _) _ _ s;refine wB (aV hI (by show 0<5;decide) λ h1 e1 sb1=>?_)
  refine wB (aV e1 (by show 1<5;decide) λ h2 e2 sb2=>?_)
  refine wP ⟨_,rfl,wP (h _ h2 hx ⟨rawInt 0,e2,((sb1.trans sb2).extBut S _ (Ne.symm hIS) hS),.text hb hL,λ a q=>by cases q⟩ (sb1.trans sb2))⟩
 | @drawn P' pl np hp hpl hL =>
  have hi':i<pl.length:=by rw[hL,List.length_map] at hi;exact hi
  have hj:pl[i]<es.size:=hpl _ (List.getElem_mem hi');have hPP:P'=P:=hP _ rfl;subst hPP;have hx:L[i]? = some (es[pl[i]]).2:=by
   rw[hL,List.getElem?_map,List.getElem?_eq_getElem hi'];simp[Array.getD,hj]
  show wpAny _ _ (seqItems? (.ref P') >>= _) _ _ s;refine wB (wpAny_seqItems hp rfl ?_);dsimp only;have hpi:((pl.map λ(j:Nat)=>rawInt j).toArray)[(i:Int).toNat]? = some (.int pl[i] 0):=by
   rw[Int.toNat_natCast,List.getElem?_toArray,List.getElem?_map,List.getElem?_eq_getElem hi']
   rfl
  rw[hpi];show wpAny _ _ (setNextDrawn S (pl[i]:Int).toNat (ep:Int).toNat >>= _) _ _ s;refine wB ?_;dsimp only [setNextDrawn];refine wB (wpAny_setState_of hS rfl hf ?_);dsimp only;rw[if_neg (by simp),show(pl[i]:Int).toNat=pl[i] from Int.toNat_natCast _,Array.getElem?_eq_getElem hj]
  refine wP ?_;show wpAny _ _ (setField (.ref I) 1 (rawInt ((i:Int)+1)) >>= λ _=>ret _) _ _ s;refine wB (aV hI (by show 1<5;decide) λ h1 e1 sb1=>?_)
  exact wP ⟨_,rfl,wP (h _ h1 hx ⟨.ref P',e1,sb1.extBut S _ (Ne.symm hIS) hS,.drawn (sb1.extBut _ _ (Ne.symm hIP) hp) hpl hL,λ a q=>by(cases q;rfl)⟩ sb1)⟩
 | @one j k x hb hld he hL hpl =>
  clear hl;subst he;rw[hL] at hi;have hi0:i=0:=Nat.lt_one_iff.mp hi;subst hi0;show wpAny _ _ (setNext S (0:Int).toNat ((0:Nat):Int).toNat (ep:Int).toNat >>= _) _ _ s;rw[show(ep:Int).toNat=ep from Int.toNat_natCast _];refine wB (Wd hS hf hb hld hpl ?_);rw[if_neg (show ¬ (j<(0:Int).toNat) from Nat.not_lt_zero _)];show wpAny _ _ (setField (.ref I) 0 (rawInt ((j+1:Nat):Int)) >>= λ _=>setField (.ref I) 1 (rawInt (((0:Nat):Int)+1)) >>= λ _=>ret _) _ _ s;refine wB (aV hI (by show 0<5;decide) λ h1 e1 sb1=>?_)
  refine wB (aV e1 (by show 1<5;decide) λ h2 e2 sb2=>?_)
  refine wP ⟨_,rfl,wP (h x h2 (by rw[hL];rfl) ⟨_,e2,(sb1.trans sb2).extBut S _ (Ne.symm hIS) hS,.one (i:=1) hb hld rfl hL hpl,λ a q=>by cases q⟩ (sb1.trans sb2))⟩
end
end
section
section
variable{I S P:Addr}{es:Array (Int×Value)}{ep:Nat}{t:SetTable}{L:List Value}
theorem qU{A2:Around}{Q:Option Value->Shared->Prop}{R:Fin->Shared->Prop}(hh:A.handled=none)(h:∀ h',s.heap.StaysIn h'->Q none { s with heap:=h' }) :
  wpAny (model prog w) A (do raiseNew (<- newExc (.type "StopIteration") [])) R (λ e s'=>wpAny (model prog w) A2 (do if(<- isInstance e (.type "StopIteration"))=true then pure none else throw e) Q E s') s:=by
 refine wB ?_;dsimp only [newExc,newTuple];refine wB (wpAny_newObj_type ?_ (by size_fits))
 refine wB (m:=firstArgMember _ _) (wpAny_of_eq (a:=Value.none) (by first|rfl|(dsimp only [firstArgMember];rfl)) ?_)
 refine wpAny_newObj_type ?_ (by size_fits)
 dsimp only [raiseNew];refine wB (wpAny_handled ?_);simp only[hh];refine wB (wP (wpAny_throw ?_));refine wB (wpAny_isInstance (T:="StopIteration") (b:=true) ⟨_,Heap.get?_push_size _ rfl,rfl⟩ isSubtype_stop ?_);exact wP (h _ λ _ _ e=>Heap.get?_push_of_some _ (Heap.get?_push_of_some _ e))
theorem Fv{Q:Option Value->Shared->Prop}(hh:A.handled=none)(hf:t.fits es.size=true)(hl:L.length=es.size)(st:StI w I S es ep t L P L.length s.heap)(h:∀ h',(∀ b o,b≠I->s.heap.get? b=some o->h'.get? b=some o)->Q none { s with heap:=h' }):wpAny (model prog w) A (pyNext (.ref I)) Q E s:=by
 obtain⟨first,hI,hS,at1,hP⟩:=st
 have hT:s.TypeIs (.ref I) "set_iterator":=⟨_,hI,rfl⟩;unfold pyNext;refine wB (wpAny_attempt (wpAny_callSpecial?_slot (name:=Str.ofString "__next__") hT cV (wpAny_call_entry cV hT iL ?_ (iR _))));unfold Builtin.«set_iterator.__next__»;refine wB (m:=slotArgs "__next__" 0 ⟨[.ref I],[]⟩) (wP ?_);refine wB (wpAny_fieldsOf hI rfl ?_);dsimp only;refine wB (wpAny_setEntries_of hS rfl hf ?_);rw[if_neg (by simp)]
 clear hP;cases at1 with
 | text hb hL =>
  have hx:(pickOrder (w.params.setOrder S ep) es)[(L.length:Int).toNat]? = none:=by
   dsimp only [Int.toNat_natCast];refine Array.getElem?_eq_none ?_;rw[hL,List.length_map,Array.length_toList];exact Nat.le_refl _
  show wpAny _ _ (setNext S (0:Int).toNat (L.length:Int).toNat (ep:Int).toNat >>= _) _ _ s;rw[show(ep:Int).toNat=ep from Int.toNat_natCast _];refine wB (We hS hf hb ?_);rw[hx];show wpAny _ _ (setField (.ref I) 2 .none >>= λ _=>(do raiseNew (<- newExc (.type "StopIteration") []))) _ _ s
  refine wB (aV hI (by show 2<5;decide) λ h1 e1 sb1=>?_)
  exact qU (A:=A.in1) (A2:=A) (s:={ s with heap:=h1 }) hh λ h' k=>h h' λ b o n e=>k b o (sb1.extBut b o n e)
 | @drawn P' pl np hp hpl hL =>
  have hx:((pl.map λ(j:Nat)=>rawInt j).toArray)[(L.length:Int).toNat]? = none:=by
   rw[Int.toNat_natCast,List.getElem?_toArray,hL,List.length_map];exact List.getElem?_eq_none (by rw[List.length_map];exact Nat.le_refl _)
  show wpAny _ _ (seqItems? (.ref P') >>= _) _ _ s;refine wB (wpAny_seqItems hp rfl ?_);dsimp only;rw[hx];show wpAny _ _ (setField (.ref I) 0 (rawInt 0) >>= λ _=>setField (.ref I) 2 .none >>= λ _=>(do raiseNew (<- newExc (.type "StopIteration") []))) _ _ s
  refine wB (aV hI (by show 0<5;decide) λ h1 e1 sb1=>?_)
  refine wB (aV e1 (by show 2<5;decide) λ h2 e2 sb2=>?_)
  exact qU (A:=A.in1) (A2:=A) (s:={ s with heap:=h2 }) hh λ h' k=>h h' λ b o n e=>k b o ((sb1.trans sb2).extBut b o n e)
 | @one j k x hb hld he hL hpl =>
  clear hl;subst he;have h1:L.length=1:=by rw[hL];rfl
  rw[h1] at hI ⊢;show wpAny _ _ (setNext S ((j:Int)+1).toNat ((1:Nat):Int).toNat (ep:Int).toNat >>= _) _ _ s;rw[show(ep:Int).toNat=ep from Int.toNat_natCast _];refine wB (Wd hS hf hb hld hpl ?_);rw[if_pos (show j<((j:Int)+1).toNat by exact Nat.lt_succ_self _)]
  show wpAny _ _ (setField (.ref I) 2 .none >>= λ _=>(do raiseNew (<- newExc (.type "StopIteration") []))) _ _ s
  refine wB (aV hI (by show 2<5;decide) λ h1 e1 sb1=>?_)
  exact qU (A:=A.in1) (A2:=A) (s:={ s with heap:=h1 }) hh λ h' k=>h h' λ b o n e=>k b o (sb1.extBut b o n e)
theorem Fj(st:StI w I S es ep t L P i s.heap)(h:Q (.ref I) s):wpAny (model prog w) A (pyIter (.ref I)) Q E s:=by
 obtain⟨first,hI,hS,at1,hP⟩:=st
 have hT:s.TypeIs (.ref I) "set_iterator":=⟨_,hI,rfl⟩;refine wpAny_pyIter_slot hT jA (wpAny_call_entry jA hT oB ?_ (oV _));show wpAny _ _ (ret (.ref I)) _ _ s;exact wP ⟨_,rfl,"set_iterator",_,hT,cV.lookup,h⟩
theorem Walks.seti(hh:A.handled=none)(hf:t.fits es.size=true)(hl:L.length=es.size)(hIS:I≠S)(hIP:I≠P) :
  Walks prog w A I [I,S,P] [I] L.length (λ i v=>L[i]? = some v) (λ i h=>StI w I S es ep t L P i h) where
 sub:=λ b hb=>by simp only[xm1 hb];exact .head _
 frame:=λ i h h' ⟨first,hI,hS,at1,hP⟩ k=>⟨first,k I (.head _) _ hI,k S (.tail _ (.head _)) _ hS,by
  cases at1 with
  | text a b=>exact .text a b
  | drawn a b c =>
   cases hP _ rfl;exact .drawn (k P (.tail _ (.tail _ (.head _))) _ a) b c
  | one a b c d e=>exact .one a b c d e,hP⟩
 item:=λ i s Q E hi st hQ=>Fw hf hl hIS hIP hi st λ v h' hv st' sb=>hQ v h' s.toks hv st' λ b o n e=>sb.extBut b o (λ q=>n (q▸.head _)) e
 done:=λ s Q E st hQ=>Fv hh hf hl st λ h' k=>hQ h' s.toks λ b o n e=>k b o (λ q=>n (q▸.head _)) e
 self:=λ i s Q E st hQ=>Fj st hQ
end
end
section
noncomputable def Ce(es:Array (Int×Value))(L:List Value):Prop:=L.Perm (es.toList.map (·.2))
theorem Lj{es:Array (Int×Value)}:(List.range es.size).map (λ j=>(es.getD j (0,.none)).2)=es.toList.map (·.2):=by
 apply List.ext_getElem
 ·simp
 ·intro i h1 h2;have:i<es.size:=by simpa using h1
  simp[Array.getD,this]
section
variable{S:Addr}{es:Array (Int×Value)}{ep:Nat}{t:SetTable}{ks:List Str}
theorem Jg{Q}(hS:s.heap.get? S=some (xX es ep t))(hf:t.fits es.size=true)(h:Q (!byT w&&(!t.plain&&decide (es.size > 1))) s):wpAny (model prog w) A (setDrawn S) Q E s:=by
 unfold setDrawn;refine wB (wpAny_setState_of hS rfl hf ?_);dsimp only;exact wB (jI (wP h))
theorem Fi{first L P}(hn:n=es.size)(hS:s.heap.get? S=some (xX es ep t))(hf:t.fits es.size=true)(a1:∀ h',s.heap.StaysIn h'->ItAt w S es ep t L 0 h' first)(hP:∀ a,first=.ref a->a=P)(h:∀ h',s.heap.StaysIn h'->StI w s.heap.objs.size S es ep t L P 0 h'->h'.objs.size=s.heap.objs.size+1->Q (.ref s.heap.objs.size) { s with heap:=h' }) :
  wpAny (model prog w) A (do ret (<- newFields "set_iterator" [first,rawInt 0,.ref S,rawInt n,rawInt (<- setEpoch S)])) (λ fin s'=>∃ v,fin=Fin.done (.ret v)/\∃ T' r,s'.TypeIs v T'/\typeLookup (.type T') "__next__"=pure (some r)/\Q v s') E s:=by
 subst hn;refine wB (wpAny_setEpoch_of hS rfl hf ?_);unfold newFields;refine wB (wpAny_newObj_type ?_ (by size_fits))
 have hg:=Heap.get?_push_size s.heap (o:={ cls:=.type "set_iterator",data:=.fields [first,rawInt 0,.ref S,rawInt es.size,rawInt ep].toArray }) rfl
 refine wP ⟨_,rfl,"set_iterator",_,⟨_,hg,rfl⟩,cV.lookup,h _ (aS _ _) ⟨first,hg,aS _ _ _ _ hS,a1 _ (aS _ _),hP⟩ (Heap.size_push ..)⟩
theorem Ts(hS:s.heap.get? S=some (xX es ep t))(D:SetD prog w es t (!byT w) ks)(hne:ks≠[])(hlim:ks.length<scanBound)(h:∀ I L P h' d,Ce es L->I≠S->I≠P->s.heap.get? I=none->(P=S∨s.heap.get? P=none)->P<h'.objs.size->s.heap.StaysIn h'->StI w I S es ep t L P 0 h'->Q (.ref I) { s with heap:=h',drawn:=d }) :
  wpAny (model prog w) A (pyIter (.ref S)) Q E s:=by
 have hT:s.TypeIs (.ref S) "set":=⟨_,hS,rfl⟩;have hSlt:=Heap.lt_size hS;refine wpAny_pyIter_slot hT F.slot_set_iter (wpAny_call_entry F.slot_set_iter hT pI ?_ (F.args_set_iter_1 _));unfold Builtin.«frozenset.__iter__» Builtin.Frozenset.slot0;refine wB (wB (m:=slotArgs "__iter__" 0 ⟨[.ref S],[]⟩) (wP ?_));refine wP ?_;unfold Builtin.Frozenset.sizeOf;refine wB (wB (wpAny_setEntries_of hS rfl D.fits (wP ?_)));refine wB (Jg hS D.fits ?_);have hpl:=D.pl hne;have fin:∀{first:Value} {L:List Value} {P:Addr} {s2:Shared},Ce es L->(∃ d,s2={ s with heap:=s2.heap,drawn:=d })->s.heap.StaysIn s2.heap->(P=S∨s.heap.get? P=none)->P<s2.heap.objs.size->(∀ h',s2.heap.StaysIn h'->ItAt w S es ep t L 0 h' first)->(∀ a,first=.ref a->a=P) ->
   wpAny (model prog w) A.in1 (do ret (<- newFields "set_iterator" [first,rawInt 0,.ref S,rawInt es.size,rawInt (<- setEpoch S)])) (λ fin s'=>∃ v,fin=Fin.done (.ret v)/\∃ T' r,s'.TypeIs v T'/\typeLookup (.type T') "__next__"=pure (some r)/\Q v s') E s2:=by
  rintro first L P s2 o ⟨d,e⟩ k hP hPlt a1 hPf
  refine Fi rfl (k _ _ hS) D.fits a1 hPf λ h' k1 st sz=>?_;have z:=h s2.heap.objs.size L P h' d o (Nat.ne_of_gt (Heap.lt_size (k _ _ hS))) (Nat.ne_of_gt hPlt) ?_ hP (by rw[sz];exact Nat.lt_succ_of_lt hPlt) (λ b o e=>k1 b o (k b o e)) st
  ·rw[e];exact z
  ·cases q:s.heap.get? s2.heap.objs.size with
   | none=>rfl
   | some o=>exact absurd (Heap.lt_size (k _ _ q)) (Nat.lt_irrefl _)
 cases hb:byT w with
 | true =>
  dsimp only [show(!true&&(!t.plain&&decide (es.size > 1)))=false from rfl,if_neg Bool.false_ne_true];refine wB (wP ?_);refine fin (first:=rawInt 0) (P:=S) (s2:=s) ((qL _ _).map _) ⟨s.drawn,rfl⟩ (λ _ _ e=>e) (.inl rfl) hSlt (λ h' _=>.text hb rfl) (λ a q=>by cases q)
 | false =>
  rw[hpl];by_cases h1:es.size > 1
  ·rw[show(!false&&(!false&&decide (es.size > 1)))=true by simp[h1],if_pos rfl]
   refine wB (Cr es.size (List.range es.size) (by simp) λ pl d p=>wB (wpAny_newTuple ?_ (hsz:=?_)))
   rotate_left
   ·rw[List.length_map,p.length_eq,List.length_range,D.size];exact fits_of_scanBound hlim
   have hm:∀ j∈pl,j<es.size:=λ j hj=>List.mem_range.mp (p.mem_iff.mp hj);have hg:=Heap.get?_push_size s.heap (o:={ cls:=.type "tuple",data:=.seq (pl.map λ(j:Nat)=>rawInt j).toArray 0 }) rfl;refine fin (first:=.ref s.heap.objs.size) (P:=s.heap.objs.size) (s2:={ s with heap:=s.heap.push { cls:=.type "tuple",data:=.seq (pl.map λ(j:Nat)=>rawInt j).toArray 0 },drawn:=d }) (L:=pl.map (λ j=>(es.getD j (0,.none)).2)) ?_ ⟨d,rfl⟩ (aS _ _) (.inr ?_) (Heap.lt_size hg)
    (λ h' k=>.drawn (k _ _ hg) hm rfl) (λ a q=>by cases q;rfl)
   ·have:=p.map (λ j=>(es.getD j (0,.none)).2);rw[Lj] at this;exact this
   ·cases q:s.heap.get? s.heap.objs.size with
    | none=>rfl
    | some o=>exact absurd (Heap.lt_size q) (Nat.lt_irrefl _)
  ·rw[show(!false&&(!false&&decide (es.size > 1)))=false by simp[h1],if_neg Bool.false_ne_true]
   refine wB (wP ?_);have hs1:es.size=1:=by
    have:=D.size;have:ks.length≠0:=λ q=>hne (List.length_eq_zero_iff.mp q)
    lia
   refine aB (Array.size_eq_one_iff.mp hs1) ?_;rintro⟨kx,x⟩ hes;have hf:=D.fits;have hled:t.led=true:=by rw[D.led,hb];rfl
   obtain⟨j,hj⟩:∃ j,t.place=#[j]:=by
    unfold SetTable.fits at hf;rw[hs1] at hf;simp only[Bool.and_eq_true,beq_iff_eq] at hf;exact Array.size_eq_one_iff.mp hf.1
   refine fin (first:=rawInt 0) (P:=S) (s2:=s) (L:=[x]) (by rw[hes];exact List.Perm.refl _) ⟨s.drawn,rfl⟩ (λ _ _ e=>e) (.inl rfl) hSlt (λ h' _=>.one (i:=0) hb hled hes rfl hj) (λ a q=>by cases q)
end
end
section
section
variable{S:Addr}{es:Array (Int×Value)}{ep:Nat}{t:SetTable}{ks:List Str}
theorem Ke{Q}(hT:s.TypeIs (.ref S) "set")(h:Q false s):wpAny (model prog w) A (Builtin.List.listLengthHint (.ref S)) Q E s:=by
 unfold Builtin.List.listLengthHint;refine wB (wpAny_specialOf hT F.slot_set_len.lookup ?_);dsimp only;rw[show splitId "set.__len__"=some ("set","__len__") by kernel_rfl]
 dsimp only;refine wB (wpAny_isInstance hT sub_set_self ?_);refine wB (wpAny_typeOf hT ?_);exact wP h
set_option maxHeartbeats 1000000 in
theorem wC{Q}(hh:A.handled=none)(hS:s.heap.get? S=some (xX es ep t))(D:SetD prog w es t (!byT w) ks)(hne:ks≠[])(hlim:ks.length<scanBound)(h:∀ L h' tk d,Ce es L->s.heap.StaysIn h'->Q L { s with heap:=h',toks:=tk,drawn:=d }):wpAny (model prog w) A (collect (.ref S)) Q E s:=by
 have hSlt:=Heap.lt_size hS;have hSl:s.heap.objs.size≠S:=Nat.ne_of_gt hSlt;dsimp only [collect];refine wB (wpAny_runValue (codeAny_builtin F.entry_proto_collect ?_));dsimp only [Around.under_plainId F.plain_proto_collect _];show wpAny _ A.in1 (newList [] >>= λ l=>again (.builtin "list.__iadd__" ⟨[l,.ref S],[]⟩)) _ _ s;refine wB (wpAny_newObj_type ?_);refine wP ⟨plainId_quiet F.plain_list_iadd _,codeAny_builtin F.entry_list_iadd ?_⟩;dsimp only [Around.under_plainId F.plain_list_iadd _];have hS1:(s.heap.push { cls:=.type "list",data:=.seq ([]:List Value).toArray }).get? S=some (xX es ep t):=Heap.get?_push_of_some _ hS;have hl1:(s.heap.push { cls:=.type "list",data:=.seq ([]:List Value).toArray }).get? s.heap.objs.size=some { cls:=.type "list",data:=.seq ([]:List Value).toArray }:=Heap.get?_push_size _ rfl;have hT:Shared.TypeIs { s with heap:=s.heap.push { cls:=.type "list",data:=.seq ([]:List Value).toArray } } (.ref S) "set":=⟨_,hS1,rfl⟩;show wpAny _ A.in1 (Builtin.List.listExtendWith (.ref s.heap.objs.size) (.ref S) (.ref s.heap.objs.size)) _ _ _;dsimp only [Builtin.List.listExtendWith];refine wB (wpAny_typeOf hT ?_);have h1:Builtin.List.listSameRef (.ref s.heap.objs.size) (.ref S)=false:=by simp[Builtin.List.listSameRef,hSl]
 have h2:(Value.type "set"==Value.type "list")=false:=by decide
 have h3:(Value.type "set"==Value.type "tuple")=false:=by decide
 simp only[h1,h2,h3,Bool.or_false,Bool.false_eq_true,if_false];refine wB (Ts (s:={ s with heap:=s.heap.push { cls:=.type "list",data:=.seq ([]:List Value).toArray } }) hS1 D hne hlim λ I L P h' d o hIS hIP hIn hP hPlt k st=>?_);have hT':Shared.TypeIs { s with heap:=h',drawn:=d } (.ref S) "set":=⟨_,k _ _ hS1,rfl⟩;refine wB (wpAny_holding (Ke (s:={ s with heap:=h',drawn:=d }) hT' ?_));refine wB (wpAny_rule ?_);have hl2:=k _ _ hl1;refine wB ?_;show wpAny _ A.in1 (updateSeq s.heap.objs.size (·.push .none) >>= λ _=>updateSeq s.heap.objs.size (·.pop)) _ _ _;refine wB (wpAny_updateSeq hl2 rfl ?_);have hl3:=Heap.get?_update_self (Obj.mapSeq (·.push Value.none)) hl2 rfl;refine wpAny_updateSeq hl3 rfl ?_;have hl4:=Heap.get?_update_self (Obj.mapSeq (·.pop)) hl3 rfl;have oth:∀ b o,b≠s.heap.objs.size->h'.get? b=some o->((h'.update s.heap.objs.size (Obj.mapSeq (·.push Value.none))).update s.heap.objs.size (Obj.mapSeq (·.pop))).get? b=some o :=
  λ b o hb e=>(Heap.get?_update_other _ _ (Ne.symm hb)).trans ((Heap.get?_update_other _ _ (Ne.symm hb)).trans e)
 have hll:L.length=es.size:=by simp only[o.length_eq,List.length_map,Array.length_toList]
 have hIl:I≠s.heap.objs.size:=λ q=>by simp only[q,hl1] at hIn;exact nso hIn
 have hPl:P≠s.heap.objs.size:=λ q=>by
  refine hP.elim (λ hP=>?_) λ hP=>?_
  ·exact hSl (q▸hP)
  ·simp only[q,hl1] at hP;exact nso hP
 have W:=(Walks.seti (prog:=prog) (w:=w) (A:=A.in1) (t:=t) (ep:=ep) (show A.in1.handled=none from hh) D.fits hll hIS hIP).toS;have hSf:s.heap.objs.size∉[I,S,P]:=λ q=>by
  refine mc2 q (λ q=>?_) λ q=>?_
  ·exact hIl q.symm
  ·refine mc2 q (λ q=>?_) λ q=>?_
   ·exact hSl q
   ·exact hPl (xm1 q).symm
 have st':=(Walks.seti (prog:=prog) (w:=w) (A:=A.in1) (t:=t) (ep:=ep) (show A.in1.handled=none from hh) D.fits hll hIS hIP).frame 0 _ _ st λ b hb o e=>oth b o (λ q=>hSf (q▸hb)) e;refine wP ⟨plainId_quiet F.plain_extend_loop _,codeAny_extend_loopS W (by simp only[hll,D.size];exact fits_of_scanBound hlim) _ hSf _ L.length 0 _ _ _ rfl (Nat.zero_le _) st' hl4 (ItemsOf.nil _) λ s' acc' c' hm hS' hacc=>?_⟩
 show wpAny _ A (load s.heap.objs.size >>= _) _ _ s';refine wB (wpAny_load hS' ?_);have hL:acc'.toList=L:=by
  apply List.ext_getElem?;intro j;by_cases hj:j<L.length
  ·have hj':j<acc'.size:=by simp only[hacc.1];exact hj
   simp only[Array.getElem?_toList,Array.getElem?_eq_getElem hj'];exact(hacc.2 j _ (Array.getElem?_eq_getElem hj')).symm
  ·rw[List.getElem?_eq_none (Nat.le_of_not_lt hj),List.getElem?_eq_none (by rw[Array.length_toList,hacc.1];exact Nat.le_of_not_lt hj)]
 refine wP ?_;simp only[hL];obtain⟨mh,mg,md,mo,mt⟩:=hm;obtain⟨sh,sg,sd,stk,so⟩:=s';cases mg;cases md;clear hS' mt;cases mo;refine h L sh stk d o λ b ob e=>mh b ob ?_ (oth b ob ?_ (k _ _ (Heap.get?_push_of_some _ e)))
 ·intro q;refine mc2 q (λ q=>?_) λ q=>?_
  ·exact Nat.lt_irrefl _ (q▸Heap.lt_size e)
  ·have hb:=Heap.get?_push_of_some (h:=s.heap) { cls:=.type "list",data:=.seq ([]:List Value).toArray } e;simp only[xm1 q] at hb;simp only[hb] at hIn;exact nso hIn
 ·intro q;exact Nat.lt_irrefl _ (q▸Heap.lt_size e)
end
end
section
theorem xO:∀{ks l:List Str},ks.Nodup->(∀ k∈ks,k∈l)->l.length=ks.length->l.Perm ks:=by
 intro l9;induction l9 with
 | nil =>
  intro l _ _ e;rw[List.length_eq_zero_iff.mp e]
 | cons k r ih =>
  intro l nd sub e;have hk:=sub k (.head _);have p:=List.perm_cons_erase hk;have nd':=List.nodup_cons.mp nd;refine p.trans ((ih nd'.2 (λ x hx=>?_) ?_).cons k)
  ·exact(List.mem_erase_of_ne (λ(q:x=k)=>nd'.1 (q▸hx))).mpr (sub x (.tail _ hx))
  ·rw[List.length_erase_of_mem hk,e];rfl
section
variable{S:Addr}{es:Array (Int×Value)}{ep:Nat}{t:SetTable}{ks:List Str}
theorem Nd{led L}(D:SetD prog w es t led ks)(nd:ks.Nodup)(o:Ce es L):StrsAre L (L.map strOf)/\(L.map strOf).Perm ks:=by
 have hall:∀ v∈L,∃ x u,v=Value.str x u:=λ v hv=>by
  refine aE (List.mem_map.mp (o.mem_iff.mp hv)) ?_;rintro e he rfl;refine aK (D.el e he) λ y1 _=>aE y1 λ k hk _=>?_;refine aB (Value.isStrOf_shape hk) λ u hu=>?_;exact Uu k u hu
 refine aY (strsAre_map L hall) (xO nd (λ k hk=>?_) ?_)
 ·refine aE ((D.mem k).mp hk) λ e he hp=>?_;refine aB (Value.isStrOf_shape hp) λ u hu=>?_;exact List.mem_map.mpr ⟨e.2,o.mem_iff.mpr (List.mem_map.mpr ⟨e,he,rfl⟩),by simp only[hu];rfl⟩
 ·simp only[List.length_map,o.length_eq,List.length_map,Array.length_toList,D.size]
set_option maxHeartbeats 1000000 in
theorem Bi(hh:A.handled=none)(hS:SetL prog w s.heap S (!byT w) ks)(hne:ks≠[])(h64:ks.length<64)(nd:ks.Nodup)(h:∀ a h' tk d vs n,s.heap.StaysIn h'->s.heap.get? a=none->h'.get? a=some (cK vs n)->StrsAre vs (cD ks)->Q (.ref a) { s with heap:=h',toks:=tk,drawn:=d }):wpAny (model prog w) A (call (.builtin "sorted") [.ref S]) Q E s:=by
 obtain⟨es,ep,t,hS,D⟩:=hS;refine Calls.call_function_entry kind_sorted plain_sorted entry_sorted (args_sorted1 _) ?_;unfold Builtin.«sorted»;refine wB (m:=checkCount "sorted" 1 1 _) (wP ?_);refine wB (wC hh hS D hne (by unfold scanBound;exact ll1 ‹_› (by rfl)) λ L h1 tk d o k=>?_)
 refine aK (Nd D nd o) λ hs hp=>?_;have hL:L.length<64:=by rw[<- List.length_map (f:=strOf),hp.length_eq];exact h64
 refine wB (wpAny_newList ?_ (hsz:=by rw[sizeLine_eq];exact ll2 ‹_› (by rfl)))
 have hoL:(h1.push (seqObj "list" L.toArray 0)).get? h1.objs.size=some (seqObj "list" L.toArray 0):=Heap.get?_push_size _ rfl;refine wB (wpAny_holding (wpAny_call_entry slot_list_sort ⟨_,hoL,rfl⟩ entry_list_sort (list_sort_treeK (κ:=PyProof.Rows.strKind) strKind_oneLt (vs:=L) hoL hs.keysOf (λ v₁ v₂ rest e=>keyKind_strs (by rw[<- e];exact hs)) hL λ st' a1 a2=>⟨_,rfl,?_⟩) (args_list_sort _)))
 refine fQ (sorted_out_str hs a1 a2) λ ss' b1 b2 b3=>?_;refine aB (sortedHeap_at (out:=(arrOf st').map (·.2)) hoL) λ e he=>?_;have hu:ss'=cD ks:=lZ (nW b3) (b2.trans hp);clear b2 b3;subst hu;refine wP ⟨_,rfl,h h1.objs.size _ _ _ ((arrOf st').map (·.2)).toList e (λ b ob q=>?_) ?_ (by rw[he]) b1⟩
 ·have q1:=k _ _ q;have hlt:=Heap.lt_size q1;show(sortedHeap _ _ _ _).get? b=_;rw[sortedHeap_old (Nat.ne_of_lt hlt) (by rw[Heap.size_push];exact Nat.lt_succ_of_lt hlt)]
  exact Heap.get?_push_of_some _ q1
 ·cases q:s.heap.get? h1.objs.size with
  | none=>rfl
  | some o=>exact absurd (Heap.lt_size (k _ _ q)) (Nat.lt_irrefl _)
end
end
section
open Builtin.Re
noncomputable abbrev Ob:Ex:=.comp [] (.v "rung") [(.mk (.n "ladder") (.e (.v "ladders")) []),(.mk (.n "rung") (.e (.v "ladder")) [])]
structure LawRun(prog:Program)(w:World)(script:List Int)(lv1 lv3 lv4:LV)(σ4:List MObj)(names rgs:List Str)(vs:List PV):Prop where
 r1:exs T1 590 (fR.body.take 3) [("script",.list (script.map .int))] []=some (.next,lv1,[])
 nm:lv1.lookup ("names":Str)=some (.list (names.map .str))
 ok:∀ x∈names,QuoOk prog w x
 jo:JoinOk " " (names.map dA)=true
 ln:names.length≤1000
 sp:kQ (.str (Txt.join " " (names.map dA)))=some vs
 r2:exs T1 590 ((fR.body.drop 4).take 3) (("hosts",.list vs)::lv1) []=some (.next,lv3,[])
 ru:ev T1 590 Ob lv3 []=some (.list (rgs.map .str))
 ne:rgs≠[]
 lt:rgs.length<64
 r3:exs T1 590 (fR.body.drop 8) (("rungs",.list ((cD (gH rgs)).map .str))::lv3) []=some (.ret (.bool true),lv4,σ4)
theorem Zt:Nm (fA (bO 49)) "names":=jY (by kernel_rfl)
theorem Ka(P:Params):glK P "sorted"=some (.builtin "sorted")/\glK P "set"=some (.type "set"):=⟨by kernel_rfl,by kernel_rfl⟩
section
theorem Uo{xs:List Str}:∀{vs:List Value},VRels g (xs.map .str) vs->vs.length=xs.length/\∀(i:Nat) (v:Value),vs[i]? = some v->∃(y:Str) (t:Tok),xs[i]? = some y/\v=Value.str y t:=by
 induction xs with
 | nil=>intro vs h;cases(h.inv:vs=[]);exact aY rfl λ i v e=>nos e
 | cons x r ih =>
  intro vs h;refine bB h.inv ?_;clear h;rintro v0 vs rfl a b;refine aK (ih b) λ h1 h2=>?_;refine aY (congrArg (·+1) h1) λ i v e=>?_;cases i with
  | zero=>exact a.inv.elim λ t q=>⟨x,t,rfl,(sj e).symm.trans q⟩
  | succ i=>exact h2 i v e
theorem XRel.l{v}(r:XRel g ρ (.list xs) v):VRel g (.list xs) v:=by
 refine bQ r.inv ?_;clear r;rintro a vs n rfl e q;exact .list e q
theorem Ki{names:List Str}{vs:List PV}{Q:Flow->Shared->Prop}(t:TrS sc st (.asg "hosts" (.ext "split" [.ext "join_shlex" [.v "names"]])))(N:Nm sc "names")(C:CxI (S1 prog w) 210 A s.heap [793] env oc ρ)(F:Fx sc env oc)(I:Inv [793] env oc ρ s.heap lv σ)(G:AllBare s.gens)(t793:s.heap.get? 793=some ⟨.none,none,.fields #[],#[]⟩)(e:lv.lookup ("names":Str)=some (.list (names.map .str)))(ok:∀ x∈names,QuoOk prog w x)(jo:JoinOk " " (names.map dA)=true)(ln:names.length≤1000)(sp:kQ (.str (Txt.join " " (names.map dA)))=some vs)(h:∀ h' gs tk ps,Inv [793] env oc ρ h' (("hosts",.list vs)::lv) σ->CxI (S1 prog w) 210 A h' [793] env oc ρ->(∀ b o,b≠793->b∉aH env oc ρ->s.heap.get? b=some o->h'.get? b=some o)->h'.get? 793=some ⟨.none,none,.fields ps,#[]⟩->AllBare gs->Q .next { s with heap:=h',gens:=gs,toks:=tk }) :
  wpAny (model prog w) A (exec st env) Q E s:=by
  refine rC t.inv ?_;clear t;rintro _ _ _ rfl hx te hsw;refine rC te.inv ?_;clear te;rintro _ _ _ rfl g1 d1 ta;refine bB ta.inv ?_;clear ta;rintro _ _ rfl ta tn;have q:_=_:=tn.inv;clear tn;subst q;refine rC ta.inv ?_;clear ta;rintro _ _ _ rfl g2 d2 tb;refine bB tb.inv ?_;clear tb;rintro _ _ rfl tb tn;have q:_=_:=tn.inv;clear tn;subst q;refine rB tb.inv ?_;clear tb;rintro _ rfl hk hd hc;clear hk hd hc;refine wpAny_Assign_Name ?_ (hsw env);have K793:793∈[793]++aH env oc ρ:=.head _;have n793:793∉aH env oc ρ:=I.off _ (.head _);have fn2:∀ h:Heap,Base w (GG [793] env oc ρ h)->(∃ o fd,h.get? 791=some o/\o.data=.func fd)/\∃ o fd,h.get? 798=some o/\o.data=.func fd:=λ h b=>by
   refine bB (oX.get b) λ o1 f1 q1 q2 _=>?_;refine jE (rW w.params) λ qn pm dv f1' _=>?_;exact aY ⟨o1,f1,aP _ _ q1,q2⟩ (rR _ _ (aP _ _ (b.k _ _ f1')) rfl)
  refine wpAny_Call_NameR (bR (S1 prog w) g1 (oM w.params).2.2.1 d1 C F ?_);refine eG (P:=λ h=>∃ o fd,h.get? 791=some o/\o.data=.func fd) rfl gY (spliced_cons ?_);refine wpAny_Call_NameR (bR (S1 prog w) g2 (oM w.params).2.2.2.1 d2 C F ?_);refine eG (P:=λ h=>∃ o fd,h.get? 798=some o/\o.data=.func fd) rfl gY (spliced_cons (N.wp F I e λ rv r=>spliced_nil ⟨(fn2 _ C.base).2,?_⟩));refine Ru C.base t793 K793 (ll5 C.dp rfl) C.hd G r.l ok jo ln λ h1 gs tk tk' ps k1 t1 G1=>?_;have fzk:(GG [793] env oc ρ s.heap).StaysIn (GG [793] env oc ρ h1):=aU λ b o e n=>⟨k1 b o (λ q=>n (q▸K793)) e,n⟩;have I1:Inv [793] env oc ρ h1 lv σ:=I.hid (λ b o n e=>k1 b o (λ q=>n (q▸.head _)) e) λ a ha=>⟨_,xm1 ha▸t1⟩;have C1:CxI (S1 prog w) 210 A h1 [793] env oc ρ:=Cx.move C fzk λ L hL hF o es n e d=>⟨hL,hF,o,es,n,k1 L o (λ q=>by
   rw[q,t793] at e;rw[<- sj e] at d;cases d) e,d⟩
  refine spliced_nil ⟨(fn2 _ C1.base).1,?_⟩;refine Ot (H:=[793]++aH env oc ρ) sp (C1.out.le (by decide)) I1.live (.str _ _) λ h2 tk2 rv2 k2 r2=>?_
  refine bJ hx F (I1.ext k2) (.frozen r2) λ h3 tk3 I3 k3=>?_;have st3:Step [793] env oc ρ h1 ρ h3:=(Step.of_up k2).trans (.local k3);refine h h3 gs tk3 ps I3 (Cx.step C1 I1 I3 st3) (λ b o n m e=>k3 b o (λ q=>m (aW q)) (k2.out b o (λ q=>bN q (λ q=>n (xm1 q)) m) (k1 b o n e))) (k3 _ _ (λ q=>n793 (aW q)) (k2.nd _ _ rfl t1)) G1
theorem Oc{rgs}{Q}{m}{x:Ex}(t:TrS sc st (.asg "rungs" (.bi .sortset x)))(C:CxI (S1 prog w) m A s.heap [793] env oc ρ)(F:Fx sc env oc)(I:Inv [793] env oc ρ s.heap lv σ)(e:ev T1 m x lv σ=some (.list (rgs.map .str)))(ne:rgs≠[])(lt:rgs.length<64)(h:∀ h' d tk,Inv [793] env oc ρ h' (("rungs",.list ((cD (gH rgs)).map .str))::lv) σ->Step [793] env oc ρ s.heap ρ h'->Q .next { s with heap:=h',drawn:=d,toks:=tk }) :
  wpAny (model prog w) A (exec st env) Q E s:=by
  refine rC t.inv ?_;clear t;rintro _ _ _ rfl hx te hsw;refine Ux te.inv ?_;clear te;intro _ _ _ _ _ rfl g1 y1;refine aK y1 ?_;clear y1;intro g2 te;have al:=dE (S1 prog w);have hne:gH rgs≠[]:=λ q=>(List.exists_mem_of_ne_nil _ ne).elim λ y hy=>Lv (q▸xY.mpr hy:y∈[]);have hlen:(gH rgs).length≤rgs.length:=by
   have:=pO (xs:=rgs) (ks:=[]);simpa[gH] using this
  refine wpAny_Assign_Name ?_ (hsw env);refine wpAny_Call_NameR (bR (S1 prog w) g1 (Ka w.params).1 (by decide +kernel) C F ?_)
  refine eG (P:=λ _=>True) rfl cH (spliced_cons ?_);refine kX (S1 prog w) (al m).e g2 (Ka w.params).2 (by decide +kernel) eC te e C F I λ h1 tk1 rv k1 r=>?_
  refine bQ r.inv ?_;clear r;rintro a vs cap rfl ea va;refine aK (Uo va) λ hz hv=>?_;have ea1:=aP _ _ ea;refine aAF (xs:=rgs) C.hd (aI ea1) (λ i v q=>hv i v (by simp only[<- q,List.getElem?_toArray])) (by simp only[List.size_toArray];exact hz) (by unfold scanBound;exact ll3 ‹_› (by rfl)) λ h2 tk2 S2 k2=>spliced_nil ⟨trivial,?_⟩
  refine Bi C.hd S2 hne (by exact lx1 ‹_› ‹_› (by rfl)) (qR _) λ b h3 tk3 d us n k3 nb hb hu=>?_
  have k13:Up ([793]++aH env oc ρ) s.heap h3:=k1.trans (.of λ p o q=>k3 p o (k2 p o q));refine bJ hx F (I.ext k13) (v:=.list ((cD (gH rgs)).map .str)) (.frozen (.list (dG hb λ q=>?_) (yE hu))) λ h4 tk4 I4 k4=>?_
  ·exact(k1.live (I.live _ q)).elim λ o q2=>nos (nb.symm.trans (k2 _ _ q2))
  ·exact h h4 d tk4 I4 ((Step.of_up k13).trans (.local k4))
end
end
section
open Builtin.Re
section
theorem Zz{script lv1 lv3 lv4 σ4 names rgs vs}(R:LawRun prog w script lv1 lv3 lv4 σ4 names rgs vs)(C:CxB (Base w) 610 A s.heap [793] [793])(t793:s.heap.get? 793=some ⟨.none,none,.fields #[],#[]⟩)(G:AllBare s.gens)(r:VRel (fz s.heap [793]) (.list (script.map .int)) rv)(h:∀ h' gs d tk ps,(∀ b o,b≠793->s.heap.get? b=some o->h'.get? b=some o)->h'.get? 793=some ⟨.none,none,.fields ps,#[]⟩->AllBare gs->Q (.bool true) { s with heap:=h',gens:=gs,drawn:=d,toks:=tk }) :
  wpAny (model prog w) A (call (.ref 876) [rv]) Q E s:=by
 refine kS (Ih.get C.base) λ o fd q1 q2 q3 q4=>?_;have N:=Zt;rw[<- q4] at N;generalize eV (bO 49)=body at q3;have hH:[793]=[793]++Ro.all ([]:Ro):=by simp[Ro.all]
 have lH:∀ a∈[793],∃ o,s.heap.get? a=some o:=λ a ha=>by
  cases xm1 ha;exact bM _ t793
 refine wpAny_call (pH (S:=S1 prog w) (n:=609) q3 (H:=[793]) (ρ:=[]) (σ:=[]) (by rw[<- hH];exact C) (.nil lH) (vs:=[.list (script.map .int)]) (rvs:=[rv]) (hH▸.cons (.frozen r) .nil) (q3.bind s [rv] aP rfl) aP (aP _ _ q1) q2 λ h₁ tk env oc I C1 fx En=>?_)
 have al:=dE (S1 prog w);have tr:fJ fd.scope body (fR.body.take 3++fR.body.drop 3):=q3.tr;refine bB (RSs.split (fR.body.take 3) (ys:=fR.body.drop 3) tr) ?_;rintro a b rfl ta tb;have tb':fJ fd.scope b (.asg "hosts" (.ext "split" [.ext "join_shlex" [.v "names"]])::((fR.body.drop 4).take 3++fR.body.drop 7)):=tb;refine bB tb'.inv ?_;clear tb';rintro _ _ rfl t4 tm;refine bB (RSs.split ((fR.body.drop 4).take 3) (ys:=fR.body.drop 7) tm) ?_;rintro c d rfl tc td;have td':fJ fd.scope d (.asg "rungs" (.bi .sortset Ob)::fR.body.drop 8):=td;refine bB td'.inv ?_;clear td';rintro _ _ rfl t8 t9;have n793:∀{h lv σ ρ},Inv [793] env oc ρ h lv σ->793∉aH env oc ρ:=λ I=>I.off _ (.head _);refine oR (S1 prog w) 590 ta R.r1 (C1.le (by decide)) fx I λ h2 tk2 ρ2 I2 st2=>?_
 have C2:=Cx.step C1 I I2 st2;have t2:h2.get? 793=some ⟨.none,none,.fields #[],#[]⟩:=st2.up.nd _ _ (n793 I) rfl (En.keep _ _ t793);refine wpAny_execs_cons (Ki t4 N (C2.le (by decide)) fx I2 G t2 R.nm R.ok R.jo R.ln R.sp λ h3 gs tk3 ps I3 C3 k3 t3 G3=>?_)
 have C3':CxI (S1 prog w) 609 (A.deeper env) h3 [793] env oc ρ2:=⟨C3.hd,C2.dp,C2.un,C3.base,C3.fr⟩;refine oR (S1 prog w) 590 tc R.r2 (C3'.le (by decide)) fx I3 λ h4 tk4 ρ4 I4 st4=>?_
 have C4:=Cx.step C3' I3 I4 st4;refine wpAny_execs_cons (Oc (m:=590) t8 (C4.le (by decide)) fx I4 R.ru R.ne R.lt λ h5 dr tk5 I5 st5=>?_)
 have C5:=Cx.step C4 I4 I5 st5;refine(al 590).ss t9 R.r3 (C5.le (by decide)) fx I5 λ h6 tk6 ρ6 f I6 st6 fr=>?_
 cases fr with|ret rx =>
 have q:_=_:=rx.inv;clear rx;subst q;have fresh:∀{b o},s.heap.get? b=some o->b∉aH env oc []:=λ{b o} e q=>by
  have z:=En.fresh b (by simpa[aH,Ro.all] using q)
  rw[z] at e;exact nos e
 have stay:∀{b o ρ h ρ' h'},b∉aH env oc ρ->h.get? b=some o->Step [793] env oc ρ h ρ' h'->b∉aH env oc ρ':=λ n e st q=>(st.new _ q).elim n λ z=>by
  rw[z] at e;exact nos e
 refine h h6 gs dr tk6 ps (λ b o n e=>?_) ?_ G3
 ·have e1:=En.keep _ _ e;have f1:=fresh e;have nn:∀{ρ},b∉aH env oc ρ->b∉[793]++aH env oc ρ:=λ f q=>(List.mem_append.mp q).elim (λ q=>n (xm1 q)) f;have e2:=st2.up.out _ _ f1 (nn f1) e1;have f2:=stay f1 e1 st2;have e3:=k3 _ _ n f2 e2;have e4:=st4.up.out _ _ f2 (nn f2) e3;have f4:=stay f2 e3 st4;have e5:=st5.up.out _ _ f4 (nn f4) e4;have f5:=stay f4 e4 st5;exact st6.up.out _ _ f5 (nn f5) e5
 ·exact st6.up.nd _ _ (n793 I5) rfl (st5.up.nd _ _ (n793 I4) rfl (st4.up.nd _ _ (n793 I3) rfl t3))
end
end
section
open Builtin.Re
theorem Hf{h:Heap}{ns:List Int}:∀{vs:List Value},WellAll P h vs (ns.map .int)->VRels g (ns.map .int) vs:=by
 induction ns with
 | nil=>intro vs h;cases h;exact .nil
 | cons n r ih =>
  intro vs h;cases h with|cons a b =>
  cases a;exact .cons (.int _ _) (ih b)
theorem Gl{args}(x:lw.row.toRowW.claim.pre args=true):∃ ns:List Int,args=[.list (ns.map .int)]/\ns.length≤63:=by
 refine aK (pre_splitW x) λ h1 h2=>?_;refine bB (hasAllW_cons h1) ?_;rintro d r rfl h3 h4;cases hasAllW_nil h4;refine aE (hasW_list h3) ?_;rintro xs rfl h5;refine aB (items_int h5) ?_;rintro ns rfl;refine bK ns rfl ?_;have hp:lw.row.pre=.and (.not (.lt (.lit (.int 63)) (.len (.arg 0)))) (.lit (.bool true)):=rfl;rw[show lw.row.toRowW.pre=lw.row.pre from rfl,hp] at h2;simp[WTm.holds,WTm.value] at h2;by_cases hq:(63:Int)<(ns.length:Int)
 ·have hl:less? (.int 63) (.int (ns.length:Int))=some true:=by
   show some (decide _)=_;rw[decide_eq_true hq]
  rw[hl] at h2;simp at h2
 ·omega
theorem Kv(P:Params):(KK P).lookup 793=none:=by kernel_rfl
theorem aCb{h}(X:(KM P).In h):(KK P).In h:=λ b o e=>X b o (by
 show List.lookup b ((793,_)::KK P)=some o;dsimp only [List.lookup_cons];by_cases q:b=793
 ·rw[q,Kv] at e;exact nos e
 ·rw[show(b==793)=false by simpa using q]
  exact e)
theorem Kz:xA.name="law":=by kernel_rfl
theorem Zo(P:Params):nsIn (KK P) mainGlobals "law"=some (some (.ref 876)):=by kernel_rfl
theorem La(args:List WData):lw.row.toRowW.claim.post args (.bool true) args=true:=by kernel_rfl
theorem Ac(args:List WData)(cls:ExcName):lw.row.toRowW.claim.raises args cls=false:=rfl
theorem Rz:lw.row.toRowW.claim.unshared=true:=by kernel_rfl
theorem Zu(facts:∀(w:World) (script:List Int),script.length≤63->∃ lv1 lv3 lv4 σ4 names rgs vs,LawRun pw w script lv1 lv3 lv4 σ4 names rgs vs):lw.Holds:=by
 refine head λ w s₀ s₁ mg mb G Y a o pm cd doc dV kV ho hd hcd hD hmg hg args vals as hpre hlay hrd hwl hlo=>?_;refine aE (Gl hpre) ?_;clear hpre hlay;rintro ns rfl hns;refine kT (facts w ns hns) λ lv1 lv3 lv4 σ4 names rgs vs R=>?_;have X:(KM w.params).In s₁.heap:=kIn_of Y;have t793:s₁.heap.get? 793=some ⟨.none,none,.fields #[],#[]⟩:=X _ _ rfl;have XK:=aCb X;have B:Base w (fz s₁.heap [793]):=by
  refine⟨λ b o e=>dG (XK b o e) λ q=>?_,?_,?_⟩
  ·simp only[xm1 q,Kv] at e;exact nos e
  ·refine aE G.T.nolimit λ mc q1 z=>jE q1 λ o es ep e r=>?_;exact bK mc ⟨o,es,ep,dG e (by decide),r⟩ z
  ·refine jE G.T.b λ o es ep e r=>?_;exact bK mb ⟨o,es,ep,dG e (by decide),r⟩ G.T.builtins
 have ha:=mg_of XK G.T.g (Zo w.params);simp only[Kz,ha] at hmg;clear ho;cases hmg;clear hrd;cases hwl with|cons hw hn =>
 cases hn;cases hw with | @list l us _ el va =>
 have hl:l≠793:=λ q=>by
  simp only[q,t793] at el;cases el
 have C:CxB (Base w) 610 callerA s₁.heap [793] [793]:=⟨rfl,by decide,by decide,B,[],rfl,λ _ q=>nomatch q⟩
 refine Zz R C t793 (.of_eq hg) (.list (n:=0) (dG el λ q=>hl (xm1 q)) (Hf va)) λ h' gs d tk ps k t' G'=>⟨.inl ⟨_,.bool true,[],rfl,Ac _,.bool true,La _,λ _=>⟨.nil,λ a ha=>nomatch ha⟩⟩,⟨λ b o e=>?_,λ b o e=>?_⟩,rfl,G'⟩
 ·by_cases q:b=793
  ·subst q;simp only[t793] at e;obtain rfl:=sj e;exact .inr (.inl ⟨(wW XK t793).2.isCodeTable,rfl,#[],ps,rfl,by simp only[t'];simp⟩)
  ·exact .inl (k b o q e)
 ·by_cases q:b=793
  ·exact bM _ (q▸t')
  ·exact bM o (k b o q e)
end
theorem Dm{a b}(h:Str.ofString a=Str.ofString b):a=b:=by
 simp only[Str.ofString_eq_toList,Str.ofString_eq_toList] at h;have h1:=congrArg (λ s:Str=>s.cps.toList) h;simp only at h1;refine String.toList_inj.mp ?_;have inj:Function.Injective Char.toNat:=λ x y e=>by
  rcases x with⟨⟩;rcases y with⟨⟩;simpa[Char.toNat,Char.ext_iff,UInt32.toNat_inj] using e
 exact(List.map_inj_right λ x y e=>inj e).mp (by simpa using h1)
theorem cR(a b:String):(Str.ofString a==Str.ofString b)=(a==b):=by
 by_cases h:a=b
 ·subst h;simp
 ·simp only[show(a==b)=false by simpa using h]
  simpa using λ q=>h (Dm q)
theorem dQ:∀ xs:List Str,cC (xs.map .str)=some xs:=by
 intro l9;induction l9 with
 | nil =>
  exact rfl
 | cons x r ih =>
  exact(congrArg (Option.map (x::·)) (ih):_)
theorem Jp:T1.fn "three_way_cmp"=some By:=by kernel_rfl
theorem aDr(a b:Str):peq (.str a) (.str b)=some (a==b):=rfl
theorem Te(a b:Int):peq (.int a) (.int b)=some (a==b):=rfl
noncomputable def Xn(xs ys:List Str):Int:=(if ltS ys xs then 1 else 0) - (if ltS xs ys then 1 else 0)
theorem Dr(xs ys:List Str):plt (.list (xs.map .str)) (.list (ys.map .str))=some (ltS xs ys):=by simp only[aCj,dQ,dQ]
theorem Qs(xs ys:List Str):fK [] .Lt (.list (xs.map .str)) (.list (ys.map .str))=some (ltS xs ys):=Dr xs ys
theorem Qr(xs ys:List Str):fK [] .Gt (.list (xs.map .str)) (.list (ys.map .str))=some (ltS ys xs):=Dr ys xs
theorem Jf(n:Nat)(xs ys:List Str):cG T1 (n+10) "three_way_cmp" [.list (xs.map .str),.list (ys.map .str)]=some (.int (Xn xs ys)) :=
 bV Jp rfl (bD (cB (eI (mJ (aG rfl) (aG rfl) (Qr xs ys)) (mJ (aG rfl) (aG rfl) (Qs xs ys)) rfl rfl rfl))) rfl
theorem Rb:T1.fn "liberal_is_HDN"=some tJ:=by kernel_rfl
theorem Yb:T1.fn "is_HDN"=some Ca:=by kernel_rfl
theorem pM:T1.fn "reach"=some oI:=by kernel_rfl
theorem Jv:T1.fn "user_domain_match"=some Cd:=by kernel_rfl
theorem aCx(h:dH x=true):T1.orc "IPV4_RE" "search" (.str x)=some (if ipB x then .obj "re.Match" else .none):=by
 unfold T1 sZ;dsimp only;unfold Na;rw[if_pos ⟨rfl,rfl⟩];dsimp only;rw[if_pos h]
theorem Ep(σ:List MObj)(b:Bool):deref σ (if b then .obj "re.Match" else .none)=some (if b then .obj "re.Match" else .none):=by rcases b with⟨⟩<;>rfl
theorem Bt(b:Bool):bG (if b then .obj "re.Match" else .none)=some b:=by rcases b with⟨⟩<;>rfl
theorem Nb{a}(hv:lv.lookup a=some (.str x))(h:dH x=true):evT T1 (n+3) (.orc "IPV4_RE" "search" (.v a)) lv σ=some (ipB x) :=
 aEm.trans (bb (aDg.trans (bb (aG hv) (bb (Gb x) (aCx h)))) (bb (Ep σ _) (Bt _)))
theorem iC{t v r c R}(h:evT T (n+3) t lv []=some c)(h1:c=true->R=some (.ret v,lv,[]))(h2:c=false->exs T (n+4) r lv []=R):exs T (n+5) (.ite t [.ret (.c v)] []::r) lv []=R:=by
 cases c with
 | true=>exact(bD (aC h (bD (cB bA)))).trans (h1 rfl).symm
 | false=>exact aA (aC h aO) (h2 rfl)
theorem tV{b}(h:(x==y)=b):fK [] .Eq (.str x) (.str y)=some b:=congrArg some h
theorem Fo(n:Nat)(h:dH x=true):cG T1 (n+12) "liberal_is_HDN" [.str x]=some (.bool (!ipB x)) :=
 bV (v:=.bool (!ipB x)) Rb rfl (iC (Nb rfl h) (λ q=>by rw[q];rfl) λ q=>by rw[q];exact bD (cB bA)) rfl
structure NmOk(x:Str):Prop where
 ok:dH x=true
 ne:(x==("":Str))=false
 s:∃ c,dU (.str x) (.int 0)=some (.str c)/\(c==(".":Str))=false
 e:∃ c,dU (.str x) (.int (-1))=some (.str c)/\(c==(".":Str))=false
theorem Kd(n:Nat)(h:NmOk x):cG T1 (n+14) "is_HDN" [.str x]=some (.bool (!ipB x)):=by
 obtain⟨h1,h2,⟨c,h3,h4⟩,⟨d,h5,h6⟩⟩:=h;have e:([(("text":Str),PV.str x)]:LV).lookup ("text":Str)=some (.str x):=rfl;refine bV (v:=.bool (!ipB x)) Yb rfl (iC (Nb rfl h1) (λ q=>by rw[q];rfl) λ q=>?_) rfl
 refine iC (c:=false) (aL (aG e) bA (tV h2)) (λ q=>nft q) λ _=>?_;refine iC (c:=false) (kZ (aL (eJ (aG e) bA rfl h3) bA (tV h4)) (aL (eJ (aG e) (xq4.trans (bb bA rfl)) rfl h5) bA (tV h6))) (λ q=>nft q) λ _=>?_;rw[q];exact bD (cB bA)
noncomputable def Ax(h:Str):Str :=
 if 0≤Txt.find h "." then
  if(!ipB h&&(decide (0≤Txt.find (Txt.slice h (some (Txt.find h "."+1)) none) ".")||(Txt.slice h (some (Txt.find h "."+1)) none=="local")))=true then "."++Txt.slice h (some (Txt.find h "."+1)) none else h
 else h
theorem Ay(n:Nat)(h:NmOk x)(hl:x.length≤1000)(hb:(Txt.slice x (some (Txt.find x "."+1)) none).length≤1000):cG T1 (n+26) "reach" [.str x]=some (.str (Ax x)):=by
 have h2:(".":Str).length+(Txt.slice x (some (Txt.find x "."+1)) none).length≤100000:=by
  have:(".":Str).length=1:=by decide +kernel
  lia
 unfold Ax;have es:qS (.str x) (.int (Txt.find x "."+1)) .none .none=some (.str (Txt.slice x (some (Txt.find x "."+1)) none)):=by
  dsimp only [sN];exact if_pos (ll4 hl rfl)
 generalize Txt.slice x (some (Txt.find x "."+1)) none=b at *;have e0:ex T1 (n+24) (.asg "i" (.me .find (.v "h") [.c (.str ".")])) [("h",.str x)] []=nxt [("i",.int (Txt.find x ".")),("h",.str x)] []:=bL (lA (aG rfl) rfl (aJ bA aT) rfl rfl);by_cases c1:0≤Txt.find x "."
 ·rw[if_pos c1];have h1:evT T1 (n+22) (.cmp .GtE (.v "i") (.c (.int 0))) [("i",.int (Txt.find x ".")),("h",.str x)] []=some true:=aL (aG rfl) bA (congrArg some (decide_eq_true c1));have e2:ex T1 (n+21) (.asg "b" (.sl (.v "h") (.bin .Add (.v "i") (.c (.int 1))) (.c .none) (.c .none))) [("i",.int (Txt.find x ".")),("h",.str x)] []=nxt [("b",.str b),("i",.int (Txt.find x ".")),("h",.str x)] [] :=
   bL (jV (aG rfl) (eI (aG rfl) bA rfl rfl rfl) bA bA rfl es)
  have e3:ex T1 (n+20) (.asg "i" (.me .find (.v "b") [.c (.str ".")])) [("b",.str b),("i",.int (Txt.find x ".")),("h",.str x)] []=nxt [("i",.int (Txt.find b ".")),("b",.str b),("i",.int (Txt.find x ".")),("h",.str x)] [] :=
   bL (lA (aG rfl) rfl (aJ bA aT) rfl rfl)
  have h4:evT T1 (n+18) (.bop .And [(.call "is_HDN" [(.v "h")]),(.bop .Or [(.cmp .GtE (.v "i") (.c (.int 0))),(.cmp .Eq (.v "b") (.c (.str "local")))])]) [("i",.int (Txt.find b ".")),("b",.str b),("i",.int (Txt.find x ".")),("h",.str x)] []=some (!ipB x&&(decide (0≤Txt.find b ".")||(b==("local":Str)))) :=
   cP (aDl.trans (bb (cE (aJ (aG rfl) aT) rfl (Kd n h)) (bb rfl rfl))) (kZ (aL (aG rfl) bA rfl) (aL (aG rfl) bA rfl))
  cases q:(!ipB x&&(decide (0≤Txt.find b ".")||(b==("local":Str)))) with
  | true =>
   rw[if_pos rfl];exact bV (v:=.str _) pM rfl (aA e0 (bD (aC (c:=true) h1 (aA e2 (aA e3 (bD (aC (c:=true) (h4.trans (congrArg some q)) (bD (cB (eI bA (aG rfl) rfl rfl (if_pos h2))))))))))) rfl
  | false =>
   rw[if_neg Bool.false_ne_true];exact bV (v:=.str x) pM rfl (aA e0 (aA (aC (c:=true) h1 (aA e2 (aA e3 (aA (aC (c:=false) (h4.trans (congrArg some q)) aO) aO)))) (bD (cB (aG rfl))))) rfl
 ·rw[if_neg c1];exact bV (v:=.str x) pM rfl (aA e0 (aA (aC (c:=false) (aL (aG rfl) bA (congrArg some (decide_eq_false c1))) aO) (bD (cB (aG rfl))))) rfl
noncomputable def Hd(a b:Str):Bool:=if !ipB a&&!ipB b then(if Txt.startswith b "." then Txt.endswith a b else a==b) else a==b
theorem Pp(n:Nat)(hx:(Txt.lower x).length≤1000)(hx0:x.length≤1000)(hy0:y.length≤1000)(h1:dH (Txt.lower x)=true)(h2:dH (Txt.lower y)=true):cG T1 (n+26) "user_domain_match" [.str x,.str y]=some (.bool (Hd (Txt.lower x) (Txt.lower y))):=by
 have g:∀{m:Nat} {z:Str} {lv:LV} {s:Str},lv.lookup s=some (.str z)->dH z=true->evT T1 (m+14) (.call "liberal_is_HDN" [.v s]) lv []=some (!ipB z):=λ e h=>aDl.trans (bb (cE (aJ (aG e) aT) rfl (Fo _ h)) (bb rfl rfl));have lo:∀{z:Str},z.length≤1000->jQ .lower (.str z) []=some (.str (Txt.lower z)):=λ h=>if_pos (ll4 h rfl);have l1:=lo hx0;have l2:=lo hy0;generalize Txt.lower x=a at *;generalize Txt.lower y=b at *;have e1:ex T1 (n+24) (.asg "A" (.me .lower (.v "A") [])) [("B",.str y),("A",.str x)] []=nxt [("A",.str a),("B",.str y),("A",.str x)] []:=bL (lA (aG rfl) rfl aT rfl l1);have e2:ex T1 (n+23) (.asg "B" (.me .lower (.v "B") [])) [("A",.str a),("B",.str y),("A",.str x)] []=nxt [("B",.str b),("A",.str a),("B",.str y),("A",.str x)] []:=bL (lA (aG rfl) rfl aT rfl l2);have e3:evT T1 (n+21) (.not (.bop .And [(.call "liberal_is_HDN" [(.v "A")]),(.call "liberal_is_HDN" [(.v "B")])])) [("B",.str b),("A",.str a),("B",.str y),("A",.str x)] []=some (!(!ipB a&&!ipB b)):=gN (cP (g rfl h1) (g rfl h2));unfold Hd;cases q:(!ipB a&&!ipB b) with
 | false =>
  rw[q] at e3;rw[if_neg Bool.false_ne_true];exact bV (v:=.bool (a==b)) Jv rfl (aA e1 (aA e2 (bD (aC (c:=true) e3 (iC (aL (aG rfl) (aG rfl) rfl) (λ q=>by rw[q]) λ q=>by rw[q];exact bD (cB bA)))))) rfl
 | true =>
  rw[q] at e3;rw[if_pos rfl];refine bV (v:=.bool (if Txt.startswith b "." then Txt.endswith a b else a==b)) (lv':=[("initial_dot",.bool (Txt.startswith b ".")),("B",.str b),("A",.str a),("B",.str y),("A",.str x)]) (σ':=[]) Jv rfl (aA e1 (aA e2 (aA (aC (c:=false) e3 aO) (aA (bL (v:=.bool (Txt.startswith b ".")) (lA (aG rfl) rfl (aJ bA aT) rfl rfl))
   (iC (c:=Txt.startswith b "."&&Txt.endswith a b) (cP (wG rfl rfl rfl) (aEl.trans (bb (lA (aG rfl) rfl (aJ (aG rfl) aT) rfl rfl) (bb rfl rfl)))) (λ q=>?_) λ q =>
    iC (c:=!Txt.startswith b "."&&(a==b)) (cP (gN (wG rfl rfl rfl)) (aL (aG rfl) (aG rfl) rfl)) (λ q'=>?_) λ q'=>?_))))) rfl
  ·revert q;cases Txt.startswith b "."<;>cases Txt.endswith a b<;>intro q<;>first|rfl|exact nft q
  ·revert q q';cases Txt.startswith b "."<;>cases Txt.endswith a b<;>cases(a==b)<;>intro q q'<;>first|rfl|exact nft q'|exact ntf q
  ·revert q q';cases Txt.startswith b "."<;>cases Txt.endswith a b<;>cases(a==b)<;>intro q q'<;>first|exact bD (cB bA)|exact ntf q'|exact ntf q
noncomputable def eF(P:List Str->Bool)(a:Str):Bool:=P [a]&&bT.all λ b=>P [a,b]&&bT.all λ c=>P [a,b,c]&&bT.all λ d=>P [a,b,c,d]
structure HostL(ls:List Str):Prop where
 a:∀ l∈ls,l∈bT
 k1:1≤ls.length
 k2:ls.length≤4
theorem gT{P}(h:∀ a∈bT,eF P a=true)(H:HostL ls):P ls=true:=by
 obtain⟨a,k1,k2⟩:=H
 match ls,k1,k2 with
 | [p],_,_ =>
  have h1:=h p (a p (.head _));simp only[eF,Bool.and_eq_true] at h1;exact h1.1
 | [p,q],_,_ =>
  have h1:=h p (a p (.head _));simp only[eF,Bool.and_eq_true,List.all_eq_true] at h1;exact(h1.2 q (a q (.tail _ (.head _)))).1
 | [p,q,r],_,_ =>
  have h1:=h p (a p (.head _));simp only[eF,Bool.and_eq_true,List.all_eq_true] at h1;exact((h1.2 q (a q (.tail _ (.head _)))).2 r (a r (.tail _ (.tail _ (.head _))))).1
 | [p,q,r,t],_,_ =>
  have h1:=h p (a p (.head _));simp only[eF,Bool.and_eq_true,List.all_eq_true] at h1;exact((h1.2 q (a q (.tail _ (.head _)))).2 r (a r (.tail _ (.tail _ (.head _))))).2 t (a t (.tail _ (.tail _ (.tail _ (.head _)))))
noncomputable def iM:List Str->Str
 | []=>⟨#[]⟩
 | [x]=>x
 | _::r=>iM r
noncomputable def gC:List Str->Bool
 | x::t::r=>!(iM (x::t::r)==⟨#[55]⟩)&&(!r.isEmpty||t==⟨#[108,111,99,97,108]⟩)
 | _=>false
noncomputable def iO:List Str->List Str
 | []=>[]
 | x::r=>if gC (x::r) then bI r::iO r else []
noncomputable def lad(ls:List Str):List Str:=aF ls::iO ls
noncomputable def Ua(x:Str)(i:Int):Bool:=match dU (.str x) (.int i) with
 | some (.str c)=>!(c==".")
 | _=>false
noncomputable def aAi(x:Str):Bool:=dH x&&!(x=="")&&Ua x 0&&Ua x (-1)
theorem aCh(h:aAi x=true):NmOk x:=by
 simp only[aAi,Bool.and_eq_true,Bool.not_eq_true'] at h;refine aK h ?_;intro q1;refine aK q1 ?_;intro q2;refine aK q2 ?_;intro h1 h2;intro h3;intro h4;have f:∀{i},Ua x i=true->∃ c,dU (.str x) (.int i)=some (.str c)/\(c==".")=false:=λ{i} h=>by
  unfold Ua at h;split at h
  ·rename_i c e;exact bK c e (by simpa using h)
  ·exact nft h
 exact⟨h1,h2,f h3,f h4⟩
noncomputable def sE(x y:Str):Bool:=x.cps.toList==y.cps.toList
theorem jB(h:x.cps.toList=y.cps.toList):x=y:=by
 obtain⟨x⟩:=x;obtain⟨y⟩:=y;exact congrArg Str.mk (Array.toList_inj.mp h)
theorem Oe:(sE x y=true)=(x=y):=propext ⟨λ h=>jB (eq_of_beq h),λ h=>h▸beq_self_eq_true _⟩
noncomputable def wA(ls:List Str):Bool:=aAi (aF ls)&&decide ((aF ls).length≤1000)&&decide ((Txt.slice (aF ls) (some (Txt.find (aF ls) "."+1)) none).length≤1000) &&
 sE (Ax (aF ls)) (if gC ls then bI ls.tail else aF ls)
noncomputable def zJ(ls:List Str):Bool:=sE (Txt.lstripChars (aF ls) ".") (aF ls)&&dH (bI ls.tail)==!ls.tail.isEmpty&&(ls.tail.isEmpty||(sE (Txt.slice (bI ls.tail) (some 1) none) (aF ls.tail)&&sE (Txt.lstripChars (bI ls.tail) ".") (aF ls.tail)&&!(bI ls.tail==aF ls)))
theorem c1a:eF wA ⟨#[97]⟩=true:=by kernel_rfl
theorem c1b:eF wA ⟨#[99,32,100,39]⟩=true:=by kernel_rfl
theorem c1c:eF wA ⟨#[108,111,99,97,108]⟩=true:=by kernel_rfl
theorem c1d:eF wA ⟨#[55]⟩=true:=by kernel_rfl
theorem c2a:eF zJ ⟨#[97]⟩=true:=by kernel_rfl
theorem c2b:eF zJ ⟨#[99,32,100,39]⟩=true:=by kernel_rfl
theorem c2c:eF zJ ⟨#[108,111,99,97,108]⟩=true:=by kernel_rfl
theorem c2d:eF zJ ⟨#[55]⟩=true:=by kernel_rfl
theorem Kf(H:HostL ls):wA ls=true:=gT (fW c1a c1b c1c c1d) H
theorem Vz(H:HostL ls):zJ ls=true:=gT (fW c2a c2b c2c c2d) H
theorem uB(H:HostL ls):NmOk (aF ls):=aCh (by have:=Kf H;simp only[wA,Bool.and_eq_true] at this;exact this.1.1.1)
theorem fG(H:HostL ls):(aF ls).length≤1000:=by have:=Kf H;simp only[wA,Bool.and_eq_true,decide_eq_true_eq] at this;exact this.1.1.2
theorem pQ(n:Nat)(H:HostL ls):cG T1 (n+26) "reach" [.str (aF ls)]=some (.str (if gC ls then bI ls.tail else aF ls)):=by
 have h:=Kf H;simp only[wA,Bool.and_eq_true,decide_eq_true_eq,Oe] at h;simp only[Ay n (uB H) (fG H) h.1.2,h.2]
theorem zY(H:HostL ls):Txt.lstripChars (aF ls) "."=aF ls:=by have:=Vz H;simp only[zJ,Bool.and_eq_true,Oe] at this;exact this.1.1
theorem sC(H:HostL (x::ls))(hne:ls≠[]):dH (bI ls)=true/\Txt.slice (bI ls) (some 1) none=aF ls/\Txt.lstripChars (bI ls) "."=aF ls/\bI ls≠aF (x::ls):=by
 have h:=Vz H;have e:ls.isEmpty=false:=by simpa using hne
 simp only[zJ,Bool.and_eq_true,beq_iff_eq,Oe,List.tail_cons,e,Bool.not_false,Bool.false_or,Bool.not_eq_true',beq_eq_false_iff_ne] at h;exact Us h.1.2 h.2.1.1 h.2.1.2 h.2.2
theorem zV:T1.fn "_law_climbed"=some jF:=by kernel_rfl
theorem Rw(rs:List Str)(x:Str)(h:rs.length<100):dU (.list ((rs++[x]).map .str)) (.int (-1))=some (.str x):=by
 show iW _ _=_;unfold iW;rw[if_neg (by decide),if_pos ⟨by decide,by simp;lia⟩]
 have:((-1:Int)+(((rs++[x]).map PV.str).length:Int)).toNat=rs.length:=by simp;lia
 rw[this];simp
theorem Co(xs:List PV):deref [.list xs] (.mref 0)=some (.list xs):=rfl
theorem HostL.tail{r}(H:HostL (x::r))(h:r≠[]):HostL r:=⟨λ l hl=>H.a l (.tail _ hl),by cases r with|nil=>exact absurd rfl h|cons=>simp,by have:=H.k2;simp only[List.length_cons] at this;exact ll2 ‹_› (by rfl)⟩
theorem Jc{r}(h:gC (x::r)=true):r≠[]:=by
 rintro rfl;exact nft h
theorem pF:∀{ls:List Str},(∀ l∈ls,l∈bT)->(aX ls).length≤6 * ls.length
 | [],_=>Nat.le_refl _
 | x::r,h=>by
  have h1:=pF (ls:=r) λ l hl=>h l (.tail _ hl);have h2:x.cps.toList.length≤5:=fW (P:=λ x=>x.cps.toList.length≤5) (by decide) (by decide) (by decide) (by decide) x (h x (.head _))
  simp only[aX,List.length_append,List.length_cons,List.cons_append]
  lia
theorem xW(H:HostL ls):(bI ls).length≤1000:=by
 have h1:=pF H.a;have h2:=H.k2;show(aX ls).toArray.size≤1000;rw[List.size_toArray]
 lia
noncomputable abbrev clT:Ex:=(.bop .And [(.cmp .NotEq (.v "told") (.me .lstrip (.sub (.v "rungs") (.neg (.c (.int 1)))) [(.c (.str "."))])),(.cmp .Lt (.bi .len (.v "rungs")) (.c (.int 9)))])
noncomputable abbrev clB:List Sx:=[(.app "rungs" (.v "told")),(.asg "told" (.call "reach" [(.sl (.v "told") (.c (.int 1)) (.c .none) (.c .none))]))]
theorem zL:∀(ls:List Str),HostL ls->∀(rs:List Str) (x:Str) (lv:LV) (n:Nat),Txt.lstripChars x "."=aF ls->x.length≤1000->lv.lookup ("told":Str)=some (.str (if gC ls then bI ls.tail else aF ls))->lv.lookup ("rungs":Str)=some (.mref 0)->rs.length+ls.length<8 ->
  ∃ lv',cT T1 (n+ls.length+40) clT clB lv [.list ((rs++[x]).map .str)]=some (.next,lv',[.list ((rs++[x]++iO ls).map .str)])/\lv'.lookup ("rungs":Str)=some (.mref 0):=by
 intro l9;induction l9 with
 | nil =>
  intro H _ _ _ _ _ _ _ _ _;exact absurd H.k1 (by decide)
 | cons y r ih =>
  intro H rs x lv n hx hl ht hr hs;have e1:=Rw rs x (by lia)
  have hlen:((rs++[x]).map PV.str).length=rs.length+1:=by simp
  have hT:∀{m:Nat} {s:Str},lv.lookup ("told":Str)=some (.str s)->evT T1 (m+12) clT lv [.list ((rs++[x]).map .str)]=some (!(s==aF (y::r))&&decide ((((rs++[x]).map PV.str).length:Int)<9)):=λ ht=>by
   rw[<- hx];exact cP (aL (aG ht) (lA (eJ (aG hr) (xq4.trans (bb bA rfl)) (Co _) e1) rfl (aJ bA aT) rfl (if_pos (ll4 hl rfl))) rfl) (aL (eT (aG hr) (Co _) (if_pos (by rw[hlen];simp only[List.length_cons] at hs;lia))) bA rfl)
  show ∃ lv',cT T1 (n+r.length+40+1) _ _ _ _=_/\_;cases hc:gC (y::r) with
  | false =>
   rw[hc] at ht;refine bK lv ((aC6 ((hT ht).trans (by rw[if_neg Bool.false_ne_true,beq_self_eq_true];rfl))).trans ?_) hr
   rw[iO,hc,if_neg Bool.false_ne_true,List.append_nil]
  | true =>
   have hne:=Jc hc;refine kR (sC H hne) λ k1 k2 k3 k4=>?_;have H':=H.tail hne;have k6:(bI r).length≤1000:=xW H';have ht:lv.lookup ("told":Str)=some (.str (bI r)):=by rw[ht,hc];rfl
   refine aE (ih H' (rs++[x]) (bI r) (("told",.str (if gC r then bI r.tail else aF r))::lv) n k3 k6 rfl ((congrArg (λ l=>l) rfl:_).trans hr) (by simp at hs ⊢;omega)) λ lv' h1 h2=>?_
   refine bK lv' ?_ h2;rw[iO,if_pos hc,show(rs++[x]++bI r::iO r)=rs++[x]++[bI r]++iO r by simp,<- h1]
   refine Ws ((hT ht).trans ?_) (aA (Xv hr rfl (aG ht) rfl (by rw[hlen];lia)) (aA (bL (cE (aJ (jV (aG ht) bA bA bA rfl (by rw[sN];exact(if_pos (ll4 k6 rfl)).trans (congrArg (λ s=>some (PV.str s)) k2))) aT) rfl (pQ _ H'))) aO)) ?_
   ·rw[beq_eq_false_iff_ne.mpr (show bI r≠aF (y::r) from k4),decide_eq_true (by rw[hlen];simp only[List.length_cons] at hs;omega)];rfl
   ·rw[List.map_append (l₂:=[bI r])]
    rfl
theorem zK(n:Nat)(H:HostL ls):cG T1 (n+60) "_law_climbed" [.str (aF ls)]=some (.list ((lad ls).map .str)):=by
 have hk:=H.k2;refine aE (zL ls H [] (aF ls) [("told",.str (if gC ls then bI ls.tail else aF ls)),("rungs",.mref 0),("host",.str (aF ls))] (n+15 - ls.length) (zY H) (fG H) rfl rfl (by simp;exact ll3 ‹_› (by rfl))) λ lv' h1 h2=>?_
 rw[aDy (Nat.le_trans hk (Nat.le_trans (by decide) (Nat.le_add_left 15 n)))] at h1
 exact bV zV rfl (aA (aBS (aJ (aG rfl) aT) rfl) (aA (bL (cE (aJ (aG rfl) aT) rfl (pQ _ H))) (aA (zU h1) (bD (cB (aG h2)))))) rfl
noncomputable def Iy(ls:List Str):Bool:=(Txt.join "." ls).cps.toList==(aX ls).tail&&ls.all λ l=>decide (l.length≤1000)
noncomputable def duB(n:Nat)(ls:List Str):Bool:=match cG T1 (n+60) "_law_due" [.list (ls.map .str)] with
 | some (.list xs)=>(match cC xs with
  | some ss=>decide (ss.map (·.cps.toList)=(lad ls).map (·.cps.toList))
  | none=>false)
 | _=>false
theorem c3a:eF Iy ⟨#[97]⟩=true:=by kernel_rfl
theorem c3b:eF Iy ⟨#[99,32,100,39]⟩=true:=by kernel_rfl
theorem c3c:eF Iy ⟨#[108,111,99,97,108]⟩=true:=by kernel_rfl
theorem c3d:eF Iy ⟨#[55]⟩=true:=by kernel_rfl
theorem c4a(n:Nat):eF (duB n) ⟨#[97]⟩=true:=by kernel_rfl
theorem c4b(n:Nat):eF (duB n) ⟨#[99,32,100,39]⟩=true:=by kernel_rfl
theorem c4c(n:Nat):eF (duB n) ⟨#[108,111,99,97,108]⟩=true:=by kernel_rfl
theorem c4d(n:Nat):eF (duB n) ⟨#[55]⟩=true:=by kernel_rfl
theorem aBZ(H:HostL ls):Txt.join "." ls=aF ls/\(ls.all λ l=>decide (l.length≤1000))=true:=by
 have h:=gT (fW c3a c3b c3c c3d) H;simp only[Iy,Bool.and_eq_true,beq_iff_eq] at h;exact aY (jB (by rw[h.1];rfl)) h.2
theorem mA:∀{xs ys:List Str},xs.map (λ x=>x.cps.toList)=ys.map (λ x=>x.cps.toList)->xs=ys
 | [],[],_=>rfl
 | [],_::_,h=>by cases h
 | _::_,[],h=>by cases h
 | x::r,y::q,h=>by
  simp only[List.map_cons,List.cons.injEq] at h;simp only[jB h.1,mA h.2]
set_option tactic.hygienic true in
theorem Jh(n:Nat)(H:HostL ls):cG T1 (n+60) "_law_due" [.list (ls.map .str)]=some (.list ((lad ls).map .str)):=by
 have h:=gT (fW (P:=λ a=>eF (duB n) a=true) (c4a n) (c4b n) (c4c n) (c4d n)) H;unfold duB at h;split at h
 ·rename_i xs e;split at h
  ·rename_i ss e2;simp only[e,uZ e2,mA (of_decide_eq_true h)]
  ·exact nft h
 ·exact nft h
theorem Rt(H:HostL ls):jQ .join (.str ".") [.list (ls.map .str)]=some (.str (aF ls)):=by
 refine aK (aBZ H) λ h1 h2=>?_;have h3:ls.length≤100:=by have:=H.k2;exact ll4 ‹_› (by rfl)
 have h4:((".":Str)).length≤100:=by decide +kernel
 simp only[aCq,aCr,aCs,aCt,aCu,aCv,aCw,dQ,Option.bind_some,h3,h4,h2,and_self,if_true,h1]
theorem Nl:∀(xs:List α),xs.length≤4->eE xs none none (some (-1))=xs.reverse :=
 lL4 (by kernel_rfl) (λ _=>by kernel_rfl) (λ _ _=>by kernel_rfl) (λ _ _ _=>by kernel_rfl) λ _ _ _ _=>by kernel_rfl
section
theorem oZ{F:PV->Option (List PV)}{f:α->PV}{g:α->List PV}{l:List α}(h:∀ y∈l,F (f y)=some (g y)):fE F (l.map f)=some (l.flatMap g):=by
 induction l with
 | nil=>rfl
 | cons x r ih =>
  simp only[List.map_cons,fE,h x (.head _),ih λ y hy=>h y (.tail _ hy)]
  rfl
omit T n lv lv' σ σ' in
theorem wJ{g:α->PV}{l:List α}:(l.flatMap λ y=>[g y])=l.map g:=by
 induction l with
 | nil=>rfl
 | cons a r ih=>simp only[List.flatMap_cons,ih];rfl
theorem nJ{fr:List Str}{elt:Ex}{it:It}{l:List α}{f g:α->PV}{lvc:LV}(h1:eH T (n+1) it lv σ=some (l.map f))(h2:iA fr lv=some lvc)(h3:lvc.lookup x=none)(h4:∀ y∈l,ev T n elt ((x,f y)::lvc) []=some (g y)/\fzv (g y)=some (g y))(hl:l.length<100000):ev T (n+2) (.comp fr elt [.mk (.n x) it []]) lv σ=some (.list (l.map g)):=by
 simp only[Uz,h1,h2];show(fE (λ x_1=>(bindC (.n x) x_1 lvc).bind λ lv'=>(dM T (n+1) .And [] lv' []).bind λ c=>if c=true then iV T (n+1) elt [] lv' else some []) (l.map f)).bind _=_
 rw[oZ (g:=λ y=>[g y]) λ y hy=>by
  refine aK (h4 y hy) λ e1 e2=>?_;simp only[bindC,h3,Option.isNone_none,if_true,Option.bind_some,aDm,aDo,e1,Option.bind_eq_bind,e2,Option.pure_def]]
 simp only[wJ];exact if_pos ((List.length_map _).symm▸hl)
end
theorem Js:T1.fn "_law_parts"=some oH:=by kernel_rfl
noncomputable def uG(y:Int):Str:=(bT[(Int.fmod y 4).toNat]?).getD ⟨#[97]⟩
theorem iG(y:Int):Int.fmod y 4=0∨Int.fmod y 4=1∨Int.fmod y 4=2∨Int.fmod y 4=3:=by
 have h1:=Int.fmod_nonneg_of_pos y (b:=4) (by decide)
 have h2:=Int.fmod_lt_of_pos y (b:=4) (by decide)
 lia
theorem Kw(y:Int):uG y∈bT:=by
 unfold uG;rcases iG y with h|h|h|h<;>rw[h]
 ·exact .head _
 ·exact .tail _ (.head _)
 ·exact .tail _ (.tail _ (.head _))
 ·exact .tail _ (.tail _ (.tail _ (.head _)))
noncomputable abbrev rQ:PV:=.list [.str "a",.str "c d'",.str "local",.str "7"]
theorem Cp(y:Int):dU rQ (.int (Int.fmod y 4))=some (.str (uG y)):=by
 unfold uG;rcases iG y with h|h|h|h<;>rw[h]<;>rfl
noncomputable def nS(x:Int):List Str:=(List.range ((Int.fmod x 4).toNat+1)).map λ k=>uG (Int.fdiv x (4 ^ (k+1)))
noncomputable abbrev paE:Ex:=(.sub (.v "table") (.bin .Mod (.bin .FloorDiv (.v "number") (.bin .Pow (.c (.int 4)) (.bin .Add (.v "k") (.c (.int 1))))) (.c (.int 4))))
noncomputable abbrev paL(x k:Int):LV:=[("k",.int k),("number",.int x),("table",rQ)]
theorem pa0(n:Nat)(x:Int):ev T1 (n+20) paE (paL x 0) []=dU rQ (.int (Int.fmod (Int.fdiv x (4 ^ 1)) 4)):=by kernel_rfl
theorem pa1(n:Nat)(x:Int):ev T1 (n+20) paE (paL x 1) []=dU rQ (.int (Int.fmod (Int.fdiv x (4 ^ 2)) 4)):=by kernel_rfl
theorem pa2(n:Nat)(x:Int):ev T1 (n+20) paE (paL x 2) []=dU rQ (.int (Int.fmod (Int.fdiv x (4 ^ 3)) 4)):=by kernel_rfl
theorem pa3(n:Nat)(x:Int):ev T1 (n+20) paE (paL x 3) []=dU rQ (.int (Int.fmod (Int.fdiv x (4 ^ 4)) 4)):=by kernel_rfl
theorem Gh(b:Int):eN 0 b=(List.range b.toNat).map λ(k:Nat)=>PV.int k:=by
 unfold eN;rw[Int.sub_zero];exact List.map_congr_left λ k _=>by rw[Int.zero_add]
theorem Ao(n:Nat)(x:Int):cG T1 (n+40) "_law_parts" [.int x]=some (.list ((nS x).map .str)):=by
 have hb:0≤Int.fmod x 4+1/\Int.fmod x 4+1<1000/\Int.fmod x 4+1≤4:=by rcases iG x with h|h|h|h<;>omega
 refine bV Js rfl (aA (bL (v:=rQ) (by kernel_rfl)) (bD (cB (nJ (l:=List.range (Int.fmod x 4+1).toNat) (f:=λ k=>.int k) (g:=λ k=>.str (uG (Int.fdiv x (4 ^ (k+1))))) (lvc:=[("number",.int x),("table",rQ)])
  ?_ (by kernel_rfl) (by kernel_rfl) (λ k hy=>?_) ?_)))) ?_
 ·have h1:evs T1 (n+34) [.bin .Add (.bin .Mod (.v "number") (.c (.int 4))) (.c (.int 1))] [("table",rQ),("number",.int x)] []=some [.int (Int.fmod x 4+1)]:=by kernel_rfl
  show eH T1 (n+34+1) _ [("table",rQ),("number",.int x)] []=_;dsimp only [aDn,h1];show(if _ then some (eN 0 _) else none)=_
  rw[if_pos ⟨hb.1,hb.2.1⟩,Gh]
 ·have hk:k≤3:=by have:=List.mem_range.mp hy;omega
  exact aLS (M:=λ k=>ev T1 (n+34) paE (paL x k) []=some (.str (uG (Int.fdiv x (4 ^ (k+1)))))/\fzv (.str (uG (Int.fdiv x (4 ^ (k+1)))))=some (.str (uG (Int.fdiv x (4 ^ (k+1)))))) (aLS (aLS (aL0 ⟨(pa0 (n+14) x).trans (Cp _),rfl⟩) ⟨(pa1 (n+14) x).trans (Cp _),rfl⟩) ⟨(pa2 (n+14) x).trans (Cp _),rfl⟩) ⟨(pa3 (n+14) x).trans (Cp _),rfl⟩ k hk
 ·rw[List.length_range];omega
 ·have:(Int.fmod x 4+1).toNat=(Int.fmod x 4).toNat+1:=by
   have h0:=Int.fmod_nonneg_of_pos x (b:=4) (by decide)
   generalize Int.fmod x 4=m at h0
   lia
  rw[this];unfold nS;rw[List.map_map]
  rfl
structure Cfg where
 posix:Bool
 eof:PV
 wc:Str
 ws:Str
 qu:Str
noncomputable def shO(c:Cfg)(st:PV)(tok:Str):MObj:=.inst 779 [("instream",.mref 1),("infile",.none),("posix",.bool c.posix),("eof",c.eof),("commenters",.str ⟨#[]⟩),("wordchars",.str c.wc),("whitespace",.str c.ws),("whitespace_split",.bool true),("quotes",.str c.qu),("escape",.str ⟨#[92]⟩),
 ("escapedquotes",.str ⟨#[34]⟩),("state",st),("pushback",.obj "collections.deque"),("lineno",.int 1),("debug",.int 0),("token",.str tok),("filestack",.obj "collections.deque"),("source",.none),("_punctuation_chars",.str ⟨#[]⟩)]
noncomputable def ioO(buf:Str)(pos:Nat):MObj:=.inst 644 [("_StringIO__newline",.str ⟨#[10]⟩),("_StringIO__buf",.str buf),("_StringIO__pos",.int pos)]
noncomputable def wcL:Str:=⟨#[97,98,99,100,102,101,103,104,105,106,107,108,109,110,111,112,113,114,115,116,117,118,119,120,121,122,65,66,67,68,69,70,71,72,73,74,75,76,77,78,79,80,81,82,83,84,85,86,87,88,89,90,48,49,50,51,52,53,54,55,56,57,95]⟩
noncomputable def wcS:Str:=⟨#[97,98,99,100,102,101,103,104,105,106,107,108,109,110,111,112,113,114,115,116,117,118,119,120,121,122,65,66,67,68,69,70,71,72,73,74,75,76,77,78,79,80,81,82,83,84,85,86,87,88,89,90,48,49,50,51,52,53,54,55,56,57,95,223,224,225,226,227,228,229,230,231,232,233,234,235,236,237,238,239,240,241,242,243,244,245,246,248,249,250,251,252,253,254,255,192,193,194,195,196,197,198,199,200,201,202,203,204,205,206,207,208,209,210,211,212,213,214,216,217,218,219,220,221,222]⟩
noncomputable def rE:Cfg:=⟨false,.str ⟨#[]⟩,wcL,⟨#[46]⟩,⟨#[]⟩⟩
noncomputable def eQ:Cfg:=⟨true,.none,wcS,⟨#[32,9,13,10]⟩,⟨#[39,34]⟩⟩
noncomputable abbrev spS:Str:=⟨#[32]⟩
theorem Yl(x:Str):exs T0 198 (kU.body.take 5) [("host",.str x)] []=(some (Fl.next,([("lexer",.mref 0),("host",.str x)]:LV),([shO rE (.str spS) ⟨#[]⟩,ioO x 0]:List MObj)):R3):=by kernel_rfl
noncomputable def aCI:MObj:=.inst 779 [("instream",.mref 1),("infile",.none),("posix",.bool true),("eof",.none),("commenters",.str "#"),("wordchars",.str wcS),("whitespace",.str ⟨#[32,9,13,10]⟩),("whitespace_split",.bool false),("quotes",.str ⟨#[39,34]⟩),("escape",.str ⟨#[92]⟩),
 ("escapedquotes",.str ⟨#[34]⟩),("state",.str spS),("pushback",.obj "collections.deque"),("lineno",.int 1),("debug",.int 0),("token",.str ⟨#[]⟩),("filestack",.obj "collections.deque"),("source",.none),("_punctuation_chars",.str ⟨#[]⟩)]
theorem Rm(x:Str):(exs T0 190 eY.body (Ea (.str x)) [.inst 779 []]).map (λ r=>(match r.1 with|.next=>true|_=>false,r.2.2))=some (true,[aCI,ioO x 0]):=by kernel_rfl
theorem Rn(x:Str):exs T0 197 ((jG.body.drop 2).take 2) (("lex",.mref 0)::kE (.str x)) [aCI,ioO x 0]=(some (Fl.next,(("lex",.mref 0)::kE (.str x):LV),([shO eQ (.str spS) ⟨#[]⟩,ioO x 0]:List MObj)):R3):=by kernel_rfl
theorem Lp:T0.mth 644 "read"=some jH:=by kernel_rfl
theorem aAA(n:Nat)(lv:LV)(h:lv.lookup ("size":Str)=some (.int 1))(σ:List MObj):ex T0 (n+40) (.asg "size" (.call "_index" [(.v "size"),(.c (.str "StringIO.read of a size that is no exact int"))])) lv σ=nxt ((("size":Str),PV.int 1)::lv) σ:=by
 have hc:cG T0 (n+38) "_index" [.int 1,.str "StringIO.read of a size that is no exact int"]=some (.int 1):=by kernel_rfl
 exact bL (cE (aJ (aG h) (aJ bA aT)) rfl hc)
noncomputable abbrev Nq:LV:=[("size",.int 1),("self",.mref 1)]
noncomputable abbrev Ti:LV:=[("size",.int 1),("size",.int 1),("self",.mref 1)]
noncomputable abbrev aCz(pos:Nat):LV:=[("start",.int pos),("size",.int 1),("size",.int 1),("self",.mref 1)]
noncomputable abbrev Aw(pos len:Nat):LV:=[("stop",.int len),("start",.int pos),("size",.int 1),("size",.int 1),("self",.mref 1)]
noncomputable abbrev aDR(pos len:Nat):LV:=[("stop",.int (pos+1)),("stop",.int len),("start",.int pos),("size",.int 1),("size",.int 1),("self",.mref 1)]
theorem aAJ{p}(h:p<x.cps.size):Txt.slice x (some (p:Int)) (some ((p:Int)+1))=⟨#[x.cps[p]]⟩:=by
 have e:Txt.slice x (some (p:Int)) (some ((p:Int)+1))=StrLaws.sliceText x (some (p:Int)) (some ((p+1:Nat):Int)):=rfl;simp only[e,StrLaws.sliceText_nat x (Nat.le_succ p) h];refine jB ?_;show((x.cps.toList.drop p).take (p+1 - p)).toArray.toList=[x.cps[p]];have:p+1 - p=1:=by lia
 simp only[this,List.drop_eq_getElem_cons (h)];simp
theorem Oo(c:Nat):Txt.slice ((⟨#[c]⟩:Str)++" ") none (some (-1))=⟨#[c]⟩:=by kernel_rfl
theorem aCc(c:Nat):((⟨#[c]⟩:Str)++(" ":Str)).length≤100000:=by
 rw[size_cat];have:(" ":Str).length=1:=by decide +kernel
 show 1+_≤_;exact Nat.le_add_left _ _
theorem aAa(c:Nat):(⟨#[c]⟩:Str).length+(" ":Str).length≤100000:=by
 have:(" ":Str).length=1:=by decide +kernel
 show 1+_≤_;exact Nat.le_add_left _ _
theorem Wa(n:Nat)(sh:MObj){buf pos}(lv:LV)(hs:lv.lookup ("self":Str)=some (.mref 1)):ev T0 (n+2) (.at (.v "self") "_StringIO__buf") lv [sh,ioO buf pos]=some (.str buf) :=
 aBR (aG hs) rfl (by kernel_rfl) (by kernel_rfl)
theorem Yn(n:Nat)(sh:MObj){buf pos}(lv:LV)(hs:lv.lookup ("self":Str)=some (.mref 1))(hl:buf.length<100000):ev T0 (n+10) (.bi .len (.at (.v "self") "_StringIO__buf")) lv [sh,ioO buf pos]=some (.int buf.length) :=
 eT (Wa (n+7) sh lv hs) rfl ((kA buf).trans (if_pos (ll1 hl rfl)))
theorem Tj(n:Nat)(sh:MObj)(buf:Str)(pos:Nat)(hl:buf.length<100000):∃ lv,exs T0 (n+50) jH.body Nq [sh,ioO buf pos]=some (.ret (.str (if h:pos<buf.cps.size then⟨#[buf.cps[pos]]⟩ else⟨#[]⟩)),lv,[sh,ioO buf (if pos<buf.cps.size then pos+1 else pos)]):=by
 have e1:ex T0 (n+49) (.ite (.cmp .Is (.v "size") (.c .none)) [(.asg "size" (.neg (.c (.int 1))))] []) Nq [sh,ioO buf pos]=nxt Nq [sh,ioO buf pos]:=by kernel_rfl
 have e2:ex T0 (n+48) _ Nq [sh,ioO buf pos]=nxt Ti [sh,ioO buf pos]:=aAA (n+8) Nq rfl [sh,ioO buf pos];have e3:ex T0 (n+47) (.mcall none (.v "self") "_StringIO__check" []) Ti [sh,ioO buf pos]=nxt Ti [sh,ioO buf pos]:=by kernel_rfl
 have e4:ex T0 (n+46) (.asg "start" (.at (.v "self") "_StringIO__pos")) Ti [sh,ioO buf pos]=nxt (aCz pos) [sh,ioO buf pos]:=by kernel_rfl
 have e5:ex T0 (n+45) (.asg "stop" (.bi .len (.at (.v "self") "_StringIO__buf"))) (aCz pos) [sh,ioO buf pos]=nxt (Aw pos buf.length) [sh,ioO buf pos]:=bL (Yn (n+34) sh _ rfl hl);have t6:evT T0 (n+43) (.cmp .GtE (.v "start") (.v "stop")) (Aw pos buf.length) [sh,ioO buf pos]=some (decide ((buf.length:Int)≤pos)):=by kernel_rfl
 by_cases hp:pos<buf.cps.size
 ·have hd:decide ((buf.length:Int)≤pos)=false:=decide_eq_false (by show ¬ ((buf.cps.size:Nat):Int)≤pos;lia)
  rw[hd] at t6;rw[dif_pos hp,if_pos hp];have hb:buf.length≤100000:=by exact ll2 ‹_› (by rfl)
  have e6:∀ b,ex T0 (n+44) (.ite (.cmp .GtE (.v "start") (.v "stop")) [b] []) (Aw pos buf.length) [sh,ioO buf pos]=nxt (Aw pos buf.length) [sh,ioO buf pos]:=λ b=>aC t6 aO;have t7:evT T0 (n+42) (.bop .And [(.cmp .GtE (.v "size") (.c (.int 0))),(.cmp .Lt (.bin .Add (.v "start") (.v "size")) (.v "stop"))]) (Aw pos buf.length) [sh,ioO buf pos]=some (decide ((pos:Int)+1<buf.length)):=by
   exact cP (x:=true) (aL (aG rfl) bA rfl) (aL (eI (aG rfl) (aG rfl) rfl rfl rfl) (aG rfl) rfl)
  have hst:∃ lvx,ex T0 (n+43) (.ite (.bop .And [(.cmp .GtE (.v "size") (.c (.int 0))),(.cmp .Lt (.bin .Add (.v "start") (.v "size")) (.v "stop"))]) [(.asg "stop" (.bin .Add (.v "start") (.v "size")))] []) (Aw pos buf.length) [sh,ioO buf pos]=nxt lvx [sh,ioO buf pos] /\
    lvx.lookup ("stop":Str)=some (.int ((pos:Int)+1))/\lvx.lookup ("start":Str)=some (.int pos)/\lvx.lookup ("self":Str)=some (.mref 1):=by
   by_cases hc:(pos:Int)+1<buf.length
   ·rw[decide_eq_true hc] at t7;exact yM (aDR pos buf.length) (aC t7 (aA (by kernel_rfl) aO)) (by kernel_rfl) (by kernel_rfl) (by kernel_rfl)
   ·rw[decide_eq_false hc] at t7;have hz:(buf.length:Int)=(pos:Int)+1:=by
     have:buf.length=buf.cps.size:=rfl
     lia
    refine yM (Aw pos buf.length) (aC t7 aO) ?_ (by kernel_rfl) (by kernel_rfl)
    rw[<- hz]
    kernel_rfl
  refine rB hst ?_;intro lvx e7 k1 k2 k3;have e8:ex T0 (n+42) (.sat "self" "_StringIO__pos" (.v "stop")) lvx [sh,ioO buf pos]=nxt lvx [sh,ioO buf (pos+1)] :=
   (pK (aG k1) k3 rfl (by kernel_rfl) rfl).trans (by kernel_rfl)
  have e9:ev T0 (n+40) (.sl (.bin .Add (.sl (.at (.v "self") "_StringIO__buf") (.v "start") (.v "stop") (.c .none)) (.c (.str " "))) (.c .none) (.neg (.c (.int 1))) (.c .none)) lvx [sh,ioO buf (pos+1)]=some (.str ⟨#[buf.cps[pos]]⟩) :=
   jV (eI (jV (Wa (n+36) sh lvx k3) (aG k2) (aG k1) bA rfl ((if_pos (e:=none) hb).trans (congrArg (λ s=>some (PV.str s)) (aAJ hp)))) bA rfl rfl (if_pos (e:=none) (aAa buf.cps[pos]))) bA (xq4.trans (bb bA rfl)) bA rfl ((if_pos (e:=none) (aCc buf.cps[pos])).trans (congrArg (λ s=>some (PV.str s)) (Oo _)))
  exact bM _ (aA e1 (aA e2 (aA e3 (aA e4 (aA e5 (aA (e6 _) (aA e7 (aA e8 (bD (cB e9))))))))))
 ·have hd:decide ((buf.length:Int)≤pos)=true:=decide_eq_true (by show((buf.cps.size:Nat):Int)≤pos;omega)
  rw[hd] at t6;rw[dif_neg hp,if_neg hp];exact bM _ (aA e1 (aA e2 (aA e3 (aA e4 (aA e5 (bD (aC t6 (bD (cB (by kernel_rfl))))))))))
section
noncomputable def lN:List Sx:=match cY.body with
 | [_,_,.whl _ b,_,_,_,_,_]=>b
 | _=>[]
theorem Az:cY.body=[.asg "quoted" (.c (.bool false)),.asg "escapedstate" (.c (.str " ")),.whl (.c (.bool true)) lN]++cY.body.drop 3:=by kernel_rfl
structure LvR(lv:LV)(q:Bool):Prop where
 self:lv.lookup ("self":Str)=some (.mref 0)
 qd:lv.lookup ("quoted":Str)=some (.bool q)
theorem LvR.next{q}(h:LvR lv q)(v:PV):LvR (("nextchar",v)::lv) q:=⟨by simp only[List.lookup,cR,String.reduceBEq,h.self],by simp only[List.lookup,cR,String.reduceBEq,h.qd]⟩
theorem LvR.quote{q}(h:LvR lv q)(b:Bool):LvR (("quoted",PV.bool b)::lv) b:=⟨by simp only[List.lookup,cR,String.reduceBEq,h.self],by simp only[List.lookup,cR,String.reduceBEq]⟩
theorem Wh:T0.plain 779 "state"=true:=by kernel_rfl
theorem aEU:T0.plain 779 "whitespace"=true:=by kernel_rfl
theorem aEL:T0.plain 779 "commenters"=true:=by kernel_rfl
theorem aEQ:T0.plain 779 "posix"=true:=by kernel_rfl
theorem aEO:T0.plain 779 "escape"=true:=by kernel_rfl
theorem aEN:T0.plain 779 "escapedquotes"=true:=by kernel_rfl
theorem aET:T0.plain 779 "wordchars"=true:=by kernel_rfl
theorem aER:T0.plain 779 "quotes"=true:=by kernel_rfl
theorem aES:T0.plain 779 "whitespace_split"=true:=by kernel_rfl
theorem Wi:T0.plain 779 "token"=true:=by kernel_rfl
theorem aEM:T0.plain 779 "debug"=true:=by kernel_rfl
theorem aEP:T0.plain 779 "instream"=true:=by kernel_rfl
section
variable{q:Bool}{c:Cfg}{st:PV}
theorem Il(h:LvR lv q):ev T0 (n+10) (.at (.v "self") "state") lv [shO c st tok,io]=eM (some st) :=
 (dN (aG h.self) rfl (by kernel_rfl)).trans (by kernel_rfl)
theorem aBM(h:LvR lv q):ev T0 (n+10) (.at (.v "self") "whitespace") lv [shO c st tok,io]=some (.str c.ws) :=
 (dN (aG h.self) rfl (by kernel_rfl)).trans (by kernel_rfl)
theorem aBF(h:LvR lv q):ev T0 (n+10) (.at (.v "self") "commenters") lv [shO c st tok,io]=some (.str ⟨#[]⟩) :=
 (dN (aG h.self) rfl (by kernel_rfl)).trans (by kernel_rfl)
theorem aBJ(h:LvR lv q):ev T0 (n+10) (.at (.v "self") "posix") lv [shO c st tok,io]=some (.bool c.posix) :=
 (dN (aG h.self) rfl (by kernel_rfl)).trans (by kernel_rfl)
theorem Vt(h:LvR lv q):ev T0 (n+10) (.at (.v "self") "escape") lv [shO c st tok,io]=some (.str ⟨#[92]⟩) :=
 (dN (aG h.self) rfl (by kernel_rfl)).trans (by kernel_rfl)
theorem aBG(h:LvR lv q):ev T0 (n+10) (.at (.v "self") "escapedquotes") lv [shO c st tok,io]=some (.str ⟨#[34]⟩) :=
 (dN (aG h.self) rfl (by kernel_rfl)).trans (by kernel_rfl)
theorem aBL(h:LvR lv q):ev T0 (n+10) (.at (.v "self") "wordchars") lv [shO c st tok,io]=some (.str c.wc) :=
 (dN (aG h.self) rfl (by kernel_rfl)).trans (by kernel_rfl)
theorem Vv(h:LvR lv q):ev T0 (n+10) (.at (.v "self") "quotes") lv [shO c st tok,io]=some (.str c.qu) :=
 (dN (aG h.self) rfl (by kernel_rfl)).trans (by kernel_rfl)
theorem aBK(h:LvR lv q):ev T0 (n+10) (.at (.v "self") "whitespace_split") lv [shO c st tok,io]=some (.bool true) :=
 (dN (aG h.self) rfl (by kernel_rfl)).trans (by kernel_rfl)
theorem Im(h:LvR lv q):ev T0 (n+10) (.at (.v "self") "token") lv [shO c st tok,io]=some (.str tok) :=
 (dN (aG h.self) rfl (by kernel_rfl)).trans (by kernel_rfl)
theorem Vs(h:LvR lv q):ev T0 (n+10) (.at (.v "self") "debug") lv [shO c st tok,io]=some (.int 0) :=
 (dN (aG h.self) rfl (by kernel_rfl)).trans (by kernel_rfl)
theorem Ik(h:LvR lv q):ev T0 (n+10) (.at (.v "self") "punctuation_chars") lv [shO c st tok,io]=some (.str ⟨#[]⟩) :=
 Uy.trans (bb (aG h.self) (by kernel_rfl))
theorem aBI(h:LvR lv q):ev T0 (n+10) (.at (.v "self") "instream") lv [shO c st tok,io]=some (.mref 1) :=
 (dN (aG h.self) rfl (by kernel_rfl)).trans (by kernel_rfl)
end
end
section
section
end
section
variable{q:Bool}{c:Cfg}{s ch:Str}
theorem zE(h:LvR lv q):ev T0 (n+10) (.at (.v "self") "state") lv [shO c (.str s) tok,io]=some (.str s):=Il h
theorem Gv(h:LvR lv q):evT T0 (n+12) (.cmp .In (.at (.v "self") "state") (.at (.v "self") "quotes")) lv [shO c (.str s) tok,io]=some (Txt.contains c.qu s):=aL (zE h) (Vv h) rfl
theorem Pe(h:LvR lv q)(hn:lv.lookup ("nextchar":Str)=some (.str ch)):evT T0 (n+12) (.cmp .In (.v "nextchar") (.at (.v "self") "whitespace")) lv [shO c (.str s) tok,io]=some (Txt.contains c.ws ch):=aL (aG hn) (aBM h) rfl
end
end
section
noncomputable def gZ:List Sx:=lN.tail
section
variable{q:Bool}{c:Cfg}{s ch:Str}{st:PV}{k:Int}
theorem vA(hn:lv.lookup ("nextchar":Str)=some (.str ch)):evT T0 (n+12) (.cmp .Eq (.v "nextchar") (.c (.str "\n"))) lv σ=some (ch==("\n":Str)):=aL (aG hn) bA rfl
theorem rN(h:LvR lv q)(e:decide (k≤0)=r):evT T0 (n+12) (.cmp .GtE (.at (.v "self") "debug") (.c (.int k))) lv [shO c st tok,io]=some r:=aL (Vs h) bA (by simp only[<- e];rfl)
theorem yG(h:LvR lv q):evT T0 (n+12) (.cmp .Is (.at (.v "self") "state") (.c .none)) lv [shO c (.str s) tok,io]=some false:=aL (zE h) bA rfl
theorem rO(h:LvR lv q):evT T0 (n+12) (.cmp .Eq (.at (.v "self") "state") (.c (.str x))) lv [shO c (.str s) tok,io]=some (s==x):=aL (zE h) bA rfl
theorem Bp{x}(hn:lv.lookup ("nextchar":Str)=some (.str ⟨#[x]⟩)):evT T0 (n+12) (.not (.v "nextchar")) lv σ=some false:=gN (wG hn rfl rfl)
theorem aDX(hn:lv.lookup ("nextchar":Str)=some (.str ⟨#[]⟩)):evT T0 (n+12) (.not (.v "nextchar")) lv σ=some true:=gN (wG hn rfl rfl)
theorem Uf(h:LvR lv q)(hn:lv.lookup ("nextchar":Str)=some (.str ch)):evT T0 (n+12) (.cmp .In (.v "nextchar") (.at (.v "self") "commenters")) lv [shO c st tok,io]=some (Txt.contains ⟨#[]⟩ ch):=aL (aG hn) (aBF h) rfl
theorem aAX(h:LvR lv q)(hn:lv.lookup ("nextchar":Str)=some (.str ch)):evT T0 (n+12) (.cmp .In (.v "nextchar") (.at (.v "self") "wordchars")) lv [shO c st tok,io]=some (Txt.contains c.wc ch):=aL (aG hn) (aBL h) rfl
theorem Uh(h:LvR lv q)(hn:lv.lookup ("nextchar":Str)=some (.str ch)):evT T0 (n+12) (.cmp .In (.v "nextchar") (.at (.v "self") "quotes")) lv [shO c st tok,io]=some (Txt.contains c.qu ch):=aL (aG hn) (Vv h) rfl
theorem Ug(h:LvR lv q)(hn:lv.lookup ("nextchar":Str)=some (.str ch)):evT T0 (n+12) (.cmp .In (.v "nextchar") (.at (.v "self") "escape")) lv [shO c st tok,io]=some (Txt.contains ⟨#[92]⟩ ch):=aL (aG hn) (Vt h) rfl
theorem aDY(h:LvR lv q)(hn:lv.lookup ("nextchar":Str)=some (.str ch)):evT T0 (n+12) (.cmp .In (.v "nextchar") (.at (.v "self") "punctuation_chars")) lv [shO c st tok,io]=some (Txt.contains ⟨#[]⟩ ch):=aL (aG hn) (Ik h) rfl
theorem aCK(h:LvR lv q)(hn:lv.lookup ("nextchar":Str)=some (.str ch)):evT T0 (n+12) (.cmp .NotIn (.v "nextchar") (.at (.v "self") "punctuation_chars")) lv [shO c st tok,io]=some (!Txt.contains ⟨#[]⟩ ch):=aL (aG hn) (Ik h) rfl
theorem rP(h:LvR lv q):evT T0 (n+12) (.at (.v "self") "posix") lv [shO c st tok,io]=some c.posix:=kJ (aBJ h) rfl rfl
theorem aDZ(h:LvR lv q):evT T0 (n+12) (.at (.v "self") "whitespace_split") lv [shO c st tok,io]=some true:=kJ (aBK h) rfl rfl
theorem Dy(h:LvR lv q):evT T0 (n+12) (.cmp .In (.at (.v "self") "state") (.at (.v "self") "escape")) lv [shO c (.str s) tok,io]=some (Txt.contains ⟨#[92]⟩ s):=aL (zE h) (Vt h) rfl
theorem aCN(h:LvR lv q):evT T0 (n+12) (.cmp .In (.at (.v "self") "state") (.at (.v "self") "escapedquotes")) lv [shO c (.str s) tok,io]=some (Txt.contains ⟨#[34]⟩ s):=aL (zE h) (aBG h) rfl
theorem aCL(h:LvR lv q)(hn:lv.lookup ("nextchar":Str)=some (.str ch)):evT T0 (n+12) (.cmp .Eq (.v "nextchar") (.at (.v "self") "state")) lv [shO c (.str s) tok,io]=some (ch==s):=aL (aG hn) (zE h) rfl
theorem aBQ:ev T0 (n+10) (.tuple [(.c (.str "a")),(.c (.str "c"))]) lv σ=some (.tuple [.str "a",.str "c"]):=by kernel_rfl
theorem Ue(h:LvR lv q):evT T0 (n+12) (.cmp .In (.at (.v "self") "state") (.tuple [(.c (.str "a")),(.c (.str "c"))])) lv [shO c (.str s) tok,io]=some ([("a":Str),"c"].any (·==s)):=aL (zE h) aBQ rfl
theorem aCO(h:LvR lv q)(h1:tok.length≠0)(h2:tok.length<1000000):evT T0 (n+12) (.at (.v "self") "token") lv [shO c st tok,io]=some true:=kJ (Im h) rfl (by simp only[aCm,aCn,aCo,aCp,h2,if_true,h1,ne_eq,not_false_eq_true,decide_true,aCl])
theorem aCM(h:LvR lv q):evT T0 (n+12) (.v "quoted") lv σ=some q:=wG h.qd rfl rfl
theorem Wr(h:LvR lv q){x}(hn:lv.lookup ("nextchar":Str)=some (.str ⟨#[x]⟩))(hl:tok.length+1≤100000):ex T0 (n+20) (.saug "self" "token" .Add (.v "nextchar")) lv [shO c st tok,io]=nxt lv [shO c st (tok++⟨#[x]⟩),io] :=
 (Qw (aG hn) h.self rfl Wi rfl rfl hl).trans (by kernel_rfl)
theorem Uq(h:LvR lv q){v}:ex T0 (n+20) (.sat "self" "state" (.c v)) lv [shO c st tok,io]=nxt lv [shO c v tok,io] :=
 (pK bA h.self rfl Wh rfl).trans (by kernel_rfl)
theorem aC5(h:LvR lv q){v}(hn:lv.lookup ("nextchar":Str)=some v):ex T0 (n+20) (.sat "self" "state" (.v "nextchar")) lv [shO c st tok,io]=nxt lv [shO c v tok,io] :=
 (pK (aG hn) h.self rfl Wh rfl).trans (by kernel_rfl)
theorem aD6(h:LvR lv q)(hn:lv.lookup ("nextchar":Str)=some (.str ch)):ex T0 (n+20) (.sat "self" "token" (.v "nextchar")) lv [shO c st tok,io]=nxt lv [shO c st ch,io] :=
 (pK (aG hn) h.self rfl Wi rfl).trans (by kernel_rfl)
theorem Hb(h:LvR lv q){x}(hn:lv.lookup ("nextchar":Str)=some (.str ⟨#[x]⟩))(hl:tok.length+1≤100000)(h1:((⟨#[x]⟩:Str)==("\n":Str))=false)(h2:Txt.contains c.ws ⟨#[x]⟩=false)(h3:Txt.contains ⟨#[]⟩ ⟨#[x]⟩=false)(h4:(c.posix&&Txt.contains c.qu ⟨#[x]⟩)=false)(h5:Txt.contains ⟨#[92]⟩ ⟨#[x]⟩=false)(h6:Txt.contains c.qu "a"=false) :
  exs T0 (n+70) gZ lv [shO c (.str "a") tok,io]=nxt lv [shO c (.str "a") (tok++⟨#[x]⟩),io]:=by
 refine aA (aC (c:=false) ((vA hn).trans (by rw[h1])) aO) ?_
 refine aA (aC (c:=false) (rN h rfl) aO) ?_;refine aD (aC (c:=false) (yG h) ?_);refine aD (aC (c:=false) ((rO h).trans (by decide +kernel)) ?_)
 refine aD (aC (c:=false) ((Gv h).trans (by rw[h6])) ?_)
 refine aD (aC (c:=false) ((Dy h).trans (by decide +kernel)) ?_)
 refine aD (aC (c:=true) ((Ue h).trans (by decide +kernel)) ?_)
 refine aD (aC (c:=false) (Bp hn) ?_);refine aD (aC (c:=false) ((Pe h hn).trans (by rw[h2])) ?_)
 refine aD (aC (c:=false) ((Uf h hn).trans (by rw[h3])) ?_)
 refine aD (aC (c:=false) ((rO h).trans (by decide +kernel)) ?_)
 refine aD (aC (c:=false) ((cP (rP h) (Uh h hn)).trans (by rw[h4])) ?_)
 refine aD (aC (c:=false) ((cP (rP h) (Ug h hn)).trans (by rw[h5,Bool.and_false])) ?_)
 refine aD (aC (c:=true) ((Ct (aAX h hn) (Uh h hn) (cP (aDZ h) (aCK h hn))).trans (by rw[h3];simp)) ?_)
 exact aD (Wr h hn hl)
end
end
section
noncomputable abbrev zG(lv:LV)(σ:List MObj):R3:=some (.brk,lv,σ)
section
theorem zT:ex T (n+1) .brk lv σ=zG lv σ:=by dsimp only [Vh]
theorem tW{r s}(h:ex T n s lv σ=zG lv' σ'):exs T (n+1) (s::r) lv σ=zG lv' σ':=by
 dsimp only [Vl];simp only[h,Option.bind_eq_bind,Option.bind_some]
end
section
variable{q:Bool}{c:Cfg}{s ch:Str}{st:PV}
noncomputable abbrev lvQ(lv:LV):LV:=("quoted",PV.bool true)::lv
theorem w_q:ex T0 (n+20) (.asg "quoted" (.c (.bool true))) lv σ=nxt (lvQ lv) σ:=bL bA
theorem Bw(h:LvR lv q){x}(hn:lv.lookup ("nextchar":Str)=some (.str ⟨#[x]⟩))(h1:((⟨#[x]⟩:Str)==("\n":Str))=false)(h2:Txt.contains c.ws ⟨#[x]⟩=false)(h3:Txt.contains ⟨#[]⟩ ⟨#[x]⟩=false)(h5:Txt.contains ⟨#[92]⟩ ⟨#[x]⟩=false)(h6:Txt.contains c.wc ⟨#[x]⟩=true) :
  exs T0 (n+70) gZ lv [shO c (.str spS) tok,io]=nxt lv [shO c (.str "a") ⟨#[x]⟩,io]:=by
 refine aA (aC (c:=false) ((vA hn).trans (by rw[h1])) aO) ?_
 refine aA (aC (c:=false) (rN h rfl) aO) ?_;refine aD (aC (c:=false) (yG h) ?_);refine aD (aC (c:=true) ((rO h).trans (by decide +kernel)) ?_)
 refine aD (aC (c:=false) (Bp hn) ?_);refine aD (aC (c:=false) ((Pe h hn).trans (by rw[h2])) ?_)
 refine aD (aC (c:=false) ((Uf h hn).trans (by rw[h3])) ?_)
 refine aD (aC (c:=false) ((cP (rP h) (Ug h hn)).trans (by rw[h5,Bool.and_false])) ?_)
 refine aD (aC (c:=true) ((aAX h hn).trans (by rw[h6])) ?_)
 exact aA (aD6 h hn) (aD (Uq h))
theorem Ha(h:LvR lv q){x}(hn:lv.lookup ("nextchar":Str)=some (.str ⟨#[x]⟩))(hp:c.posix=true)(h1:((⟨#[x]⟩:Str)==("\n":Str))=false)(h2:Txt.contains c.ws ⟨#[x]⟩=false)(h3:Txt.contains ⟨#[]⟩ ⟨#[x]⟩=false)(h5:Txt.contains ⟨#[92]⟩ ⟨#[x]⟩=false)(h6:Txt.contains c.wc ⟨#[x]⟩=false)(h7:Txt.contains c.qu ⟨#[x]⟩=true) :
  exs T0 (n+70) gZ lv [shO c (.str spS) tok,io]=nxt lv [shO c (.str ⟨#[x]⟩) tok,io]:=by
 refine aA (aC (c:=false) ((vA hn).trans (by rw[h1])) aO) ?_
 refine aA (aC (c:=false) (rN h rfl) aO) ?_;refine aD (aC (c:=false) (yG h) ?_);refine aD (aC (c:=true) ((rO h).trans (by decide +kernel)) ?_)
 refine aD (aC (c:=false) (Bp hn) ?_);refine aD (aC (c:=false) ((Pe h hn).trans (by rw[h2])) ?_)
 refine aD (aC (c:=false) ((Uf h hn).trans (by rw[h3])) ?_)
 refine aD (aC (c:=false) ((cP (rP h) (Ug h hn)).trans (by rw[h5,Bool.and_false])) ?_)
 refine aD (aC (c:=false) ((aAX h hn).trans (by rw[h6])) ?_)
 refine aD (aC (c:=false) ((aDY h hn).trans (by rw[h3])) ?_)
 refine aD (aC (c:=true) ((Uh h hn).trans (by rw[h7])) ?_)
 exact aA (aC (c:=false) ((gN (rP h)).trans (by rw[hp];rfl)) aO) (aD (aC5 h hn))
theorem Bv(h:LvR lv q){x}(hn:lv.lookup ("nextchar":Str)=some (.str ⟨#[x]⟩))(hp:c.posix=true)(h1:((⟨#[x]⟩:Str)==("\n":Str))=false)(h2:Txt.contains c.ws ⟨#[x]⟩=false)(h3:Txt.contains ⟨#[]⟩ ⟨#[x]⟩=false)(h4:Txt.contains c.qu ⟨#[x]⟩=true)(h6:Txt.contains c.qu "a"=false) :
  exs T0 (n+70) gZ lv [shO c (.str "a") tok,io]=nxt lv [shO c (.str ⟨#[x]⟩) tok,io]:=by
 refine aA (aC (c:=false) ((vA hn).trans (by rw[h1])) aO) ?_
 refine aA (aC (c:=false) (rN h rfl) aO) ?_;refine aD (aC (c:=false) (yG h) ?_);refine aD (aC (c:=false) ((rO h).trans (by decide +kernel)) ?_)
 refine aD (aC (c:=false) ((Gv h).trans (by rw[h6])) ?_)
 refine aD (aC (c:=false) ((Dy h).trans (by decide +kernel)) ?_)
 refine aD (aC (c:=true) ((Ue h).trans (by decide +kernel)) ?_)
 refine aD (aC (c:=false) (Bp hn) ?_);refine aD (aC (c:=false) ((Pe h hn).trans (by rw[h2])) ?_)
 refine aD (aC (c:=false) ((Uf h hn).trans (by rw[h3])) ?_)
 refine aD (aC (c:=false) ((rO h).trans (by decide +kernel)) ?_)
 refine aD (aC (c:=true) ((cP (rP h) (Uh h hn)).trans (by rw[h4,hp];rfl)) ?_)
 exact aD (aC5 h hn)
theorem Uj(h:LvR lv q){x}(hn:lv.lookup ("nextchar":Str)=some (.str ⟨#[x]⟩))(h1:((⟨#[x]⟩:Str)==("\n":Str))=false)(h2:Txt.contains c.ws ⟨#[x]⟩=true)(h6:Txt.contains c.qu "a"=false)(k1:tok.length≠0)(k2:tok.length<1000000) :
  exs T0 (n+70) gZ lv [shO c (.str "a") tok,io]=zG lv [shO c (.str " ") tok,io]:=by
 refine aA (aC (c:=false) ((vA hn).trans (by rw[h1])) aO) ?_
 refine aA (aC (c:=false) (rN h rfl) aO) ?_;refine aD (aC (c:=false) (yG h) ?_);refine aD (aC (c:=false) ((rO h).trans (by decide +kernel)) ?_)
 refine aD (aC (c:=false) ((Gv h).trans (by rw[h6])) ?_)
 refine aD (aC (c:=false) ((Dy h).trans (by decide +kernel)) ?_)
 refine aD (aC (c:=true) ((Ue h).trans (by decide +kernel)) ?_)
 refine aD (aC (c:=false) (Bp hn) ?_);refine aD (aC (c:=true) ((Pe h hn).trans (by rw[h2])) ?_)
 refine aA (aC (c:=false) (rN h rfl) aO) ?_;refine aA (Uq h) ?_;exact aD (aC (c:=true) ((kZ (aCO h k1 k2) (cP (rP h) (aCM h))).trans (by rw[Bool.true_or])) (tW zT))
theorem Pm(h:LvR lv q)(hn:lv.lookup ("nextchar":Str)=some (.str ⟨#[]⟩))(h6:Txt.contains c.qu "a"=false):exs T0 (n+70) gZ lv [shO c (.str "a") tok,io]=zG lv [shO c .none tok,io]:=by
 refine aA (aC (c:=false) ((vA hn).trans (by decide +kernel)) aO) ?_
 refine aA (aC (c:=false) (rN h rfl) aO) ?_;refine aD (aC (c:=false) (yG h) ?_);refine aD (aC (c:=false) ((rO h).trans (by decide +kernel)) ?_)
 refine aD (aC (c:=false) ((Gv h).trans (by rw[h6])) ?_)
 refine aD (aC (c:=false) ((Dy h).trans (by decide +kernel)) ?_)
 refine aD (aC (c:=true) ((Ue h).trans (by decide +kernel)) ?_)
 refine aD (aC (c:=true) (aDX hn) ?_);exact aA (Uq h) (tW zT)
theorem xH(hn:lv.lookup ("nextchar":Str)=some (.str ch)):(lvQ lv).lookup ("nextchar":Str)=some (.str ch):=by
 simp only[lvQ,List.lookup,cR,String.reduceBEq,hn]
theorem Ui(h:LvR lv q){x}(hn:lv.lookup ("nextchar":Str)=some (.str ⟨#[x]⟩))(hl:tok.length+1≤100000)(h1:((⟨#[x]⟩:Str)==("\n":Str))=false)(h4:Txt.contains c.qu s=true)(h5:Txt.contains ⟨#[92]⟩ ⟨#[x]⟩=false)(h7:(s==spS)=false)(h8:((⟨#[x]⟩:Str)==s)=false) :
  exs T0 (n+70) gZ lv [shO c (.str s) tok,io]=nxt (lvQ lv) [shO c (.str s) (tok++⟨#[x]⟩),io]:=by
 have h':=h.quote true;have hn':=xH hn;refine aA (aC (c:=false) ((vA hn).trans (by rw[h1])) aO) ?_
 refine aA (aC (c:=false) (rN h rfl) aO) ?_;refine aD (aC (c:=false) (yG h) ?_);refine aD (aC (c:=false) ((rO h).trans (congrArg some h7)) ?_);refine aD (aC (c:=true) ((Gv h).trans (by rw[h4])) ?_)
 refine aA w_q ?_;refine aA (aC (c:=false) (Bp hn') aO) ?_;refine aD (aC (c:=false) ((aCL h' hn').trans (by rw[h8])) ?_)
 refine aD (aC (c:=false) ((wF (rP h') (Ug h' hn') (aCN h')).trans (by rw[h5,Bool.false_and,Bool.and_false])) ?_)
 exact aD (Wr h' hn' hl)
theorem Bu(h:LvR lv q){x}(hn:lv.lookup ("nextchar":Str)=some (.str ⟨#[x]⟩))(hp:c.posix=true)(h1:((⟨#[x]⟩:Str)==("\n":Str))=false)(h4:Txt.contains c.qu ⟨#[x]⟩=true)(h7:((⟨#[x]⟩:Str)==spS)=false) :
  exs T0 (n+70) gZ lv [shO c (.str ⟨#[x]⟩) tok,io]=nxt (lvQ lv) [shO c (.str "a") tok,io]:=by
 have h':=h.quote true;have hn':=xH hn;refine aA (aC (c:=false) ((vA hn).trans (by rw[h1])) aO) ?_
 refine aA (aC (c:=false) (rN h rfl) aO) ?_;refine aD (aC (c:=false) (yG h) ?_);refine aD (aC (c:=false) ((rO h).trans (congrArg some h7)) ?_);refine aD (aC (c:=true) ((Gv h).trans (by rw[h4])) ?_)
 refine aA w_q ?_;refine aA (aC (c:=false) (Bp hn') aO) ?_;refine aD (aC (c:=true) ((aCL h' hn').trans (by simp)) ?_)
 refine aD (aC (c:=false) ((gN (rP h')).trans (by rw[hp];rfl)) ?_)
 exact aD (Uq h')
end
end
section
noncomputable def At(buf:Str)(pos:Nat)(rest:List Nat):Prop:=buf.cps.toList.drop pos=rest/\pos≤buf.cps.size
theorem At.here{buf pos x r}(h:At buf pos (x::r)):∃ hp:pos<buf.cps.size,buf.cps[pos]=x/\At buf (pos+1) r:=by
 refine aK h ?_;intro h1 h2;have hp:pos<buf.cps.size:=by
  have:=congrArg List.length h1;simp at this
  omega
 have h3:=List.drop_eq_getElem_cons (l:=buf.cps.toList) (i:=pos) (hp);rw[h1] at h3;simp only[List.cons.injEq] at h3;exact⟨hp,by rw[h3.1];simp,h3.2.symm,hp⟩
theorem At.done{buf pos}(h:At buf pos []):¬ pos<buf.cps.size:=by
 have:=congrArg List.length h.1;simp at this
 omega
noncomputable abbrev rdS:Sx:=.ite (.bop .And [(.at (.v "self") "punctuation_chars"),(.at (.v "self") "_pushback_chars")]) [(.mcall (some "nextchar") (.at (.v "self") "_pushback_chars") "pop" [])] [(.mcall (some "nextchar") (.at (.v "self") "instream") "read" [(.c (.int 1))])]
theorem qC:lN=rdS::gZ:=by kernel_rfl
noncomputable abbrev lvN(x:Str)(lv:LV):LV:=("nextchar",PV.str x)::lv
section
variable{q:Bool}{c:Cfg}{st:PV}{buf:Str}{pos x:Nat}{r:List Nat}
theorem Tk(h:LvR lv q)(hl:buf.length<100000):ex T0 (n+70) (.mcall (some "nextchar") (.at (.v "self") "instream") "read" [(.c (.int 1))]) lv [shO c st tok,ioO buf pos] =
  nxt (lvN (if h:pos<buf.cps.size then⟨#[buf.cps[pos]]⟩ else⟨#[]⟩) lv) [shO c st tok,ioO buf (if pos<buf.cps.size then pos+1 else pos)]:=by
 refine aB (Tj (n+19) (shO c st tok) buf pos hl) λ lv' e=>?_;have e':exs T0 (n+69) jH.body ((jH.ps.zip [.mref 1,.int 1]).reverse) [shO c st tok,ioO buf pos]=_:=e;have a:ev T0 (n+69) (.at (.v "self") "instream") lv [shO c st tok,ioO buf pos]=some (.mref 1):=aBI h;exact pJ a rfl Lp (aJ bA aT) rfl (by kernel_rfl) e'
theorem Ds(h:LvR lv q)(hl:buf.length<100000):ex T0 (n+72) rdS lv [shO c st tok,ioO buf pos] =
  nxt (lvN (if h:pos<buf.cps.size then⟨#[buf.cps[pos]]⟩ else⟨#[]⟩) lv) [shO c st tok,ioO buf (if pos<buf.cps.size then pos+1 else pos)]:=by
 have t:evT T0 (n+71) (.bop .And [(.at (.v "self") "punctuation_chars"),(.at (.v "self") "_pushback_chars")]) lv [shO c st tok,ioO buf pos]=some false:=by
  rw[jK,cZ (b:=false) (kJ (Ik h) rfl rfl)]
  rfl
 exact aC (c:=false) t (aD (Tk h hl))
theorem Dz{R}(h:LvR lv q)(hl:buf.length<100000)(a:At buf pos (x::r))(hR:exs T0 (n+72) gZ (lvN ⟨#[x]⟩ lv) [shO c st tok,ioO buf (pos+1)]=R):exs T0 (n+73) lN lv [shO c st tok,ioO buf pos]=R:=by
 obtain⟨hp,e,_⟩:=a.here;have h1:=Ds (n:=n) (c:=c) (st:=st) (tok:=tok) (pos:=pos) h hl;rw[dif_pos hp,if_pos hp,e] at h1;rw[qC];exact aA h1 hR
theorem yL{R}(h:LvR lv q)(hl:buf.length<100000)(a:At buf pos [])(hR:exs T0 (n+72) gZ (lvN ⟨#[]⟩ lv) [shO c st tok,ioO buf pos]=R):exs T0 (n+73) lN lv [shO c st tok,ioO buf pos]=R:=by
 have hp:=a.done;have h1:=Ds (n:=n) (c:=c) (st:=st) (tok:=tok) (pos:=pos) h hl;rw[dif_neg hp,if_neg hp] at h1;rw[qC];exact aA h1 hR
noncomputable abbrev W(n:Nat)(lv:LV)(σ:List MObj):R3:=cT T0 n (.c (.bool true)) lN lv σ
theorem Xb(h:exs T0 (n+73) lN lv σ=nxt lv' σ'):W (n+74) lv σ=W (n+73) lv' σ':=by
 have t:evT T0 (n+73) (.c (.bool true)) lv σ=some true:=Vx rfl rfl;show cT T0 (n+73+1) _ _ _ _=_;rw[vF];simp only[t,h,Option.bind_eq_bind,Option.bind_some,if_true]
theorem Hs(h:exs T0 (n+73) lN lv σ=zG lv' σ'):W (n+74) lv σ=nxt lv' σ':=by
 have t:evT T0 (n+73) (.c (.bool true)) lv σ=some true:=Vx rfl rfl;show cT T0 (n+73+1) _ _ _ _=_;rw[vF];simp only[t,h,Option.bind_eq_bind,Option.bind_some,if_true]
end
end
section
section
variable{q:Bool}{c:Cfg}{st st':PV}{buf:Str}{pos pos':Nat}
theorem Vu(h:lv.lookup ("self":Str)=some (.mref 0)):ev T0 (n+10) (.at (.v "self") "pushback") lv [shO c st tok,io]=some (.obj "collections.deque") :=
 (dN (aG h) rfl (by kernel_rfl)).trans (by kernel_rfl)
theorem Vw(h:lv.lookup ("self":Str)=some (.mref 0)):ev T0 (n+10) (.at (.v "self") "source") lv [shO c st tok,io]=some .none :=
 (dN (aG h) rfl (by kernel_rfl)).trans (by kernel_rfl)
theorem aBH(h:lv.lookup ("self":Str)=some (.mref 0)):ev T0 (n+10) (.at (.v "self") "filestack") lv [shO c st tok,io]=some (.obj "collections.deque") :=
 (dN (aG h) rfl (by kernel_rfl)).trans (by kernel_rfl)
theorem vS(h:lv.lookup ("self":Str)=some (.mref 0)):ev T0 (n+10) (.at (.v "self") "eof") lv [shO c st tok,io]=eM (some c.eof) :=
 (dN (aG h) rfl (by kernel_rfl)).trans (by kernel_rfl)
theorem Xe(h:lv.lookup ("self":Str)=some (.mref 0)):ev T0 (n+10) (.at (.v "self") "debug") lv [shO c st tok,io]=some (.int 0) :=
 (dN (aG h) rfl (by kernel_rfl)).trans (by kernel_rfl)
theorem Ur(h:LvR lv q):ex T0 (n+20) (.sat "self" "token" (.c (.str ""))) lv [shO c st tok,io]=nxt lv [shO c st ⟨#[]⟩,io] :=
 (pK bA h.self rfl (by kernel_rfl) rfl).trans (by kernel_rfl)
noncomputable def Bb(c:Cfg)(q:Bool)(tok:Str):PV:=if c.posix&&(!q&&tok=="") then .none else .str tok
noncomputable abbrev xI:LV:=[("escapedstate",.str " "),("quoted",.bool false),("self",.mref 0)]
theorem aAh:T0.mth 779 "read_token"=some cY:=by kernel_rfl
theorem aAg:T0.mth 779 "get_token"=some tK:=by kernel_rfl
theorem pN(v:PV)(h:∀ f,v≠.fn f):eM (some v)=some v:=by
 rcases v with⟨⟩<;>first|rfl|exact absurd rfl (h _)
theorem Qf{tok' io'}(h:W 183 xI [shO c st tok,io]=nxt lv' [shO c st' tok',io'])(hq:LvR lv' q):∃ lv2,exs T0 187 cY.body [("self",.mref 0)] [shO c st tok,io]=some (.ret (Bb c q tok'),lv2,[shO c st' ⟨#[]⟩,io']):=by
 have hr:∀ v:PV,LvR ((("result":Str),v)::lv') q:=λ v=>⟨by simp only[List.lookup,cR,String.reduceBEq,hq.self],by simp only[List.lookup,cR,String.reduceBEq,hq.qd]⟩
 have hrr:∀ v:PV,LvR ((("result":Str),PV.none)::(("result":Str),v)::lv') q:=λ v=>⟨by simp only[List.lookup,cR,String.reduceBEq,hq.self],by simp only[List.lookup,cR,String.reduceBEq,hq.qd]⟩
 have hres:∀(v:PV) (l:LV),((("result":Str),v)::l).lookup ("result":Str)=some v:=λ v l=>by simp only[List.lookup,cR,String.reduceBEq]
 have hw:ex T0 184 (.whl (.c (.bool true)) lN) xI [shO c st tok,io]=nxt lv' [shO c st' tok',io']:=zU h;have t1:evT T0 180 (.bop .And [(.at (.v "self") "posix"),(.not (.v "quoted")),(.cmp .Eq (.v "result") (.c (.str "")))]) ((("result":Str),PV.str tok')::lv') [shO c st' ⟨#[]⟩,io']=some (c.posix&&(!q&&tok'==("":Str))) :=
  wF (rP (hr _)) (gN (aCM (hr _))) (aL (aG (hres _ _)) bA rfl)
 have tdb:∀(l:LV),LvR l q->evT T0 179 (.cmp .Gt (.at (.v "self") "debug") (.c (.int 1))) l [shO c st' ⟨#[]⟩,io']=some false:=λ l hl=>aL (Vs hl) bA rfl;rw[Az];unfold Bb;cases hb:(c.posix&&(!q&&tok'==("":Str))) with
 | true =>
  simp only[hb] at t1;exact bM _ (aA (bL bA) (aA (bL bA) (aA hw (aA (bL (Im hq)) (aA (Ur (hr _)) (aA (aC t1 (aA (bL bA) aO)) (aA (aC (tdb _ (hrr _)) aO) (bD (cB (aG (hres _ _)))))))))))
 | false =>
  simp only[hb] at t1;exact bM _ (aA (bL bA) (aA (bL bA) (aA hw (aA (bL (Im hq)) (aA (Ur (hr _)) (aA (aC t1 aO) (aA (aC (tdb _ (hr _)) aO) (bD (cB (aG (hres _ _)))))))))))
noncomputable abbrev gtL(v:PV):LV:=[("raw",v),("self",.mref 0)]
theorem Dt{v io' lv2}(h:exs T0 187 cY.body [("self",.mref 0)] [shO c st tok,io]=some (.ret v,lv2,[shO c st' ⟨#[]⟩,io'])) :
  ex T0 188 (.mcall (some "raw") (.v "self") "read_token" []) [("self",.mref 0)] [shO c st tok,io]=nxt (gtL v) [shO c st' ⟨#[]⟩,io'] :=
 pJ (aG rfl) rfl aAh aT rfl (by kernel_rfl) h
theorem Db{v io' lv2}(h:exs T0 190 tK.body [("self",.mref 0)] [shO c st tok,io]=some (.ret v,lv2,[shO c st' ⟨#[]⟩,io'])) :
  ex T0 191 Gy [("self",.mref 0)] [shO c st tok,io]=nxt ([("token",v),("self",.mref 0)]:LV) [shO c st' ⟨#[]⟩,io'] :=
 pJ (aG rfl) rfl aAg aT rfl (by kernel_rfl) h
theorem Rf{v io' lv2}(h:exs T0 187 cY.body [("self",.mref 0)] [shO c st tok,io]=some (.ret v,lv2,[shO c st' ⟨#[]⟩,io']))(he:∀ f,c.eof≠.fn f)(hv:fK [shO c st' ⟨#[]⟩,io'] .Eq v c.eof=some false) :
  ex T0 191 Gy [("self",.mref 0)] [shO c st tok,io]=nxt ([("token",v),("self",.mref 0)]:LV) [shO c st' ⟨#[]⟩,io']:=by
 have hs:(gtL v).lookup ("self":Str)=some (.mref 0):=by kernel_rfl
 have hr:(gtL v).lookup ("raw":Str)=some v:=by kernel_rfl
 have s1:evT T0 188 (.at (.v "self") "pushback") ([("self",.mref 0)]:LV) [shO c st tok,io]=some false:=kJ (Vu (by kernel_rfl)) rfl rfl
 have s3:evT T0 186 (.cmp .IsNot (.at (.v "self") "source") (.c .none)) (gtL v) [shO c st' ⟨#[]⟩,io']=some false:=aL (Vw hs) bA rfl;have s4:evT T0 184 (.cmp .Eq (.v "raw") (.at (.v "self") "eof")) (gtL v) [shO c st' ⟨#[]⟩,io']=some false:=aL (aG hr) ((vS hs).trans (pN _ he)) hv;have s5:evT T0 184 (.cmp .GtE (.at (.v "self") "debug") (.c (.int 1))) (gtL v) [shO c st' ⟨#[]⟩,io']=some false:=aL (Xe hs) bA rfl;have w4:∀ b,ex T0 186 (.whl (.cmp .Eq (.v "raw") (.at (.v "self") "eof")) b) (gtL v) [shO c st' ⟨#[]⟩,io']=nxt (gtL v) [shO c st' ⟨#[]⟩,io']:=λ b=>by
  rw[Hi,vF,s4]
  rfl
 exact Db (aA (aC s1 aO) (aA (Dt h) (aA (aC s3 aO) (aA (w4 _) (aA (aC s5 aO) (bD (cB (aG hr))))))))
theorem Rd{v io' lv2}(h:exs T0 187 cY.body [("self",.mref 0)] [shO c st tok,io]=some (.ret v,lv2,[shO c st' ⟨#[]⟩,io']))(he:∀ f,c.eof≠.fn f)(hv:fK [shO c st' ⟨#[]⟩,io'] .Eq v c.eof=some true) :
  ex T0 191 Gy [("self",.mref 0)] [shO c st tok,io]=nxt ([("token",c.eof),("self",.mref 0)]:LV) [shO c st' ⟨#[]⟩,io']:=by
 have hs:(gtL v).lookup ("self":Str)=some (.mref 0):=by kernel_rfl
 have hr:(gtL v).lookup ("raw":Str)=some v:=by kernel_rfl
 have s1:evT T0 188 (.at (.v "self") "pushback") ([("self",.mref 0)]:LV) [shO c st tok,io]=some false:=kJ (Vu (by kernel_rfl)) rfl rfl
 have s3:evT T0 186 (.cmp .IsNot (.at (.v "self") "source") (.c .none)) (gtL v) [shO c st' ⟨#[]⟩,io']=some false:=aL (Vw hs) bA rfl;have s4:evT T0 184 (.cmp .Eq (.v "raw") (.at (.v "self") "eof")) (gtL v) [shO c st' ⟨#[]⟩,io']=some true:=aL (aG hr) ((vS hs).trans (pN _ he)) hv;have s6:evT T0 182 (.not (.at (.v "self") "filestack")) (gtL v) [shO c st' ⟨#[]⟩,io']=some true:=gN (kJ (aBH hs) rfl rfl);have w4:∀ b,ex T0 186 (.whl (.cmp .Eq (.v "raw") (.at (.v "self") "eof")) [.ite (.not (.at (.v "self") "filestack")) [.ret (.at (.v "self") "eof")] b]) (gtL v) [shO c st' ⟨#[]⟩,io']=some (.ret c.eof,gtL v,[shO c st' ⟨#[]⟩,io']):=λ b=>by
  rw[Hi,vF,s4];have:=aD (T:=T0) (aC (b:=b) (c:=true) s6 (bD (r:=[]) (cB ((vS hs).trans (pN _ he)))));simp only[Option.bind_eq_bind,Option.bind_some,if_true,this]
 exact Db (aA (aC s1 aO) (aA (Dt h) (aA (aC s3 aO) (bD (w4 _)))))
end
end
noncomputable abbrev T'(l:List Nat):Str:=⟨l.toArray⟩
noncomputable def Run(c:Cfg)(st:PV)(tok:Str)(w:List Nat)(st':PV)(tok':Str):Prop :=
 ∀(buf:Str) (pos:Nat) (rest:List Nat) (lv:LV) (q:Bool) (n:Nat),buf.length<100000->LvR lv q->At buf pos (w++rest) ->
  ∃ lv' q',LvR lv' q'/\W (n+w.length+74) lv [shO c st tok,ioO buf pos]=W (n+74) lv' [shO c st' tok',ioO buf (pos+w.length)]/\At buf (pos+w.length) rest
theorem Run.nil{c st}:Run c st tok [] st tok:=λ buf pos rest lv q n hl h a=>⟨lv,q,h,rfl,a⟩
theorem Run.trans{c st st' st'' tok' tok'' w w'}(a:Run c st tok w st' tok')(b:Run c st' tok' w' st'' tok''):Run c st tok (w++w') st'' tok'':=by
 intro buf pos rest lv q n hl h at1;rw[List.append_assoc] at at1;refine bB (a buf pos (w'++rest) lv q (n+w'.length) hl h at1) λ lv1 q1 h1 e1 a1=>?_;refine bB (b buf (pos+w.length) rest lv1 q1 n hl h1 a1) λ lv2 q2 h2 e2 a2=>?_;refine dR lv2 q2 h2 ?_ ?_
 ·have:n+(w++w').length+74=n+w'.length+w.length+74:=by rw[List.length_append];lia
  rw[this,e1,e2,List.length_append,Nat.add_assoc pos]
 ·rw[List.length_append,<- Nat.add_assoc];exact a2
theorem lO:(lvN x lv).lookup ("nextchar":Str)=some (.str x):=by simp only[lvN,List.lookup,cR,String.reduceBEq]
theorem Run.one{c st st' tok' x}(f:LV->LV)(hf:∀ lv q,LvR lv q->∃ q',LvR (f lv) q')(h:∀(n:Nat) (lv:LV) (q:Bool) (io:MObj),LvR lv q->lv.lookup ("nextchar":Str)=some (.str ⟨#[x]⟩)->exs T0 (n+70) gZ lv [shO c st tok,io]=nxt (f lv) [shO c st' tok',io]):Run c st tok [x] st' tok':=by
 intro buf pos rest lv q n hl hl' a;obtain⟨hp,e,a'⟩:=At.here (r:=rest) a;refine aB (hf _ _ (hl'.next (.str ⟨#[x]⟩))) λ q' hq=>?_;refine dR (f (lvN ⟨#[x]⟩ lv)) q' hq ?_ a';exact Xb (n:=n+1) (Dz hl' hl a (h (n+3) _ q _ (hl'.next _) lO))
theorem Dd:∀(lv:LV) (q:Bool),LvR lv q->∃ q',LvR (id lv) q':=λ _ q h=>⟨q,h⟩
theorem Lg:∀(lv:LV) (q:Bool),LvR lv q->∃ q',LvR (lvQ lv) q':=λ _ _ h=>⟨true,h.quote true⟩
noncomputable def wN(c:Cfg)(x:Nat):Bool:=!((⟨#[x]⟩:Str)=="\n")&&!Txt.contains c.ws ⟨#[x]⟩&&!Txt.contains ⟨#[]⟩ ⟨#[x]⟩&&!(c.posix&&Txt.contains c.qu ⟨#[x]⟩)&&!Txt.contains ⟨#[92]⟩ ⟨#[x]⟩
theorem Hq(l:List Nat)(x:Nat):T' l++⟨#[x]⟩=T' (l++[x]):=jB (by show(l.toArray++#[x]).toList=(l++[x]).toArray.toList;simp)
theorem Oa{c}(h6:Txt.contains c.qu "a"=false):∀(w l:List Nat),(∀ x∈w,wN c x=true)->l.length+w.length≤100000->Run c (.str "a") (T' l) w (.str "a") (T' (l++w)):=by
 intro l9;induction l9 with
 | nil =>
  intro l _ _;rw[List.append_nil];exact .nil
 | cons x r ih =>
  intro l hg hl;have hx:=hg x (.head _);simp only[wN,Bool.and_eq_true,Bool.not_eq_true'] at hx;simp only[List.length_cons] at hl;have h1:Run c (.str "a") (T' l) [x] (.str "a") (T' (l++[x])):=.one id Dd λ n lv q io h hn=>by
   have:=Hb (n:=n) (tok:=T' l) (c:=c) (io:=io) h hn (by show l.toArray.size+1≤_;rw[List.size_toArray];exact ll6 ‹_›) hx.1.1.1.1 hx.1.1.1.2 hx.1.1.2 hx.1.2 hx.2 h6
   rw[Hq] at this;exact this
  have h2:=ih (l++[x]) (λ y hy=>hg y (.tail _ hy)) (by rw[List.length_append];simp;lia)
  rw[List.append_assoc] at h2;exact h1.trans h2
section
noncomputable def EofOk(c:Cfg):Prop:=(c.posix=true/\c.eof=.none)∨(c.posix=false/\c.eof=.str "")
theorem EofOk.nf{c}(h:EofOk c):∀ f,c.eof≠.fn f:=λ f q=>by
 rcases h with⟨_,h⟩|⟨_,h⟩<;>rw[h] at q<;>cases q
theorem oO:LvR xI false:=⟨by kernel_rfl,by kernel_rfl⟩
theorem qG(k:tok.length≠0):(tok=="")=false:=by
 have:tok≠"":=λ q=>k (by rw[q];decide +kernel)
 simpa using this
section
variable{c:Cfg}{w rest:List Nat}{buf:Str}{pos:Nat}
theorem aCA{y}(hw:Run c (.str spS) ⟨#[]⟩ w (.str "a") tok)(h1:((⟨#[y]⟩:Str)=="\n")=false)(h2:Txt.contains c.ws ⟨#[y]⟩=true)(h6:Txt.contains c.qu "a"=false)(k1:tok.length≠0)(k2:tok.length<1000000)(hlen:w.length≤100)(hl:buf.length<100000)(a:At buf pos (w++y::rest)) :
  (∃ lv2,exs T0 187 cY.body [("self",.mref 0)] [shO c (.str spS) ⟨#[]⟩,ioO buf pos]=some (.ret (.str tok),lv2,[shO c (.str spS) ⟨#[]⟩,ioO buf (pos+w.length+1)]))/\At buf (pos+w.length+1) rest:=by
 refine bB (hw buf pos (y::rest) xI false (109 - w.length) hl oO a) λ lv1 q1 r1 e1 a1=>?_;have hn:109 - w.length+w.length+74=183:=by lia
 rw[hn] at e1;obtain⟨hp,e,a2⟩:=a1.here;have hm:109 - w.length+74=(109 - w.length)+74:=rfl;have e2:=Hs (n:=109 - w.length) (Dz r1 hl a1 (Uj (n:=109 - w.length+2) (io:=ioO buf (pos+w.length+1)) (r1.next (.str ⟨#[y]⟩)) lO h1 h2 h6 k1 k2));have hx:=Qf (e1.trans e2) (r1.next (.str ⟨#[y]⟩));have hr:Bb c q1 tok=.str tok:=by
  unfold Bb;rw[qG k1,Bool.and_false,Bool.and_false]
  rfl
 rw[hr] at hx;exact aY hx a2
theorem aAz(hw:Run c (.str spS) ⟨#[]⟩ w (.str "a") tok)(h6:Txt.contains c.qu "a"=false)(k1:tok.length≠0)(hlen:w.length≤100)(hl:buf.length<100000)(a:At buf pos w) :
  (∃ lv2,exs T0 187 cY.body [("self",.mref 0)] [shO c (.str spS) ⟨#[]⟩,ioO buf pos]=some (.ret (.str tok),lv2,[shO c .none ⟨#[]⟩,ioO buf (pos+w.length)]))/\At buf (pos+w.length) []:=by
 refine bB (hw buf pos [] xI false (109 - w.length) hl oO (by rw[List.append_nil];exact a)) λ lv1 q1 r1 e1 a1=>?_
 have hn:109 - w.length+w.length+74=183:=by lia
 rw[hn] at e1;have e2:=Hs (n:=109 - w.length) (yL r1 hl a1 (Pm (n:=109 - w.length+2) (tok:=tok) (io:=ioO buf (pos+w.length)) (r1.next (.str ⟨#[]⟩)) lO h6));have hx:=Qf (e1.trans e2) (r1.next (.str ⟨#[]⟩));have hr:Bb c q1 tok=.str tok:=by
  unfold Bb;rw[qG k1,Bool.and_false,Bool.and_false]
  rfl
 rw[hr] at hx;exact aY hx a1
theorem aEV{q st}(h:LvR lv q):ex T0 (n+20) (.sat "self" "token" (.c (.str ""))) lv [shO c st tok,io]=nxt lv [shO c st ⟨#[]⟩,io]:=Ur h
theorem Tl(hl:buf.length<100000)(a:At buf pos [])(ho:EofOk c):∃ lv2 v,exs T0 187 cY.body [("self",.mref 0)] [shO c .none ⟨#[]⟩,ioO buf pos]=some (.ret v,lv2,[shO c .none ⟨#[]⟩,ioO buf pos])/\∀ σ,fK σ .Eq v c.eof=some true:=by
 have r1:=oO.next (.str ⟨#[]⟩);have t:evT T0 178 (.cmp .Is (.at (.v "self") "state") (.c .none)) (lvN ⟨#[]⟩ xI) [shO c .none ⟨#[]⟩,ioO buf pos]=some true:=aL (Il r1) bA rfl;have hR:exs T0 181 gZ (lvN ⟨#[]⟩ xI) [shO c .none ⟨#[]⟩,ioO buf pos]=zG (lvN ⟨#[]⟩ xI) [shO c .none ⟨#[]⟩,ioO buf pos]:=by
  refine aA (aC (c:=false) ((vA lO).trans (by decide +kernel)) aO) ?_
  refine aA (aC (c:=false) (rN r1 rfl) aO) ?_;refine aD (aC (c:=true) (aL (Il r1) bA rfl) ?_);exact aA (Ur r1) (tW zT)
 have e2:=Hs (n:=109) (yL oO hl a hR);refine aB (Qf e2 r1) λ lv2 hx=>?_;refine rR lv2 _ hx λ σ=>?_;unfold Bb;rcases ho with⟨h1,h2⟩|⟨h1,h2⟩<;>rw[h1,h2]
 ·rfl
 ·show fK σ .Eq (.str ⟨#[]⟩) (.str "")=_
  rfl
theorem uF{st}:isX [shO c st tok,io] 0=true:=rfl
theorem Jj(ho:EofOk c)(k1:tok.length≠0):fK σ .Eq (.str tok) c.eof=some false:=by
 rcases ho with⟨h1,h2⟩|⟨h1,h2⟩<;>rw[h2]
 ·rfl
 ·exact congrArg some (qG k1)
theorem Cq{st st' io' lv2 k vs σ2}(ho:EofOk c)(k1:tok.length≠0)(h:exs T0 187 cY.body [("self",.mref 0)] [shO c st ⟨#[]⟩,io]=some (.ret (.str tok),lv2,[shO c st' ⟨#[]⟩,io']))(hd:fT 0 190 k [shO c st' ⟨#[]⟩,io']=some (vs,σ2)):fT 0 190 (k+1) [shO c st ⟨#[]⟩,io]=some (.str tok::vs,σ2):=by
 have hg:=Rf h ho.nf (Jj ho k1);have ht:evT T0 191 Bq ([("token",.str tok),("self",.mref 0)]:LV) [shO c st' ⟨#[]⟩,io']=some false:=aL (aG (by kernel_rfl)) ((vS (by kernel_rfl)).trans (pN _ ho.nf)) (Jj ho k1)
 have hk:([("token",.str tok),("self",.mref 0)]:LV).lookup ("token":Str)=some (.str tok):=by kernel_rfl
 rw[fT,if_pos uF];simp only[hg,ht,hk,Option.bind_some,Mu,Mv,Gb,Mw,Mx,My,Mz,hd,Mt]
theorem Xq{lv2 v k}(ho:EofOk c)(h:exs T0 187 cY.body [("self",.mref 0)] [shO c .none ⟨#[]⟩,io]=some (.ret v,lv2,[shO c .none ⟨#[]⟩,io]))(hv:∀ σ,fK σ .Eq v c.eof=some true) :
  fT 0 190 (k+1) [shO c .none ⟨#[]⟩,io]=some ([],[shO c .none ⟨#[]⟩,io]):=by
 have hg:=Rd h ho.nf (hv _);have he:∀ σ,fK σ .Eq c.eof c.eof=some true:=λ σ=>by
  rcases ho with⟨h1,h2⟩|⟨h1,h2⟩<;>rw[h2]<;>rfl
 have ht:evT T0 191 Bq ([("token",c.eof),("self",.mref 0)]:LV) [shO c .none ⟨#[]⟩,io]=some true:=aL (aG (by kernel_rfl)) ((vS (by kernel_rfl)).trans (pN _ ho.nf)) (he _)
 rw[fT,if_pos uF];simp only[hg,ht]
inductive Toks(c:Cfg)(y:Nat):List Nat->List Str->Prop
 | last {w:List Nat} {tok:Str}:Run c (.str spS) ⟨#[]⟩ w (.str "a") tok->tok.length≠0->tok.length<1000000->w.length≤100->Toks c y w [tok]
 | cons {w r:List Nat} {tok:Str} {ts:List Str}:Run c (.str spS) ⟨#[]⟩ w (.str "a") tok->tok.length≠0->tok.length<1000000->w.length≤100->Toks c y r ts->Toks c y (w++y::r) (tok::ts)
theorem pG{y}(ho:EofOk c)(h1:((⟨#[y]⟩:Str)=="\n")=false)(h2:Txt.contains c.ws ⟨#[y]⟩=true)(h6:Txt.contains c.qu "a"=false)(hl:buf.length<100000){l ts}(t:Toks c y l ts) :
  ∀(pos k:Nat),At buf pos l->∃ σ2,fT 0 190 (k+ts.length+1) [shO c (.str spS) ⟨#[]⟩,ioO buf pos]=some (ts.map .str,σ2):=by
 induction t with
 | last hw k1 k2 hlen =>
  intro pos k a;refine aK (aAz hw h6 k1 hlen hl a) λ y1 a2=>aB y1 λ lv2 e=>?_;refine eX (Tl hl a2 ho) λ lv3 v e3 hv=>?_;exact bM _ (Cq ho k1 e (Xq (k:=k) ho e3 hv))
 | cons hw k1 k2 hlen _ ih =>
  intro pos k a;refine aK (aCA hw h1 h2 h6 k1 k2 hlen hl a) λ y2 a2=>aB y2 λ lv2 e=>?_;refine aB (ih _ k a2) λ σ2 e2=>?_;exact bM σ2 (Cq ho k1 e e2)
end
end
noncomputable def qT(c:Cfg)(x:Nat):Bool:=!((⟨#[x]⟩:Str)=="\n")&&!Txt.contains c.ws ⟨#[x]⟩&&!Txt.contains ⟨#[]⟩ ⟨#[x]⟩&&!Txt.contains ⟨#[92]⟩ ⟨#[x]⟩&&Txt.contains c.wc ⟨#[x]⟩
theorem xT{c}(h6:Txt.contains c.qu "a"=false){x w}(hx:qT c x=true)(hw:∀ y∈w,wN c y=true)(hl:w.length≤99):Run c (.str spS) ⟨#[]⟩ (x::w) (.str "a") (T' (x::w)):=by
 simp only[qT,Bool.and_eq_true,Bool.not_eq_true'] at hx;have h1:Run c (.str spS) ⟨#[]⟩ [x] (.str "a") (T' [x]):=.one id Dd λ n lv q io h hn=>Bw (n:=n) (tok:=⟨#[]⟩) (c:=c) (io:=io) h hn hx.1.1.1.1 hx.1.1.1.2 hx.1.1.2 hx.1.2 hx.2;exact h1.trans (Oa h6 w [x] hw (by simp;lia))
theorem aCy:Txt.contains rE.qu "a"=false:=by kernel_rfl
theorem aAv:Txt.contains eQ.qu "a"=false:=by kernel_rfl
noncomputable def Ab(l:Str):Bool:=match l.cps.toList with
 | x::w=>qT rE x&&w.all (wN rE)&&decide (w.length≤5)
 | []=>false
theorem Zj:Ab ⟨#[97]⟩=true:=by kernel_rfl
theorem Zk:Ab ⟨#[99,32,100,39]⟩=true:=by kernel_rfl
theorem Zl:Ab ⟨#[108,111,99,97,108]⟩=true:=by kernel_rfl
theorem Zm:Ab ⟨#[55]⟩=true:=by kernel_rfl
theorem yQ(l:Str):T' l.cps.toList=l:=jB (by rfl)
set_option tactic.hygienic true in
theorem Du{l}(h:l∈bT):Run rE (.str spS) ⟨#[]⟩ l.cps.toList (.str "a") l/\l.length≠0/\l.length<1000000/\l.cps.toList.length≤100:=by
 have hg:Ab l=true:=fW (P:=λ l=>Ab l=true) Zj Zk Zl Zm l h;unfold Ab at hg;split at hg
 ·rename_i x w e;simp only[Bool.and_eq_true,List.all_eq_true,decide_eq_true_eq] at hg;have:=xT aCy hg.1.1 hg.1.2 (by lia)
  rw[<- e,yQ] at this;have hlen:l.length=w.length+1:=by
   show l.cps.size=_;rw[<- Array.length_toList,e]
   rfl
  exact Us this (by omega) (by omega) (by rw[e];simp;omega)
 ·exact nft hg
theorem nK{l r}:(aX (l::r)).tail=l.cps.toList++aX r:=rfl
theorem wY:∀{ls:List Str},(∀ l∈ls,l∈bT)->ls≠[]->Toks rE 46 (aX ls).tail ls
 | [],_,h=>absurd rfl h
 | [l],h,_=>by
  refine kR (Du (h l (.head _))) λ a b c d=>?_;dsimp only [nK];show Toks rE 46 (l.cps.toList++[]) [l];rw[List.append_nil];exact .last a b c d
 | l::m::r,h,_=>by
  refine kR (Du (h l (.head _))) λ a b c d=>?_;dsimp only [nK];have:=wY (ls:=m::r) (λ x hx=>h x (.tail _ hx)) (by simp)
  exact .cons a b c d this
theorem aBN:EofOk rE:=.inr ⟨rfl,rfl⟩
theorem aBO:EofOk eQ:=.inl ⟨rfl,rfl⟩
theorem At.start(buf:Str):At buf 0 buf.cps.toList:=⟨by rfl,Nat.zero_le _⟩
theorem wZ(H:HostL ls):lL (.str (aF ls))=some (ls.map .str):=by
 have hne:ls≠[]:=λ q=>by have:=H.k1;rw[q] at this;cases this
 have hl:=fG H;have hk:=H.k2;refine aB (pG (buf:=aF ls) aBN (by kernel_rfl) (by kernel_rfl) aCy (by exact ll3 ‹_› (by rfl)) (wY H.a hne) 0 (99 - ls.length) (by
  have:=At.start (aF ls);simpa[aF] using this)) λ σ2 e=>?_
 have hn:99 - ls.length+ls.length+1=100:=by lia
 rw[hn] at e;unfold lL;rw[Yl];show(match (([("lexer",.mref 0),("host",.str (aF ls))]:LV).lookup ("lexer":Str)) with
  | some (.mref i)=>if isX [shO rE (.str spS) ⟨#[]⟩,ioO (aF ls) 0] i then(fT i 190 100 [shO rE (.str spS) ⟨#[]⟩,ioO (aF ls) 0]).bind λ r=>if r.1.length≤1000 then some r.1 else none else none
  | _=>none)=_
 have hk2:([("lexer",.mref 0),("host",.str (aF ls))]:LV).lookup ("lexer":Str)=some (.mref 0):=by kernel_rfl
 rw[hk2];dsimp only;rw[if_pos uF,e];simp only[Option.bind_some,List.length_map];rw[if_pos (by exact ll4 ‹_› (by rfl))]
noncomputable abbrev sqS:Str:=⟨#[39]⟩
noncomputable abbrev dqS:Str:=⟨#[34]⟩
theorem Ny{s l x}(hl:l.length+1≤100000)(h1:((⟨#[x]⟩:Str)=="\n")=false)(h4:Txt.contains eQ.qu s=true)(h5:Txt.contains ⟨#[92]⟩ ⟨#[x]⟩=false)(h7:(s==spS)=false)(h8:((⟨#[x]⟩:Str)==s)=false) :
  Run eQ (.str s) (T' l) [x] (.str s) (T' (l++[x])):=.one lvQ Lg λ n lv q io h hn=>by
 have:=Ui (n:=n) (tok:=T' l) (c:=eQ) (io:=io) (s:=s) h hn (by show l.toArray.size+1≤_;rw[List.size_toArray];exact hl) h1 h4 h5 h7 h8
 rw[Hq] at this;exact this
theorem sT{x}(h1:((⟨#[x]⟩:Str)=="\n")=false)(h4:Txt.contains eQ.qu ⟨#[x]⟩=true)(h7:((⟨#[x]⟩:Str)==spS)=false):Run eQ (.str ⟨#[x]⟩) tok [x] (.str "a") tok :=
 .one lvQ Lg λ n lv q io h hn=>Bu (n:=n) (tok:=tok) (c:=eQ) (io:=io) h hn rfl h1 h4 h7
theorem qQ{x}(h1:((⟨#[x]⟩:Str)=="\n")=false)(h2:Txt.contains eQ.ws ⟨#[x]⟩=false)(h3:Txt.contains ⟨#[]⟩ ⟨#[x]⟩=false)(h4:Txt.contains eQ.qu ⟨#[x]⟩=true):Run eQ (.str "a") tok [x] (.str ⟨#[x]⟩) tok :=
 .one id Dd λ n lv q io h hn=>Bv (n:=n) (tok:=tok) (c:=eQ) (io:=io) h hn rfl h1 h2 h3 h4 aAv
theorem Nz:Run eQ (.str spS) ⟨#[]⟩ [39] (.str sqS) ⟨#[]⟩ :=
 .one id Dd λ n lv q io h hn=>Ha (n:=n) (tok:=⟨#[]⟩) (c:=eQ) (io:=io) h hn rfl (by kernel_rfl) (by kernel_rfl) (by kernel_rfl) (by kernel_rfl) (by kernel_rfl) (by kernel_rfl)
theorem Cm:Run eQ (.str sqS) tok [39] (.str "a") tok:=sT (by kernel_rfl) (by kernel_rfl) (by kernel_rfl)
theorem Qq:Run eQ (.str dqS) tok [34] (.str "a") tok:=sT (by kernel_rfl) (by kernel_rfl) (by kernel_rfl)
theorem aAo:Run eQ (.str "a") tok [39] (.str sqS) tok:=qQ (by kernel_rfl) (by kernel_rfl) (by kernel_rfl) (by kernel_rfl)
theorem aAn:Run eQ (.str "a") tok [34] (.str dqS) tok:=qQ (by kernel_rfl) (by kernel_rfl) (by kernel_rfl) (by kernel_rfl)
theorem Nx{l}(hl:l.length+1≤100000):Run eQ (.str sqS) (T' l) [39,34,39,34,39] (.str sqS) (T' (l++[39])) :=
 Cm.trans (aAn.trans ((Ny (s:=dqS) hl (by kernel_rfl) (by kernel_rfl) (by kernel_rfl) (by kernel_rfl) (by kernel_rfl)).trans (Qq.trans aAo)))
noncomputable def Kc(x:Nat):Bool:=!((⟨#[x]⟩:Str)=="\n")&&!Txt.contains ⟨#[92]⟩ ⟨#[x]⟩&&!((⟨#[x]⟩:Str)==sqS)
noncomputable def Au(l:List Nat):List Nat:=l.flatMap λ x=>if x=39 then [39,34,39,34,39] else [x]
theorem Wk:∀(l p:List Nat),(∀ x∈l,x=39∨Kc x=true)->p.length+l.length≤100000->Run eQ (.str sqS) (T' p) (Au l) (.str sqS) (T' (p++l))
 | [],p,_,_=>by
  rw[List.append_nil];exact .nil
 | x::r,p,hg,hl=>by
  simp only[List.length_cons] at hl;have h2:=Wk r (p++[x]) (λ y hy=>hg y (.tail _ hy)) (by rw[List.length_append];simp;lia)
  rw[List.append_assoc] at h2;have e:Au (x::r)=(if x=39 then [39,34,39,34,39] else [x])++Au r:=rfl
  rw[e];by_cases hx:x=39
  ·rw[if_pos hx];clear hg e;subst hx;exact(Nx (by exact ll6 ‹_›)).trans h2
  ·rw[if_neg hx];have hq:=(hg x (.head _)).resolve_left hx;simp only[Kc,Bool.and_eq_true,Bool.not_eq_true'] at hq;exact(Ny (s:=sqS) (by exact ll6 ‹_›) hq.1.1 (by kernel_rfl) hq.1.2 (by kernel_rfl) hq.2).trans h2
noncomputable def uU(l:List Nat):List Nat:=if l.any λ c=>c==32||c==39 then 39::(Au l++[39]) else l
noncomputable def inA(x:Nat):Bool:=[97,108,111,99,55,46].any (·==x)
noncomputable def inB(x:Nat):Bool:=[97,108,111,99,55,46,32,100].any (·==x)
theorem aBD:[97,108,111,99,55,46].all (wN eQ)=true:=by kernel_rfl
theorem aBE:[97,108,111,99,55,46,32,100].all Kc=true:=by kernel_rfl
theorem aDV:[97,108,55].all (qT eQ)=true:=by kernel_rfl
noncomputable def xJ(l:List Nat):Bool:=decide ((uU l).length≤100)&&decide (1≤l.length)&&(if l.any λ c=>c==32||c==39 then l.all λ x=>x==39||inB x else l.all inA&&[97,108,55].any (·==l.headD 0))
theorem qP{l}(h:xJ l=true):Run eQ (.str spS) ⟨#[]⟩ (uU l) (.str "a") (T' l):=by
 unfold xJ at h;simp only[Bool.and_eq_true,decide_eq_true_eq] at h;refine aK h ?_;clear h;intro q1;refine aK q1 ?_;clear q1;intro h1 h0;intro h2;unfold uU at h1 ⊢;split at h2
 ·rename_i hc;rw[if_pos hc] at h1 ⊢;have hlen:l.length≤(Au l).length:=by
   clear h1 h0 h2 hc;induction l with
   | nil=>exact Nat.le_refl _
   | cons x r ih =>
    have e:Au (x::r)=(if x=39 then [39,34,39,34,39] else [x])++Au r:=rfl
    rw[e,List.length_append,List.length_cons];split<;>simp<;>lia
  have hb:=Wk l [] (λ x hx=>by
   have:=List.all_eq_true.mp h2 x hx;simp only[Bool.or_eq_true,beq_iff_eq] at this;refine this.imp id λ hb=>?_;refine aE (List.any_eq_true.mp hb) λ y hy e=>?_;exact eq_of_beq e▸List.all_eq_true.mp aBE y hy) (by simp at h1 ⊢;exact lx4 ‹_› ‹_› (by rfl))
  exact Nz.trans (hb.trans Cm)
 ·rename_i hc;rw[if_neg hc] at h1 ⊢;simp only[Bool.and_eq_true,List.all_eq_true] at h2;refine aK h2 ?_;clear h2;intro g1 g2;cases l with
  | nil=>simp at h0
  | cons x w =>
   refine aE (List.any_eq_true.mp g2) λ y hy e=>?_;have hx:qT eQ x=true:=by
    have:y=x:=eq_of_beq e;exact this▸List.all_eq_true.mp aDV y hy
   refine xT aAv hx (λ z hz=>?_) (by simp at h1;assumption)
   refine aE (List.any_eq_true.mp (g1 z (.tail _ hz))) λ y hy e=>?_;exact eq_of_beq e▸List.all_eq_true.mp aBD y hy
noncomputable def Iz(ls:List Str):Bool:=xJ (aF ls).cps.toList&&(dA (aF ls)).cps.toList==uU (aF ls).cps.toList&&decide ((Txt.replace (aF ls) "'" "'\"'\"'").length≤100000)
theorem c5a:eF Iz ⟨#[97]⟩=true:=by kernel_rfl
theorem c5b:eF Iz ⟨#[99,32,100,39]⟩=true:=by kernel_rfl
theorem c5c:eF Iz ⟨#[108,111,99,97,108]⟩=true:=by kernel_rfl
theorem c5d:eF Iz ⟨#[55]⟩=true:=by kernel_rfl
theorem lJ(H:HostL ls):xJ (aF ls).cps.toList=true/\(dA (aF ls)).cps.toList=uU (aF ls).cps.toList/\(Txt.replace (aF ls) "'" "'\"'\"'").length≤100000:=by
 have h:=gT (fW c5a c5b c5c c5d) H;simp only[Iz,Bool.and_eq_true,beq_iff_eq,decide_eq_true_eq] at h;exact fP h.1.1 h.1.2 h.2
theorem eA(H:HostL ls):1≤(aF ls).length/\(dA (aF ls)).length≤100:=by
 refine bU (lJ H) λ h1 h2 _=>?_;unfold xJ at h1;simp only[Bool.and_eq_true,decide_eq_true_eq] at h1;refine aY ?_ ?_
 ·show 1≤(aF ls).cps.size;rw[<- Array.length_toList];exact h1.1.2
 ·show(dA (aF ls)).cps.size≤100;rw[<- Array.length_toList,h2];exact h1.1.1
theorem aAx(prog:Program)(w:World)(H:HostL ls):QuoOk prog w (aF ls) :=
 ⟨aBn H.a H.k1 H.k2,by have:=(eA H).1;omega,fG H,(lJ H).2.2⟩
theorem zX(sep:Str):∀(r:List Str) (acc:Array Nat),(r.foldl (λ acc p=>acc++sep.cps++p.cps) acc).toList=acc.toList++r.flatMap λ x=>sep.cps.toList++x.cps.toList:=by
 intro l9;induction l9 with
 | nil =>
  intro acc;simp
 | cons x r ih =>
  intro acc;rw[List.foldl_cons,ih];simp
theorem sF(sep p:Str)(r:List Str):(Txt.join sep (p::r)).cps.toList=p.cps.toList++r.flatMap λ x=>sep.cps.toList++x.cps.toList:=zX sep r p.cps
theorem Dw:((" ":Str)).cps.toList=[32]:=by decide +kernel
theorem Gz:∀(hs:List (List Str)) (p:List Str),HostL p->(∀ h∈hs,HostL h) ->
  Toks eQ 32 (uU (aF p).cps.toList++(hs.map λ h=>dA (aF h)).flatMap λ x=>((" ":Str)).cps.toList++x.cps.toList) (aF p::hs.map aF):=by
 intro l9;induction l9 with
 | nil =>
  intro p H _;simp only[List.map_nil,List.flatMap_nil,List.append_nil];have h:=qP (lJ H).1;rw[yQ] at h;have h2:=eA H;have h3:=fG H;refine .last h (by omega) (by exact ll3 ‹_› (by rfl)) ?_
  rw[<- (lJ H).2.1,Array.length_toList];exact h2.2
 | cons q r ih =>
  intro p H hh;have ih:=ih q (hh q (.head _)) λ h hx=>hh h (.tail _ hx);have h:=qP (lJ H).1;rw[yQ] at h;have h2:=eA H;have h3:=fG H;have e:((q::r).map λ h=>dA (aF h)).flatMap (λ x=>((" ":Str)).cps.toList++x.cps.toList)=32::(uU (aF q).cps.toList++(r.map λ h=>dA (aF h)).flatMap λ x=>((" ":Str)).cps.toList++x.cps.toList):=by
   rw[List.map_cons,List.flatMap_cons,Dw,(lJ (hh q (.head _))).2.1]
   rfl
  rw[e];refine .cons h (by omega) (by exact ll3 ‹_› (by rfl)) ?_ ih
  rw[<- (lJ H).2.1,Array.length_toList];exact h2.2
theorem Bm{p hs}(H:HostL p)(hh:∀ h∈hs,HostL h)(hn:hs.length≤20):kQ (.str (Txt.join " " ((p::hs).map λ h=>dA (aF h))))=some ((aF p::hs.map aF).map .str):=by
 have hjl:(Txt.join " " ((p::hs).map λ h=>dA (aF h))).cps.toList=uU (aF p).cps.toList++(hs.map λ h=>dA (aF h)).flatMap λ x=>((" ":Str)).cps.toList++x.cps.toList:=by
  rw[List.map_cons,sF,(lJ H).2.1]
 have hfl:∀(l:List (List Str)),(∀ h∈l,HostL h)->((l.map λ h=>dA (aF h)).flatMap λ x=>((" ":Str)).cps.toList++x.cps.toList).length≤101 * l.length:=λ l=>by
  induction l with
  | nil=>intro _;exact Nat.le_refl _
  | cons a r ih =>
   intro h;have h1:=(eA (h a (.head _))).2;have h2:=ih λ x hx=>h x (.tail _ hx);have h1':(dA (aF a)).cps.toList.length≤100:=by rw[Array.length_toList];exact h1
   rw[Dw] at h2 ⊢;rw[List.map_cons,List.flatMap_cons,List.length_append,List.length_append,List.length_cons];simp only[List.length_cons,List.length_nil]
   lia
 have hbuf:(Txt.join " " ((p::hs).map λ h=>dA (aF h))).length<100000:=by
  show(Txt.join " " ((p::hs).map λ h=>dA (aF h))).cps.size<_;rw[<- Array.length_toList,hjl,List.length_append];have h1:=hfl hs hh;have h2:(uU (aF p).cps.toList).length≤100:=by
   rw[<- (lJ H).2.1,Array.length_toList];exact(eA H).2
  lia
 generalize Txt.join " " ((p::hs).map λ h=>dA (aF h))=line at hjl hbuf;have t:=Gz hs p H hh;rw[<- hjl] at t;have hlen:(aF p::hs.map aF).length=hs.length+1:=by simp
 refine aB (pG (buf:=line) aBO (by kernel_rfl) (by kernel_rfl) aAv hbuf t 0 (98 - hs.length) (At.start line)) λ σ2 e=>?_
 rw[hlen] at e;have hn':98 - hs.length+(hs.length+1)+1=100:=by lia
 rw[hn'] at e;unfold kQ;have t1:evT T0 190 (.cmp .Is (.v "s") (.c .none)) (kE (.str line)) []=some false:=by kernel_rfl
 rw[t1];dsimp only;have i1:=Rm line;refine aE (Option.map_eq_some_iff.mp i1) ?_;rintro⟨fl,lvx,σ1⟩ i2 i3;simp only[Prod.mk.injEq] at i3;refine aK i3 ?_;clear i3;intro i4 i5;subst i5;have hfl':fl=.next:=by
  rcases fl with⟨⟩<;>first|rfl|exact nft i4
 clear i4;subst hfl';rw[i2];dsimp only;rw[Rn line];show(match ((("lex",PV.mref 0)::kE (.str line):LV).lookup ("lex":Str)) with
  | some (.mref i)=>if isX [shO eQ (.str spS) ⟨#[]⟩,ioO line 0] i then(fT i 190 100 [shO eQ (.str spS) ⟨#[]⟩,ioO line 0]).bind λ r=>if r.1.length≤1000 then some r.1 else none else none
  | _=>none)=_
 have hk2:(("lex",PV.mref 0)::kE (.str line):LV).lookup ("lex":Str)=some (.mref 0):=by kernel_rfl
 rw[hk2];dsimp only;rw[if_pos uF,e];simp only[Option.bind_some,List.length_map,hlen];rw[if_pos (by exact ll3 ‹_› (by rfl))]
noncomputable def spl:List Nat->List Nat×List (List Nat)
 | []=>([],[])
 | c::r=>if c=46 then([],(spl r).1::(spl r).2) else(c::(spl r).1,(spl r).2)
theorem Wm(c:Nat)(r:List Nat):spl (c::r)=if c=46 then([],(spl r).1::(spl r).2) else(c::(spl r).1,(spl r).2):=by dsimp only [spl]
theorem Tu:∀(u v:List Nat),(spl v).1=[]->spl (u++v)=((spl u).1,(spl u).2++(spl v).2):=by
 intro l9;induction l9 with
 | nil =>
  intro v h;show spl v=([],[]++(spl v).2);simp only[List.nil_append,<- h]
 | cons c r ih =>
  intro v h;have ih:=ih v h;simp only[List.cons_append,Wm,Wm,ih];split<;>rfl
theorem Os:∀(x v:List Nat),(∀ c∈x,c≠46)->spl (x++v)=(x++(spl v).1,(spl v).2):=by
 intro l9;induction l9 with
 | nil =>
  intro v _;exact rfl
 | cons c r ih =>
  intro v h;have ih:=ih v λ c hc=>h c (.tail _ hc);rw[List.cons_append,spl,if_neg (h c (.head _)),ih]
  rfl
theorem wX{l}(h:l∈bT):∀ c∈l.cps.toList,c≠46:=fW (P:=λ l=>∀ c∈l.cps.toList,c≠46) (by decide) (by decide) (by decide) (by decide) l h
theorem Zn{l}(h:l∈bT):l.cps.toList≠[]:=fW (P:=λ l=>l.cps.toList≠[]) (by decide) (by decide) (by decide) (by decide) l h
theorem gJ:∀{ls:List Str},(∀ l∈ls,l∈bT)->spl (aX ls)=([],ls.map λ l=>l.cps.toList):=by
 intro l9;induction l9 with
 | nil =>
  intro _;exact rfl
 | cons x r ih =>
  intro h;have ih:=ih λ l hl=>h l (.tail _ hl);show spl (46::(x.cps.toList++aX r))=_;rw[spl,if_pos rfl,Os _ _ (wX (h x (.head _))),ih];simp
theorem pE{ls'}(h:∀ l∈ls,l∈bT)(h':∀ l∈ls',l∈bT)(e:aX ls=aX ls'):ls=ls':=by
 have e1:=gJ h;simp only[e,gJ h'] at e1;simp only[Prod.mk.injEq,true_and] at e1;exact(mA e1).symm
theorem zQ{t u}(h:∀ l∈ls,l∈bT)(h':∀ l∈t,l∈bT)(e:aX ls=46::u++aX t):∃ p,p≠[]/\ls=p++t:=by
 have e1:=gJ h;rw[e,Tu (46::u) (aX t) (by rw[gJ h']),gJ h'] at e1
 have e2:spl (46::u)=([],(spl u).1::(spl u).2):=by rw[spl,if_pos rfl]
 rw[e2] at e1;simp only[Prod.mk.injEq,true_and] at e1;refine bB (List.map_eq_append_iff.mp e1.symm) ?_;clear h e e1;rintro p q rfl e3 e4;refine bK p (λ z=>?_) (by rw[mA e4])
 rw[z] at e3;simp at e3
theorem rH(p t:List Str):aX (p++t)=aX p++aX t:=by
 induction p with
 | nil=>rfl
 | cons x r ih =>
  show 46::x.cps.toList++aX (r++t)=46::x.cps.toList++aX r++aX t;simp only[ih,List.append_assoc]
theorem fF(h:ls≠[]):aX ls=46::(aX ls).tail:=by
 cases ls with
 | nil=>exact absurd rfl h
 | cons x r=>rfl
theorem wO{ls'}(H:HostL ls)(H':HostL ls')(e:aF ls=aF ls'):ls=ls':=by
 have ne:∀{l:List Str},HostL l->l≠[]:=λ H q=>by have:=H.k1;rw[q] at this;cases this
 refine pE H.a H'.a ?_;have e1:(aX ls).tail=(aX ls').tail:=by
  have:=congrArg (λ x:Str=>x.cps.toList) e;simpa[aF] using this
 rw[fF (ne H),fF (ne H'),e1]
theorem xV{t t'}(h:∀ l∈t,l∈bT)(h':∀ l∈t',l∈bT)(e:bI t=bI t'):t=t':=by
 refine pE h h' ?_;have:=congrArg (λ x:Str=>x.cps.toList) e;simpa[bI] using this
theorem jM{t}(H:HostL ls)(ht:t≠[]):bI t≠aF ls:=λ e=>by
 have e1:aX t=(aX ls).tail:=by
  have:=congrArg (λ x:Str=>x.cps.toList) e;simpa[bI,aF] using this
 cases ls with
 | nil=>have:=H.k1;cases this
 | cons x r =>
  have hx:=H.a x (.head _);have e2:aX t=x.cps.toList++aX r:=e1;rw[fF ht] at e2;cases hq:x.cps.toList with
  | nil=>exact Zn hx hq
  | cons c w =>
   rw[hq] at e2;simp only[List.cons_append,List.cons.injEq] at e2;exact wX hx c (by rw[hq];exact .head _) e2.1.symm
theorem sH:∀{p t:List Str},t≠[]->iM (p++t)=iM t:=by
 intro l9;induction l9 with
 | nil =>
  intro _ _;exact rfl
 | cons x r ih =>
  intro t h;dsimp only [List.cons_append];have ih:=ih h;cases hr:r++t with
  | nil=>simp at hr;exact absurd hr.2 h
  | cons y q =>
   show iM (y::q)=_;simp only[<- hr,ih]
noncomputable def oT(t:List Str):Prop:=iM t≠⟨#[55]⟩/\t≠[]/\(2≤t.length∨t=[⟨#[108,111,99,97,108]⟩])
theorem pA{r}:gC (x::r)=true↔oT r/\True:=by
 cases r with
 | nil=>simp[gC,oT]
 | cons t r =>
  have hl:iM (x::t::r)=iM (t::r):=rfl;simp only[gC,hl,Bool.and_eq_true,Bool.not_eq_true',beq_eq_false_iff_ne,ne_eq,Bool.or_eq_true,beq_iff_eq,oT,and_true];clear hl;cases r with
  | nil=>simp
  | cons=>simp
theorem lM:∀{ls:List Str} {r:Str},r∈iO ls->∃ p t,p≠[]/\ls=p++t/\r=bI t/\oT t:=by
 intro l9;induction l9 with
 | nil =>
  intro _ h;cases h
 | cons x r ih =>
  intro y h;dsimp only [iO] at h;split at h
  ·rename_i hc;have hg:=(pA.mp hc).1;rcases List.mem_cons.mp h with rfl|h
   ·exact aBo [x] r (by simp) rfl rfl hg
   ·refine kS (ih h) ?_;clear ih hc h hg;clear h;rintro p t hp rfl e g;exact aBo (x::p) t (by simp) rfl e g
  ·cases h
theorem Dn:∀{p t:List Str},p≠[]->oT t->bI t∈iO (p++t)
 | [],_,h,_=>absurd rfl h
 | [x],t,_,g=>by
  show bI t∈iO (x::t);rw[iO,if_pos (pA.mpr ⟨g,trivial⟩)];exact .head _
 | x::y::p,t,_,g=>by
  have ih:=Dn (p:=y::p) (t:=t) (by simp) g
  show bI t∈iO (x::(y::p++t));have hg:oT (y::p++t):=⟨by rw[sH g.2.1];exact g.1,by simp,.inl (by
   have:t.length≠0:=λ q=>g.2.1 (List.length_eq_zero_iff.mp q);simp only[List.length_append,List.length_cons]
   lia)⟩
  rw[iO,if_pos (pA.mpr ⟨hg,trivial⟩)];exact .tail _ ih
theorem Ji(x y:Str):Txt.endswith x y=true↔∃ u,x.cps.toList=u++y.cps.toList:=by
 have lx:x.length=x.cps.toList.length:=by dsimp only [Array.length_toList];rfl
 have ly:y.length=y.cps.toList.length:=by dsimp only [Array.length_toList];rfl
 unfold Txt.endswith Builtin.Str.subAt;rw[Bool.and_eq_true,decide_eq_true_eq,beq_iff_eq,Nat.zero_add]
 constructor
 ·rintro⟨h1,h2⟩;refine bM (x.cps.toList.take (x.length - y.length)) ?_;have h3:(x.cps.extract (x.length - y.length) (x.length - y.length+y.length)).toList=y.cps.toList:=congrArg Array.toList h2;simp only[Array.toList_extract,List.extract_eq_drop_take] at h3;have h4:x.length - y.length+y.length - (x.length - y.length)=y.length:=by omega
  rw[h4,List.take_of_length_le (by rw[List.length_drop];omega)] at h3
  simp only[<- h3,List.take_append_drop]
 ·rintro⟨u,h⟩;have hl:x.length=u.length+y.length:=by simp only[lx,ly,h,List.length_append]
  refine aY (by lia) (Array.toList_inj.mp ?_)
  simp only[Array.toList_extract,List.extract_eq_drop_take];have h4:x.length - y.length=u.length:=by omega
  simp only[h4,h,List.drop_left' rfl];have h5:u.length+y.length - u.length=y.cps.toList.length:=by omega
  simp only[h5,List.take_length]
noncomputable def inS(c:Nat):Bool:=[97,99,32,100,39,108,111,55,46].any (·==c)
theorem uC{P:Nat->Prop}(h:∀ c∈[97,99,32,100,39,108,111,55,46],P c){c:Nat}(hc:inS c=true):P c:=by
 refine aE (List.any_eq_true.mp hc) λ y hy e=>?_;exact eq_of_beq e▸h y hy
theorem wE:∀{ls:List Str},(∀ l∈ls,l∈bT)->∀ c∈aX ls,inS c=true:=by
 intro l9;induction l9 with
 | nil =>
  intro _ c h;cases h
 | cons x r ih =>
  intro h c hc;have hx:∀ c∈x.cps.toList,inS c=true:=fW (P:=λ x=>∀ c∈x.cps.toList,inS c=true) (by decide) (by decide) (by decide) (by decide) x (h x (.head _))
  rcases List.mem_cons.mp (show c∈46::(x.cps.toList++aX r) from hc) with rfl|hc
  ·rfl
  ·refine bN hc (λ hc=>?_) λ hc=>?_
   ·exact hx c hc
   ·exact ih (λ l hl=>h l (.tail _ hl)) c hc
theorem uJ(h:∀ c∈x.cps.toList,inS c=true):Txt.lower x=x/\Txt.lower (Txt.upper x)=x/\(Txt.upper x).length=x.length:=by
 have h1:∀ c∈x.cps.toList,c<128:=λ c hc=>uC (P:=λ c=>c<128) (by decide) (h c hc)
 have e1:=lower_ascii h1;have e2:=upper_ascii h1;refine fP ?_ ?_ ?_
 ·rw[e1];refine jB ?_;rw[Array.toList_map];exact(List.map_congr_left λ c hc=>uC (P:=λ c=>lo1 c=c) (by decide) (h c hc)).trans (List.map_id _)
 ·rw[e2,lower_ascii]
  ·refine jB ?_;simp only[Array.toList_map,List.map_map];exact(List.map_congr_left λ c hc=>uC (P:=λ c=>(lo1 ∘ up1) c=c) (by decide) (h c hc)).trans (List.map_id _)
  ·intro c hc;rw[Array.toList_map] at hc;refine aE (List.mem_map.mp hc) ?_;clear hc;rintro d hd rfl;exact uC (P:=λ c=>up1 c<128) (by decide) (h d hd)
 ·rw[e2];show(x.cps.map up1).size=x.cps.size;simp
theorem Kh(H:HostL ls):∀ c∈(aF ls).cps.toList,inS c=true:=λ c hc=>by
 have hc':c∈(aX ls).tail:=by simpa[aF] using hc
 exact wE H.a c (List.mem_of_mem_tail hc')
theorem aAC(h:∀ l∈ls,l∈bT):∀ c∈(bI ls).cps.toList,inS c=true:=λ c hc=>wE h c (by simpa[bI] using hc)
noncomputable def Ja(ls:List Str):Bool:=ipB (aF ls)==(decide (2≤ls.length)&&iM ls==⟨#[55]⟩)&&!Txt.startswith (aF ls) "."&&ipB (bI ls)==(iM ls==⟨#[55]⟩)&&Txt.startswith (bI ls) "."
theorem c6a:eF Ja ⟨#[97]⟩=true:=by kernel_rfl
theorem c6b:eF Ja ⟨#[99,32,100,39]⟩=true:=by kernel_rfl
theorem c6c:eF Ja ⟨#[108,111,99,97,108]⟩=true:=by kernel_rfl
theorem c6d:eF Ja ⟨#[55]⟩=true:=by kernel_rfl
theorem Kg(H:HostL ls):ipB (aF ls)=(decide (2≤ls.length)&&iM ls==⟨#[55]⟩)/\Txt.startswith (aF ls) "."=false/\ipB (bI ls)=(iM ls==⟨#[55]⟩)/\Txt.startswith (bI ls) "."=true:=by
 have h:=gT (fW c6a c6b c6c c6d) H;simp only[Ja,Bool.and_eq_true,beq_iff_eq,Bool.not_eq_true'] at h;exact Us h.1.1.1 h.1.1.2 h.1.2 h.2
theorem HostL.suf{p t}(H:HostL (p++t))(h:t≠[]):HostL t:=⟨λ l hl=>H.a l (mR hl),by cases t with|nil=>exact absurd rfl h|cons=>simp,by have:=H.k2;simp only[List.length_append] at this;lia⟩
theorem uH{l0 r}(H0:HostL l0)(h:r∈lad l0):(r=aF l0/\∀ ls,HostL ls->(r∈lad ls↔ls=l0))∨∃ p t,r=bI t/\oT t/\p≠[]/\l0=p++t/\HostL t/\∀ ls,HostL ls->(r∈lad ls↔∃ p,p≠[]/\ls=p++t):=by
 rcases List.mem_cons.mp h with rfl|h
 ·refine .inl ⟨rfl,λ ls H=>⟨λ q=>?_,λ q=>q▸.head _⟩⟩;refine mc2 q (λ q=>?_) λ q=>?_
  ·exact(wO H0 H q).symm
  ·refine kS (lM q) ?_;clear H q;clear q;rintro p t hp rfl e g;exact absurd e.symm (jM H0 g.2.1)
 ·refine kS (lM h) ?_;clear h;clear h;rintro p t hp rfl rfl g;have Ht:=H0.suf g.2.1;refine .inr ⟨p,t,rfl,g,hp,rfl,Ht,λ ls H=>⟨λ q=>?_,λ⟨p',hp',e⟩=>e▸.tail _ (Dn hp' g)⟩⟩;refine mc2 q (λ q=>?_) λ q=>?_
  ·exact absurd q (jM H g.2.1)
  ·refine kS (lM q) ?_;clear q;clear q;rintro p' t' hp' rfl e g';exact bK p' hp' (by rw[xV Ht.a (H.suf g'.2.1).a e])
theorem Uk{l0 r}(H0:HostL l0)(H:HostL ls)(h:r∈lad l0):Hd (aF ls) r=(lad ls).any (·==r):=by
 have hany:(lad ls).any (·==r)=decide (r∈lad ls):=by
  rw[Bool.eq_iff_iff,List.any_eq_true,decide_eq_true_eq];exact⟨λ⟨x,hx,e⟩=>eq_of_beq e▸hx,λ hx=>⟨r,hx,by simp⟩⟩
 rw[hany];have h6:=Kg H;rcases uH H0 h with⟨rfl,hk⟩|⟨p,t,rfl,g,hp,rfl,Ht,hk⟩
 ·have e:Hd (aF ls) (aF l0)=(aF ls==aF l0):=by
   unfold Hd;rw[(Kg H0).2.1];simp
  rw[e,Bool.eq_iff_iff,beq_iff_eq,decide_eq_true_eq,hk ls H];exact⟨λ q=>wO H H0 q,λ q=>by rw[q]⟩
 ·have h6t:=Kg Ht;have ipt:ipB (bI t)=false:=by
   rw[h6t.2.2.1];simpa using g.1
  unfold Hd;rw[ipt,h6t.2.2.2];rw[Bool.eq_iff_iff,decide_eq_true_eq,hk ls H];cases hip:ipB (aF ls) with
  | true =>
   simp only[Bool.not_true,Bool.false_and,Bool.false_eq_true,if_false,beq_iff_eq];refine⟨λ q=>absurd q.symm (jM H g.2.1),λ⟨p',hp',e⟩=>?_⟩;rw[h6.1,e,sH g.2.1] at hip;simp only[Bool.and_eq_true,beq_iff_eq] at hip;exact absurd hip.2 g.1
  | false =>
   simp only[Bool.not_false,Bool.and_self,if_true,Ji]
   constructor
   ·rintro⟨u,e⟩;have e1:(aX ls).tail=u++aX t:=by simpa[aF,bI] using e
    have hne:ls≠[]:=λ q=>by have:=H.k1;rw[q] at this;cases this
    exact zQ H.a Ht.a (u:=u) (by rw[fF hne,e1];rfl)
   ·clear H h6 hany hip;rintro⟨p',hp',rfl⟩;refine bM ((aX p').tail) ?_;have:aX (p'++t)=46::((aX p').tail++aX t):=by rw[rH,fF hp'];rfl
    show(aX (p'++t)).tail.toArray.toList=(aX p').tail++(aX t).toArray.toList;rw[this];simp
section
theorem mP{step:PV->LV->List MObj->R3}{P:LV->Prop}:∀{items:List PV} {lv:LV},(∀ x∈items,∀ lv,P lv->∃ lv',step x lv σ=some (.next,lv',σ)/\P lv')->P lv->∃ lv',eU step items lv σ=some (.next,lv',σ)/\P lv':=by
 intro l9;induction l9 with
 | nil =>
  intro lv _ hp;exact⟨lv,rfl,hp⟩
 | cons x r ih =>
  intro lv h hp;refine aE (h x (.head _) lv hp) λ lv1 e1 p1=>?_;refine aE (ih (λ y hy=>h y (.tail _ hy)) p1) λ lv2 e2 p2=>?_;exact bK lv2 (by rw[Dj e1];exact e2) p2
end
theorem aBT:∀{vs:List PV},(∀ v∈vs,fzv v=some v)->fzvs vs=some vs:=by
 intro l9;induction l9 with
 | nil =>
  intro _;exact rfl
 | cons v r ih =>
  intro h;simp only[fzvs,h v (.head _),ih λ x hx=>h x (.tail _ hx)]
theorem Vm:∀(hs:List (List Str)),nD ((hs.map aF).map .str) (hs.map λ h=>PV.list ((lad h).map .str))=hs.map λ h=>.tuple [.str (aF h),.list ((lad h).map .str)]:=by
 intro l9;induction l9 with
 | nil =>
  exact rfl
 | cons h r ih =>
  simp only[List.map_cons,aBw];simp only[ih]
theorem Ra:T1.fn "_law_held"=some tF:=by kernel_rfl
noncomputable abbrev heT:Ex:=.cmp .IsNot (.call "user_domain_match" [(.me .upper (.v "host") []),(.v "rung")]) (.cmp .In (.v "rung") (.v "ladder"))
structure HeI(h:List Str)(rs:List Str)(lv:LV):Prop where
 host:lv.lookup ("host":Str)=some (.str (aF h))
 lad:lv.lookup ("ladder":Str)=some (.list ((lad h).map .str))
theorem HeI.rung{h rs}(I:HeI h rs lv)(v:PV):HeI h rs (("rung",v)::lv):=⟨by simp only[List.lookup,cR,String.reduceBEq,I.host],by simp only[List.lookup,cR,String.reduceBEq,I.lad]⟩
theorem Fe(n:Nat){l0 h rs r}(H0:HostL l0)(H:HostL h)(hr:r∈lad l0)(I:HeI h rs lv)(k:lv.lookup ("rung":Str)=some (.str r)):evT T1 (n+40) heT lv []=some false:=by
 have hl:(aF h).length≤1000:=fG H;have hu:=uJ (Kh H);have hlo:Txt.lower r=r/\r.length≤1000/\dH r=true:=by
  rcases uH H0 hr with⟨rfl,_⟩|⟨p,t,rfl,g,hp,rfl,Ht,_⟩
  ·exact fP ((uJ (Kh H0)).1) (fG H0) ((uB H0).ok)
  ·refine fP ((uJ (aAC Ht.a)).1) (xW Ht) ?_;cases p with
   | nil=>exact absurd rfl hp
   | cons x p' =>
    have hx:HostL (x::t):=⟨λ l hl=>by
     rcases List.mem_cons.mp hl with rfl|hl
     ·exact H0.a _ (.head _)
     ·exact Ht.a l hl,by simp,by have:=H0.k2;simp only[List.length_append,List.length_cons] at this ⊢;lia⟩
    exact(sC hx g.2.1).1
 have hc:=Pp (n+11) (x:=Txt.upper (aF h)) (y:=r) (by rw[hu.2.1];exact hl) (by rw[hu.2.2];exact hl) hlo.2.1 (by rw[hu.2.1];exact(uB H).ok) (by rw[hlo.1];exact hlo.2.2)
 rw[hu.2.1,hlo.1,Uk H0 H hr] at hc;have hup:jQ .upper (.str (aF h)) []=some (.str (Txt.upper (aF h))):=by
  have:(aF h).length≤100000:=by exact ll4 ‹_› (by rfl)
  simp only[aCq,aCr,aCs,aCt,aCu,aCv,aCw,this,if_true]
 have e1:ev T1 (n+38) (.call "user_domain_match" [(.me .upper (.v "host") []),(.v "rung")]) lv []=some (.bool ((lad h).any (·==r))) :=
  cE (aJ (lA (aG I.host) rfl aT rfl hup) (aJ (aG k) aT)) rfl hc
 have e2:ev T1 (n+38) (.cmp .In (.v "rung") (.v "ladder")) lv []=some (.bool ((lad h).any (·==r))):=mJ (aG k) (aG I.lad) (by
  show cO .In (.str r) (.list ((lad h).map .str))=_;simp only[Ma,Mc,Md,Me,Mf,Mg,Mh,Mi,Mj,Ga,Mk,Ml,Mm,Mn,Mo,Mp,Mq,Mr,Ms,pin,dQ,Option.map_some,Mb])
 refine aL e1 e2 ?_;show cO .IsNot (.bool _) (.bool _)=_;simp[Ma,Mc,Md,Me,Mf,Mg,Mh,Mi,Mj,Ga,Mk,Ml,Mm,Mn,Mo,Mp,Mq,Mr,Ms,aDD,aDF,aDG,aDH,aDI,Mb,aDE]
theorem Fd(n:Nat){hs:List (List Str)}{rs:List Str}(hh:∀ h∈hs,HostL h)(hr:∀ r∈rs,∃ l0,HostL l0/\r∈lad l0)(hl:rs.length<100000) :
  cG T1 (n+60) "_law_held" [.list ((hs.map aF).map .str),.list (hs.map λ h=>.list ((lad h).map .str)),.list (rs.map .str)]=some (.bool true):=by
 refine aE (mP (P:=λ lv=>lv.lookup ("rungs":Str)=some (.list (rs.map .str))) (σ:=[]) (items:=hs.map λ h=>.tuple [.str (aF h),.list ((lad h).map .str)])
  (lv:=[("rungs",.list (rs.map .str)),("ladders",.list (hs.map λ h=>.list ((lad h).map .str))),("hosts",.list ((hs.map aF).map .str))])
  (step:=λ x lv σ=>(dS (.p "host" "ladder") x lv).bind λ lv'=>exs T1 (n+57) [.forr (.n "rung") (.e (.v "rungs")) [.ite heT [(.ret (.c (.bool false)))] []]] lv' σ) (λ x hx lv hP=>by
   refine aE (List.mem_map.mp hx) ?_;clear hx;rintro h hm rfl;have H:=hh h hm;have hP':((("ladder":Str),PV.list ((lad h).map .str))::(("host":Str),PV.str (aF h))::lv).lookup ("rungs":Str)=some (.list (rs.map .str)):=by simp only[List.lookup,cR,String.reduceBEq,hP]
   refine aE (mP (P:=λ lv=>HeI h rs lv/\lv.lookup ("rungs":Str)=some (.list (rs.map .str))) (σ:=[]) (items:=rs.map .str) (lv:=(("ladder":Str),PV.list ((lad h).map .str))::(("host":Str),PV.str (aF h))::lv)
    (step:=λ x lv σ=>(dS (.n "rung") x lv).bind λ lv'=>exs T1 (n+55) [.ite heT [(.ret (.c (.bool false)))] []] lv' σ) (λ y hy lv' hQ=>by
     refine aE (List.mem_map.mp hy) ?_;clear hy;rintro r hrm rfl;refine aE (hr r hrm) λ l0 H0 hr0=>?_;have I:=hQ.1.rung (.str r);have k:((("rung":Str),PV.str r)::lv').lookup ("rung":Str)=some (.str r):=by simp only[List.lookup,cR,String.reduceBEq]
     refine rA ((("rung":Str),PV.str r)::lv') ?_ I (by simp only[List.lookup,cR,String.reduceBEq,hQ.2])
     exact aD (aC (c:=false) (Fe (n+13) H0 H hr0 I k) aO)) ⟨⟨by simp only[List.lookup,cR,String.reduceBEq],by simp only[List.lookup,cR,String.reduceBEq]⟩,hP'⟩) λ lv2 e2 p2=>?_
   exact bK lv2 (aD (mK (eW (aG hP') (by simpa using hl)) e2)) p2.2) (by kernel_rfl)) λ lv' e1 _=>?_
 refine bV Ra rfl (aA (mK (items:=hs.map λ h=>.tuple [.str (aF h),.list ((lad h).map .str)]) ?_ e1) (bD (cB bA))) rfl;simp only[<- Vm];exact Jk (aG (by kernel_rfl)) (aG (by kernel_rfl))
theorem nA{z}(h1:sLt x y=true)(h2:sLt y z=true):sLt x z=true:=by
 simp only[sLt,decide_eq_true_eq] at *;exact List.lt_trans h1 h2
theorem iZ(h:sLt x y=true):x≠y:=λ e=>by rw[e,Bd] at h;exact nft h
noncomputable abbrev SSt(l:List Str):Prop:=l.Pairwise λ a b=>sLt a b=true
noncomputable abbrev bH(ys:List Str)(x:Str):Bool:=!ys.any (·==x)
theorem tM{l:List Str}:(l.any (·==x))=decide (x∈l):=by
 rw[Bool.eq_iff_iff,List.any_eq_true,decide_eq_true_eq];exact⟨λ⟨y,hy,e⟩=>eq_of_beq e▸hy,λ hx=>⟨x,hx,by simp⟩⟩
theorem cU{l:List Str}:bH l x=decide (x∉l):=by simp only[bH,tM];simp
theorem uQ:∀(n:Nat) {xs ys:List Str},xs.length+ys.length<n->SSt xs->SSt ys->gL n xs ys=(xs.filter (bH ys),ys.filter (bH xs))
 | 0,_,_,h,_,_=>absurd h (Nat.not_lt_zero _)
 | n+1,[],ys,_,_,_=>by
  rw[aAe];have:ys.filter (bH [])=ys:=List.filter_eq_self.mpr λ _ _=>rfl;rw[this];rfl
 | n+1,x::xs,[],_,_,_=>by
  rw[Sj];have:(x::xs).filter (bH [])=x::xs:=List.filter_eq_self.mpr λ _ _=>rfl;rw[this];rfl
 | n+1,x::xs,y::ys,h,hx,hy=>by
  have hx':=List.pairwise_cons.mp hx;have hy':=List.pairwise_cons.mp hy;rw[uP];cases c1:sLt x y with
  | true =>
   rw[if_pos rfl,uQ n (by simp at h ⊢;omega) hx'.2 hy]
   have nx:x∉y::ys:=λ q=>by
    refine mc2 q (λ q=>?_) λ q=>?_
    ·exact iZ c1 q
    ·exact iZ (nA c1 (hy'.1 x q)) rfl
   have e1:(x::xs).filter (bH (y::ys))=x::xs.filter (bH (y::ys)):=List.filter_cons_of_pos (by rw[cU];simpa using nx)
   have e2:(y::ys).filter (bH (x::xs))=(y::ys).filter (bH xs):=List.filter_congr λ z hz=>by
    have:z≠x:=λ q=>nx (q▸hz);rw[cU,cU];simp[this]
   rw[e1,e2]
  | false =>
   rw[if_neg Bool.false_ne_true];cases c2:sLt y x with
   | true =>
    rw[if_pos rfl,uQ n (by simp at h ⊢;omega) hx hy'.2]
    have ny:y∉x::xs:=λ q=>by
     refine mc2 q (λ q=>?_) λ q=>?_
     ·exact iZ c2 q
     ·exact iZ (nA c2 (hx'.1 y q)) rfl
    have e1:(y::ys).filter (bH (x::xs))=y::ys.filter (bH (x::xs)):=List.filter_cons_of_pos (by rw[cU];simpa using ny)
    have e2:(x::xs).filter (bH (y::ys))=(x::xs).filter (bH ys):=List.filter_congr λ z hz=>by
     have:z≠y:=λ q=>ny (q▸hz);rw[cU,cU];simp[this]
    rw[e1,e2]
   | false =>
    rw[if_neg Bool.false_ne_true,uQ n (by simp at h ⊢;omega) hx'.2 hy'.2]
    have e:x=y:=eB c1 c2;clear h hy c1 c2;subst e;have nx:x∉xs:=λ q=>iZ (hx'.1 x q) rfl;have ny:x∉ys:=λ q=>iZ (hy'.1 x q) rfl;have e1:(x::xs).filter (bH (x::ys))=xs.filter (bH ys):=by
     rw[List.filter_cons_of_neg (by rw[cU];simp)]
     exact List.filter_congr λ z hz=>by
      have:z≠x:=λ q=>nx (q▸hz);rw[cU,cU];simp[this]
    have e2:(x::ys).filter (bH (x::xs))=ys.filter (bH xs):=by
     rw[List.filter_cons_of_neg (by rw[cU];simp)]
     exact List.filter_congr λ z hz=>by
      have:z≠x:=λ q=>ny (q▸hz);rw[cU,cU];simp[this]
    rw[e1,e2]
theorem uW{l}(h:l.Nodup):SSt (cD l):=by
 have h1:=lY l;have h2:(cD l).Nodup:=(dB l).symm.nodup h;refine List.Pairwise.imp₂ (λ a b (h1:sLe a b) (h2:a≠b)=>?_) h1 h2;cases c:sLt a b with
 | true=>rfl
 | false=>exact absurd (eB c h1) h2
theorem kG:∀{l:List Str},SSt l->yS l=true
 | [],_=>rfl
 | [_],_=>rfl
 | a::b::r,h=>by
  have h':=List.pairwise_cons.mp h;simp only[yS,kG h'.2,Bool.and_true];have:=iZ (h'.1 b (.head _));simpa using λ q=>this q.symm
section
theorem vY{F:PV->Option (List PV)}{p:α->Bool}{f g:α->PV}{l:List α}(h:∀ y∈l,F (f y)=some (if p y=true then [g y] else [])):fE F (l.map f)=some ((l.filter p).map g):=by
 induction l with
 | nil=>rfl
 | cons x r ih =>
  rw[List.map_cons,fE,h x (.head _),ih λ y hy=>h y (.tail _ hy)];cases hp:p x with
  | true=>rw[List.filter_cons_of_pos hp];rfl
  | false=>rw[List.filter_cons_of_neg (hp▸Bool.false_ne_true)];rfl
theorem zN{fr:List Str}{elt:Ex}{it:It}{ifs:List Ex}{l:List α}{f g:α->PV}{lvc:LV}{p:α->Bool}(h1:eH T (n+1) it lv σ=some (l.map f))(h2:iA fr lv=some lvc)(h3:lvc.lookup x=none)(h4:∀ y∈l,dM T (n+1) .And ifs ((x,f y)::lvc) []=some (p y)/\(p y=true->ev T n elt ((x,f y)::lvc) []=some (g y)/\fzv (g y)=some (g y)))(hl:l.length<100000) :
  ev T (n+2) (.comp fr elt [.mk (.n x) it ifs]) lv σ=some (.list ((l.filter p).map g)):=by
 simp only[Uz,h1,h2];show(fE (λ x_1=>(bindC (.n x) x_1 lvc).bind λ lv'=>(dM T (n+1) .And ifs lv' []).bind λ c=>if c=true then iV T (n+1) elt [] lv' else some []) (l.map f)).bind _=_
 rw[vY (g:=g) (p:=p) λ y hy=>by
  refine aK (h4 y hy) λ e1 e2=>?_;simp only[bindC,h3,Option.isNone_none,if_true,Option.bind_some,e1];cases hp:p y with
  | true =>
   refine aK (e2 hp) λ e3 e4=>?_;simp only[aDo,e3,e4,Option.bind_eq_bind,Option.bind_some,Option.pure_def,if_true]
  | false=>rfl]
 exact if_pos (by simp only[List.length_map];exact Nat.lt_of_le_of_lt (List.length_filter_le _ _) hl)
end
theorem sQ{f}(h:∀ x∈xs,f x x=some true):iQ f xs xs=some true:=by
 induction xs with
 | nil=>rfl
 | cons x r ih=>exact Aq (h x (.head _)) (ih λ y hy=>h y (.tail _ hy))
theorem hO(d:Nat)(xs:List Str):iP (d+1) (.list (xs.map .str)) (.list (xs.map .str))=some true:=by
 rw[Ni rfl];refine sQ λ x hx=>?_;refine aE (List.mem_map.mp hx) ?_;clear hx;rintro y _ rfl;rw[aAr,beq_self_eq_true]
theorem Ap(d:Nat)(xs:List (List Str)):iP (d+2) (.list (xs.map λ x=>.list (x.map .str))) (.list (xs.map λ x=>.list (x.map .str)))=some true:=by
 simp only[Ni rfl];refine sQ λ x hx=>?_;refine aE (List.mem_map.mp hx) ?_;clear hx;rintro y _ rfl;exact hO d y
theorem Qy{xs ys}(hx:SSt xs)(hy:SSt ys)(lx:xs.length<1000)(ly:ys.length<1000):T1.ext "sorted_list_difference" [.list (xs.map .str),.list (ys.map .str)]=some (.tuple [.list ((xs.filter (bH ys)).map .str),.list ((ys.filter (bH xs)).map .str)]):=by
 unfold T1 sZ;dsimp only;unfold Et;rw[if_neg (λ q=>by have:=Dm q;revert this;decide),if_pos rfl]
 dsimp only;unfold aAH;simp only[dQ,Option.bind_some];rw[if_pos ⟨kG hx,kG hy,lx,ly⟩,uQ _ (Nat.lt_succ_self _) hx hy]
noncomputable def tN(xs ys:List Str):Nat:=(xs.filter (bH ys)).length+(ys.filter (bH xs)).length
theorem Jo:T1.fn "_law_apart"=some oG:=by kernel_rfl
theorem qH(n:Nat){xs ys:List Str}{a b:Str}(ha:lv.lookup a=some (.list (xs.map .str)))(hb:lv.lookup b=some (.list (ys.map .str)))(hl:xs.length<1000)(hab:("rung"==b)=false) :
  ev T1 (n+20) (.comp [b] (.v "rung") [.mk (.n "rung") (.e (.v a)) [.cmp .NotIn (.v "rung") (.v b)]]) lv σ=some (.list ((xs.filter (bH ys)).map .str)):=by
 have hb2:(b==("rung":Str))=false:=by
  have:=hab;simp only[beq_eq_false_iff_ne,ne_eq] at this ⊢;exact λ q=>this q.symm
 have h:=zN (T:=T1) (n:=n+18) (lv:=lv) (σ:=σ) (fr:=[b]) (elt:=.v "rung") (x:="rung") (it:=.e (.v a)) (ifs:=[.cmp .NotIn (.v "rung") (.v b)]) (l:=xs) (f:=.str) (g:=.str) (lvc:=[(b,.list (ys.map .str))]) (p:=bH ys)
  (eW (aG ha) (by simp;exact ll1 ‹_› (by rfl))) (by simp only[iA,hb,Mu,Mv,Gb,Mw,Mx,My,Mz,Option.map_some,Mt]) (by simp only[List.lookup,hab]) (λ s hy=>by
   have e1:((("rung":Str),PV.str s)::[(b,PV.list (ys.map .str))]:LV).lookup ("rung":Str)=some (.str s):=by simp only[List.lookup,cR,String.reduceBEq]
   have e2:(("rung",PV.str s)::[(b,PV.list (ys.map .str))]:LV).lookup b=some (.list (ys.map .str)):=by simp only[List.lookup,hb2,beq_self_eq_true]
   refine aY ?_ λ _=>⟨aG e1,rfl⟩;rw[cZ (b:=bH ys s) (aL (aG e1) (aG e2) (by
    show cO .NotIn (.str s) (.list (ys.map .str))=_;simp only[Ma,Mc,Md,Me,Mf,Mg,Mh,Mi,Mj,Ga,Mk,Ml,Mm,Mn,Mo,Mp,Mq,Mr,Ms,pin,dQ,Option.map_some,Mb]))]
   cases hq:bH ys s<;>simp only[Wn,Qu,hq]) (by exact ll1 ‹_› (by rfl))
 exact h
theorem yU(n:Nat){xs ys:List Str}(hx:SSt xs)(hy:SSt ys)(lx:xs.length<1000)(ly:ys.length<1000):cG T1 (n+260) "_law_apart" [.list (xs.map .str),.list (ys.map .str)]=some (.int (tN xs ys:Nat)):=by
 have b1:fU .list (.list (xs.map .str))=some (.list (xs.map .str)):=by simp only[qI,uS,lR,jZ,lS,lT,lU,lV,kA,List.length_map,if_pos (show xs.length<1000000 by exact ll1 ‹_› (by rfl))]
 have b2:fU .list (.list (ys.map .str))=some (.list (ys.map .str)):=by simp only[qI,uS,lR,jZ,lS,lT,lU,lV,kA,List.length_map,if_pos (show ys.length<1000000 by exact ll1 ‹_› (by rfl))]
 have l1:fU .len (.list ((xs.filter (bH ys)).map .str))=some (.int (xs.filter (bH ys)).length):=by
  have:=List.length_filter_le (bH ys) xs;simp only[qI,uS,lR,jZ,lS,lT,lU,lV,kA,List.length_map,if_pos (show(xs.filter (bH ys)).length<1000000 by exact lx1 ‹_› ‹_› (by rfl))]
 have l2:fU .len (.list ((ys.filter (bH xs)).map .str))=some (.int (ys.filter (bH xs)).length):=by
  have:=List.length_filter_le (bH xs) ys;simp only[qI,uS,lR,jZ,lS,lT,lU,lV,kA,List.length_map,if_pos (show(ys.filter (bH xs)).length<1000000 by exact lx1 ‹_› ‹_› (by rfl))]
 let L:LV:=[("gained",.list ((ys.filter (bH xs)).map .str)),("lost",.list ((xs.filter (bH ys)).map .str)),("told",.tuple [.list ((xs.filter (bH ys)).map .str),.list ((ys.filter (bH xs)).map .str)]),("second",.list (ys.map .str)),("first",.list (xs.map .str)),("other",.list (ys.map .str)),("one",.list (xs.map .str))]
 have k1:L.lookup ("gained":Str)=some (.list ((ys.filter (bH xs)).map .str)):=by kernel_rfl
 have k2:L.lookup ("lost":Str)=some (.list ((xs.filter (bH ys)).map .str)):=by kernel_rfl
 have k3:L.lookup ("told":Str)=some (.tuple [.list ((xs.filter (bH ys)).map .str),.list ((ys.filter (bH xs)).map .str)]):=by kernel_rfl
 have k4:L.lookup ("second":Str)=some (.list (ys.map .str)):=by kernel_rfl
 have k5:L.lookup ("first":Str)=some (.list (xs.map .str)):=by kernel_rfl
 have k6:L.lookup ("other":Str)=some (.list (ys.map .str)):=by kernel_rfl
 have k7:L.lookup ("one":Str)=some (.list (xs.map .str)):=by kernel_rfl
 have q1:fK [] .NotEq (.tuple [.list ((xs.filter (bH ys)).map .str),.list ((ys.filter (bH xs)).map .str)]) (.tuple [.list ((xs.filter (bH ys)).map .str),.list ((ys.filter (bH xs)).map .str)])=some false:=by
  have:peq (.tuple [.list ((xs.filter (bH ys)).map .str),.list ((ys.filter (bH xs)).map .str)]) (.tuple [.list ((xs.filter (bH ys)).map .str),.list ((ys.filter (bH xs)).map .str)])=some true:=by
   show iP 4 _ _=_;simp only[aAs rfl];exact Aq (hO 2 _) (Aq (hO 2 _) rfl)
  show cO .NotEq (.tuple _) (.tuple _)=_;simp only[Ma,Mc,Md,Me,Mf,Mg,Mh,Mi,Mj,Ga,Mk,Ml,Mm,Mn,Mo,Mp,Mq,Mr,Ms,this,Option.map_some,Bool.not_true,Mb]
 have q2:∀ zs:List Str,fK [] .NotEq (.list (zs.map .str)) (.list (zs.map .str))=some false:=λ zs=>by
  have:peq (.list (zs.map .str)) (.list (zs.map .str))=some true:=hO 3 zs;show cO .NotEq (.list _) (.list _)=_;simp only[Ma,Mc,Md,Me,Mf,Mg,Mh,Mi,Mj,Ga,Mk,Ml,Mm,Mn,Mo,Mp,Mq,Mr,Ms,this,Option.map_some,Bool.not_true,Mb]
 refine bV Jo rfl (aA (bL (eT (aG (v:=.list (xs.map .str)) (by kernel_rfl)) rfl b1)) (aA (bL (eT (aG (v:=.list (ys.map .str)) (by kernel_rfl)) rfl b2)) (aA (bL (Jl (n:=n+54) (aJ (aG (v:=.list (xs.map .str)) (by kernel_rfl)) (aJ (aG (v:=.list (ys.map .str)) (by kernel_rfl)) aT)) rfl (Qy hx hy lx ly)))
  (aA (bL (qH (n+234) (xs:=xs) (ys:=ys) (by kernel_rfl) (by kernel_rfl) lx (by kernel_rfl))) (aA (bL (qH (n+233) (xs:=ys) (ys:=xs) (by kernel_rfl) (by kernel_rfl) ly (by kernel_rfl)))
  (aA (aC (c:=false) (lv:=L) (Ct (aL (aG k3) (wH (aJ (aG k2) (aJ (aG k1) aT)) rfl) q1) (aL (aG k5) (aG k7) (q2 xs)) (aL (aG k4) (aG k6) (q2 ys))) aO)
  (bD (cB (eI (eT (eJ (aG k3) bA rfl rfl) rfl l1) (eT (eJ (aG k3) bA rfl rfl) rfl l2) rfl rfl rfl))))))))) ?_
 rfl
theorem mO{step:PV->LV->List MObj->R3}{P:Nat->LV->List MObj->Prop}(f:Nat->PV):∀(m a:Nat) (lv:LV) (σ:List MObj),(∀ k lv σ,a≤k->k<a+m->P k lv σ->∃ lv' σ',step (f k) lv σ=some (.next,lv',σ')/\P (k+1) lv' σ')->P a lv σ ->
  ∃ lv' σ',eU step ((List.range m).map λ k=>f (a+k)) lv σ=some (.next,lv',σ')/\P (a+m) lv' σ':=by
 intro l9;induction l9 with
 | zero =>
  intro a lv σ _ hp;exact⟨lv,σ,rfl,hp⟩
 | succ m ih =>
  intro a lv σ h hp;refine eX (h a lv σ (Nat.le_refl _) (by lia) hp) λ lv1 σ1 e1 p1=>?_
  refine eX (ih (a+1) lv1 σ1 (λ k lv σ h1 h2=>h k lv σ (by lia) (by lia)) p1) λ lv2 σ2 e2 p2=>?_
  refine rR lv2 σ2 ?_ (by rw[show a+(m+1)=a+1+m by lia];exact p2)
  rw[List.range_succ_eq_map,List.map_cons,List.map_map,Dj (by rw[Nat.add_zero];exact e1)]
  have:(λ k=>f (a+1+k))=((λ k=>f (a+k)) ∘ Nat.succ):=funext λ k=>congrArg f (by rw[Nat.add_assoc,Nat.add_comm 1 k])
  rw[<- this];exact e2
noncomputable abbrev cA(G:Nat->Nat->Int):List (List PV):=(List.range 5).map λ i=>(List.range 5).map λ j=>PV.int (G i j)
noncomputable abbrev Bg(G:Nat->Nat->Int)(a b:Nat)(d:Int):Nat->Nat->Int:=λ i j=>if i=a/\j=b then d else G i j
theorem Nw(G:Nat->Nat->Int)(d:Int){a b}(ha:a<5)(hb:b<5):∃ row,(cA G)[a]? = some row/\row.length=5/\(cA G).set a (row.set b (.int d))=cA (Bg G a b d):=by
 exact aLS (M:=λ a=>∀ b,b≤4->∃ row,(cA G)[a]? = some row/\row.length=5/\(cA G).set a (row.set b (.int d))=cA (Bg G a b d))
  (aLS (aLS (aLS (aL0 (aLS (aLS (aLS (aLS (aL0 ⟨_,rfl,rfl,by kernel_rfl⟩) ⟨_,rfl,rfl,by kernel_rfl⟩) ⟨_,rfl,rfl,by kernel_rfl⟩) ⟨_,rfl,rfl,by kernel_rfl⟩) ⟨_,rfl,rfl,by kernel_rfl⟩)) (aLS (aLS (aLS (aLS (aL0 ⟨_,rfl,rfl,by kernel_rfl⟩) ⟨_,rfl,rfl,by kernel_rfl⟩) ⟨_,rfl,rfl,by kernel_rfl⟩) ⟨_,rfl,rfl,by kernel_rfl⟩) ⟨_,rfl,rfl,by kernel_rfl⟩)) (aLS (aLS (aLS (aLS (aL0 ⟨_,rfl,rfl,by kernel_rfl⟩) ⟨_,rfl,rfl,by kernel_rfl⟩) ⟨_,rfl,rfl,by kernel_rfl⟩) ⟨_,rfl,rfl,by kernel_rfl⟩) ⟨_,rfl,rfl,by kernel_rfl⟩)) (aLS (aLS (aLS (aLS (aL0 ⟨_,rfl,rfl,by kernel_rfl⟩) ⟨_,rfl,rfl,by kernel_rfl⟩) ⟨_,rfl,rfl,by kernel_rfl⟩) ⟨_,rfl,rfl,by kernel_rfl⟩) ⟨_,rfl,rfl,by kernel_rfl⟩)) (aLS (aLS (aLS (aLS (aL0 ⟨_,rfl,rfl,by kernel_rfl⟩) ⟨_,rfl,rfl,by kernel_rfl⟩) ⟨_,rfl,rfl,by kernel_rfl⟩) ⟨_,rfl,rfl,by kernel_rfl⟩) ⟨_,rfl,rfl,by kernel_rfl⟩) a (Nat.le_of_lt_succ ha) b (Nat.le_of_lt_succ hb)
theorem Dx{G}{i j e}{a b:Nat}{d:Int}(hx:lv.lookup x=some (.mref 0))(hi:ev T1 n i lv [.mat (cA G)]=some (.int a))(hj:ev T1 n j lv [.mat (cA G)]=some (.int b))(he:ev T1 n e lv [.mat (cA G)]=some (.int d))(ha:a<5)(hb:b<5) :
  ex T1 (n+1) (.st2 x i j e) lv [.mat (cA G)]=nxt lv [.mat (cA (Bg G a b d))]:=by
 refine fQ (Nw G d ha hb) λ row h1 h2 h3=>?_;rw[<- h3];exact Xx he rfl hx hi hj rfl h1 ⟨Int.natCast_nonneg a,Int.natCast_nonneg b,by rw[h2];exact hb,(by show(5:Nat)<1000;decide),by rw[h2];decide⟩
noncomputable def dW(D:Nat->Nat->Int)(k p:Nat):Nat->Nat->Int:=λ i j=>if i≠j/\(max i j<k∨(max i j=k/\min i j<p)) then D (max i j) (min i j) else 0
noncomputable abbrev FS(D:Nat->Nat->Int)(k p:Nat):Prop:=cA (Bg (Bg (dW D k p) k p (D k p)) p k (D k p))=cA (dW D k (p+1))
theorem Ev(D:Nat->Nat->Int){k p}(hk:k<5)(h:p<k):cA (Bg (Bg (dW D k p) k p (D k p)) p k (D k p))=cA (dW D k (p+1)) :=
 (aLS (n:=3) (aLS (n:=2) (aLS (n:=1) (aLS (n:=0) (aL0 λ p q=>absurd q (Nat.not_succ_le_zero p)) λ p q=>aL0 (M:=FS D 1) (by kernel_rfl) p (Nat.le_of_succ_le_succ q)) λ p q=>aLS (M:=FS D 2) (aL0 (by kernel_rfl)) (by kernel_rfl) p (Nat.le_of_succ_le_succ q)) λ p q=>aLS (M:=FS D 3) (aLS (aL0 (by kernel_rfl)) (by kernel_rfl)) (by kernel_rfl) p (Nat.le_of_succ_le_succ q)) λ p q=>aLS (M:=FS D 4) (aLS (aLS (aL0 (by kernel_rfl)) (by kernel_rfl)) (by kernel_rfl)) (by kernel_rfl) p (Nat.le_of_succ_le_succ q):∀ k,k≤4->∀ p,p+1≤k->FS D k p) k (Nat.le_of_lt_succ hk) p h
theorem Eu(D:Nat->Nat->Int){k}(hk:k<5):cA (dW D k k)=cA (dW D (k+1) 0) :=
 (aLS (aLS (aLS (aLS (aL0 (by kernel_rfl)) (by kernel_rfl)) (by kernel_rfl)) (by kernel_rfl)) (by kernel_rfl):∀ k,k≤4->cA (dW D k k)=cA (dW D (k+1) 0)) k (Nat.le_of_lt_succ hk)
theorem wV{f:Nat->PV}{p:Nat}(h:p<5):dU (.list ((List.range 5).map f)) (.int p)=some (f p):=by
 show iW _ _=_;unfold iW;rw[if_pos (Int.natCast_nonneg p),if_pos (by omega),Int.toNat_natCast]
 simp[h]
theorem Xz:T1.fn "_law_far"=some Bz:=by kernel_rfl
theorem Ju:T1.fn "_law_round"=some oJ:=by kernel_rfl
noncomputable abbrev cL(s:Nat->List Str):PV:=.list ((List.range 5).map λ k=>.list ((s k).map .str))
noncomputable def apD(s:Nat->List Str)(k p:Nat):Int:=(tN (s k) (s p):Nat)
structure FaI(s:Nat->List Str)(lv:LV):Prop where
 far:lv.lookup ("far":Str)=some (.mref 0)
 lad:lv.lookup ("ladders":Str)=some (cL s)
structure FaK(s:Nat->List Str)(k:Nat)(lv:LV):Prop where
 I:FaI s lv
 kk:lv.lookup ("k":Str)=some (.int k)
 one:lv.lookup ("one":Str)=some (.list ((s k).map .str))
theorem FaI.put{s}(I:FaI s lv){x}(v:PV)(h1:("far"==x)=false)(h2:("ladders"==x)=false):FaI s ((Str.ofString x,v)::lv):=⟨by simp only[List.lookup,cR,h1,I.far],by simp only[List.lookup,cR,h2,I.lad]⟩
theorem FaK.put{s k}(K:FaK s k lv){x}(v:PV)(h1:("far"==x)=false)(h2:("ladders"==x)=false)(h3:("k"==x)=false)(h4:("one"==x)=false):FaK s k ((Str.ofString x,v)::lv) :=
 ⟨K.I.put v h1 h2,by simp only[List.lookup,cR,h3,K.kk],by simp only[List.lookup,cR,h4,K.one]⟩
noncomputable abbrev faB:List Sx:=[(.asg "steps" (.call "_law_apart" [(.v "one"),(.sub (.v "ladders") (.v "place"))])),(.ite (.cmp .Lt (.v "steps") (.c (.int 0))) [(.ret (.c .none))] []),(.st2 "far" (.v "k") (.v "place") (.v "steps")),(.st2 "far" (.v "place") (.v "k") (.v "steps"))]
theorem Ew(n:Nat){s}(hs:∀ k,k<5->SSt (s k)/\(s k).length<1000){k p}(hk:k<5)(hp:p<k)(K:FaK s k lv) :
  ∃ lv',exs T1 (n+280) faB ((("place":Str),PV.int p)::lv) [.mat (cA (dW (apD s) k p))]=nxt lv' [.mat (cA (dW (apD s) k (p+1)))]/\FaK s k lv':=by
 have K1:FaK s k ((("place":Str),PV.int p)::lv):=K.put (x:="place") _ rfl rfl rfl rfl;have k2:((("place":Str),PV.int p)::lv).lookup ("place":Str)=some (.int p):=by simp only[List.lookup,cR,String.reduceBEq]
 let L:LV:=(("steps":Str),PV.int (apD s k p))::(("place":Str),PV.int p)::lv
 have K3:FaK s k L:=K1.put (x:="steps") _ rfl rfl rfl rfl;have k4:L.lookup ("place":Str)=some (.int p):=by simp only[L,List.lookup,cR,String.reduceBEq]
 have k5:L.lookup ("steps":Str)=some (.int (apD s k p)):=by simp only[L,List.lookup,cR,String.reduceBEq]
 have hp5:p<5:=by exact lx2 ‹_› ‹_› (by rfl)
 have hc:∀ σ,fK σ .Lt (.int (apD s k p)) (.int 0)=some false:=λ σ=>by
  show some (decide _)=_;rw[decide_eq_false (by unfold apD;lia)]
 refine bK L ?_ K3;rw[<- Ev (apD s) hk hp];exact aA (bL (cE (aJ (aG K1.one) (aJ (eJ (aG K1.I.lad) (aG k2) rfl (wV hp5)) aT)) rfl (yU (n+18) (hs k hk).1 (hs p hp5).1 (hs k hk).2 (hs p hp5).2)))
  (aA (aC (c:=false) (aL (aG k5) bA (hc _)) aO) (aA (Dx K3.I.far (aG K3.kk) (aG k4) (aG k5) hk hp5) (aD (Dx K3.I.far (aG k4) (aG K3.kk) (aG k5) hp5 hk))))
theorem Jn(n:Nat){s}(hs:∀ k,k<5->SSt (s k)/\(s k).length<1000):cG T1 (n+300) "_law_far" [cL s]=some (.list ((cA (dW (apD s) 5 0)).map .list)):=by
 have hz:(List.replicate 5 (List.replicate 5 (PV.int 0)))=cA (dW (apD s) 0 0):=by kernel_rfl
 have e0:ex T1 (n+298) (.mkm "far" "ladders") [("ladders",cL s)] []=nxt ([("far",.mref 0),("ladders",cL s)]:LV) [.mat (cA (dW (apD s) 0 0))]:=by
  have k:([("ladders",cL s)]:LV).lookup ("ladders":Str)=some (cL s):=by kernel_rfl
  rw[Qd,k];dsimp only [cL];rw[if_pos ⟨by exact Nat.le_add_left _ _,by simp⟩,<- hz]
  rfl
 refine bB (mO (P:=λ k lv σ=>FaI s lv/\σ=[.mat (cA (dW (apD s) k 0))]) (λ k=>.tuple [.int k,.list ((s k).map .str)])
  (step:=λ x lv σ=>(dS (.p "k" "one") x lv).bind λ lv'=>exs T1 (n+296) [.forr (.n "place") (.range [.v "k"]) faB] lv' σ) 5 0 [("far",.mref 0),("ladders",cL s)] [.mat (cA (dW (apD s) 0 0))] (λ k lv σ _ hk hP=>by
   refine aK hP ?_;clear hP;rintro I rfl;have hk5:k<5:=by assumption
   let L:LV:=("one",PV.list ((s k).map .str))::("k",PV.int k)::lv
   have K:FaK s k L:=⟨(I.put (x:="k") _ rfl rfl).put (x:="one") _ rfl rfl,by simp only[L,List.lookup,cR,String.reduceBEq],by simp only[L,List.lookup,cR,String.reduceBEq]⟩
   refine bB (mO (P:=λ p lv σ=>FaK s k lv/\σ=[.mat (cA (dW (apD s) k p))]) (λ p=>.int ((p:Nat):Int))
    (step:=λ x lv σ=>(dS (.n "place") x lv).bind λ lv'=>exs T1 (n+294) faB lv' σ) k 0 L [.mat (cA (dW (apD s) k 0))] (λ p lv σ _ hp hQ=>by
     refine aK hQ ?_;clear hQ;rintro K' rfl;refine aE (Ew (n+14) hs hk5 (p:=p) (by lia) K') λ lv3 e3 K3=>?_
     exact dR lv3 _ e3 K3 rfl) ⟨K,rfl⟩) ?_;rintro lv2 σ2 e2 p2 rfl
   rw[Nat.zero_add,Eu _ hk5] at e2;refine dR lv2 [.mat (cA (dW (apD s) (k+1) 0))] ?_ p2.I rfl;dsimp only [dS,Option.bind_some];refine aD (mK (items:=(List.range k).map λ p=>.int ((0+p:Nat):Int)) ?_ e2);have hv:evs T1 (n+293) [.v "k"] L [.mat (cA (dW (apD s) k 0))]=some [.int k]:=aJ (aG K.kk) aT;dsimp only [aDn];show(evs T1 (n+293) [.v "k"] L [.mat (cA (dW (apD s) k 0))]).bind _=_;rw[hv];show(if _ then _ else _)=_
   rw[if_pos ⟨Int.natCast_nonneg k,by lia⟩]
   unfold eN;simp) ⟨⟨by kernel_rfl,by kernel_rfl⟩,rfl⟩) ?_;rintro lv' σ' e1 p1 rfl
 have e2:eH T1 (n+296) (.enum (.v "ladders")) ([("far",.mref 0),("ladders",cL s)]:LV) [.mat (cA (dW (apD s) 0 0))]=some ((List.range 5).map λ k=>.tuple [.int ((0+k:Nat):Int),.list ((s (0+k)).map .str)]):=by
  have k:ev T1 (n+295) (.v "ladders") ([("far",.mref 0),("ladders",cL s)]:LV) [.mat (cA (dW (apD s) 0 0))]=some (cL s):=aG (by kernel_rfl)
  dsimp only [aEr];dsimp only [k,Option.bind_eq_bind,Option.bind_some]
  kernel_rfl
 exact bV Xz rfl (aA e0 (aA (mK e2 e1) (bD (cB (aG p1.far))))) rfl
noncomputable def dP(G:Nat->Nat->Int)(a b c d e:Nat):Int:=G e a+(G a b+(G b c+(G c d+(G d e+0))))
noncomputable abbrev kL(G:Nat->Nat->Int):PV:=.list ((List.range 5).map λ i=>.list ((List.range 5).map λ j=>PV.int (G i j)))
theorem Qz(G:Nat->Nat->Int):PV.list ((cA G).map .list)=kL G:=rfl
noncomputable abbrev orV(a b c d e:Nat):PV:=.list [.int a,.int b,.int c,.int d,.int e]
noncomputable abbrev roE:Ex:=.sub (.sub (.v "far") (.sub (.v "order") (.bin .Sub (.v "k") (.c (.int 1))))) (.sub (.v "order") (.v "k"))
theorem hU(n:Nat){G:Nat->Nat->Int}{o:PV}{k:Int}{x y:Nat}(hx:x<5)(hy:y<5)(h1:dU o (.int (k - 1))=some (.int x))(h2:dU o (.int k)=some (.int y))(hd:deref [] o=some o):ev T1 (n+20) roE [("k",.int k),("far",kL G),("order",o)] []=some (.int (G x y)):=by
 have e1:([("k",.int k),("far",kL G),("order",o)]:LV).lookup ("k":Str)=some (.int k):=by kernel_rfl
 have e2:([("k",.int k),("far",kL G),("order",o)]:LV).lookup ("far":Str)=some (kL G):=by kernel_rfl
 have e3:([("k",.int k),("far",kL G),("order",o)]:LV).lookup ("order":Str)=some o:=by kernel_rfl
 exact eJ (eJ (aG e2) (eJ (aG e3) (eI (aG e1) bA rfl rfl rfl) hd h1) rfl (wV hx)) (eJ (aG e3) (aG e1) hd h2) rfl (wV hy)
noncomputable def rdG(G:Nat->Nat->Int)(a b c d e:Nat):Nat->Int
 | 0=>G e a
 | 1=>G a b
 | 2=>G b c
 | 3=>G c d
 | _=>G d e
theorem qN(n:Nat)(G:Nat->Nat->Int){a b c e}(ha:a<5)(hb:b<5)(hc:c<5)(hd:d<5)(he:e<5):cG T1 (n+60) "_law_round" [orV a b c d e,kL G]=some (.int (dP G a b c d e)):=by
 have hcomp:=nJ (T:=T1) (n:=n+55) (lv:=[("far",kL G),("order",orV a b c d e)]) (σ:=[]) (fr:=["far","order"]) (elt:=roE) (x:="k") (it:=.range [.bi .len (.v "order")]) (l:=[0,1,2,3,4]) (f:=λ(k:Nat)=>.int k) (g:=λ k=>.int (rdG G a b c d e k)) (lvc:=[("far",kL G),("order",orV a b c d e)])
  (by kernel_rfl) (by kernel_rfl) (by kernel_rfl) (fmc ⟨hU (n+35) he ha rfl rfl rfl,rfl⟩ (fmc ⟨hU (n+35) ha hb rfl rfl rfl,rfl⟩ (fmc ⟨hU (n+35) hb hc rfl rfl rfl,rfl⟩ (fmc ⟨hU (n+35) hc hd rfl rfl rfl,rfl⟩ (fmc ⟨hU (n+35) hd he rfl rfl rfl,rfl⟩ fmn))))) (by decide)
 exact bV Ju rfl (bD (cB (eT hcomp rfl rfl))) rfl
noncomputable def Am:List (Nat×Nat×Nat×Nat):=[(1,2,3,4),(1,2,4,3),(1,3,2,4),(1,3,4,2),(1,4,2,3),(1,4,3,2),(2,1,3,4),(2,1,4,3),(2,3,1,4),(2,3,4,1),(2,4,1,3),(2,4,3,1),(3,1,2,4),(3,1,4,2),(3,2,1,4),(3,2,4,1),(3,4,1,2),(3,4,2,1),(4,1,2,3),(4,1,3,2),(4,2,1,3),(4,2,3,1),(4,3,1,2),(4,3,2,1)]
noncomputable abbrev Gc(o:Nat×Nat×Nat×Nat):PV:=.list [.int o.1,.int o.2.1,.int o.2.2.1,.int o.2.2.2]
theorem xN(n:Nat):cG T1 (n+120) "_law_orders" [.list [.int 1,.int 2,.int 3,.int 4]]=some (.list (Am.map Gc)):=by kernel_rfl
theorem Em(n:Nat)(x y:Int):cG T1 (n+10) "three_way_cmp" [.int x,.int y]=some (.int ((if y<x then 1 else 0) - (if x<y then 1 else 0))):=by
 have h:cG T1 (n+10) "three_way_cmp" [.int x,.int y]=some (.int ((if decide (y<x)=true then 1 else 0) - (if decide (x<y)=true then 1 else 0))) :=
  bV Jp rfl (bD (cB (eI (mJ (aG rfl) (aG rfl) rfl) (mJ (aG rfl) (aG rfl) rfl) rfl rfl rfl))) rfl
 simp only[h];simp only[decide_eq_true_eq]
theorem wK:T1.fn "_law_shortest"=some hV:=by kernel_rfl
noncomputable def Qt(L:Nat->List Str)(r:Str):Nat:=((List.range 5).filter λ k=>(L k).any (·==r)).length
noncomputable abbrev shB(L:Nat->List Str)(r:Str):Bool:=((Qt L r:Nat):Int)==5
theorem aEw{v w u}(h:lv.lookup x=some v)(hd:deref σ v=some w)(hb:fU .type w=some u):ev T1 (n+2) (.bi .type (.v x)) lv σ=some u:=eT (aG h) hd hb
theorem Xo(n:Nat)(L:Nat->List Str)(r:Str):ev T1 (n+30) (.bi .len (.comp ["rung"] (.v "ladder") [.mk (.n "ladder") (.e (.v "ladders")) [.cmp .In (.v "rung") (.v "ladder")]])) [("rung",.str r),("ladders",cL L)] []=some (.int (Qt L r)):=by
 have h:=zN (T:=T1) (n:=n+27) (lv:=[("rung",.str r),("ladders",cL L)]) (σ:=[]) (fr:=["rung"]) (elt:=.v "ladder") (x:="ladder") (it:=.e (.v "ladders")) (ifs:=[.cmp .In (.v "rung") (.v "ladder")])
  (l:=List.range 5) (f:=λ k=>.list ((L k).map .str)) (g:=λ k=>.list ((L k).map .str)) (lvc:=[("rung",.str r)]) (p:=λ k=>(L k).any (·==r)) (eW (aG (by kernel_rfl)) (by simp)) (by kernel_rfl) (by kernel_rfl) (λ k _=>by
   have e1:([("ladder",PV.list ((L k).map .str)),("rung",.str r)]:LV).lookup ("rung":Str)=some (.str r):=by kernel_rfl
   have e2:([("ladder",PV.list ((L k).map .str)),("rung",.str r)]:LV).lookup ("ladder":Str)=some (.list ((L k).map .str)):=by kernel_rfl
   refine aY ?_ λ _=>⟨aG e2,rfl⟩;rw[cZ (b:=(L k).any (·==r)) (aL (aG e1) (aG e2) (by
    show cO .In (.str r) (.list ((L k).map .str))=_;rw[Ga,pin,dQ];rfl))]
   cases hq:(L k).any (·==r)<;>rfl) (by simp)
 have hlen:fU .len (.list (((List.range 5).filter λ k=>(L k).any (·==r)).map λ k=>.list ((L k).map .str)))=some (.int (Qt L r)):=by
  have hle:((List.range 5).filter λ k=>(L k).any (·==r)).length≤5:=List.length_filter_le (λ k=>(L k).any (·==r)) (List.range 5);rw[qI,List.length_map,if_pos (show((List.range 5).filter λ k=>(L k).any (·==r)).length<1000000 by exact ll3 ‹_› (by rfl))]
  rfl
 exact eT h rfl hlen
theorem Go(n:Nat)(L:Nat->List Str)(R:List Str)(hR:lv.lookup ("rungs":Str)=some (.list (R.map .str)))(hL:lv.lookup ("ladders":Str)=some (cL L))(hl:R.length<1000) :
  ev T1 (n+50) (.comp ["ladders"] (.v "rung") [.mk (.n "rung") (.e (.v "rungs")) [.cmp .Eq (.bi .len (.comp ["rung"] (.v "ladder") [.mk (.n "ladder") (.e (.v "ladders")) [.cmp .In (.v "rung") (.v "ladder")]])) (.bi .len (.v "ladders"))]]) lv []=some (.list ((R.filter (shB L)).map .str)):=by
 have h:=zN (T:=T1) (n:=n+48) (lv:=lv) (σ:=[]) (fr:=["ladders"]) (elt:=.v "rung") (x:="rung") (it:=.e (.v "rungs")) (ifs:=[.cmp .Eq (.bi .len (.comp ["rung"] (.v "ladder") [.mk (.n "ladder") (.e (.v "ladders")) [.cmp .In (.v "rung") (.v "ladder")]])) (.bi .len (.v "ladders"))])
  (l:=R) (f:=.str) (g:=.str) (lvc:=[("ladders",cL L)]) (p:=shB L) (eW (aG hR) (by simp;exact ll1 ‹_› (by rfl))) (by simp only[iA,hL,Mu,Mv,Gb,Mw,Mx,My,Mz,Option.map_some,Mt]) (by kernel_rfl) (λ r _=>by
   have e1:([("rung",PV.str r),("ladders",cL L)]:LV).lookup ("rung":Str)=some (.str r):=by kernel_rfl
   have e2:([("rung",PV.str r),("ladders",cL L)]:LV).lookup ("ladders":Str)=some (cL L):=by kernel_rfl
   refine aY ?_ λ _=>⟨aG e1,rfl⟩;rw[cZ (b:=shB L r) (aL (Xo (n+16) L r) (eT (aG e2) rfl rfl) rfl)];cases hq:shB L r<;>rfl) (by exact ll1 ‹_› (by rfl))
 exact h
theorem Gp(n:Nat)(L:Nat->List Str)(hL:∀ k,k<5->(L k).length<64)(h:lv.lookup ("ladders":Str)=some (cL L)) :
  ev T1 (n+20) (.comp [] (.bi .sorted (.v "ladder")) [.mk (.n "ladder") (.e (.v "ladders")) []]) lv σ=some (cL λ k=>cD (L k)):=by
 have hc:=nJ (T:=T1) (n:=n+18) (lv:=lv) (σ:=σ) (fr:=[]) (elt:=.bi .sorted (.v "ladder")) (x:="ladder") (it:=.e (.v "ladders")) (l:=List.range 5) (f:=λ k=>.list ((L k).map .str)) (g:=λ k=>.list ((cD (L k)).map .str)) (lvc:=[])
  (eW (aG h) (by simp)) rfl rfl (λ k hk=>by
   have e1:([("ladder",PV.list ((L k).map .str))]:LV).lookup ("ladder":Str)=some (.list ((L k).map .str)):=by kernel_rfl
   refine aY (eT (aG e1) rfl ?_) rfl;simp only[jZ,dQ];exact if_pos (hL k (List.mem_range.mp hk))) (by simp)
 exact hc
structure ShI(G:Nat->Nat->Int)(best:Int)(lv:LV):Prop where
 far:lv.lookup ("far":Str)=some (kL G)
 best:lv.lookup ("best":Str)=some (.int best)
noncomputable abbrev shL:List Sx:=[(.asg "way" (.call "three_way_cmp" [(.call "_law_round" [(.bin .Add (.list [(.c (.int 0))]) (.v "order")),(.v "far")]),(.v "best")])),(.ite (.bop .Or [(.cmp .IsNot (.bi .type (.v "way")) (.c (.fn (.type "int")))),(.cmp .NotIn (.v "way") (.tuple [(.c (.int 0)),(.c (.int 1))]))]) [(.ret (.c (.bool false)))] [])]
theorem Bh(n:Nat){G best o}(h1:o.1<5)(h2:o.2.1<5)(h3:o.2.2.1<5)(h4:o.2.2.2<5)(hb:best≤dP G 0 o.1 o.2.1 o.2.2.1 o.2.2.2)(I:ShI G best lv) :
  ∃ lv',exs T1 (n+100) shL ((("order":Str),Gc o)::lv) []=nxt lv' []/\ShI G best lv':=by
 obtain⟨a,b,c,d⟩:=o;dsimp only at h1 h2 h3 h4 hb
 let L1:LV:=(("order":Str),Gc (a,b,c,d))::lv
 have k1:L1.lookup ("order":Str)=some (Gc (a,b,c,d)):=by simp only[L1,List.lookup,cR,String.reduceBEq]
 have k2:L1.lookup ("far":Str)=some (kL G):=by simp only[L1,List.lookup,cR,String.reduceBEq,I.far]
 have k3:L1.lookup ("best":Str)=some (.int best):=by simp only[L1,List.lookup,cR,String.reduceBEq,I.best]
 have hw:∃ w:Int,cG T1 (n+97) "three_way_cmp" [.int (dP G 0 a b c d),.int best]=some (.int w)/\(w=0∨w=1):=by
  refine bK _ (Em (n+87) _ _) ?_;rw[if_neg (show ¬ dP G 0 a b c d<best by lia)]
  by_cases q:best<dP G 0 a b c d
  ·rw[if_pos q];exact .inr rfl
  ·rw[if_neg q];exact .inl rfl
 refine aE hw ?_;clear hw;intro w hw1 hw2
 let L2:LV:=(("way":Str),PV.int w)::L1
 have k4:L2.lookup ("way":Str)=some (.int w):=by simp only[L2,List.lookup,cR,String.reduceBEq]
 have e1:ev T1 (n+98) (.call "three_way_cmp" [(.call "_law_round" [(.bin .Add (.list [(.c (.int 0))]) (.v "order")),(.v "far")]),(.v "best")]) L1 []=some (.int w) :=
  cE (aJ (cE (aJ (eI (oK (aJ bA aT) rfl) (aG k1) rfl rfl rfl) (aJ (aG k2) aT)) rfl (qN (n+35) G (a:=0) (by decide) h1 h2 h3 h4)) (aJ (aG k3) aT)) rfl hw1
 have t1:evT T1 (n+97) (.bop .Or [(.cmp .IsNot (.bi .type (.v "way")) (.c (.fn (.type "int")))),(.cmp .NotIn (.v "way") (.tuple [(.c (.int 0)),(.c (.int 1))]))]) L2 []=some false:=by
  refine(kZ (x:=false) (y:=false) (aL (eT (aG k4) rfl rfl) bA (by kernel_rfl)) (aL (aG k4) (wH (aJ bA (aJ bA aT)) rfl) ?_))
  clear hw1;rcases hw2 with rfl|rfl<;>rfl
 refine⟨L2,aA (bL e1) (aD (aC (c:=false) t1 aO)),?_,?_⟩
 ·simp only[L2,L1,List.lookup,cR,String.reduceBEq,I.far]
 ·simp only[L2,L1,List.lookup,cR,String.reduceBEq,I.best]
theorem Nc:∀ o∈Am,o.1<5/\o.2.1<5/\o.2.2.1<5/\o.2.2.2<5:=by decide
set_option maxHeartbeats 2000000 in
theorem rM(n:Nat){L:Nat->List Str}{R:List Str}{a b c e:Nat}(hL:∀ k,k<5->(L k).length<64/\(L k).Nodup)(hR:R.length<1000)(ha:a<5)(hb:b<5)(hc:c<5)(hd:d<5)(he:e<5)(hbest:dP (dW (apD λ k=>cD (L k)) 5 0) a b c d e=2 * ((R.length:Int) - ((R.filter (shB L)).length:Int)))(hmin:∀ o∈Am,dP (dW (apD λ k=>cD (L k)) 5 0) a b c d e≤dP (dW (apD λ k=>cD (L k)) 5 0) 0 o.1 o.2.1 o.2.2.1 o.2.2.2) :
  cG T1 (n+320) "_law_shortest" [orV a b c d e,cL L,.list (R.map .str)]=some (.bool true):=by
 generalize hG:dW (apD λ k=>cD (L k)) 5 0=G at hbest hmin
 let L0:LV:=[("rungs",.list (R.map .str)),("ladders",cL L),("row",orV a b c d e)]
 let L1:LV:=("far",kL G)::L0
 let L2:LV:=("shared",.list ((R.filter (shB L)).map .str))::L1
 let L3:LV:=("best",.int (dP G a b c d e))::L2
 have hss:∀ k,k<5->SSt (cD (L k))/\(cD (L k)).length<1000:=λ k hk=>⟨uW (hL k hk).2,by simp only[(dB (L k)).length_eq];have:=(hL k hk).1;exact ll1 ‹_› (by rfl)⟩
 have hfar:=Jn (n+16) hss;simp only[Qz,hG] at hfar;have hle:=List.length_filter_le (shB L) R;have l1:fU .len (.list (R.map .str))=some (.int R.length):=by simp only[qI,uS,lR,jZ,lS,lT,lU,lV,kA,List.length_map,if_pos (show R.length<1000000 by exact ll1 ‹_› (by rfl))]
 have l2:fU .len (.list ((R.filter (shB L)).map .str))=some (.int (R.filter (shB L)).length):=by simp only[qI,uS,lR,jZ,lS,lT,lU,lV,kA,List.length_map,if_pos (show(R.filter (shB L)).length<1000000 by exact lx1 ‹_› ‹_› (by rfl))]
 have hm:fS .Mult (.int 2) (.int ((R.length:Int) - ((R.filter (shB L)).length:Int)))=some (.int (2 * ((R.length:Int) - ((R.filter (shB L)).length:Int)))):=by
  simp only[op1,op2,op3,op4,op5,op6,op7,op8,op9];rw[if_pos ⟨by decide,by omega⟩]
 have q1:ev T1 (n+317) (.call "_law_far" [.comp [] (.bi .sorted (.v "ladder")) [.mk (.n "ladder") (.e (.v "ladders")) []]]) L0 []=some (kL G) :=
  cE (aJ (Gp (n+295) L (λ k hk=>(hL k hk).1) (by kernel_rfl)) aT) rfl hfar
 have q2:ex T1 (n+317) (.ite (.cmp .Is (.v "far") (.c .none)) [(.ret (.c (.bool false)))] []) L1 []=nxt L1 []:=aC (c:=false) (aL (aG (v:=kL G) (by kernel_rfl)) bA rfl) aO
 have q3:ex T1 (n+316) _ L1 []=nxt L2 []:=bL (Go (n+265) L R (lv:=L1) (by kernel_rfl) (by kernel_rfl) hR)
 have q4:ex T1 (n+315) (.asg "best" (.call "_law_round" [(.v "row"),(.v "far")])) L2 []=nxt L3 []:=bL (cE (aJ (aG (v:=orV a b c d e) (by kernel_rfl)) (aJ (aG (v:=kL G) (by kernel_rfl)) aT)) rfl (qN (n+253) G ha hb hc hd he))
 have q5:ex T1 (n+314) (.ite (.cmp .NotEq (.v "best") (.bin .Mult (.c (.int 2)) (.bin .Sub (.bi .len (.v "rungs")) (.bi .len (.v "shared"))))) [(.ret (.c (.bool false)))] []) L3 []=nxt L3 [] :=
  aC (c:=false) (aL (aG (v:=.int (dP G a b c d e)) (by kernel_rfl)) (eI bA (eI (eT (aG (v:=.list (R.map .str)) (by kernel_rfl)) rfl l1) (eT (aG (v:=.list ((R.filter (shB L)).map .str)) (by kernel_rfl)) rfl l2) rfl rfl rfl) rfl rfl hm) (by
   show(peq (.int _) (.int _)).map _=_;simp only[Te,hbest];simp)) aO
 refine aE (mP (P:=ShI G (dP G a b c d e)) (σ:=[]) (items:=Am.map Gc) (lv:=L3) (step:=λ x lv σ=>(dS (.n "order") x lv).bind λ lv'=>exs T1 (n+312) shL lv' σ) (λ x hx lv I=>by
  refine aE (List.mem_map.mp hx) ?_;clear hx;rintro o ho rfl;refine kR (Nc o ho) λ h1 h2 h3 h4=>?_;simp only[dS,Option.bind_some];exact Bh (n+212) h1 h2 h3 h4 (hmin o ho) I) ⟨by kernel_rfl,by kernel_rfl⟩) λ lv' q6 _=>?_
 have q7:eH T1 (n+312) (.e (.call "_law_orders" [(.list [(.c (.int 1)),(.c (.int 2)),(.c (.int 3)),(.c (.int 4))])])) L3 []=some (Am.map Gc) :=
  eW (cE (aJ (oK (aJ bA (aJ bA (aJ bA (aJ bA aT)))) rfl) aT) rfl (xN (n+190))) (by decide)
 exact bV wK rfl (aA (bL q1) (aA q2 (aA q3 (aA q4 (aA q5 (aA (mK q7 q6) (bD (cB bA)))))))) rfl
theorem Yc:T1.fn "_law_row"=some Cb:=by kernel_rfl
noncomputable def kN(p:Nat->List Str)(place r:Nat):Bool:=decide (Xn (p r) (p place)<1)
noncomputable def mF(p:Nat->List Str)(place:Nat)(rw:List Nat):Nat:=(rw.takeWhile (kN p place)).length
noncomputable def wQ(p:Nat->List Str)(place:Nat)(rw:List Nat):List Nat:=rw.take (mF p place rw)++[place]++rw.drop (mF p place rw)
noncomputable def mY(p:Nat->List Str):Nat->List Nat
 | 0=>[]
 | k+1=>wQ p k (mY p k)
theorem Fg(p:Nat->List Str)(place:Nat)(rw:List Nat):(wQ p place rw).Perm (place::rw):=by
 unfold wQ;rw[List.append_assoc];have h:(rw.take (mF p place rw)++place::rw.drop (mF p place rw)).Perm (place::(rw.take (mF p place rw)++rw.drop (mF p place rw))):=List.perm_middle;rw[List.take_append_drop] at h;exact h
theorem mZ(p:Nat->List Str):∀ k,(mY p k).Perm (List.range k):=by
 intro l9;induction l9 with
 | zero =>
  exact List.Perm.refl _
 | succ k ih =>
  rw[mY,List.range_succ];exact(Fg p k _).trans (((ih).cons k).trans (List.perm_append_singleton k _).symm)
theorem Gf(xs:List α)(k:Nat)(h:xs.length≤4):k≤xs.length->eE xs none (some (k:Int)) none=xs.take k :=
 lL4 (M:=λ xs=>∀ k,k≤xs.length->eE xs none (some (k:Int)) none=xs.take k) (aL0 (by kernel_rfl)) (λ _=>aLS (aL0 (by kernel_rfl)) (by kernel_rfl)) (λ _ _=>aLS (aLS (aL0 (by kernel_rfl)) (by kernel_rfl)) (by kernel_rfl))
  (λ _ _ _=>aLS (aLS (aLS (aL0 (by kernel_rfl)) (by kernel_rfl)) (by kernel_rfl)) (by kernel_rfl)) (λ _ _ _ _=>aLS (aLS (aLS (aLS (aL0 (by kernel_rfl)) (by kernel_rfl)) (by kernel_rfl)) (by kernel_rfl)) (by kernel_rfl)) xs h k
theorem Gd(xs:List α)(k:Nat)(h:xs.length≤4):k≤xs.length->eE xs (some (k:Int)) none none=xs.drop k :=
 lL4 (M:=λ xs=>∀ k,k≤xs.length->eE xs (some (k:Int)) none none=xs.drop k) (aL0 (by kernel_rfl)) (λ _=>aLS (aL0 (by kernel_rfl)) (by kernel_rfl)) (λ _ _=>aLS (aLS (aL0 (by kernel_rfl)) (by kernel_rfl)) (by kernel_rfl))
  (λ _ _ _=>aLS (aLS (aLS (aL0 (by kernel_rfl)) (by kernel_rfl)) (by kernel_rfl)) (by kernel_rfl)) (λ _ _ _ _=>aLS (aLS (aLS (aLS (aL0 (by kernel_rfl)) (by kernel_rfl)) (by kernel_rfl)) (by kernel_rfl)) (by kernel_rfl)) xs h k
noncomputable abbrev fV(l:List Nat):List PV:=l.map λ(i:Nat)=>PV.int i
structure RoI(p:Nat->List Str)(rw:List Nat)(place:Nat)(lv:LV):Prop where
 turned:lv.lookup ("turned":Str)=some (cL p)
 row:lv.lookup ("row":Str)=some (.list (fV rw))
 place:lv.lookup ("place":Str)=some (.int place)
theorem RoI.put{p rw place}(I:RoI p rw place lv)(v:PV):RoI p rw place (("at",v)::lv):=⟨by simp only[List.lookup,cR,String.reduceBEq,I.turned],by simp only[List.lookup,cR,String.reduceBEq,I.row],by simp only[List.lookup,cR,String.reduceBEq,I.place]⟩
theorem Ck{v}:((("at":Str),v)::lv).lookup ("at":Str)=some v:=by simp only[List.lookup,cR,String.reduceBEq]
noncomputable abbrev roT:Ex:=.bop .And [(.cmp .Lt (.v "at") (.bi .len (.v "row"))),(.cmp .Lt (.call "three_way_cmp" [(.sub (.v "turned") (.sub (.v "row") (.v "at"))),(.sub (.v "turned") (.v "place"))]) (.c (.int 1)))]
theorem Kq{l:List Nat}{k:Nat}(h:k<l.length)(hl:l.length<1000):dU (.list (fV l)) (.int k)=some (.int l[k]):=by
 show iW _ _=_;unfold iW;rw[if_pos (Int.natCast_nonneg k),if_pos (by lia),Int.toNat_natCast]
 simp[h]
theorem Gk(n:Nat){p}{rw}{place:Nat}(hr:∀ x∈rw,x<5)(hl:rw.length<1000)(hp:place<5):∀(m k:Nat) (lv:LV),m=rw.length - k->k≤rw.length->RoI p rw place lv->lv.lookup ("at":Str)=some (.int k) ->
  ∃ lv',cT T1 (n+m+60) roT [.aug "at" .Add (.c (.int 1))] lv []=nxt lv' []/\RoI p rw place lv'/\lv'.lookup ("at":Str)=some (.int ((k+((rw.drop k).takeWhile (kN p place)).length:Nat):Int)):=by
 intro m;induction m with
 | zero =>
  intro k lv hm hk I ha;have hke:k=rw.length:=by lia
  have l1:fU .len (.list (fV rw))=some (.int rw.length):=by simp only[qI,uS,lR,jZ,lS,lT,lU,lV,kA,fV,List.length_map,if_pos (show rw.length<1000000 by exact ll1 ‹_› (by rfl))]
  have t1:evT T1 (n+57) (.cmp .Lt (.v "at") (.bi .len (.v "row"))) lv []=some (decide ((k:Int)<rw.length)):=aL (aG ha) (eT (aG I.row) rfl l1) rfl;rw[decide_eq_false (by lia)] at t1
  have t2:evT T1 (n+59) roT lv []=some false:=by
   rw[jK,cZ t1]
   rfl
  refine rA lv ?_ I ?_
  ·show cT T1 (n+59+1) _ _ _ _=_;rw[vF,t2]
   rfl
  ·rw[hke,List.drop_length];rw[ha,hke]
   rfl
 | succ m ih =>
  intro k lv hm hk I ha;have hlt:k<rw.length:=by lia
  have hx:=hr rw[k] (List.getElem_mem hlt);have l1:fU .len (.list (fV rw))=some (.int rw.length):=by simp only[qI,uS,lR,jZ,lS,lT,lU,lV,kA,fV,List.length_map,if_pos (show rw.length<1000000 by exact ll1 ‹_› (by rfl))]
  have t1:evT T1 (n+m+58) (.cmp .Lt (.v "at") (.bi .len (.v "row"))) lv []=some true:=(aL (aG ha) (eT (aG I.row) rfl l1) rfl).trans (by rw[decide_eq_true (show(k:Int)<rw.length by lia)])
  have t2:evT T1 (n+m+57) (.cmp .Lt (.call "three_way_cmp" [(.sub (.v "turned") (.sub (.v "row") (.v "at"))),(.sub (.v "turned") (.v "place"))]) (.c (.int 1))) lv []=some (kN p place rw[k]) :=
   aL (cE (aJ (eJ (aG I.turned) (eJ (aG I.row) (aG ha) rfl (Kq hlt hl)) rfl (wV hx)) (aJ (eJ (aG I.turned) (aG I.place) rfl (wV hp)) aT)) rfl (Jf (n+m+44) _ _)) bA rfl
  have t3:evT T1 (n+m+60) roT lv []=some (kN p place rw[k]):=(cP t1 t2).trans (by rw[Bool.true_and])
  have hd:rw.drop k=rw[k]::rw.drop (k+1):=List.drop_eq_getElem_cons hlt;show ∃ lv',cT T1 (n+m+60+1) _ _ _ _=_/\_;cases hg:kN p place rw[k] with
  | false =>
   rw[hg] at t3;refine rA lv ?_ I ?_
   ·rw[vF,t3]
    rfl
   ·rw[hd,List.takeWhile_cons_of_neg (by rw[hg];exact Bool.false_ne_true),ha]
    rfl
  | true =>
   rw[hg] at t3;refine fQ (ih (k+1) (("at",PV.int ((k:Int)+1))::lv) (by lia) hlt (I.put _) Ck) λ lv' e1 I' a'=>?_
   refine rA lv' ?_ I' ?_
   ·exact Ws t3 (aA (Xw ha bA) aO) e1
   ·rw[hd,List.takeWhile_cons_of_pos hg,a',List.length_cons]
    congr 2
    lia
noncomputable abbrev roB:List Sx:=[(.asg "at" (.c (.int 0))),(.whl roT [(.aug "at" .Add (.c (.int 1)))]),(.asg "row" (.bin .Add (.bin .Add (.sl (.v "row") (.c .none) (.v "at") (.c .none)) (.list [(.v "place")])) (.sl (.v "row") (.v "at") (.c .none) (.c .none))))]
theorem Pf(q:α->Bool):∀ l:List α,(l.takeWhile q).length≤l.length:=by
 intro l9;induction l9 with
 | nil =>
  exact Nat.le_refl _
 | cons x r ih =>
  rw[List.takeWhile_cons];split
  ·simp only[List.length_cons];have:=ih
   lia
  ·exact Nat.zero_le _
theorem Nv(n:Nat){p}{rw}{place:Nat}(hr:∀ x∈rw,x<5)(hl:rw.length≤4)(hp:place<5)(h1:lv.lookup ("turned":Str)=some (cL p))(h2:lv.lookup ("row":Str)=some (.list (fV rw))) :
  ∃ lv',exs T1 (n+100) roB ((("place":Str),PV.int place)::lv) []=nxt lv' []/\lv'.lookup ("turned":Str)=some (cL p)/\lv'.lookup ("row":Str)=some (.list (fV (wQ p place rw))):=by
 have I0:RoI p rw place ((("place":Str),PV.int place)::lv):=⟨by simp only[List.lookup,cR,String.reduceBEq,h1],by simp only[List.lookup,cR,String.reduceBEq,h2],by simp only[List.lookup,cR,String.reduceBEq]⟩
 refine fQ (Gk (n+37 - rw.length) hr (by exact ll3 ‹_› (by rfl)) hp rw.length 0 _ (by lia) (Nat.zero_le _) (I0.put (.int 0)) Ck) λ lv1 e1 I1 a1=>?_
 have hn:n+37 - rw.length+rw.length+60=n+97:=by lia
 rw[hn] at e1;rw[List.drop_zero,Nat.zero_add] at a1;have hc:(rw.takeWhile (kN p place)).length≤rw.length:=Pf _ _;have s1:qS (.list (fV rw)) .none (.int ((rw.takeWhile (kN p place)).length:Nat)) .none=some (.list (fV (rw.take (mF p place rw)))):=by
  simp only[Dq,sN,Dp,Do];rw[if_pos ⟨by simp,by simp;exact ll4 ‹_› (by rfl)⟩,Gf _ _ (by simpa using hl) (by simpa using hc)]
  simp only[fV,List.map_take]
  rfl
 have s2:qS (.list (fV rw)) (.int ((rw.takeWhile (kN p place)).length:Nat)) .none .none=some (.list (fV (rw.drop (mF p place rw)))):=by
  simp only[Dq,sN,Dp,Do];rw[if_pos ⟨by simp,by simp;exact ll4 ‹_› (by rfl)⟩,Gd _ _ (by simpa using hl) (by simpa using hc)]
  simp only[fV,List.map_drop]
  rfl
 have b1:fS .Add (.list (fV (rw.take (mF p place rw)))) (.list [.int place])=some (.list (fV (rw.take (mF p place rw)++[place]))):=by
  simp only[op1,op2,op3,op4,op5,op6,op7,op8,op9];rw[if_pos (by simp;lia)]
  simp[fV]
 have b2:fS .Add (.list (fV (rw.take (mF p place rw)++[place]))) (.list (fV (rw.drop (mF p place rw))))=some (.list (fV (wQ p place rw))):=by
  simp only[op1,op2,op3,op4,op5,op6,op7,op8,op9];rw[if_pos (by simp;omega)]
  simp[fV,wQ]
 have e2:ev T1 (n+96) (.bin .Add (.bin .Add (.sl (.v "row") (.c .none) (.v "at") (.c .none)) (.list [(.v "place")])) (.sl (.v "row") (.v "at") (.c .none) (.c .none))) lv1 []=some (.list (fV (wQ p place rw))) :=
  eI (eI (jV (aG I1.row) bA (aG a1) bA rfl s1) (oK (aJ (aG I1.place) aT) rfl) rfl rfl b1) (jV (aG I1.row) (aG a1) bA bA rfl s2) rfl rfl b2
 have w1:ex T1 (n+98) (.whl roT [(.aug "at" .Add (.c (.int 1)))]) (("at",PV.int 0)::("place",PV.int place)::lv) []=nxt lv1 []:=zU e1;exact rA _ (aA (bL bA) (aA w1 (aD (bL e2)))) (by simp only[List.lookup,cR,String.reduceBEq,I1.turned]) (by simp only[List.lookup,cR,String.reduceBEq])
theorem Nu(n:Nat)(p:Nat->List Str):cG T1 (n+120) "_law_row" [cL p]=some (.list (fV (mY p 5))):=by
 refine bB (mO (P:=λ k lv σ=>(lv.lookup ("turned":Str)=some (cL p)/\lv.lookup ("row":Str)=some (.list (fV (mY p k))))/\σ=[]) (λ k=>.int ((k:Nat):Int))
  (step:=λ x lv σ=>(dS (.n "place") x lv).bind λ lv'=>exs T1 (n+116) roB lv' σ) 5 0 [("row",.list []),("turned",cL p)] [] (λ k lv σ _ hk hP=>by
   refine aK hP ?_;clear hP;intro q1;refine aK q1 ?_;clear q1;intro h1 h2;rintro rfl;have hpm:=mZ p k;have hlen:(mY p k).length=k:=by rw[hpm.length_eq,List.length_range]
   simp only[dS,Option.bind_some];refine fQ (Nv (n+16) (p:=p) (rw:=mY p k) (place:=k) (λ x hx=>by
    have:=List.mem_range.mp (hpm.mem_iff.mp hx);exact lx2 ‹_› ‹_› (by rfl)) (by exact lq2 ‹_› ‹_› (by rfl)) ‹_› h1 h2) λ lv2 e2 k1 k2=>?_
   exact dR lv2 [] e2 ⟨k1,k2⟩ rfl) ⟨⟨by kernel_rfl,by kernel_rfl⟩,rfl⟩) ?_;intro lv' σ' e1 q2;refine aK q2 ?_;clear q2;intro _ k2;rintro rfl
 have e2:eH T1 (n+117) (.range [.bi .len (.v "turned")]) ([("row",.list []),("turned",cL p)]:LV) []=some ((List.range 5).map λ k=>.int ((0+k:Nat):Int)):=by kernel_rfl
 exact bV Yc rfl (aA (bL (oK aT rfl)) (aA (mK (by exact e2) e1) (bD (cB (aG k2))))) rfl
theorem mQ:∀{xs ys:List Str},ltS xs ys=true->ltS ys xs=false
 | [],[],_=>Lf
 | [],_::_,_=>uK
 | _::_,[],h=>by dsimp only [uK] at h;exact nft h
 | x::xs,y::ys,h=>by
  dsimp only [Dk] at h ⊢;split at h
  ·rename_i e;subst e;rw[if_pos rfl];exact mQ h
  ·rename_i e;rw[if_neg λ q=>e q.symm];exact sV h
theorem sI:∀{xs ys zs:List Str},ltS xs ys=true->ltS ys zs=true->ltS xs zs=true
 | [],[],_,h,_=>by dsimp only [Lf] at h;exact nft h
 | _::_,[],_,h,_=>by dsimp only [uK] at h;exact nft h
 | _,_::_,[],_,h=>by dsimp only [uK] at h;exact nft h
 | [],_::_,_::_,_,_=>qD
 | x::xs,y::ys,z::zs,h1,h2=>by
  dsimp only [Dk] at h1 h2 ⊢;split at h1
  ·rename_i e;subst e;split at h2
   ·rename_i e;subst e;rw[if_pos rfl];exact sI h1 h2
   ·rename_i e;rw[if_neg e];exact h2
  ·rename_i e;split at h2
   ·rename_i e2;subst e2;rw[if_neg e];exact h1
   ·have h3:=nA h1 h2;rw[if_neg (iZ h3)];exact h3
theorem xG:∀{xs ys:List Str},ltS xs ys=false->ltS ys xs=false->xs=ys
 | [],[],_,_=>rfl
 | [],_::_,h,_=>by dsimp only [qD] at h;exact ntf h
 | _::_,[],_,h=>by dsimp only [qD] at h;exact ntf h
 | x::xs,y::ys,h1,h2=>by
  dsimp only [Dk] at h1 h2;by_cases e:x=y
  ·subst e;rw[if_pos rfl] at h1 h2;rw[xG h1 h2]
  ·rw[if_neg e] at h1;rw[if_neg λ q=>e q.symm] at h2;exact absurd (eB h1 h2) e
theorem nV:∀{T u v y:List Str},u≠[]->ltS y (T++u)=false->ltS (T++v) y=false->∃ w,w≠[]/\y=T++w
 | [],u,v,y,hu,h1,_=>by
  refine bK y (λ q=>?_) rfl;subst q;cases u with
  | nil=>exact hu rfl
  | cons=>dsimp only [List.nil_append,qD] at h1;exact ntf h1
 | c::T,u,v,[],_,h1,_=>by dsimp only [List.cons_append,qD] at h1;exact ntf h1
 | c::T,u,v,d::y,hu,h1,h2=>by
  dsimp only [List.cons_append,Dk] at h1 h2;by_cases e:c=d
  ·subst e;rw[if_pos rfl] at h1 h2;refine aE (nV hu h1 h2) ?_;rintro w hw rfl;exact bK w hw rfl
  ·rw[if_neg λ q=>e q.symm] at h1;rw[if_neg e] at h2;exact absurd (eB h2 h1) e
theorem Da(p:Nat->List Str)(a r:Nat):kN p a r=!ltS (p a) (p r):=by
 unfold kN Xn;cases h:ltS (p a) (p r) with
 | true=>rw[mQ h];rfl
 | false=>cases ltS (p r) (p a)<;>rfl
noncomputable abbrev Cg(p:Nat->List Str)(l:List Nat):Prop:=l.Pairwise λ x y=>ltS (p y) (p x)=false
theorem De{p a}:∀{l:List Nat},Cg p l->Cg p (l.takeWhile (kN p a)++[a]++l.dropWhile (kN p a))
 | [],_=>by simp
 | x::r,h=>by
  have h':=List.pairwise_cons.mp h;have ih:=De (p:=p) (a:=a) h'.2;cases hg:kN p a x with
  | true =>
   rw[List.takeWhile_cons_of_pos hg,List.dropWhile_cons_of_pos hg];refine List.pairwise_cons.mpr ⟨λ y hy=>?_,ih⟩;have hy':y∈r.takeWhile (kN p a)++[a]++r.dropWhile (kN p a):=hy;refine bN hy' (λ q=>?_) λ q=>?_
   ·refine bN q (λ q=>?_) λ q=>?_
    ·exact h'.1 y (List.takeWhile_sublist _ |>.mem q)
    ·rw[xm1 q];rw[Da] at hg;simpa using hg
   ·exact h'.1 y (List.dropWhile_sublist _ |>.mem q)
  | false =>
   rw[List.takeWhile_cons_of_neg (by rw[hg];exact Bool.false_ne_true),List.dropWhile_cons_of_neg (by rw[hg];exact Bool.false_ne_true)]
   refine List.pairwise_cons.mpr ⟨λ y hy=>?_,h⟩;rw[Da] at hg;have hx:ltS (p a) (p x)=true:=by simpa using hg
   rcases List.mem_cons.mp hy with rfl|hy
   ·exact mQ hx
   ·cases hq:ltS (p y) (p a) with
    | false=>rfl
    | true =>
     have:=sI hq hx;rw[h'.1 y hy] at this;exact nft this
theorem qW(q:α->Bool):∀ l:List α,l.take (l.takeWhile q).length=l.takeWhile q/\l.drop (l.takeWhile q).length=l.dropWhile q:=by
 intro l9;induction l9 with
 | nil =>
  exact⟨rfl,rfl⟩
 | cons x r ih =>
  refine aK (ih) λ h1 h2=>?_;cases hq:q x with
  | true =>
   simp only[List.takeWhile_cons_of_pos hq,List.dropWhile_cons_of_pos hq];exact aY (by simp only[List.length_cons,List.take_succ_cons,h1]) (by simp only[List.length_cons,List.drop_succ_cons,h2])
  | false =>
   rw[List.takeWhile_cons_of_neg (by rw[hq];exact Bool.false_ne_true),List.dropWhile_cons_of_neg (by rw[hq];exact Bool.false_ne_true)]
   exact aY rfl rfl
theorem To(p:Nat->List Str):∀ k,Cg p (mY p k):=by
 intro l9;induction l9 with
 | zero =>
  exact .nil
 | succ k ih =>
  dsimp only [mY];unfold wQ mF;rw[(qW _ _).1,(qW _ _).2];exact De (ih)
section
noncomputable abbrev mB(L:Nat->List Str)(r:Str)(k:Nat):Bool:=(L k).any (·==r)
noncomputable def tI(x y:Bool):Int:=if x != y then 1 else 0
noncomputable def chg(a b c d e:Bool):Int:=tI e a+(tI a b+(tI b c+(tI c d+(tI d e+0))))
theorem jN(f g:α->Int):∀ R:List α,(R.map f).sum+(R.map g).sum=(R.map λ r=>f r+g r).sum:=by
 intro l9;induction l9 with
 | nil =>
  exact rfl
 | cons x r ih =>
  have:=ih;simp only[List.map_cons,List.sum_cons]
  lia
theorem yF:∀ R:List α,(R.map λ _=>(0:Int)).sum=0:=by
 intro l9;induction l9 with
 | nil =>
  exact rfl
 | cons x r ih =>
  simp only[List.map_cons,List.sum_cons,ih]
  rfl
theorem Di(f:α->Bool):∀ R:List α,((R.filter f).length:Int)=(R.map λ r=>if f r then(1:Int) else 0).sum:=by
 intro l9;induction l9 with
 | nil =>
  exact rfl
 | cons x r ih =>
  have:=ih;simp only[List.map_cons,List.sum_cons,List.filter_cons];cases f x with
  | true=>simp only[if_true,List.length_cons];lia
  | false=>simp only[Bool.false_eq_true,if_false];lia
theorem aAW(f g:α->Int):∀ R:List α,(∀ r∈R,f r≤g r)->(R.map f).sum≤(R.map g).sum:=by
 intro l9;induction l9 with
 | nil =>
  intro _;exact Int.le_refl _
 | cons x r ih =>
  intro h;have h1:=ih λ y hy=>h y (.tail _ hy);have h2:=h x (.head _);simp only[List.map_cons,List.sum_cons]
  lia
theorem jO(f g:α->Int):∀ R:List α,(∀ r∈R,f r=g r)->(R.map f).sum=(R.map g).sum:=by
 intro l9;induction l9 with
 | nil =>
  intro _;exact rfl
 | cons x r ih =>
  intro h;simp only[List.map_cons,List.sum_cons,ih λ y hy=>h y (.tail _ hy),h x (.head _)]
section
variable{L:Nat->List Str}{R:List Str}
theorem wD(hR:R.Nodup){A B}(hA:A.Nodup)(sub:∀ r∈A,r∈R):((cD A).filter (bH (cD B))).length=(R.filter λ r=>A.any (·==r)&&!B.any (·==r)).length:=by
 refine((List.perm_ext_iff_of_nodup (List.Nodup.sublist List.filter_sublist ((dB A).symm.nodup hA)) (List.Nodup.sublist List.filter_sublist hR)).mpr λ r=>?_).length_eq;simp only[List.mem_filter,cU,tM,Bool.and_eq_true,Bool.not_eq_true',decide_eq_true_eq,decide_eq_false_iff_not,(dB A).mem_iff,(dB B).mem_iff];exact⟨λ⟨a,b⟩=>⟨sub r a,a,b⟩,λ⟨_,a,b⟩=>⟨a,b⟩⟩
theorem Pd(x y:Bool):(if(x&&!y)=true then(1:Int) else 0)+(if(y&&!x)=true then(1:Int) else 0)=tI x y:=by rcases x with⟨⟩<;>rcases y with⟨⟩<;>rfl
theorem Ud(x y:Bool):tI x y=tI y x:=by rcases x with⟨⟩<;>rcases y with⟨⟩<;>rfl
theorem rV(hR:R.Nodup){A B}(hA:A.Nodup)(hB:B.Nodup)(sA:∀ r∈A,r∈R)(sB:∀ r∈B,r∈R):((tN (cD A) (cD B):Nat):Int)=(R.map λ r=>tI (A.any (·==r)) (B.any (·==r))).sum:=by
 unfold tN;simp only[wD hR hA sA,wD hR hB sB,Int.natCast_add,Di,Di,jN];exact jO _ _ _ λ r _=>Pd _ _
theorem lB(hR:R.Nodup)(hL:∀ k,k<5->(L k).Nodup/\∀ r∈L k,r∈R){j}(hi:i<5)(hj:j<5):dW (apD λ k=>cD (L k)) 5 0 i j=(R.map λ r=>tI (mB L r i) (mB L r j)).sum:=by
 unfold dW apD;by_cases e:i=j
 ·clear hj;subst e;rw[if_neg λ q=>q.1 rfl];have:∀ r∈R,tI (mB L r i) (mB L r i)=0:=λ r _=>by unfold tI;simp
  rw[jO _ _ R this,yF]
 ·rw[if_pos ⟨e,.inl (by omega)⟩]
  rcases Nat.le_total i j with q|q
  ·have e1:max i j=j:=by lia
   have e2:min i j=i:=by lia
   rw[e1,e2,rV hR (hL j hj).1 (hL i hi).1 (hL j hj).2 (hL i hi).2];exact jO _ _ _ λ r _=>Ud _ _
  ·have e1:max i j=i:=by omega
   have e2:min i j=j:=by omega
   rw[e1,e2,rV hR (hL i hi).1 (hL j hj).1 (hL i hi).2 (hL j hj).2]
theorem sS(hR:R.Nodup)(hL:∀ k,k<5->(L k).Nodup/\∀ r∈L k,r∈R){a b c e}(ha:a<5)(hb:b<5)(hc:c<5)(hd:d<5)(he:e<5) :
  dP (dW (apD λ k=>cD (L k)) 5 0) a b c d e=(R.map λ r=>chg (mB L r a) (mB L r b) (mB L r c) (mB L r d) (mB L r e)).sum:=by
 unfold dP;simp only[lB hR hL he ha,lB hR hL ha hb,lB hR hL hb hc,lB hR hL hc hd,lB hR hL hd he];have h0:=yF R;rw[<- h0,jN,jN,jN,jN,jN]
 rfl
noncomputable def vJ(m:Nat->Bool):Bool:=m 0&&m 1&&m 2&&m 3&&m 4
noncomputable def Ia(m:Nat->Bool):Bool:=m 0||m 1||m 2||m 3||m 4
theorem aAG(r:Str):shB L r=vJ (mB L r):=by
 have e:Qt L r=([0,1,2,3,4].filter λ k=>mB L r k).length:=rfl;unfold shB vJ;simp only[e];cases h0:mB L r 0<;>cases h1:mB L r 1<;>cases h2:mB L r 2<;>cases h3:mB L r 3<;>cases h4:mB L r 4<;>simp only[List.filter_cons,h0,h1,h2,h3,h4]<;>rfl
noncomputable def bF(x0 x1 x2 x3 x4:Bool):Nat->Bool
 | 0=>x0
 | 1=>x1
 | 2=>x2
 | 3=>x3
 | _=>x4
theorem Tb:∀ o∈Am,∀ x0 x1 x2 x3 x4:Bool,Ia (bF x0 x1 x2 x3 x4)=true->(if vJ (bF x0 x1 x2 x3 x4)=true then 0 else 2)≤chg (bF x0 x1 x2 x3 x4 0) (bF x0 x1 x2 x3 x4 o.1) (bF x0 x1 x2 x3 x4 o.2.1) (bF x0 x1 x2 x3 x4 o.2.2.1) (bF x0 x1 x2 x3 x4 o.2.2.2):=by decide +kernel
theorem Tp:∀ a b c d e:Bool,(a||b||c||d||e)=true->(a&&c->b)->(a&&d->b&&c)->(a&&e->b&&c&&d)->(b&&d->c)->(b&&e->c&&d)->(c&&e->d)->chg a b c d e=if(a&&b&&c&&d&&e)=true then 0 else 2:=by decide +kernel
end
end
section
theorem pY:∀{ls:List Str},(∀ l∈ls,l∈bT)->(iO ls).Nodup
 | [],_=>.nil
 | x::r,h=>by
  dsimp only [iO];split
  ·refine List.nodup_cons.mpr ⟨λ q=>?_,pY λ l hl=>h l (.tail _ hl)⟩;refine kS (lM q) λ p t hp e e2 g=>?_;have hr:∀ l∈r,l∈bT:=λ l hl=>h l (.tail _ hl);have e3:=xV hr (λ l hl=>hr l (by rw[e];exact mR hl)) e2
   have h1:=congrArg List.length e;rw[List.length_append,<- e3] at h1;exact hp (List.length_eq_zero_iff.mp (by lia))
  ·exact .nil
theorem sG(H:HostL ls):(lad ls).Nodup:=List.nodup_cons.mpr ⟨λ q=>by
 refine kS (lM q) ?_;clear q;rintro p t hp rfl e g;exact jM H g.2.1 e.symm,pY H.a⟩
theorem Kx:∀ ls:List Str,(iO ls).length≤ls.length:=by
 intro l9;induction l9 with
 | nil =>
  exact Nat.le_refl _
 | cons x r ih =>
  dsimp only [iO];split
  ·have:=ih;simp only[List.length_cons]
   lia
  ·exact Nat.zero_le _
theorem iE(H:HostL ls):(lad ls).length≤5:=by
 have h1:=Kx ls;have h2:=H.k2;simp only[lad,List.length_cons];exact lx3 ‹_› ‹_› (by rfl)
theorem Uc(f:α->Bool):∀ R:List α,(R.map λ r=>if f r=true then(0:Int) else 2).sum=2 * ((R.length:Int) - ((R.filter f).length:Int)):=by
 intro l9;induction l9 with
 | nil =>
  exact rfl
 | cons x r ih =>
  have:=ih;simp only[List.map_cons,List.sum_cons,List.filter_cons,List.length_cons];cases f x with
  | true=>simp only[if_true,List.length_cons];lia
  | false=>simp only[Bool.false_eq_true,if_false];omega
section
variable{h:Nat->List Str}
noncomputable abbrev Lh(h:Nat->List Str):Nat->List Str:=λ k=>lad (h k)
noncomputable abbrev Ph(h:Nat->List Str):Nat->List Str:=λ k=>(h k).reverse
noncomputable abbrev rL(h:Nat->List Str):List Str:=(List.range 5).flatMap λ k=>lad (h k)
noncomputable abbrev RH(h:Nat->List Str):List Str:=cD (gH (rL h))
theorem Dl{r}:r∈rL h↔∃ k,k<5/\r∈lad (h k):=by
 rw[List.mem_flatMap];exact⟨λ⟨k,a,b⟩=>⟨k,List.mem_range.mp a,b⟩,λ⟨k,a,b⟩=>⟨k,List.mem_range.mpr a,b⟩⟩
theorem uM{r}:r∈RH h↔∃ k,k<5/\r∈lad (h k):=by rw[(dB _).mem_iff,xY,Dl]
theorem vI:(RH h).Nodup:=(dB _).symm.nodup (qR _)
theorem uV(H:∀ k,k<5->HostL (h k)):(rL h).length≤25:=by
 have e:rL h=lad (h 0)++(lad (h 1)++(lad (h 2)++(lad (h 3)++(lad (h 4)++[])))):=rfl;have h0:=iE (H 0 (by decide))
 have h1:=iE (H 1 (by decide))
 have h2:=iE (H 2 (by decide))
 have h3:=iE (H 3 (by decide))
 have h4:=iE (H 4 (by decide))
 rw[e];simp only[List.length_append,List.length_nil]
 lia
theorem Tr(l:List Str):(gH l).length≤l.length:=by
 have:=pO (xs:=l) (ks:=[]);simpa[gH] using this
theorem Hp(H:∀ k,k<5->HostL (h k)):(RH h).length≤25:=by
 rw[(dB _).length_eq];have h1:=uV H;have h2:=Tr (rL h);exact lx4 ‹_› ‹_› (by rfl)
theorem Xp(H:∀ k,k<5->HostL (h k)){r}(hr:r∈RH h){x y z}(hx:x<5)(hy:y<5)(hz:z<5)(h1:ltS (Ph h y) (Ph h x)=false)(h2:ltS (Ph h z) (Ph h y)=false)(mx:mB (Lh h) r x=true)(mz:mB (Lh h) r z=true):mB (Lh h) r y=true:=by
 refine aE (uM.mp hr) λ k0 hk0 hr0=>?_;simp only[mB,tM,decide_eq_true_eq,Lh] at mx mz ⊢;rcases uH (H k0 hk0) hr0 with⟨_,hk⟩|⟨p,t,_,g,_,_,_,hk⟩
 ·simp only[hk _ (H x hx)] at mx;simp only[hk _ (H z hz)] at mz;simp only[hk _ (H y hy)];have e:Ph h z=Ph h x:=by show(h z).reverse=(h x).reverse;simp only[mx,mz]
  simp only[e] at h2;have e2:=xG h1 h2;have:h y=h x:=List.reverse_inj.mp e2;simp only[this,mx]
 ·simp only[hk _ (H x hx)] at mx;simp only[hk _ (H z hz)] at mz;simp only[hk _ (H y hy)];refine aE mx ?_;intro u hu ex;refine aE mz ?_;intro v hv ez;have e1:Ph h x=t.reverse++u.reverse:=by show(h x).reverse=_;simp only[ex,List.reverse_append]
  have e2:Ph h z=t.reverse++v.reverse:=by show(h z).reverse=_;simp only[ez,List.reverse_append]
  simp only[e1] at h1;simp only[e2] at h2;refine aE (nV (by simpa using hu) h1 h2) λ w hw ey=>?_
  refine bK w.reverse (by simpa using hw) ?_
  have:(h y).reverse.reverse=(t.reverse++w).reverse:=congrArg List.reverse ey;simpa using this
theorem aDS(p:Nat->List Str):∃ a b c d e,mY p 5=[a,b,c,d,e]:=by
 have hl:(mY p 5).length=5:=by simp only[(mZ p 5).length_eq,List.length_range]
 refine eX (xC hl) λ a r e1 hl=>?_;refine eX (xC hl) λ b r e2 hl=>?_;refine eX (xC hl) λ c r e3 hl=>?_;refine eX (xC hl) λ d r e4 hl=>?_;refine aB (List.length_eq_one_iff.mp hl) λ e e5=>?_;exact aC9 a b c d e (e5▸e4▸e3▸e2▸e1)
theorem Ed(m:Nat->Bool){l:List Nat}(hp:l.Perm (List.range 5)):l.all m=vJ m:=by
 have e:vJ m=(List.range 5).all m:=by
  show _=[0,1,2,3,4].all m;simp only[vJ,List.all_cons,List.all_nil,Bool.and_true,Bool.and_assoc]
 rw[e,Bool.eq_iff_iff,List.all_eq_true,List.all_eq_true];exact⟨λ q x hx=>q x (hp.mem_iff.mpr hx),λ q x hx=>q x (hp.mem_iff.mp hx)⟩
theorem rU(m:Nat->Bool){l:List Nat}(hp:l.Perm (List.range 5)):l.any m=Ia m:=by
 have e:Ia m=(List.range 5).any m:=by
  show _=[0,1,2,3,4].any m;simp only[Ia,List.any_cons,List.any_nil,Bool.or_false,Bool.or_assoc]
 rw[e,Bool.eq_iff_iff,List.any_eq_true,List.any_eq_true];exact⟨λ⟨x,hx,q⟩=>⟨x,hp.mem_iff.mp hx,q⟩,λ⟨x,hx,q⟩=>⟨x,hp.mem_iff.mpr hx,q⟩⟩
theorem Ib{r:Str}(hr:r∈RH h):Ia (mB (Lh h) r)=true:=by
 refine aE (uM.mp hr) λ k hk hr=>?_;rw[<- rU (mB (Lh h) r) (List.Perm.refl _),List.any_eq_true];exact bK k (List.mem_range.mpr hk) (by simp only[mB,tM,decide_eq_true_eq,Lh];exact hr)
theorem vT(m:Nat->Bool){k}(hk:k<5):bF (m 0) (m 1) (m 2) (m 3) (m 4) k=m k:=by
 match k,hk with
 | 0,_=>rfl
 | 1,_=>rfl
 | 2,_=>rfl
 | 3,_=>rfl
 | 4,_=>rfl
theorem plain(H:∀ k,k<5->HostL (h k)){a b c e:Nat}(hrow:mY (Ph h) 5=[a,b,c,d,e]) :
  (a<5/\b<5/\c<5/\d<5/\e<5)/\dP (dW (apD λ k=>cD (Lh h k)) 5 0) a b c d e=2 * (((RH h).length:Int) - (((RH h).filter (shB (Lh h))).length:Int)) /\
   ∀ o∈Am,dP (dW (apD λ k=>cD (Lh h k)) 5 0) a b c d e≤dP (dW (apD λ k=>cD (Lh h k)) 5 0) 0 o.1 o.2.1 o.2.2.1 o.2.2.2:=by
 have hperm:=mZ (Ph h) 5;have hok:=To (Ph h) 5;simp only[hrow] at hperm hok;have lt:∀ x∈[a,b,c,d,e],x<5:=λ x hx=>List.mem_range.mp (hperm.mem_iff.mp hx);have ha:=lt a (by simp)
 have hb:=lt b (by simp)
 have hc:=lt c (by simp)
 have hd:=lt d (by simp)
 have he:=lt e (by simp)
 have hL:∀ k,k<5->(Lh h k).Nodup/\∀ r∈Lh h k,r∈RH h:=λ k hk=>⟨sG (H k hk),λ r hr=>uM.mpr ⟨k,hk,hr⟩⟩;have hval:dP (dW (apD λ k=>cD (Lh h k)) 5 0) a b c d e=((RH h).map λ r=>if vJ (mB (Lh h) r)=true then(0:Int) else 2).sum:=by
  simp only[sS vI hL ha hb hc hd he];refine jO _ _ _ λ r hr=>?_;have hall:=Ed (mB (Lh h) r) hperm;have hany:=rU (mB (Lh h) r) hperm;simp only[List.all_cons,List.all_nil,Bool.and_true] at hall;simp only[List.any_cons,List.any_nil,Bool.or_false] at hany;simp only[Ib hr] at hany;simp only[Cg,List.pairwise_cons,List.mem_cons,List.mem_nil_iff,or_false,forall_eq_or_imp,forall_eq] at hok;refine Qb hok ?_;intro q1;refine kR q1 ?_;intro ab ac ad ae;intro q2;refine bU q2 ?_;intro bc bd be;intro q3;refine aK q3 ?_;intro cd ce;intro de _;have K:=λ{x y z:Nat} (hx:x<5) (hy:y<5) (hz:z<5) h1 h2=>Xp H hr (x:=x) (y:=y) (z:=z) hx hy hz h1 h2;rw[Tp _ _ _ _ _ (by simpa[Bool.or_assoc] using hany)
   (λ q=>by simp only[Bool.and_eq_true] at q;exact K ha hb hc ab bc q.1 q.2)
   (λ q=>by simp only[Bool.and_eq_true] at q ⊢;exact aY (K ha hb hd ab bd q.1 q.2) (K ha hc hd ac cd q.1 q.2))
   (λ q=>by simp only[Bool.and_eq_true] at q;simp only[Bool.and_eq_true,Bool.and_eq_true];exact aY ⟨K ha hb he ab be q.1 q.2,K ha hc he ac ce q.1 q.2⟩ (K ha hd he ad de q.1 q.2))
   (λ q=>by simp only[Bool.and_eq_true] at q;exact K hb hc hd bc cd q.1 q.2)
   (λ q=>by simp only[Bool.and_eq_true] at q ⊢;exact aY (K hb hc he bc ce q.1 q.2) (K hb hd he bd de q.1 q.2))
   (λ q=>by simp only[Bool.and_eq_true] at q;exact K hc hd he cd de q.1 q.2)]
  simp only[<- hall];simp only[Bool.and_assoc]
 refine fP ⟨ha,hb,hc,hd,he⟩ ?_ λ o ho=>?_
 ·simp only[hval,Uc];have:(RH h).filter (shB (Lh h))=(RH h).filter λ r=>vJ (mB (Lh h) r):=List.filter_congr λ r _=>aAG r;simp only[this]
 ·refine kR (Nc o ho) λ h1 h2 h3 h4=>?_;rw[hval,sS vI hL (by decide) h1 h2 h3 h4]
  refine aAW _ _ _ λ r hr=>?_;have:=Tb o ho (mB (Lh h) r 0) (mB (Lh h) r 1) (mB (Lh h) r 2) (mB (Lh h) r 3) (mB (Lh h) r 4) (Ib hr);rw[vT _ (by decide),vT _ h1,vT _ h2,vT _ h3,vT _ h4] at this
  exact this
end
end
noncomputable def aAq(k:Int):Int:=if k=0 then 74 else if k=1 then 18 else if k=2 then 203 else if k=3 then 979 else 9
noncomputable def aAl(script:List Int)(k:Int):Int:=aAq k+(eE script (some k) none (some 5)).sum
noncomputable abbrev pS(script:List Int)(k:Nat):List Str:=nS (aAl script k)
noncomputable abbrev hS(script:List Int)(k:Nat):List Str:=(pS script k).reverse
theorem qK(x:Int):HostL (nS x).reverse/\(nS x).length≤4:=by
 have hl:(nS x).length=(Int.fmod x 4).toNat+1:=by simp[nS]
 have hb:(Int.fmod x 4).toNat≤3:=by rcases iG x with h|h|h|h<;>rw[h]<;>decide
 refine aY ⟨λ l hl=>?_,by rw[List.length_reverse,hl];exact Nat.le_add_left _ _,by rw[List.length_reverse,hl];exact ll3 ‹_› (by rfl)⟩ (by lia)
 rw[List.mem_reverse] at hl;refine aE (List.mem_map.mp hl) ?_;clear hl;rintro k _ rfl;exact Kw _
theorem lE(script:List Int)(k:Nat):HostL (hS script k):=(qK _).1
noncomputable abbrev oE:PV:=.list [.int 74,.int 18,.int 203,.int 979,.int 9]
theorem Aa:∀ xs:List Int,kO (xs.map .int)=some xs:=by
 intro l9;induction l9 with
 | nil =>
  exact rfl
 | cons x r ih =>
  exact(congrArg (Option.map (x::·)) (ih):_)
theorem Nk{β}(f:α->β)(xs:List α)(a b c:Option Int):eE (xs.map f) a b c=(eE xs a b c).map f:=by
 unfold eE;simp only[List.length_map,List.map_filterMap]
 congr 1
 funext k
 simp
theorem aAm(n:Nat)(script:List Int)(hl:script.length≤63){k:Nat}(hk:k<5):ev T1 (n+30) (.bin .Add (.sub (.v "own") (.v "k")) (.bi .sum (.sl (.v "script") (.v "k") (.c .none) (.c (.int 5))))) [("k",.int k),("own",oE),("script",.list (script.map .int))] []=some (.int (aAl script k)):=by
 have e1:([("k",.int k),("own",oE),("script",.list (script.map .int))]:LV).lookup ("k":Str)=some (.int k):=by kernel_rfl
 have e2:([("k",.int k),("own",oE),("script",.list (script.map .int))]:LV).lookup ("own":Str)=some oE:=by kernel_rfl
 have e3:([("k",.int k),("own",oE),("script",.list (script.map .int))]:LV).lookup ("script":Str)=some (.list (script.map .int)):=by kernel_rfl
 have h1:dU oE (.int k)=some (.int (aAq k)):=by
  exact aLS (M:=λ k=>dU oE (.int k)=some (.int (aAq k))) (aLS (aLS (aLS (aL0 rfl) rfl) rfl) rfl) rfl k (Nat.le_of_lt_succ hk)
 have h2:qS (.list (script.map .int)) (.int k) .none (.int 5)=some (.list ((eE script (some (k:Int)) none (some 5)).map .int)):=by
  simp only[Dq,sN,Dp,Do];rw[if_pos ⟨by decide,by simp;exact ll4 ‹_› (by rfl)⟩,Nk]
 have h3:fU .sum (.list ((eE script (some (k:Int)) none (some 5)).map .int))=some (.int (eE script (some (k:Int)) none (some 5)).sum):=by
  simp only[qI,uS,lR,jZ,lS,lT,lU,lV,kA,aAV,Aa,Option.map_some]
 exact eI (eJ (aG e2) (aG e1) rfl h1) (eT (jV (aG e3) (aG e1) bA bA rfl h2) rfl h3) rfl rfl rfl
theorem Nh(n:Nat)(script:List Int)(hl:script.length≤63):ev T1 (n+80) (.comp ["own","script"] (.call "_law_parts" [(.bin .Add (.sub (.v "own") (.v "k")) (.bi .sum (.sl (.v "script") (.v "k") (.c .none) (.c (.int 5)))))]) [(.mk (.n "k") (.range [(.c (.int 5))]) [])]) [("own",oE),("script",.list (script.map .int))] []=some (cL (pS script)):=by
 have h:=nJ (T:=T1) (n:=n+78) (lv:=[("own",oE),("script",.list (script.map .int))]) (σ:=[]) (fr:=["own","script"]) (elt:=.call "_law_parts" [(.bin .Add (.sub (.v "own") (.v "k")) (.bi .sum (.sl (.v "script") (.v "k") (.c .none) (.c (.int 5)))))]) (x:="k") (it:=.range [(.c (.int 5))])
  (l:=List.range 5) (f:=λ(k:Nat)=>.int k) (g:=λ k=>.list ((nS (aAl script k)).map .str)) (lvc:=[("own",oE),("script",.list (script.map .int))]) (by kernel_rfl) (by kernel_rfl) (by kernel_rfl) (λ k hk =>
   ⟨cE (aJ (aAm (n+46) script hl (List.mem_range.mp hk)) aT) rfl (Ao (n+37) _),rfl⟩) (by simp)
 exact h
theorem mX{xs:List Str}(h:xs.length≤4):qS (.list (xs.map .str)) .none .none (.int (-1))=some (.list (xs.reverse.map .str)):=by
 simp only[Dq,sN,Dp,Do];rw[if_pos ⟨by decide,by simp;exact ll4 ‹_› (by rfl)⟩,Nl _ (by simpa using h),List.map_reverse]
theorem Jm:ev T1 (n+2) (.neg (.c (.int 1))) lv σ=some (.int (-1)):=by
 dsimp only [xq4,bA]
 rfl
noncomputable abbrev dY(h:Nat->List Str):List Str:=(List.range 5).map λ k=>aF (h k)
theorem Lr(n:Nat)(script:List Int)(h:lv.lookup ("parts":Str)=some (cL (pS script))):ev T1 (n+30) (.comp [] (.me .join (.c (.str ".")) [(.sl (.v "part") (.c .none) (.c .none) (.neg (.c (.int 1))))]) [(.mk (.n "part") (.e (.v "parts")) [])]) lv []=some (.list ((dY (hS script)).map .str)):=by
 have hc:=nJ (T:=T1) (n:=n+28) (lv:=lv) (σ:=[]) (fr:=[]) (elt:=.me .join (.c (.str ".")) [(.sl (.v "part") (.c .none) (.c .none) (.neg (.c (.int 1))))]) (x:="part") (it:=.e (.v "parts"))
  (l:=List.range 5) (f:=λ k=>.list ((pS script k).map .str)) (g:=λ k=>.str (aF (hS script k))) (lvc:=[]) (eW (aG h) (by simp)) rfl rfl (λ k _=>by
   have e1:([("part",PV.list ((pS script k).map .str))]:LV).lookup ("part":Str)=some (.list ((pS script k).map .str)):=by kernel_rfl
   exact aY (lA bA rfl (aJ (jV (aG e1) bA bA Jm rfl (mX (qK _).2)) aT) rfl (Rt (lE script k))) rfl) (by simp)
 simp only[hc,List.map_map]
 rfl
theorem Qx(x:PV):T1.ext "_law_labels" [x]=(lL x).map .list:=by
 unfold T1 sZ;dsimp only;dsimp only [Et];rw[if_pos rfl]
theorem Rv(n:Nat)(h:Nat->List Str)(H:∀ k,k<5->HostL (h k))(hh:lv.lookup ("hosts":Str)=some (.list ((dY h).map .str))):ev T1 (n+230) (.comp [] (.sl (.ext "_law_labels" [(.v "host")]) (.c .none) (.c .none) (.neg (.c (.int 1)))) [(.mk (.n "host") (.e (.v "hosts")) [])]) lv []=some (cL λ k=>(h k).reverse):=by
 have hc:=nJ (T:=T1) (n:=n+228) (lv:=lv) (σ:=[]) (fr:=[]) (elt:=.sl (.ext "_law_labels" [(.v "host")]) (.c .none) (.c .none) (.neg (.c (.int 1)))) (x:="host") (it:=.e (.v "hosts"))
  (l:=List.range 5) (f:=λ k=>.str (aF (h k))) (g:=λ k=>.list ((h k).reverse.map .str)) (lvc:=[]) (eW ((aG hh).trans (by simp only[List.map_map];rfl)) (by simp)) rfl rfl (λ k hk=>by
   have Hk:=H k (List.mem_range.mp hk);have e1:([("host",PV.str (aF (h k)))]:LV).lookup ("host":Str)=some (.str (aF (h k))):=by kernel_rfl
   have e2:T1.ext "_law_labels" [.str (aF (h k))]=some (.list ((h k).map .str)):=by simp only[Qx,wZ Hk];rfl
   exact aY (jV (Jl (n:=n+26) (aJ (aG e1) aT) rfl e2) bA bA Jm rfl (mX Hk.k2)) rfl) (by simp)
 exact hc
theorem Jb(n:Nat)(h:Nat->List Str)(H:∀ k,k<5->HostL (h k))(hh:lv.lookup ("hosts":Str)=some (.list ((dY h).map .str))):ev T1 (n+80) (.comp [] (.call "_law_climbed" [(.v "host")]) [(.mk (.n "host") (.e (.v "hosts")) [])]) lv []=some (cL (Lh h)):=by
 have hc:=nJ (T:=T1) (n:=n+78) (lv:=lv) (σ:=[]) (fr:=[]) (elt:=.call "_law_climbed" [(.v "host")]) (x:="host") (it:=.e (.v "hosts"))
  (l:=List.range 5) (f:=λ k=>.str (aF (h k))) (g:=λ k=>.list ((Lh h k).map .str)) (lvc:=[]) (eW ((aG hh).trans (by rw[List.map_map];rfl)) (by simp)) rfl rfl (λ k hk=>by
   have Hk:=H k (List.mem_range.mp hk);have e1:([("host",PV.str (aF (h k)))]:LV).lookup ("host":Str)=some (.str (aF (h k))):=by kernel_rfl
   exact aY (cE (aJ (aG e1) aT) rfl (zK (n+17) Hk)) rfl) (by simp)
 exact hc
theorem Xs(n:Nat)(script:List Int)(h:lv.lookup ("parts":Str)=some (cL (pS script))):ev T1 (n+80) (.comp [] (.call "_law_due" [(.sl (.v "part") (.c .none) (.c .none) (.neg (.c (.int 1))))]) [(.mk (.n "part") (.e (.v "parts")) [])]) lv []=some (cL (Lh (hS script))):=by
 have hc:=nJ (T:=T1) (n:=n+78) (lv:=lv) (σ:=[]) (fr:=[]) (elt:=.call "_law_due" [(.sl (.v "part") (.c .none) (.c .none) (.neg (.c (.int 1))))]) (x:="part") (it:=.e (.v "parts"))
  (l:=List.range 5) (f:=λ k=>.list ((pS script k).map .str)) (g:=λ k=>.list ((Lh (hS script) k).map .str)) (lvc:=[]) (eW (aG h) (by simp)) rfl rfl (λ k _=>by
   have e1:([("part",PV.list ((pS script k).map .str))]:LV).lookup ("part":Str)=some (.list ((pS script k).map .str)):=by kernel_rfl
   exact aY (cE (aJ (jV (aG e1) bA bA Jm rfl (mX (qK _).2)) aT) rfl (Jh (n+17) (lE script k))) rfl) (by simp)
 exact hc
noncomputable abbrev pZ(script:List Int):LV:=[("names",.list ((dY (hS script)).map .str)),("parts",cL (pS script)),("own",oE),("script",.list (script.map .int))]
noncomputable abbrev xB(script:List Int):LV:=("ladders",cL (Lh (hS script)))::("hosts",.list ((dY (hS script)).map .str))::pZ script
theorem Zw(script:List Int)(hl:script.length≤63):exs T1 590 (fR.body.take 3) [("script",.list (script.map .int))] []=some (.next,pZ script,[]) :=
 aA (bL (v:=oE) (by kernel_rfl)) (aA (bL (Nh 507 script hl)) (aA (bL (Lr 556 script (by kernel_rfl))) aO))
theorem Zr(h:Nat->List Str)(H:∀ k,k<5->HostL (h k)):JoinOk " " ((dY h).map dA)=true:=by
 have h0:=(eA (H 0 (by decide))).2
 have h1:=(eA (H 1 (by decide))).2
 have h2:=(eA (H 2 (by decide))).2
 have h3:=(eA (H 3 (by decide))).2
 have h4:=(eA (H 4 (by decide))).2
 show JoinOk " " [dA (aF (h 0)),dA (aF (h 1)),dA (aF (h 2)),dA (aF (h 3)),dA (aF (h 4))]=true;generalize dA (aF (h 0))=a at *;generalize dA (aF (h 1))=b at *;generalize dA (aF (h 2))=c at *;generalize dA (aF (h 3))=d at *;generalize dA (aF (h 4))=e at *;have hs:(" ":Str).length=1:=by kernel_rfl
 unfold JoinOk;simp only[List.foldl_toArray',List.foldl_cons,List.foldl_nil,hs,Bool.not_eq_true',Builtin.Str.tooLong,sizeLine,decide_eq_false_iff_not]
 lia
theorem sK(xs:List (List Str)):fK [] .NotEq (.list (xs.map λ x=>.list (x.map .str))) (.list (xs.map λ x=>.list (x.map .str)))=some false:=by
 have e:cJ .NotEq (.list (xs.map λ x=>.list (x.map .str))) (.list (xs.map λ x=>.list (x.map .str)))=none:=rfl;dsimp only [fK,e];show(iP 4 (.list (xs.map λ x=>.list (x.map .str))) (.list (xs.map λ x=>.list (x.map .str)))).map _=_;rw[Ap 2]
 rfl
theorem Ls(xs:List Str):fK [] .NotEq (.list (xs.map .str)) (.list (xs.map .str))=some false:=by
 have e:cJ .NotEq (.list (xs.map .str)) (.list (xs.map .str))=none:=rfl;dsimp only [fK,e];show(iP 4 (.list (xs.map .str)) (.list (xs.map .str))).map _=_;rw[hO 3]
 rfl
theorem Dh(p:Nat->List Str):cL p=.list (((List.range 5).map p).map λ x=>.list (x.map .str)):=by simp only[List.map_map];rfl
theorem Zx(script:List Int):exs T1 590 ((fR.body.drop 4).take 3) (("hosts",.list ((dY (hS script)).map .str))::pZ script) []=some (.next,xB script,[]):=by
 have k1:((("hosts":Str),PV.list ((dY (hS script)).map .str))::pZ script).lookup ("hosts":Str)=some (.list ((dY (hS script)).map .str)):=by kernel_rfl
 have k2:((("hosts":Str),PV.list ((dY (hS script)).map .str))::pZ script).lookup ("names":Str)=some (.list ((dY (hS script)).map .str)):=by kernel_rfl
 have k3:((("hosts":Str),PV.list ((dY (hS script)).map .str))::pZ script).lookup ("parts":Str)=some (cL (pS script)):=by kernel_rfl
 have k4:(xB script).lookup ("ladders":Str)=some (cL (Lh (hS script))):=by kernel_rfl
 have k5:(xB script).lookup ("parts":Str)=some (cL (pS script)):=by kernel_rfl
 have HH:∀ k,k<5->HostL (hS script k):=λ k _=>lE script k;have hp:(λ k=>(hS script k).reverse)=pS script:=funext λ k=>List.reverse_reverse _;have L:=Rv 352 (hS script) HH k1;rw[hp] at L;refine aA (aC (c:=false) (kZ (n:=584) (x:=false) (y:=false) (aL (aG k1) (aG k2) (Ls _)) (aL L (aG k3) ?_)) aO) (aA (bL (Jb 507 (hS script) HH k1)) (aA (aC (c:=false) (aL (aG k4) (Xs 504 script k5) ?_) aO) aO))
 ·rw[Dh];exact sK _
 ·rw[Dh];exact sK _
theorem Tq(n:Nat)(h:Nat->List Str)(H:∀ k,k<5->HostL (h k))(k:lv.lookup ("ladders":Str)=some (cL (Lh h))):ev T1 (n+10) Ob lv []=some (.list ((rL h).map .str)):=by
 have hi:∀ k,k<5->iV T1 (n+9) (.v "rung") [.mk (.n "rung") (.e (.v "ladder")) []] [("ladder",.list ((lad (h k)).map .str))]=some ((lad (h k)).map .str):=λ k hk=>by
  have e1:([("ladder",PV.list ((lad (h k)).map .str))]:LV).lookup ("ladder":Str)=some (.list ((lad (h k)).map .str)):=by kernel_rfl
  have hl:=iE (H k hk);have hm:=oZ (l:=lad (h k)) (f:=PV.str) (g:=λ y=>[PV.str y]) (F:=λ x_1=>(bindC (.n "rung") x_1 [("ladder",PV.list ((lad (h k)).map .str))]).bind λ lv'=>(dM T1 (n+8) .And [] lv' []).bind λ c=>if c=true then iV T1 (n+8) (.v "rung") [] lv' else some []) λ x _=>by kernel_rfl
  simp only[aEs,eW (aG e1) (by simp only[List.length_map];exact ll3 ‹_› (by rfl))]
  exact hm.trans (congrArg some wJ)
 have hc:=oZ (l:=List.range 5) (f:=λ k=>PV.list ((Lh h k).map .str)) (g:=λ k=>(Lh h k).map .str) (F:=λ x_1=>(bindC (.n "ladder") x_1 []).bind λ lv'=>(dM T1 (n+9) .And [] lv' []).bind λ c=>if c=true then iV T1 (n+9) (.v "rung") [.mk (.n "rung") (.e (.v "ladder")) []] lv' else some []) λ k hk=>hi k (List.mem_range.mp hk)
 have hl4:((rL h).map PV.str).length<100000:=by
  have:=uV H;simp only[List.length_map];exact ll3 ‹_› (by rfl)
 have e4:eH T1 (n+8+1) (.e (.v "ladders")) lv []=some ((List.range 5).map λ k=>PV.list ((Lh h k).map .str)):=eW (aG k) (by simp)
 simp only[Uz,e4];show(fE _ _).bind (λ out=>if out.length<100000 then some (PV.list out) else none)=_
 refine(congrArg (Option.bind · _) hc).trans ?_;simp only[show((List.range 5).flatMap λ k=>(Lh h k).map PV.str)=(rL h).map .str from(List.map_flatMap ..).symm];exact if_pos hl4
noncomputable abbrev nO(script:List Int):LV:=("rungs",.list ((RH (hS script)).map .str))::xB script
theorem Zp(h:Nat->List Str)(HH:∀ k,k<5->HostL (h k)){a b c e}(hrow:mY (Ph h) 5=[a,b,c,d,e]):cG T1 584 "_law_shortest" [orV a b c d e,cL (Lh h),.list ((RH h).map .str)]=some (.bool true):=by
 refine bU (plain HH hrow) λ q1 hbest hmin=>Qb q1 λ ha hb hc hd he=>?_;have hR:=Hp HH;exact rM 264 (L:=Lh h) (R:=RH h) (λ k hk=>⟨by have:=iE (HH k hk);show(lad (h k)).length<64;exact ll3 ‹_› (by rfl),sG (HH k hk)⟩) (by exact ll3 ‹_› (by rfl)) ha hb hc hd he hbest hmin
theorem Zq(h:Nat->List Str)(HH:∀ k,HostL (h k)):cG T1 585 "_law_held" [.list ((dY h).map .str),cL (Lh h),.list ((RH h).map .str)]=some (.bool true):=by
 have hR:=Hp (h:=h) λ k _=>HH k;have c3:=Fd (n:=525) (hs:=(List.range 5).map h) (rs:=RH h) (λ x hh=>by
  refine aE (List.mem_map.mp hh) ?_;clear hh;rintro k _ rfl;exact HH k) (λ r hr=>by
  refine aE (uM.mp hr) λ k hk q=>?_;exact bK _ (HH k) q) (by exact ll3 ‹_› (by rfl))
 rw[List.map_map,List.map_map] at c3;exact c3
theorem aEX:fzv (.list xs)=some (.list xs):=rfl
theorem Zy(script:List Int):exs T1 590 (fR.body.drop 8) (nO script) []=some (.ret (.bool true),nO script,[]):=by
 have k1:(nO script).lookup ("rungs":Str)=some (.list ((RH (hS script)).map .str)):=by kernel_rfl
 have k2:(nO script).lookup ("hosts":Str)=some (.list ((dY (hS script)).map .str)):=by kernel_rfl
 have k3:(nO script).lookup ("parts":Str)=some (cL (pS script)):=by kernel_rfl
 have k4:(nO script).lookup ("ladders":Str)=some (cL (Lh (hS script))):=by kernel_rfl
 generalize nO script=lv at k1 k2 k3 k4;have hp:Ph (hS script)=pS script:=funext λ k=>List.reverse_reverse _;refine aDd (aDS (Ph (hS script))) λ a b c d e hrow=>?_;have c1:=Zp (hS script) (λ k _=>lE script k) hrow;have c2:=Nu 462 (pS script);rw[<- hp,hrow,hp] at c2;have c3:=Zq (hS script) λ k=>lE script k;have f3:∀ x y z:List PV,fzvs [.list x,.list y,.list z]=some [.list x,.list y,.list z]:=λ _ _ _=>rfl;have f1:∀ x:List PV,fzvs [.list x]=some [.list x]:=λ _=>rfl;have e1:ev T1 586 (.call "_law_held" [(.v "hosts"),(.v "ladders"),(.v "rungs")]) lv []=some (.bool true):=cE (aJ (aG k2) (aJ (aG k4) (aJ (aG k1) aT))) (f3 _ _ _) c3;have e0:ev T1 583 (.call "_law_row" [(.v "parts")]) lv []=some (orV a b c d e):=cE (aJ (aG k3) aT) (f1 _) c2;have e2:ev T1 585 (.call "_law_shortest" [(.call "_law_row" [(.v "parts")]),(.v "ladders"),(.v "rungs")]) lv []=some (.bool true):=cE (aJ e0 (aJ (aG k4) (aJ (aG k1) aT))) (f3 _ _ _) c1;have e3:ev T1 588 (.bop .And [.call "_law_held" [(.v "hosts"),(.v "ladders"),(.v "rungs")],.call "_law_shortest" [(.call "_law_row" [(.v "parts")]),(.v "ladders"),(.v "rungs")]]) lv []=some (.bool true):=by
  simp only[xq6,aEf]
  ·simp only[e1,aDJ,aDK,aDL,aDM,aDN,aDO,aDP,aDQ,aCm,aCn,aCo,aCp,Option.bind_eq_bind,Option.bind_some,aCk,aCl];simp only[aEe,e2]
 exact bD (cB e3)
theorem law_holds:lw.Holds:=Zu λ w script hl=>by
 have HH:∀ k,k<5->HostL (hS script k):=λ k _=>lE script k;refine Hh (pZ script) (xB script) (nO script) [] (dY (hS script)) (rL (hS script)) ((dY (hS script)).map .str) ⟨Zw script hl,by kernel_rfl,λ x hx=>?_,Zr _ HH,by simp,?_,Zx script,Tq 580 _ HH (by kernel_rfl),λ q=>?_,?_,Zy script⟩
 ·refine aE (List.mem_map.mp hx) ?_;clear hx;rintro k _ rfl;exact aAx _ _ (lE script k)
 ·exact Bm (p:=hS script 0) (hs:=[hS script 1,hS script 2,hS script 3,hS script 4]) (lE script 0) (λ h hh=>by
   simp only[List.mem_cons,List.mem_nil_iff,or_false] at hh;rcases hh with rfl|rfl|rfl|rfl<;>exact lE script _) (by simp)
 ·have:aF (hS script 0)∈rL (hS script):=Dl.mpr ⟨0,by decide,.head _⟩
  rw[q] at this;cases this
 ·have:=uV HH
  omega (splitDisjunctions:=true)
end Mine
theorem PySem.Challenge.cw_il0087_01_holds : PySem.Challenge.rw_il0087_01.Holds :=
  Mine.law_holds
