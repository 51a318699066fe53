import PyProof.Rows.All
import Wide.All
import OpenK.AllK
import Open.Tops
import OpenK.KMore
import KE.KTextTable
import PyProof.StrLawsReplace
import PyProof.StrCalls6
import PySem.Challenge.RW_ji0048_01
set_option Elab.async false
set_option maxRecDepth 1000000
set_option linter.all false
set_option maxHeartbeats 8000000
set_option genSizeOf false
set_option genInjectivity false
set_option tactic.hygienic false
namespace Mine
theorem dA{a b c:Nat}(h:a<=b)(k:b<=c):a<=c:=Nat.le_trans h k
theorem iD{a b c:Nat}(h:a<=b)(k:b<c):a<c:=Nat.lt_of_le_of_lt h k
theorem cE{a b c:Nat}(h:a<b)(k:b<=c):a<c:=Nat.lt_of_lt_of_le h k
theorem iC{a b:Nat}(h:a<b):a<=b:=Nat.le_of_lt h
theorem jE{a b:Nat}(h:a=b):a<=b:=Nat.le_of_eq h
theorem bB{p:Prop}[Decidable p](h:decide p=true):p:=of_decide_eq_true h
theorem pF{p:Prop}[Decidable p](h:decide p=false):¬p:=of_decide_eq_false h
theorem pA{p:Prop}[Decidable p](h:p):decide p=true:=decide_eq_true h
theorem vA{p:Prop}[Decidable p]:(decide p=true)=p:=decide_eq_true_eq
theorem oA(a b:Bool):((a&&b)=true)=(a=true/\b=true):=Bool.and_eq_true a b
theorem sD{α:Type}{l:List α}{i:Nat}{a:α}:l.getD i a=l[i]?.getD a:=List.getD_eq_getElem?_getD
theorem eE{α:Type}{b:α}(as:List α){bs:List α}(h:b∈bs):b∈as++bs:=List.mem_append_right as h
theorem zH{α:Type}{a:α}{as:List α}(bs:List α)(h:a∈as):a∈as++bs:=List.mem_append_left bs h
theorem gD(n:Nat):(0:Int)<=n:=Int.natCast_nonneg n
theorem vC{α:Type}{as bs:List α}:(as++bs).length=as.length+bs.length:=List.length_append
theorem rC(n:Nat):0<=n:=Nat.zero_le n
theorem eD(b:Bool):(true&&b)=b:=Bool.true_and b
theorem fC{α:Type}{p:α->Bool}{l:List α}(h:l.all p=true):∀x∈l,p x=true:=List.all_eq_true.mp h
theorem xB{α:Type}{a b:α}{l:List α}(h:a∈b::l):a=b\/a∈l:=List.mem_cons.mp h
theorem dI{α:Type}{a:α}{s t:List α}(h:a∈s++t):a∈s\/a∈t:=List.mem_append.mp h
theorem oH{α:Type}{a b:α}(h:a∈[b]):a=b:=List.mem_singleton.mp h
theorem dH{α β:Type}{x:Option α}{f:α->Option β}{b:β}(h:x.bind f=some b):∃a,x=some a/\f a=some b:=Option.bind_eq_some_iff.mp h
theorem cH{b:Bool}(h:b≠true):b=false:=Bool.eq_false_iff.mpr h
theorem wI{m n:Nat}(h:m<=n):(m:Int)<=n:=Int.ofNat_le.mpr h
theorem nH{m n:Nat}(h:(m:Int)<=n):m<=n:=Int.ofNat_le.mp h
theorem kF{m n:Nat}(h:¬n<=m):m<n:=Nat.not_le.mp h
theorem aF(b:Bool):((!b)=true)=(b=false):=Bool.not_eq_true' b
theorem gF{α:Type}{i:Nat}{l:List α}:(l.take i).length=min i l.length:=List.length_take
theorem eH{α:Type}{l:List α}{i:Nat}{a:α}(h:l[i]?=some a):a∈l:=List.mem_of_getElem? h
theorem qDzq.{u}{α:Sort u}{a b c:α}(h:a=b)(k:b=c):a=c:=Eq.trans h k
theorem kJ{m n:Nat}(h:m<n):(m:Int)<n:=Int.ofNat_lt.mpr h
theorem fE(n m:Nat):n-m<=n:=Nat.sub_le n m
theorem nG{a b c:Int}(h:a<=b)(k:b<=c):a<=c:=Int.le_trans h k
theorem oK{m n:Nat}(h:m<n+1):m<=n:=Nat.le_of_lt_succ h
theorem vD(n:Nat):n<=n:=Nat.le_refl n
theorem rG{p:Prop}[Decidable p](h:¬p):decide p=false:=decide_eq_false h
theorem vK{α:Type}{p:α->Prop}{a:α}{l:List α}(h:p a/\∀x∈l,p x):∀x∈a::l,p x:=List.forall_mem_cons.mpr h
theorem mG{α:Type}{l:List α}{i:Nat}(h:i<l.length):l[i]?=some l[i]:=List.getElem?_eq_getElem h
theorem no {α:Type}{x:α}{P:Prop}(h:(none:Option α)=some x):P:=nomatch h
theorem nof {P:Prop}(h:false=true):P:=nomatch h
theorem bmp{a b:Bool}{p q:Prop}(f:a=true->p)(g:b=true->q)(h:(a&&b)=true):p/\q:=have k:=Bool.and_eq_true_iff.mp h;⟨f k.1,g k.2⟩
theorem kK{a b:Bool}{p q:Prop}(f:p->a=true)(g:q->b=true)(h:p/\q):(a&&b)=true:=Bool.and_eq_true_iff.mpr ⟨f h.1,g h.2⟩
theorem vyA{α:Type}{l:List α}(h:1=l.length):∃a,l=[a]:=by
 cases l with
 |nil=>exact nomatch h
 |cons a r=>cases r with
  |nil=>exact⟨a,rfl⟩
  |cons=>exact nomatch h
theorem fjB{α:Type}{l:List α}(h:3=l.length):∃a b c,l=[a,b,c]:=by
 cases l with
 |nil=>exact nomatch h
 |cons a r=>cases r with
  |nil=>exact nomatch h
  |cons b r=>cases r with
   |nil=>exact nomatch h
   |cons c r=>cases r with
    |nil=>exact⟨a,b,c,rfl⟩
    |cons=>exact nomatch h
theorem inj {α:Type}{a b:α}(h:some a=some b):a=b:=Option.some.inj h
theorem gA {p0 p1:Prop}{G:Prop}(h:p0/\p1)(k:p0->p1->G):G:=k (h.1) (h.2)
theorem eB {p0 p1:Prop}(h0:p0)(h1:p1):p0/\p1:=⟨h0,h1⟩
theorem vH {p0 p1 p2:Prop}{G:Prop}(h:p0/\p1/\p2)(k:p0->p1->p2->G):G:=k (h.1) (h.2.1) (h.2.2)
theorem cF {p0 p1 p2:Prop}(h0:p0)(h1:p1)(h2:p2):p0/\p1/\p2:=⟨h0,h1,h2⟩
theorem raA {p0 p1 p2 p3:Prop}{G:Prop}(h:p0/\p1/\p2/\p3)(k:p0->p1->p2->p3->G):G:=k (h.1) (h.2.1) (h.2.2.1) (h.2.2.2)
theorem gM {p0 p1 p2 p3:Prop}(h0:p0)(h1:p1)(h2:p2)(h3:p3):p0/\p1/\p2/\p3:=⟨h0,h1,h2,h3⟩
theorem qaA {p0 p1 p2 p3 p4:Prop}{G:Prop}(h:p0/\p1/\p2/\p3/\p4)(k:p0->p1->p2->p3->p4->G):G:=k (h.1) (h.2.1) (h.2.2.1) (h.2.2.2.1) (h.2.2.2.2)
theorem jnA {p0 p1 p2 p3 p4:Prop}(h0:p0)(h1:p1)(h2:p2)(h3:p3)(h4:p4):p0/\p1/\p2/\p3/\p4:=⟨h0,h1,h2,h3,h4⟩
theorem cbC {p0 p1 p2 p3 p4 p5 p6:Prop}{G:Prop}(h:p0/\p1/\p2/\p3/\p4/\p5/\p6)(k:p0->p1->p2->p3->p4->p5->p6->G):G:=k (h.1) (h.2.1) (h.2.2.1) (h.2.2.2.1) (h.2.2.2.2.1) (h.2.2.2.2.2.1) (h.2.2.2.2.2.2)
theorem uaC {p0 p1 p2 p3 p4 p5 p6 p7 p8 p9 p10 p11:Prop}(h0:p0)(h1:p1)(h2:p2)(h3:p3)(h4:p4)(h5:p5)(h6:p6)(h7:p7)(h8:p8)(h9:p9)(h10:p10)(h11:p11):p0/\p1/\p2/\p3/\p4/\p5/\p6/\p7/\p8/\p9/\p10/\p11:=⟨h0,h1,h2,h3,h4,h5,h6,h7,h8,h9,h10,h11⟩
theorem iB {A0:Type}{p0:A0->Prop}{G:Prop}(h:∃a,p0 a)(k:∀a,p0 a->G):G:=h.elim λa h=>k a h
theorem yC {A0:Type}{p0:A0->Prop}(a:A0)(h0:p0 a):∃a,p0 a:=⟨a,h0⟩
theorem iA {A0:Type}{p0 p1:A0->Prop}{G:Prop}(h:∃a,p0 a/\p1 a)(k:∀a,p0 a->p1 a->G):G:=h.elim λa h=>k a (h.1) (h.2)
theorem jA {A0:Type}{p0 p1:A0->Prop}(a:A0)(h0:p0 a)(h1:p1 a):∃a,p0 a/\p1 a:=⟨a,h0,h1⟩
theorem oM {A0:Type}{p0 p1 p2:A0->Prop}{G:Prop}(h:∃a,p0 a/\p1 a/\p2 a)(k:∀a,p0 a->p1 a->p2 a->G):G:=h.elim λa h=>k a (h.1) (h.2.1) (h.2.2)
theorem zG {A0:Type}{p0 p1 p2:A0->Prop}(a:A0)(h0:p0 a)(h1:p1 a)(h2:p2 a):∃a,p0 a/\p1 a/\p2 a:=⟨a,h0,h1,h2⟩
theorem ziA {A0:Type}{p0 p1 p2 p3:A0->Prop}{G:Prop}(h:∃a,p0 a/\p1 a/\p2 a/\p3 a)(k:∀a,p0 a->p1 a->p2 a->p3 a->G):G:=h.elim λa h=>k a (h.1) (h.2.1) (h.2.2.1) (h.2.2.2)
theorem lW {A0:Type}{p0 p1 p2 p3:A0->Prop}(a:A0)(h0:p0 a)(h1:p1 a)(h2:p2 a)(h3:p3 a):∃a,p0 a/\p1 a/\p2 a/\p3 a:=⟨a,h0,h1,h2,h3⟩
theorem yiA {A0 A1:Type}{p0:A0->A1->Prop}{G:Prop}(h:∃a b,p0 a b)(k:∀a b,p0 a b->G):G:=h.elim λa h=>h.elim λb h=>k a b h
theorem inA {A0 A1:Type}{p0:A0->A1->Prop}(a:A0)(b:A1)(h0:p0 a b):∃a b,p0 a b:=⟨a,b,h0⟩
theorem jB {A0 A1:Type}{p0 p1:A0->A1->Prop}{G:Prop}(h:∃a b,p0 a b/\p1 a b)(k:∀a b,p0 a b->p1 a b->G):G:=h.elim λa h=>h.elim λb h=>k a b (h.1) (h.2)
theorem zA {A0 A1:Type}{p0 p1:A0->A1->Prop}(a:A0)(b:A1)(h0:p0 a b)(h1:p1 a b):∃a b,p0 a b/\p1 a b:=⟨a,b,h0,h1⟩
theorem zP {A0 A1:Type}{p0 p1 p2:A0->A1->Prop}{G:Prop}(h:∃a b,p0 a b/\p1 a b/\p2 a b)(k:∀a b,p0 a b->p1 a b->p2 a b->G):G:=h.elim λa h=>h.elim λb h=>k a b (h.1) (h.2.1) (h.2.2)
theorem zI {A0 A1:Type}{p0 p1 p2:A0->A1->Prop}(a:A0)(b:A1)(h0:p0 a b)(h1:p1 a b)(h2:p2 a b):∃a b,p0 a b/\p1 a b/\p2 a b:=⟨a,b,h0,h1,h2⟩
theorem bbC {A0 A1:Type}{p0 p1 p2 p3:A0->A1->Prop}{G:Prop}(h:∃a b,p0 a b/\p1 a b/\p2 a b/\p3 a b)(k:∀a b,p0 a b->p1 a b->p2 a b->p3 a b->G):G:=h.elim λa h=>h.elim λb h=>k a b (h.1) (h.2.1) (h.2.2.1) (h.2.2.2)
theorem jbC {A0 A1:Type}{p0 p1 p2 p3:A0->A1->Prop}(a:A0)(b:A1)(h0:p0 a b)(h1:p1 a b)(h2:p2 a b)(h3:p3 a b):∃a b,p0 a b/\p1 a b/\p2 a b/\p3 a b:=⟨a,b,h0,h1,h2,h3⟩
theorem xiA {A0 A1:Type}{p0 p1 p2 p3 p4:A0->A1->Prop}{G:Prop}(h:∃a b,p0 a b/\p1 a b/\p2 a b/\p3 a b/\p4 a b)(k:∀a b,p0 a b->p1 a b->p2 a b->p3 a b->p4 a b->G):G:=h.elim λa h=>h.elim λb h=>k a b (h.1) (h.2.1) (h.2.2.1) (h.2.2.2.1) (h.2.2.2.2)
theorem rwA {A0 A1:Type}{p0 p1 p2 p3 p4:A0->A1->Prop}(a:A0)(b:A1)(h0:p0 a b)(h1:p1 a b)(h2:p2 a b)(h3:p3 a b)(h4:p4 a b):∃a b,p0 a b/\p1 a b/\p2 a b/\p3 a b/\p4 a b:=⟨a,b,h0,h1,h2,h3,h4⟩
theorem abC {A0 A1:Type}{p0 p1 p2 p3 p4 p5:A0->A1->Prop}{G:Prop}(h:∃a b,p0 a b/\p1 a b/\p2 a b/\p3 a b/\p4 a b/\p5 a b)(k:∀a b,p0 a b->p1 a b->p2 a b->p3 a b->p4 a b->p5 a b->G):G:=h.elim λa h=>h.elim λb h=>k a b (h.1) (h.2.1) (h.2.2.1) (h.2.2.2.1) (h.2.2.2.2.1) (h.2.2.2.2.2)
theorem ibC {A0 A1:Type}{p0 p1 p2 p3 p4 p5:A0->A1->Prop}(a:A0)(b:A1)(h0:p0 a b)(h1:p1 a b)(h2:p2 a b)(h3:p3 a b)(h4:p4 a b)(h5:p5 a b):∃a b,p0 a b/\p1 a b/\p2 a b/\p3 a b/\p4 a b/\p5 a b:=⟨a,b,h0,h1,h2,h3,h4,h5⟩
theorem hbC {A0 A1:Type}{p0 p1 p2 p3 p4 p5 p6:A0->A1->Prop}(a:A0)(b:A1)(h0:p0 a b)(h1:p1 a b)(h2:p2 a b)(h3:p3 a b)(h4:p4 a b)(h5:p5 a b)(h6:p6 a b):∃a b,p0 a b/\p1 a b/\p2 a b/\p3 a b/\p4 a b/\p5 a b/\p6 a b:=⟨a,b,h0,h1,h2,h3,h4,h5,h6⟩
theorem gbC {A0 A1 A2:Type}{p0:A0->A1->A2->Prop}(a:A0)(b:A1)(c:A2)(h0:p0 a b c):∃a b c,p0 a b c:=⟨a,b,c,h0⟩
theorem ofA {A0 A1 A2:Type}{p0 p1:A0->A1->A2->Prop}{G:Prop}(h:∃a b c,p0 a b c/\p1 a b c)(k:∀a b c,p0 a b c->p1 a b c->G):G:=h.elim λa h=>h.elim λb h=>h.elim λc h=>k a b c (h.1) (h.2)
theorem qwA {A0 A1 A2:Type}{p0 p1:A0->A1->A2->Prop}(a:A0)(b:A1)(c:A2)(h0:p0 a b c)(h1:p1 a b c):∃a b c,p0 a b c/\p1 a b c:=⟨a,b,c,h0,h1⟩
theorem zaC {A0 A1 A2:Type}{p0 p1 p2:A0->A1->A2->Prop}{G:Prop}(h:∃a b c,p0 a b c/\p1 a b c/\p2 a b c)(k:∀a b c,p0 a b c->p1 a b c->p2 a b c->G):G:=h.elim λa h=>h.elim λb h=>h.elim λc h=>k a b c (h.1) (h.2.1) (h.2.2)
theorem mhA {A0 A1 A2:Type}{p0 p1 p2:A0->A1->A2->Prop}(a:A0)(b:A1)(c:A2)(h0:p0 a b c)(h1:p1 a b c)(h2:p2 a b c):∃a b c,p0 a b c/\p1 a b c/\p2 a b c:=⟨a,b,c,h0,h1,h2⟩
theorem yaC {A0 A1 A2:Type}{p0 p1 p2 p3:A0->A1->A2->Prop}{G:Prop}(h:∃a b c,p0 a b c/\p1 a b c/\p2 a b c/\p3 a b c)(k:∀a b c,p0 a b c->p1 a b c->p2 a b c->p3 a b c->G):G:=h.elim λa h=>h.elim λb h=>h.elim λc h=>k a b c (h.1) (h.2.1) (h.2.2.1) (h.2.2.2)
theorem oZ {A0 A1 A2:Type}{p0 p1 p2 p3:A0->A1->A2->Prop}(a:A0)(b:A1)(c:A2)(h0:p0 a b c)(h1:p1 a b c)(h2:p2 a b c)(h3:p3 a b c):∃a b c,p0 a b c/\p1 a b c/\p2 a b c/\p3 a b c:=⟨a,b,c,h0,h1,h2,h3⟩
theorem xaC {A0 A1 A2:Type}{p0 p1 p2 p3 p4:A0->A1->A2->Prop}{G:Prop}(h:∃a b c,p0 a b c/\p1 a b c/\p2 a b c/\p3 a b c/\p4 a b c)(k:∀a b c,p0 a b c->p1 a b c->p2 a b c->p3 a b c->p4 a b c->G):G:=h.elim λa h=>h.elim λb h=>h.elim λc h=>k a b c (h.1) (h.2.1) (h.2.2.1) (h.2.2.2.1) (h.2.2.2.2)
theorem pwA {A0 A1 A2:Type}{p0 p1 p2 p3 p4:A0->A1->A2->Prop}(a:A0)(b:A1)(c:A2)(h0:p0 a b c)(h1:p1 a b c)(h2:p2 a b c)(h3:p3 a b c)(h4:p4 a b c):∃a b c,p0 a b c/\p1 a b c/\p2 a b c/\p3 a b c/\p4 a b c:=⟨a,b,c,h0,h1,h2,h3,h4⟩
theorem cqA {A0 A1 A2:Type}{p0 p1 p2 p3 p4 p5:A0->A1->A2->Prop}{G:Prop}(h:∃a b c,p0 a b c/\p1 a b c/\p2 a b c/\p3 a b c/\p4 a b c/\p5 a b c)(k:∀a b c,p0 a b c->p1 a b c->p2 a b c->p3 a b c->p4 a b c->p5 a b c->G):G:=h.elim λa h=>h.elim λb h=>h.elim λc h=>k a b c (h.1) (h.2.1) (h.2.2.1) (h.2.2.2.1) (h.2.2.2.2.1) (h.2.2.2.2.2)
theorem ufB {A0 A1 A2:Type}{p0 p1 p2 p3 p4 p5:A0->A1->A2->Prop}(a:A0)(b:A1)(c:A2)(h0:p0 a b c)(h1:p1 a b c)(h2:p2 a b c)(h3:p3 a b c)(h4:p4 a b c)(h5:p5 a b c):∃a b c,p0 a b c/\p1 a b c/\p2 a b c/\p3 a b c/\p4 a b c/\p5 a b c:=⟨a,b,c,h0,h1,h2,h3,h4,h5⟩
theorem nfA {A0 A1 A2 A3:Type}{p0:A0->A1->A2->A3->Prop}{G:Prop}(h:∃a b c d,p0 a b c d)(k:∀a b c d,p0 a b c d->G):G:=h.elim λa h=>h.elim λb h=>h.elim λc h=>h.elim λd h=>k a b c d h
theorem lD {A0 A1 A2 A3:Type}{p0:A0->A1->A2->A3->Prop}(a:A0)(b:A1)(c:A2)(d:A3)(h0:p0 a b c d):∃a b c d,p0 a b c d:=⟨a,b,c,d,h0⟩
theorem paA {A0 A1 A2 A3:Type}{p0 p1:A0->A1->A2->A3->Prop}{G:Prop}(h:∃a b c d,p0 a b c d/\p1 a b c d)(k:∀a b c d,p0 a b c d->p1 a b c d->G):G:=h.elim λa h=>h.elim λb h=>h.elim λc h=>h.elim λd h=>k a b c d (h.1) (h.2)
theorem fbC {A0 A1 A2 A3:Type}{p0 p1:A0->A1->A2->A3->Prop}(a:A0)(b:A1)(c:A2)(d:A3)(h0:p0 a b c d)(h1:p1 a b c d):∃a b c d,p0 a b c d/\p1 a b c d:=⟨a,b,c,d,h0,h1⟩
theorem tfB {A0 A1 A2 A3:Type}{p0 p1 p2:A0->A1->A2->A3->Prop}(a:A0)(b:A1)(c:A2)(d:A3)(h0:p0 a b c d)(h1:p1 a b c d)(h2:p2 a b c d):∃a b c d,p0 a b c d/\p1 a b c d/\p2 a b c d:=⟨a,b,c,d,h0,h1,h2⟩
theorem waC {A0 A1 A2 A3:Type}{p0 p1 p2 p3 p4:A0->A1->A2->A3->Prop}{G:Prop}(h:∃a b c d,p0 a b c d/\p1 a b c d/\p2 a b c d/\p3 a b c d/\p4 a b c d)(k:∀a b c d,p0 a b c d->p1 a b c d->p2 a b c d->p3 a b c d->p4 a b c d->G):G:=h.elim λa h=>h.elim λb h=>h.elim λc h=>h.elim λd h=>k a b c d (h.1) (h.2.1) (h.2.2.1) (h.2.2.2.1) (h.2.2.2.2)
theorem sfB {A0 A1 A2 A3:Type}{p0 p1 p2 p3 p4:A0->A1->A2->A3->Prop}(a:A0)(b:A1)(c:A2)(d:A3)(h0:p0 a b c d)(h1:p1 a b c d)(h2:p2 a b c d)(h3:p3 a b c d)(h4:p4 a b c d):∃a b c d,p0 a b c d/\p1 a b c d/\p2 a b c d/\p3 a b c d/\p4 a b c d:=⟨a,b,c,d,h0,h1,h2,h3,h4⟩
theorem abB {A0 A1 A2 A3:Type}{p0 p1 p2 p3 p4 p5 p6:A0->A1->A2->A3->Prop}{G:Prop}(h:∃a b c d,p0 a b c d/\p1 a b c d/\p2 a b c d/\p3 a b c d/\p4 a b c d/\p5 a b c d/\p6 a b c d)(k:∀a b c d,p0 a b c d->p1 a b c d->p2 a b c d->p3 a b c d->p4 a b c d->p5 a b c d->p6 a b c d->G):G:=h.elim λa h=>h.elim λb h=>h.elim λc h=>h.elim λd h=>k a b c d (h.1) (h.2.1) (h.2.2.1) (h.2.2.2.1) (h.2.2.2.2.1) (h.2.2.2.2.2.1) (h.2.2.2.2.2.2)
theorem rfB {A0 A1 A2 A3:Type}{p0 p1 p2 p3 p4 p5 p6:A0->A1->A2->A3->Prop}(a:A0)(b:A1)(c:A2)(d:A3)(h0:p0 a b c d)(h1:p1 a b c d)(h2:p2 a b c d)(h3:p3 a b c d)(h4:p4 a b c d)(h5:p5 a b c d)(h6:p6 a b c d):∃a b c d,p0 a b c d/\p1 a b c d/\p2 a b c d/\p3 a b c d/\p4 a b c d/\p5 a b c d/\p6 a b c d:=⟨a,b,c,d,h0,h1,h2,h3,h4,h5,h6⟩
theorem rQ {A0 A1 A2 A3:Type}{p0 p1 p2 p3 p4 p5 p6 p7 p8:A0->A1->A2->A3->Prop}{G:Prop}(h:∃a b c d,p0 a b c d/\p1 a b c d/\p2 a b c d/\p3 a b c d/\p4 a b c d/\p5 a b c d/\p6 a b c d/\p7 a b c d/\p8 a b c d)(k:∀a b c d,p0 a b c d->p1 a b c d->p2 a b c d->p3 a b c d->p4 a b c d->p5 a b c d->p6 a b c d->p7 a b c d->p8 a b c d->G):G:=h.elim λa h=>h.elim λb h=>h.elim λc h=>h.elim λd h=>k a b c d (h.1) (h.2.1) (h.2.2.1) (h.2.2.2.1) (h.2.2.2.2.1) (h.2.2.2.2.2.1) (h.2.2.2.2.2.2.1) (h.2.2.2.2.2.2.2.1) (h.2.2.2.2.2.2.2.2)
theorem lhA {A0 A1 A2 A3:Type}{p0 p1 p2 p3 p4 p5 p6 p7 p8:A0->A1->A2->A3->Prop}(a:A0)(b:A1)(c:A2)(d:A3)(h0:p0 a b c d)(h1:p1 a b c d)(h2:p2 a b c d)(h3:p3 a b c d)(h4:p4 a b c d)(h5:p5 a b c d)(h6:p6 a b c d)(h7:p7 a b c d)(h8:p8 a b c d):∃a b c d,p0 a b c d/\p1 a b c d/\p2 a b c d/\p3 a b c d/\p4 a b c d/\p5 a b c d/\p6 a b c d/\p7 a b c d/\p8 a b c d:=⟨a,b,c,d,h0,h1,h2,h3,h4,h5,h6,h7,h8⟩
theorem ebC {A0 A1 A2 A3 A4:Type}{p0 p1 p2 p3 p4:A0->A1->A2->A3->A4->Prop}(a:A0)(b:A1)(c:A2)(d:A3)(e:A4)(h0:p0 a b c d e)(h1:p1 a b c d e)(h2:p2 a b c d e)(h3:p3 a b c d e)(h4:p4 a b c d e):∃a b c d e,p0 a b c d e/\p1 a b c d e/\p2 a b c d e/\p3 a b c d e/\p4 a b c d e:=⟨a,b,c,d,e,h0,h1,h2,h3,h4⟩
theorem vaC {A0 A1 A2 A3 A4:Type}{p0 p1 p2 p3 p4 p5:A0->A1->A2->A3->A4->Prop}{G:Prop}(h:∃a b c d e,p0 a b c d e/\p1 a b c d e/\p2 a b c d e/\p3 a b c d e/\p4 a b c d e/\p5 a b c d e)(k:∀a b c d e,p0 a b c d e->p1 a b c d e->p2 a b c d e->p3 a b c d e->p4 a b c d e->p5 a b c d e->G):G:=h.elim λa h=>h.elim λb h=>h.elim λc h=>h.elim λd h=>h.elim λe h=>k a b c d e (h.1) (h.2.1) (h.2.2.1) (h.2.2.2.1) (h.2.2.2.2.1) (h.2.2.2.2.2)
theorem dbC {A0 A1 A2 A3 A4:Type}{p0 p1 p2 p3 p4 p5:A0->A1->A2->A3->A4->Prop}(a:A0)(b:A1)(c:A2)(d:A3)(e:A4)(h0:p0 a b c d e)(h1:p1 a b c d e)(h2:p2 a b c d e)(h3:p3 a b c d e)(h4:p4 a b c d e)(h5:p5 a b c d e):∃a b c d e,p0 a b c d e/\p1 a b c d e/\p2 a b c d e/\p3 a b c d e/\p4 a b c d e/\p5 a b c d e:=⟨a,b,c,d,e,h0,h1,h2,h3,h4,h5⟩
theorem saC {A0 A1 A2 A3 A4 A5:Type}{p0 p1 p2 p3 p4 p5 p6 p7 p8 p9 p10 p11:A0->A1->A2->A3->A4->A5->Prop}{G:Prop}(h:∃a b c d e f,p0 a b c d e f/\p1 a b c d e f/\p2 a b c d e f/\p3 a b c d e f/\p4 a b c d e f/\p5 a b c d e f/\p6 a b c d e f/\p7 a b c d e f/\p8 a b c d e f/\p9 a b c d e f/\p10 a b c d e f/\p11 a b c d e f)(k:∀a b c d e f,p0 a b c d e f->p1 a b c d e f->p2 a b c d e f->p3 a b c d e f->p4 a b c d e f->p5 a b c d e f->p6 a b c d e f->p7 a b c d e f->p8 a b c d e f->p9 a b c d e f->p10 a b c d e f->p11 a b c d e f->G):G:=h.elim λa h=>h.elim λb h=>h.elim λc h=>h.elim λd h=>h.elim λe h=>h.elim λf h=>k a b c d e f (h.1) (h.2.1) (h.2.2.1) (h.2.2.2.1) (h.2.2.2.2.1) (h.2.2.2.2.2.1) (h.2.2.2.2.2.2.1) (h.2.2.2.2.2.2.2.1) (h.2.2.2.2.2.2.2.2.1) (h.2.2.2.2.2.2.2.2.2.1) (h.2.2.2.2.2.2.2.2.2.2.1) (h.2.2.2.2.2.2.2.2.2.2.2)
theorem taC {A0 A1 A2 A3 A4 A5:Type}{p0 p1 p2 p3 p4 p5 p6 p7 p8 p9 p10 p11:A0->A1->A2->A3->A4->A5->Prop}(a:A0)(b:A1)(c:A2)(d:A3)(e:A4)(f:A5)(h0:p0 a b c d e f)(h1:p1 a b c d e f)(h2:p2 a b c d e f)(h3:p3 a b c d e f)(h4:p4 a b c d e f)(h5:p5 a b c d e f)(h6:p6 a b c d e f)(h7:p7 a b c d e f)(h8:p8 a b c d e f)(h9:p9 a b c d e f)(h10:p10 a b c d e f)(h11:p11 a b c d e f):∃a b c d e f,p0 a b c d e f/\p1 a b c d e f/\p2 a b c d e f/\p3 a b c d e f/\p4 a b c d e f/\p5 a b c d e f/\p6 a b c d e f/\p7 a b c d e f/\p8 a b c d e f/\p9 a b c d e f/\p10 a b c d e f/\p11 a b c d e f:=⟨a,b,c,d,e,f,h0,h1,h2,h3,h4,h5,h6,h7,h8,h9,h10,h11⟩
theorem aqb{P:Nat->Prop}{a:Nat}(h:¬(a<2))(k:∀n,P (n+2)):P a:=Nat.sub_add_cancel (Nat.le_of_not_lt h)▸k _
theorem aqc{P:Nat->Prop}{a:Nat}(h:2<a)(k:∀n,P (n+3)):P a:=Nat.sub_add_cancel h▸k _
theorem aqd{a b:Nat}(h:a<=b):-(a:Int)+(b:Int)=((b-a:Nat):Int):=by rw[Int.add_comm,<-Int.sub_eq_add_neg,Int.ofNat_sub h]
theorem aqe{a b:Nat}:(max 0 (min (a:Int) (b:Int)))=((min a b:Nat):Int):=by
 rcases Nat.le_total a b with h|h
 ·rw[Int.min_eq_left (wI h),Nat.min_eq_left h];exact Int.max_eq_right (gD _)
 ·rw[Int.min_eq_right (wI h),Nat.min_eq_right h];exact Int.max_eq_right (gD _)
theorem aqf(x:Int):Int.toNat (max 0 x)=x.toNat:=by
 rcases Int.le_total 0 x with h|h
 ·rw[Int.max_eq_right h]
 ·rw[Int.max_eq_left h,Int.toNat_of_nonpos h];rfl
theorem aqg{a b:Nat}:(Int.toNat (max 0 (min ((b:Int)-(a:Int)) (b:Int))))=b-a:=by rw[Int.min_eq_left (Int.sub_le_self _ (gD a)),aqf];exact Int.toNat_sub b a
theorem aqh{a b k m:Nat}(h:a<=k)(h':b<=a+m):b<=k+m:=dA h' (Nat.add_le_add_right h m)
theorem aqi{a b:Nat}:(min a b)+(b-a)=b:=by
 rcases Nat.le_total a b with h|h
 ·rw[Nat.min_eq_left h,Nat.add_sub_of_le h]
 ·rw[Nat.min_eq_right h,Nat.sub_eq_zero_of_le h];rfl
theorem aqj{c:Nat}{b:Int}(h:(c:Int)<3):b+2+3*(c:Int)<=b+8:=by
 rw[Int.add_assoc];exact Int.add_le_add_left (Int.add_le_add_left (Int.mul_le_mul_of_nonneg_left (wI (oK (Int.ofNat_lt.mp h))) (by decide)) 2) b
theorem aqk{a b k m n:Int}(h:a<=b+k)(e:k+m<=n):a+m<=b+n:=nG (Int.add_le_add_right h m) (by rw[Int.add_assoc];exact Int.add_le_add_left e b)
theorem aql{a:Int}(h:(0:Int)<=a/\(a:Int)<3):((Int.toNat a:Nat):Int)<3:=Int.lt_of_le_of_lt (Int.le_of_eq (Int.toNat_of_nonneg h.1)) h.2
theorem aqm{a b:Nat}(h0:a<=1+6*b)(h1:((b:Int):Int)<3):a<=13:=dA h0 (Nat.add_le_add_left (Nat.mul_le_mul_left 6 (oK (Int.ofNat_lt.mp h1))) 1)
theorem aqn{i j:Nat}(h:i<=j)(hij:2<=j-i\/(i=0/\j=1)):i<=i+(j-i)/2/\i+(j-i)/2<=j/\((i<i+(j-i)/2/\i+(j-i)/2<j)\/(i=0/\j=1/\i+(j-i)/2=0)):=by
 refine⟨Nat.le_add_right _ _,dA (Nat.add_le_add_left (Nat.div_le_self _ _) i) (jE (Nat.add_sub_of_le h)),hij.imp (λq=>⟨Nat.lt_add_of_pos_right (Nat.div_pos q (by decide)),?_⟩) λq=>⟨q.1,q.2,?_⟩⟩
 ·exact cE (Nat.add_lt_add_left (Nat.div_lt_self (cE (by decide) q) (by decide)) i) (jE (Nat.add_sub_of_le h))
 ·rw[q.1,q.2]
theorem aqo{k i:Nat}(h:(k:Int)-i<=1):k<=i+1:=by
 have:=Int.add_le_add_right h (i:Int)
 rw[Int.sub_add_cancel,Int.add_comm]at this
 exact nH this
theorem aqp{k i:Nat}(h:¬(k:Int)-i<=1):i+1<k:=kF λz=>h (Int.sub_left_le_of_le_add (wI z))
theorem aqq{n k:Nat}(h:k<n):(n:Int)-1-(k:Int)=((n-1-k:Nat):Int):=by
 rw[Nat.sub_sub,Int.ofNat_sub (Nat.add_comm 1 k▸h),Int.sub_sub];rfl
theorem ar0 {a b:Nat}:a+(b+1)=a+1+b:=Nat.add_right_comm a b 1
theorem ar1 {a b c:Nat}(h0:a+(b+1)+1<c):a+1<c:=iD (Nat.add_le_add_right (Nat.le_add_right a (b+1)) 1) h0
theorem ar2 {a:Nat}(h0:a=347\/a=348):345<a:=h0.elim (λh=>h.symm▸(by decide:345<347)) λh=>h.symm▸(by decide:345<348)
theorem ar3 {a:Int}{b:Nat}(h0:(0:Int)<=a)(h1:(a:Int)<b):(Int.toNat a)<b:=(Int.toNat_lt h0).mpr h1
theorem ar4 {a:Nat}{b:Int}(h0:(a:Int)<b):¬((a:Int)≥b):=Int.not_le.mpr h0
theorem ar5 {a b c:Nat}(h0:a<=30)(h1:b=a)(h2:b=c):c<=16777216:=(by subst h2 h1;exact dA h0 (by decide))
theorem ar6 {a b:Nat}(h0:a+(b+1)<900):a<1000:=iD (Nat.le_add_right _ _) (cE h0 (by decide))
theorem ar7 {a b:Nat}(h0:a+(b+1)<900):a+1+b<900:=iD (jE (Nat.add_right_comm a 1 b)) h0
theorem ar8 {a b:Nat}(h0:a+3*(b+1)<3000):a+3+3*b<3000:=iD (jE (Nat.add_right_comm a 3 (3*b))) h0
theorem ar9 {a b c:Nat}(h0:a<=b)(h1:c+b<900):c+a<900:=iD (Nat.add_le_add_left h0 c) h1
theorem laC {a b c:Nat}(h0:a<=b)(h1:c+3*b<3000):c+3*a<3000:=iD (Nat.add_le_add_left (Nat.mul_le_mul_left 3 h0) c) h1
theorem yuB {a b:Nat}(h:a<=b)(h1:a<b):b-(a+1)<b-a:=Nat.sub_lt_sub_left h1 (Nat.lt_succ_self _)
theorem kaC {a b:Nat}(h0:a<=b)(h1:¬(a<b)):a=b:=Nat.le_antisymm h0 (Nat.not_lt.mp h1)
theorem jaC {a:Nat}(h0:a<=100000):(a:Int)<1000000:=kJ (iD h0 (by decide))
theorem iaC {a:Nat}(h0:a<=100000):((a:Int)+(1-1):Int)<1000000:=(kJ (iD h0 (by decide)):(a:Int)<1000000)
theorem rtB {a:Int}(h0:((-100000):Int)<a):((-1000000):Int)<a:=Int.lt_of_lt_of_le (by decide) h0
theorem itB {a:Int}(h0:(a:Int)<100000):(a:Int)<1000000:=Int.lt_of_lt_of_le h0 (by decide)
theorem haC {a b:Int}(h0:(a:Int)<100000)(h1:((-100000):Int)<b):((-1000000):Int)<(max 0 (b-a)):=Int.lt_of_lt_of_le (by decide) (Int.le_max_left 0 _)
theorem gaC {a b:Int}(h0:((-100000):Int)<a)(h1:(b:Int)<100000):((max 0 (b-a)):Int)<1000000:=Int.max_lt.mpr ⟨by decide,Int.lt_of_lt_of_le (Int.sub_lt_sub h1 h0) (by decide)⟩
theorem faC {a:Int}(h0:((-100000):Int)<a):((-1000000):Int)<a+((-1)+1):=(Int.add_zero a).symm▸Int.lt_trans (by decide) h0
theorem eaC {a:Int}(h0:(a:Int)<100000):(a+((-1)+1):Int)<1000000:=(Int.add_zero a).symm▸Int.lt_trans h0 (by decide)
theorem tiA {a:Nat}:¬((a:Int)<0):=Int.not_lt.mpr (gD _)
theorem daC {a b:Nat}(h0:a<b):(0:Int)<=a/\(a:Int)<b:=by simp_all
theorem caC {a:Nat}:((-((a:Int)+1)):Int)<0:=by simp_all
theorem baC {a b:Nat}(h0:a<b):(0:Int)<=(-((a:Int)+1))+b/\((-((a:Int)+1))+b:Int)<b:=by rw[show-((a:Int)+1)+b=((b-(a+1):Nat):Int)from aqd h0];exact⟨gD _,kJ (Nat.sub_lt (iD (rC _) h0) (Nat.succ_pos _))⟩
theorem aaC {a b:Nat}(h0:a<b):(Int.toNat ((-((a:Int)+1))+b))=b-1-a:=(congrArg Int.toNat (aqd (a:=a+1) h0)).trans ((congrArg (b-·) (Nat.add_comm a 1)).trans (Nat.sub_sub b 1 a).symm)
theorem zzB {a:Int}{b:Nat}:(Int.toNat (max 0 (min a (b:Int))))<=b:=Int.toNat_le.mpr (Int.max_le.mpr ⟨gD _,Int.min_le_right _ _⟩)
theorem ppB {a:Int}{b:Nat}:((max 0 (min a (b:Int))):Int)=(max 0 (min (((Int.toNat (max 0 (min a (b:Int)))):Nat):Int) (b:Int))):=(by rw[Int.toNat_of_nonneg (Int.le_max_left _ _),Int.min_eq_left (Int.max_le.mpr ⟨gD _,Int.min_le_right _ _⟩)];exact(Int.max_eq_right (Int.le_max_left _ _)).symm)
theorem yzB {a:Nat}:(a:Int)=(max 0 (min (a:Int) (a:Int))):=by simp_all
theorem xzB {a b:Nat}(h0:a<=b):(Int.toNat ((b:Int)-a))=b-a:=by simp_all
theorem wzB {a b c:Nat}(h0:a<=b)(h1:¬(a<=c)):¬(((max 0 (min (a:Int) (b:Int))):Int)<(max 0 (min (c:Int) (b:Int)))):=by rw[aqe,aqe];exact λh=>h1 (iC (cE (Nat.min_eq_left h0▸Int.ofNat_lt.mp h) (Nat.min_le_left c b)))
theorem vzB {a b c:Nat}(h0:a<=b)(h1:¬(c<=a)):(min a b)<=c:=dA (Nat.min_le_left _ _) (Nat.le_of_not_le h1)
theorem uzB {a b c:Nat}(h0:a<=b)(h1:c<=b)(h2:¬(a<=c))(h3:True/\0=b):b=0:=by simp_all
theorem tzB {a b:Nat}(h0:a<=b):0+a<=b:=by simp_all
theorem szB {a b:Nat}(h0:¬(a<=b)):¬(0+a<=b):=by simp_all
theorem rzB {a b:Nat}(h0:a<b)(h1:b<=1000):((((-b):Int)<=a/\(a:Int)<b)/\((-100000):Int)<a)/\(a:Int)<100000:=⟨⟨⟨nG (Int.neg_nonpos_of_nonneg (gD b)) (gD a),kJ h0⟩,Int.lt_of_lt_of_le (by decide) (gD a)⟩,kJ (cE h0 (dA h1 (by decide)))⟩
theorem laA {a:Int}(h0:(0:Int)<=a):(a:Int)=(((Int.toNat a):Nat):Int):=(Int.toNat_of_nonneg h0).symm
theorem qzB {a b:Nat}(h0:(a:Int)<b):b-(a+1)<b-a:=Nat.sub_lt_sub_left (Int.ofNat_lt.mp h0) (Nat.lt_succ_self a)
theorem pzB {a b:Nat}(h0:a<=b)(h1:¬((a:Int)<b)):b<=a:=by simp_all
theorem kyA {a b:Nat}:(a:Int)<b↔a<b:=Int.ofNat_lt
theorem ozB {a b c:Nat}(h0:a<=b)(h1:c<=b-a):a+c<=b:=Nat.add_le_of_le_sub' h0 h1
theorem nzB {a b:Nat}:(a:Int)=b↔a=b:=Int.ofNat_inj
theorem mzB {a b:Nat}:((a:Int)+2:Int)=b↔a+2=b:=Int.ofNat_inj
theorem kaA {a:Nat}:a+1<=a+2:=Nat.le_succ _
theorem lzB {a b:Nat}:(min (a-b) a)<=a:=Nat.min_le_right _ _
theorem fhB {a:Nat}(h0:0<a):((-a):Int)<0:=by simp_all
theorem ehB {a b:Nat}(h0:0<a):(Int.toNat (max 0 (min ((-a)+b) (b:Int))))=b-a:=by rw[Int.add_comm,<-Int.sub_eq_add_neg];exact aqg
theorem kzB {a:Nat}:(Int.toNat (max 0 (min 1 (a:Int))))=(min 1 a):=congrArg Int.toNat (aqe (a:=1) (b:=a))
theorem jzB {a b:Nat}(h0:a<=1000)(h1:b<=1000):a+b<=16777216:=dA (Nat.add_le_add h0 h1) (by decide)
theorem wlB {a:Nat}(h0:a<=900):a-1<=1000:=dA (fE _ _) (dA h0 (by decide))
theorem izB {a b:Nat}(h0:0<a)(h1:a<=b)(h2:b<=1000):((((-b):Int)<=(-a)/\((-a):Int)<b)/\((-100000):Int)<(-a))/\((-a):Int)<100000:=⟨⟨⟨Int.neg_le_neg (wI h1),Int.lt_of_lt_of_le (Int.neg_neg_of_pos (kJ h0)) (gD b)⟩,Int.neg_lt_neg (kJ (iD (dA h1 h2) (by decide)):(a:Int)<100000)⟩,Int.lt_of_lt_of_le (Int.neg_neg_of_pos (kJ h0)) (by decide)⟩
theorem jM {a b:Nat}(h0:a<=900)(h1:b<=a):b<=1000:=dA (dA h1 h0) (by decide)
theorem hzB {a:Nat}:(a:Int)=2↔a=2:=Int.ofNat_inj
theorem gzB {a b:Nat}(h0:a<=b):¬(((b:Int)-a:Int)<0):=by simp_all
theorem fzB {a b:Nat}(h0:a<=b):(Int.toNat (max 0 (min ((b:Int)-a) (b:Int))))=b-a:=aqg
theorem ezB {a:Nat}(h0:4<=a):(min (a-4) a)+(0+1)<=a:=dA (Nat.add_le_add_right (Nat.min_le_left _ _) 1) (Nat.sub_lt (cE (by decide) h0) (by decide))
theorem dzB {a b:Nat}(h0:a<=1):a+(b-1)<=b+1:=dA (Nat.add_le_add h0 (fE b 1)) (jE (Nat.add_comm 1 b))
theorem czB {a b c:Nat}(h0:a<=b)(h1:c<=10):a+c<=b+10:=Nat.add_le_add h0 h1
theorem bzB {a b:Nat}(h0:a<=300)(h1:b<=a+1):b<=900:=dA (aqh h0 h1) (by decide)
theorem azB {a b c:Nat}(h0:a<=300)(h1:b<=a+1)(h2:c<=b):c<=900:=dA h2 (dA (aqh h0 h1) (by decide))
theorem zyB {a b c d:Nat}(h0:a<=300)(h1:b<=a+1)(h2:c<=b)(h3:d<=c+1):d<=900:=dA (aqh (dA h2 (aqh h0 h1)) h3) (by decide)
theorem yyB {a b c d e f g h i:Nat}(h0:a<=300)(h1:b<=a+1)(h2:c<=b)(h3:d<=c+1)(h4:e<=d+1)(h5:f<=e+10)(h6:g<=f+10)(h7:h<=g)(h8:i<=h):i<=900:=dA h8 (dA h7 (dA (aqh (aqh (aqh (aqh (dA h2 (aqh h0 h1)) h3) h4) h5) h6) (by decide)))
theorem xyB {a b c d e f g h i j:Nat}(h0:a<=300)(h1:b<=a+1)(h2:c<=b)(h3:d<=c+1)(h4:e<=d+1)(h5:f<=e+10)(h6:g<=f+10)(h7:h<=g)(h8:i<=h)(h9:j<=i):j<=900:=dA h9 (dA h8 (dA h7 (dA (aqh (aqh (aqh (aqh (dA h2 (aqh h0 h1)) h3) h4) h5) h6) (by decide))))
theorem vlB {a b c d e f g h:Nat}(h0:a<=300)(h1:b<=a+1)(h2:c<=b)(h3:d<=c+1)(h4:e<=d+1)(h5:f<=e+10)(h6:g<=f+10)(h7:h<=g):h<=900:=dA h7 (dA (aqh (aqh (aqh (aqh (dA h2 (aqh h0 h1)) h3) h4) h5) h6) (by decide))
theorem dhB {a b c d e f g:Nat}(h0:a<=300)(h1:b<=a+1)(h2:c<=b)(h3:d<=c+1)(h4:e<=d+1)(h5:f<=e+10)(h6:g<=f+10):g<=900:=dA (aqh (aqh (aqh (aqh (dA h2 (aqh h0 h1)) h3) h4) h5) h6) (by decide)
theorem ulB {a b c d e f:Nat}(h0:a<=300)(h1:b<=a+1)(h2:c<=b)(h3:d<=c+1)(h4:e<=d+1)(h5:f<=e+10):f<=900:=dA (aqh (aqh (aqh (dA h2 (aqh h0 h1)) h3) h4) h5) (by decide)
theorem tlB {a b c d e:Nat}(h0:a<=300)(h1:b<=a+1)(h2:c<=b)(h3:d<=c+1)(h4:e<=d+1):e<=900:=dA (aqh (aqh (dA h2 (aqh h0 h1)) h3) h4) (by decide)
theorem wyB {a:Nat}:(((a+1:Nat):Int)-1:Int)=a:=by simp_all
theorem slB {a b:Nat}(h0:a=b+1):b<a:=jE h0.symm
theorem vyB {a b:Nat}:a<=b↔a+1<=b+1:=Nat.succ_le_succ_iff.symm
theorem jyA {a b:Nat}(h0:a<=b):(min a b)=a:=Nat.min_eq_left h0
theorem uyB {a b c:Nat}(h0:a<b)(h1:c=b):a<c:=Nat.lt_of_lt_of_eq h0 h1.symm
theorem tyB {a b:Nat}(h0:a<b):b-1-a<b:=iD (fE _ _) (Nat.sub_lt (iD (rC _) h0) (by decide))
theorem syB {a b:Nat}(h0:a<=100):((a:Int)-1-b:Int)<100000:=Int.lt_of_le_of_lt (Int.sub_le_self _ (gD b)) (Int.lt_of_le_of_lt (Int.sub_le_self _ (by decide)) (kJ (iD h0 (by decide))))
theorem ryB {a b c d:Nat}(h:a<=b)(h:c=d)(h:b<=c):((-100000):Int)<d-1-a:=by lia
theorem qyB {a b:Nat}:((a-b:Nat):Int)=(max 0 ((a:Int)-1-b-(-1))):=by lia
theorem pyB {a b c d e:Nat}(h0:a=b)(h1:c<=a)(h2:d<b-e)(h3:e+d<=c):e+d<b:=Nat.add_lt_of_lt_sub' h2
theorem rlB {a b c:Nat}(h0:a=b)(h1:c=b):a<=c:=jE (h0.trans h1.symm)
theorem oyB {a b c:Nat}(h0:a+b<c):((c:Int)-1-a+b*(-1):Int)=((c-1-(a+b):Nat):Int):=by grind
theorem qlB {a b c d:Nat}(h0:a<=b)(h1:((a:Int)-1-((c+d:Nat):Int):Int)=((a-1-(c+d):Nat):Int)):a-1-(c+d)<b:=by omega
theorem plB {a b c:Nat}(h0:((a:Int)-1-b+c*(-1):Int)=((a-1-(b+c):Nat):Int)):a-1-(b+c)<a:=by omega
theorem olB {a b c d e:Nat}(h0:a=b)(h:c<=a)(h:d+e<=c)(h3:d+e<b):d+e<a:=Nat.lt_of_lt_of_eq h3 h0.symm
theorem nyB {a b c d:Nat}(h0:a<=b)(h1:c=d)(h2:b<=c)(h3:a+(d-a)<=b):b=d:=Nat.le_antisymm (h1▸h2) (Nat.add_sub_of_le (dA h0 (h1▸h2))▸h3)
theorem myB {a b c:Nat}(h0:a+(b-a)<=c)(h1:c=b):a+(b-a)=c:=Nat.le_antisymm h0 (dA (jE h1) (Nat.sub_le_iff_le_add'.mp (vD (b-a))))
theorem lyB {a b:Nat}(h0:a<=b):(((b:Int)-a)/2:Int)=(((b-a)/2:Nat):Int):=by grind
theorem kyB {a b:Nat}(h0:a<=b):(0:Int)<=b-a:=by simp_all
theorem jyB {a b c:Nat}(h0:a<=100)(h1:b+(c-b)/2<a):((0:Int)<=((b+(c-b)/2:Nat):Int)/\((b+(c-b)/2:Nat):Int)<a)/\((b+(c-b)/2:Nat):Int)<100000:=⟨⟨gD _,kJ h1⟩,kJ (cE h1 (dA h0 (by decide)))⟩
theorem iyB {a b:Nat}(h0:a<=b)(h1:¬(a=b)):a<b:=Nat.lt_of_le_of_ne h0 h1
theorem hyB {a b:Nat}:(min a 0)<=b:=by simp_all
theorem gyB {a:Nat}(h0:0<a):2<=a-0\/(0:Nat)=0/\a=1:=(Nat.lt_or_ge 1 a).imp id λh=>⟨rfl,Nat.le_antisymm h h0⟩
theorem fyB {a b c:Nat}(h0:0<a)(h1:2<=b-c\/c=0/\b=1)(h2:c<=b)(h3:b<=a):c+(b-c)/2<a:=by grind
theorem eyB {a b c:Nat}(h0:a<=b)(h1:c=a):c<=b:=dA (jE h1) h0
theorem dyB {a b c d:Nat}(h0:a=b)(h1:c=d)(h2:a<=c)(h3:¬(a=c)):b<d:=h0▸h1▸Nat.lt_of_le_of_ne h2 h3
theorem cyB {a b:Nat}(h0:a<=0)(h1:b=a):b=0:=by simp_all
theorem byB {a b c:Nat}(h0:¬(a<=b))(h1:c=a)(h2:c<=b):False:=h0 (h1▸h2)
theorem ayB {a:Int}(h0:(a:Int)<0)(h1:(0:Int)<=a):False:=absurd h1 (Int.not_le.mpr h0)
theorem zxB {a:Int}{b c:Nat}(h0:¬((a:Int)<0))(h1:b<c)(h2:(a:Int)<b):(Int.toNat a)<c:=Nat.lt_trans ((Int.toNat_lt (Int.not_lt.mp h0)).mpr h2) h1
theorem yxB {a b:Nat}(h0:a<=100)(h1:b<a):((0:Int)<=b/\(b:Int)<a)/\(b:Int)<100000:=⟨⟨gD _,kJ h1⟩,kJ (cE h1 (dA h0 (by decide)))⟩
theorem siA {a:Nat}:(a:Int)<=a:=Int.le_refl _
theorem jvB {a b c:Nat}(h0:a<=b)(h1:b<=c)(h2:c<=900):(min a c)<=1000:=dA (Nat.min_le_right _ _) (dA h2 (by decide))
theorem ivB {a b c d:Nat}(h0:a<=b)(h1:b<=c)(h2:c<=900)(h3:d<=90):(min a c)+d<=1000:=dA (Nat.add_le_add (dA (Nat.min_le_right _ _) h2) h3) (by decide)
theorem hvB {a b:Nat}(h0:a<=900):a-b<=1000:=dA (fE _ _) (dA h0 (by decide))
theorem gvB {a:Nat}{b:Int}(h0:(a:Int)<=b):(b:Int)=(((Int.toNat b):Nat):Int):=(Int.toNat_of_nonneg (nG (gD a) h0)).symm
theorem fvB {a:Nat}{b:Int}{c d:Nat}(h0:(a:Int)<=b)(h1:(c:Int)<=a)(h2:(b:Int)=d):c<=d:=nH (nG h1 (h2▸h0))
theorem dvB {a:Nat}{b:Int}{c:Nat}(h0:(a:Int)<=b)(h1:(b:Int)=c):a<=c:=by simp_all
theorem cvB {a b:Nat}:((a:Int)-((b:Int)-b):Int)=a:=by simp_all
theorem bvB {a b:Nat}(h0:a<=900)(h1:(b:Int)<=a)(h2:b<=a):(min b a)<=1000:=dA (Nat.min_le_right _ _) (dA h0 (by decide))
theorem avB {a b c:Nat}(h0:a<=900)(h1:(b:Int)<=a)(h2:c<=90)(h3:b<=a):(min b a)+c<=1000:=dA (Nat.add_le_add (dA (Nat.min_le_right _ _) h0) h2) (by decide)
theorem zuB {a b:Nat}(h0:a<=900)(h:(b:Int)<=a):a-b<=1000:=dA (fE _ _) (dA h0 (by decide))
theorem jpA {a:Nat}(h0:¬((a:Int)<=0)):((a:Int)-1:Int)=((a-1:Nat):Int):=(Int.ofNat_sub (Int.ofNat_lt.mp (Int.not_le.mp h0))).symm
theorem vaB {a b:Nat}(h0:(a:Int)<=b)(h1:¬((a:Int)<=0)):a-1<b:=cE (Nat.sub_lt (Int.ofNat_lt.mp (Int.not_le.mp h1)) (by decide)) (nH h0)
theorem xuB {a b:Nat}{c:Int}(h0:(a:Int)<=b)(h1:(c:Int)<=a):(c:Int)<=b:=nG h1 h0
theorem wuB {a:Nat}(h0:0<a):(0:Int)<=a-1:=Int.sub_nonneg_of_le (wI h0)
theorem vuB {a:Nat}:((a:Int)-1:Int)<=a:=Int.sub_le_self _ (by decide)
theorem uuB {a:Nat}(h0:0<a):(Int.toNat ((a:Int)-1))=a-1:=by simp_all
theorem tuB {a:Nat}(h0:0<a)(h1:0<a-1):(0:Int)<=a-1-1:=by rw[Int.sub_sub];exact Int.sub_nonneg_of_le (wI (Nat.lt_of_sub_pos h1))
theorem suB {a:Nat}:((a:Int)-1-1:Int)<=a:=nG (Int.sub_le_self _ (by decide)) (Int.sub_le_self _ (by decide))
theorem ruB {a:Nat}(h0:0<a):(Int.toNat ((a:Int)-1-1))=a-2:=by rw[Int.sub_sub];exact Int.toNat_sub a 2
theorem quB {a b:Nat}(h0:a<=b):((b-a:Nat):Int)=b-a:=Int.ofNat_sub h0
theorem puB {a b c:Nat}(h0:a<=b):((b:Int)+((c:Int)-((b:Int)-a)):Int)=(((min a b)+c:Nat):Int):=by grind
theorem ouB {a b:Nat}{c:Int}(h0:a<=b)(h1:(c:Int)<=a)(h2:a<b):¬((b:Int)<=c):=λh=>absurd (nH (nG h h1)) (Nat.not_le.mpr h2)
theorem uaB {a:Int}{b:Nat}(h0:(a:Int)<=b):¬((b:Int)<a):=Int.not_lt.mpr h0
theorem taB {a b:Nat}(h0:a<=b)(h1:((a:Int)-1:Int)=((a-1:Nat):Int)):a-1<b:=by omega
theorem nuB {a:Int}{b:Nat}(h0:(0:Int)<a)(h1:(a:Int)<0\/(1:Int)<=a/\(a:Int)<=b):(1:Int)<=a/\(a:Int)<=b:=h1.resolve_left (Int.not_lt.mpr (Int.le_of_lt h0))
theorem muB {a:Int}{b:Nat}(h0:(0:Int)<a)(h1:(1:Int)<=a/\(a:Int)<=b):(Int.toNat (a-1))<b:=(Int.toNat_lt (Int.sub_nonneg_of_le h1.1)).mpr (Int.lt_of_lt_of_le (Int.sub_lt_self a (by decide)) h1.2)
theorem luB {a:Int}(h0:(0:Int)<a)(h1:(a:Int)=0):False:=by simp_all
theorem kuB {a:Int}(h0:(a:Int)=0):¬((0:Int)<a):=by simp_all
theorem ipA {a:Nat}(h0:0<a):((a:Int)-1:Int)=((a-1:Nat):Int):=(Int.ofNat_sub h0).symm
theorem juB {a:Nat}:((a:Int)-((a:Int)-a):Int)=a:=by simp_all
theorem iuB {a b:Nat}:((a:Int)-((a:Int)-((a-b:Nat):Int)):Int)=((a-b:Nat):Int):=Int.sub_sub_self _ _
theorem huB {a b:Nat}{c:Int}(h0:a<=b)(h1:(0:Int)<c/\0<a):b-a<b:=Nat.sub_lt (cE h1.2 h0) h1.2
theorem guB {a b:Nat}{c d:Int}{e:Nat}(h:a<=b)(h:(0:Int)<c/\0<a)(h:(b:Int)<=((b-a:Nat):Int)->(d:Int)=((b-a:Nat):Int)+((e:Int)-((b:Int)-((b-a:Nat):Int))))(h:(d:Int)=((b-a:Nat):Int)):(min (b-a) b)=b-a:=Nat.min_eq_left (fE _ _)
theorem fuB {a b:Nat}{c:Int}{d e:Nat}(h0:a<=800)(h1:(a:Int)<=((a-b:Nat):Int)->(c:Int)=((a-b:Nat):Int)+((d:Int)-((a:Int)-((a-b:Nat):Int))))(h2:(c:Int)=((a-b:Nat):Int))(h3:e=a-b):e<=850:=h3▸dA (fE _ _) (dA h0 (by decide))
theorem euB {a b:Nat}:(min (a+1) b)+(b-(a+1))=b:=aqi
theorem duB {a b:Nat}(h0:a<b):(min a b)+(0+1)+(b-(a+1))=b:=by rw[Nat.min_eq_left (iC h0)];exact Nat.add_sub_of_le h0
theorem cuB {a b:Nat}(h0:a+1<b):(min (a+1) b)=a+1:=Nat.min_eq_left (iC h0)
theorem saB {a b:Nat}(h0:a=b+1):b+1<=a:=jE h0.symm
theorem buB {a b:Nat}(h0:a=b+1):a<=b+1:=jE h0
theorem auB {a b:Nat}(h0:a+1=b):b<=a+1:=jE h0.symm
theorem ztB {a:Int}{b:Nat}(h0:(a:Int)<=b):¬(((b:Int)+1:Int)<=a):=Int.not_lt.mpr h0
theorem ytB {a b:Nat}:((a:Int)+((1:Int)-((b:Int)+1-b)):Int)=a:=by rw[Int.add_comm (b:Int),Int.add_sub_cancel];exact Int.add_zero _
theorem xtB {a:Nat}:(a:Int)<=a+1:=wI (Nat.le_succ a)
theorem wtB {a:Nat}:(a:Int)<=((a+1:Nat):Int):=wI (Nat.le_succ a)
theorem vtB {a b:Nat}(h0:a+1<b):a<=b:=iC (Nat.lt_of_succ_lt h0)
theorem raB {a b:Nat}(h0:a<b):(min a b)=a:=Nat.min_eq_left (iC h0)
theorem qaB {a b:Nat}(h0:a=b):b<=a:=jE h0.symm
theorem utB {a b:Nat}(h0:a=b):a<=b:=jE h0
theorem ttB {a b c:Nat}(h0:a<=10):(min b c)+a<=c+10:=Nat.add_le_add (Nat.min_le_right _ _) h0
theorem stB {a b:Nat}:(min a b)<=b+10:=dA (Nat.min_le_right _ _) (Nat.le_add_right _ _)
theorem qtB {a:Nat}:(min (a-1) a)<=a+1:=dA (Nat.min_le_right _ _) (Nat.le_succ _)
theorem ptB {a b c:Nat}(h0:a<=(min (b-c) b)+1):a<=b+10:=dA h0 (Nat.add_le_add (Nat.min_le_right _ _) (by decide))
theorem paB {a b:Nat}(h0:a<=300)(h1:b=a):b<=900:=dA (jE h1) (dA h0 (by decide))
theorem otB {a b:Nat}(h0:a<=300)(h1:b=a):b<=310:=dA (jE h1) (dA h0 (by decide))
theorem ntB {a:Nat}:a+6<=a+10:=by simp_all
theorem mtB {a b:Nat}(h0:a+(b+10)<900):a+1+(b+1+1)<900:=iD (dA (jE (Nat.add_right_comm a 1 (b+1+1))) (Nat.add_le_add_left (Nat.add_le_add_left (by decide:3<=10) b) a)) h0
theorem ltB {a b:Nat}(h0:a+3*(b+10)<3000):a+1+3*(b+1+1)<3000:=iD (dA (jE (Nat.add_right_comm a 1 (3*(b+1+1)))) (Nat.add_le_add_left (Nat.add_le_add_left (by decide:7<=30) (3*b)) a)) h0
theorem ktB {a b c:Nat}(h0:a<=b)(h1:b<=c):a<=c:=dA h0 h1
theorem jtB {a b c d:Nat}(h0:a<=b)(h1:c=a)(h2:c=d):d<=b:=(by subst h2 h1;exact h0)
theorem oaB {a b c:Nat}(h0:a=b)(h1:c<b):b-c=b-(c+1)+1:=(Nat.sub_add_cancel (Nat.sub_pos_of_lt h1)).symm
theorem htB {a b c:Nat}(h:a=b)(h:c<=b)(h:c<b):(min c a)<=a:=Nat.min_le_right _ _
theorem gtB {a b c d e:Nat}(h0:a+b<=c)(h1:d<=a+e)(h2:e<=b):d<=c:=dA h1 (dA (Nat.add_le_add_left h2 a) h0)
theorem ftB {a b:Nat}(h0:a+(b+1)<17):a+1<17:=iD (Nat.add_le_add_left (Nat.le_add_left 1 b) a) h0
theorem etB {a b:Nat}(h0:a+(b+1)<17):a+1+b<17:=iD (jE (Nat.add_right_comm a 1 b)) h0
theorem naB {a:Nat}(h0:a+1<17):¬(a=16):=λh=>absurd (h▸h0:16+1<17) (by decide)
theorem dtB {a b:Nat}(h0:a+b<=1000):a<=16777216:=dA (Nat.le_add_right a b) (dA h0 (by decide))
theorem ctB {a:Nat}(h0:16+(0+1)=a):a<=1000:=(by subst h0;decide)
theorem btB {a b:Nat}(h0:a<17)(h1:a=b):b<=1000:=h1▸dA (iC h0) (by decide)
theorem atB {a b:Nat}(h0:a=b+1):b≠a:=by simp_all
theorem zsB {a:Nat}(h0:16+(0+1)=a)(h1:0=a):False:=absurd (h0.trans h1.symm) (by decide)
theorem ysB {a b c:Nat}(h0:a<17)(h1:16+(0+1)=b)(h2:a=c):b+c<=16777216:=by subst h1 h2;exact dA (Nat.add_le_add_left (iC h0) _) (by decide)
theorem xsB {a b:Nat}(h0:0<a):1<=b+a:=dA h0 (Nat.le_add_left _ _)
theorem wsB {a:Nat}(h0:0<a)(h1:0=a):False:=by simp_all
theorem vsB {a b:Nat}(h:a≠17)(h1:b=a)(h2:a<17):b<17:=(h1▸h2)
theorem usB {a:Nat}(h0:a<17):a<=1000:=dA (iC h0) (by decide)
theorem lS {a b:Nat}(h:a≠17)(h1:b=a)(h2:¬(a<17)):16<b:=(by subst h1;exact Nat.not_lt.mp h2)
theorem tsB {a b:Nat}(h0:a≠17)(h1:b=a)(h2:¬(a<17)):(min 16 b)=16:=Nat.min_eq_left (h1▸dA (by decide) (Nat.le_of_not_lt h2))
theorem ssB {a b:Nat}(h0:a<34)(h1:b=a):b-17<17:=iD (Nat.sub_le_sub_right (dA (jE h1) (oK h0)) 17) (by decide)
theorem rsB {a b:Nat}(h0:a≠17)(h1:b=a)(h2:¬(a<17))(h3:b-17=0):False:=h0 (Nat.le_antisymm (Nat.le_of_sub_eq_zero (h1▸h3)) (Nat.le_of_not_lt h2))
theorem qsB {a:Int}(h0:(a:Int)<=1000):(1000*a:Int)<=1000*1000:=Int.mul_le_mul_of_nonneg_left h0 (by decide)
theorem psB {a:Nat}{b:Int}(h0:a<=1000)(h1:(1000:Int)<=b):¬((a:Int)>b):=λh=>absurd (Int.lt_of_le_of_lt h1 h) (Int.not_lt.mpr (wI h0))
theorem osB {a:Int}(h0:(a:Int)<=1000):(Int.toNat a)<=1000:=by simp_all
theorem nsB {a:Nat}(h0:a<=1000*1000):¬(a>16777216):=Nat.not_lt.mpr (dA h0 (by decide))
theorem msB {a:Nat}(h0:(a:Int)<1):a=0:=Nat.lt_one_iff.mp (Int.ofNat_lt.mp h0)
theorem lsB {a b:Nat}:a+(0+1)+b=a+(b+1):=Nat.add_right_comm _ _ _
theorem ksB {a:Nat}(h0:a<64):a<=16777216:=dA (iC h0) (by decide)
theorem jsB {a b:Nat}(h0:a<64)(h1:b=a):b<64:=(by subst h1;exact h0)
theorem isB {a b c d:Nat}(h0:a<=50)(h1:b<=c)(h2:d=a):b+d<=c+50:=h2▸Nat.add_le_add h1 h0
theorem hsB {a:Nat}:(a:Int)=1↔a=1:=Int.ofNat_inj
theorem gfA {a:Nat}:a+1<=a+3:=by simp_all
theorem gsB {a:Nat}:a+2<=a+3:=Nat.le_succ _
theorem maB {a:Nat}:1+a=a+1:=Nat.add_comm _ _
theorem fsB {a:Nat}(h0:a<=1000):a+a<=1048576:=dA (Nat.add_le_add h0 h0) (by decide)
theorem esB {a b:Nat}(h0:a+2<=b):(Int.toNat (max 0 (min (a:Int) (b:Int))))=a:=(congrArg Int.toNat aqe).trans (Nat.min_eq_left (dA (Nat.le_add_right _ 2) h0))
theorem dsB {a:Nat}:¬(((a:Int)+2:Int)<0):=Int.not_lt.mpr (gD _)
theorem csB {a b:Nat}(h0:a+2<=b):(Int.toNat (max 0 (min ((a:Int)+2) (b:Int))))=a+2:=(congrArg Int.toNat (aqe (a:=a+2) (b:=b))).trans (Nat.min_eq_left h0)
theorem bsB {a:Nat}:a+2-a=2:=by simp_all
theorem hpA {a:Nat}:a+1=1+a:=Nat.add_comm _ _
theorem gpA {a:Nat}:a=0+a:=(Nat.zero_add _).symm
theorem asB {a b:Nat}(h0:a<b-1):a+2<=b:=Nat.add_lt_of_lt_sub h0
theorem zrB {a:Nat}(h0:a<=1000):a-1<=16777216:=dA (fE _ _) (dA h0 (by decide))
theorem yrB {a:Nat}(h0:¬(a=0)):((a:Int)-1:Int)=((a-1:Nat):Int):=(Int.ofNat_sub (Nat.pos_of_ne_zero h0)).symm
theorem xrB {a:Nat}(h0:a<=1000):a-1<=100000:=dA (fE _ _) (dA h0 (by decide))
theorem wrB {a b:Nat}(h0:a+(b+3)<900):a<1000:=iD (Nat.le_add_right _ _) (cE h0 (by decide))
theorem vrB {a b:Nat}(h0:a+(b+3)<900):a+1+(b+2)<900:=iD (jE (Nat.add_right_comm a 1 (b+2))) h0
theorem urB {a b:Nat}(h0:a+3*(b+3)<3000):a+3+3*(b+2)<3000:=iD (jE (Nat.add_right_comm a 3 (3*(b+2)))) h0
theorem trB {a:Int}(h0:(0:Int)<a):(a:Int)≠0:=Int.ne_of_gt h0
theorem srB {a:Int}{b:Nat}{c:Int}{d:Nat}(h0:(0:Int)<=a/\(a:Int)<b)(h1:(0:Int)<b/\(b:Int)<=1000/\(0:Int)<=c/\(c:Int)<=1000/\d<=100):((0:Int)<=a/\(a:Int)<b)/\(a:Int)<100000:=⟨h0,Int.lt_of_lt_of_le h0.2 (nG h1.2.1 (by decide))⟩
theorem rrB {a b:Nat}(h0:a<=10)(h1:b<=a):b<=1000:=dA (dA h1 h0) (by decide)
theorem laB {a b:Int}(h0:(0:Int)<=a)(h1:(a:Int)<=b):(0:Int)<=b:=nG h0 h1
theorem qrB {a b:Int}(h0:(a:Int)<=900)(h1:(b:Int)<=a+100):(b:Int)<=1000:=nG h1 (nG (Int.add_le_add_right h0 100) (by decide))
theorem prB {a:Int}:(a:Int)<=a:=Int.le_refl _
theorem orB {a:Int}:(a:Int)<=a+100:=Int.le_add_of_nonneg_right (by decide)
theorem nrB {a:Int}:(a:Int)<=a+1:=Int.le_add_of_nonneg_right (by decide)
theorem mrB {a:Int}:(a+1:Int)<=a+100:=by simp_all
theorem lrB {a:Int}:(a:Int)<=a+1+1:=nG (Int.le_add_of_nonneg_right (by decide)) (Int.le_add_of_nonneg_right (by decide))
theorem krB {a:Int}:(a+1+1:Int)<=a+2+3*(0:Int):=by rw[Int.mul_zero,Int.add_zero];exact Int.le_of_eq (Int.add_assoc a 1 1)
theorem jrB {a:Int}(h0:(0:Int)<=a/\(a:Int)<3):(Int.toNat a)<=100000:=Int.toNat_le.mpr (Int.le_of_lt (Int.lt_trans h0.2 (by decide)))
theorem irB {a:Int}{b:Nat}(h0:(0:Int)<=a/\(a:Int)<3)(h1:b<(Int.toNat a)):(b:Int)<3:=Int.lt_trans (Int.lt_toNat.mp h1) h0.2
theorem hrB {a b:Int}{c:Nat}(h0:(a:Int)<=b+2+3*c)(h1:(c:Int)<3):(a:Int)<=b+100:=nG (nG h0 (aqj h1)) (Int.add_le_add_left (by decide) b)
theorem grB {a b:Nat}(h0:a<=1+6*b)(h1:(b:Int)<3):a<=200:=dA (aqm h0 h1) (by decide)
theorem kaB {a b:Int}(h0:(a:Int)<=b):(a:Int)<=b+1:=Int.le_add_one h0
theorem frB {a b:Int}{c:Nat}(h0:(a:Int)<=b+2+3*c)(h1:(c:Int)<3):(a+1:Int)<=b+100:=aqk (nG h0 (aqj h1)) (by decide)
theorem erB {a b c:Nat}(h0:a<=1+6*b)(h1:(b:Int)<3)(h2:c<=2):a+c<=200:=dA (Nat.add_le_add (aqm h0 h1) h2) (by decide)
theorem fpA {a b:Int}(h0:(a:Int)<=b):(a:Int)<=b+1+1:=Int.le_add_one (Int.le_add_one h0)
theorem drB {a b:Int}{c:Nat}(h0:(a:Int)<=b+2+3*c)(h1:(c:Int)<3):(a+1+1:Int)<=b+100:=aqk (aqk (nG h0 (aqj h1)) (Int.le_refl _)) (by decide)
theorem crB {a b c d:Nat}(h0:a<=1+6*b)(h1:(b:Int)<3)(h2:c<=2)(h3:d<=2):a+c+d<=200:=dA (Nat.add_le_add (Nat.add_le_add (aqm h0 h1) h2) h3) (by decide)
theorem brB {a b c d e:Nat}(h0:a<=1+6*b)(h1:c<=2)(h2:d<=2)(h3:e<=2):a+c+d+e<=1+6*(b+1):=by grind
theorem jaB {a b:Int}(h0:(a:Int)<=b):(a:Int)<=b+1+1+1:=Int.le_add_one (Int.le_add_one (Int.le_add_one h0))
theorem arB {a b:Int}{c:Nat}(h0:(a:Int)<=b+2+3*c):(a+1+1+1:Int)<=b+2+3*((c+1:Nat):Int):=by rw[Int.natCast_succ,Int.mul_add,<-Int.add_assoc];exact aqk (aqk (aqk (b:=b+2+3*c) (k:=0) (by rw[Int.add_zero];exact h0) (Int.le_refl _)) (Int.le_refl _)) (by decide)
theorem zqB {a b c:Int}(h0:(0:Int)<=a/\(a:Int)<3)(h1:(b:Int)<=c+2+3*(((Int.toNat a):Nat):Int)):(b:Int)<=c+100:=nG (nG h1 (aqj (aql h0))) (Int.add_le_add_left (by decide) c)
theorem iaB {a:Nat}(h0:a=67):(0:Int)<a:=(by subst h0;decide)
theorem haB {a:Nat}(h0:a=67):(a:Int)<=1000:=(by subst h0;decide)
theorem gaB {a:Nat}(h0:a=67):a<=1000:=(by subst h0;decide)
theorem yqB {a:Int}{b:Nat}(h0:(0:Int)<=a/\(a:Int)<3)(h1:b<=1+6*(Int.toNat a)):b<=1000:=dA (aqm h1 (aql h0)) (by decide)
theorem xqB {a b c:Int}(h0:(0:Int)<=a/\(a:Int)<3)(h1:(b:Int)<=c+2+3*(((Int.toNat a):Nat):Int)):(b+1:Int)<=c+100:=aqk (nG h1 (aqj (aql h0))) (by decide)
theorem wqB {a b c:Int}(h0:(0:Int)<=a/\(a:Int)<3)(h1:(b:Int)<=c+2+3*(((Int.toNat a):Nat):Int)):(b+1+1:Int)<=c+100:=aqk (aqk (nG h1 (aqj (aql h0))) (Int.le_refl _)) (by decide)
theorem vqB {a:Int}{b c:Nat}(h0:(0:Int)<=a/\(a:Int)<3)(h1:b<=1+6*(Int.toNat a))(h2:c<=7):b+c<=200:=dA (Nat.add_le_add (aqm h1 (aql h0)) h2) (by decide)
theorem uqB {a:Int}{b c d:Nat}(h0:(0:Int)<=a/\(a:Int)<3)(h1:b<=1+6*(Int.toNat a))(h2:c<=7)(h3:d<=7):b+c+d<=27:=dA (Nat.add_le_add (Nat.add_le_add (aqm h1 (aql h0)) h2) h3) (by decide)
theorem tqB {a b c:Int}(h0:(0:Int)<=a/\(a:Int)<3)(h1:(b:Int)<=c+2+3*(((Int.toNat a):Nat):Int)):(b+1+1+1:Int)<=c+12:=aqk (aqk (aqk (nG h1 (aqj (aql h0))) (Int.le_refl _)) (Int.le_refl _)) (by decide)
theorem sqB {a:Int}{b c:Nat}(h0:(0:Int)<=a/\(a:Int)<3)(h1:b<=1+6*(Int.toNat a))(h2:c<=7):b+c<=27:=dA (Nat.add_le_add (aqm h1 (aql h0)) h2) (by decide)
theorem rqB {a b c:Int}(h0:(0:Int)<=a/\(a:Int)<3)(h1:(b:Int)<=c+2+3*(((Int.toNat a):Nat):Int)):(b+1+1:Int)<=c+12:=aqk (aqk (nG h1 (aqj (aql h0))) (Int.le_refl _)) (by decide)
theorem qqB {a b c d e:Nat}(h0:a=0+b)(h1:c<=a)(h2:d<=c+1)(h3:e<=d+1):e<=b+2:=dA h3 (Nat.succ_le_succ (dA h2 (Nat.succ_le_succ (dA h1 (jE (h0.trans (Nat.zero_add b)))))))
theorem pqB {a:Nat}(h0:3<=a):(Int.toNat (max 0 (min 1 (a:Int))))=1:=(congrArg Int.toNat (aqe (a:=1) (b:=a))).trans (Nat.min_eq_left (dA (by decide) h0))
theorem oqB {a:Nat}(h0:3<=a):(Int.toNat (max 0 (min ((-1)+a) (a:Int))))=a-1:=by rw[Int.add_comm];exact aqg (a:=1)
theorem nqB {a b:Nat}(h0:a<=300)(h1:b<=a+2):b<=1000:=dA (aqh h0 h1) (by decide)
theorem mqB {a:Nat}:a+1+4<=a+11:=Nat.add_lt_add_left (by decide) _
theorem lqB {a:Nat}:a+1+3<=a+11:=Nat.add_lt_add_left (by decide) _
theorem kqB {a:Nat}:a+3<=a+11:=by simp_all
theorem faB {a b:Nat}(h0:a<=300)(h1:b<=a+2):b<=500:=dA (aqh h0 h1) (by decide)
theorem jqB {a:Nat}(h0:(a:Int)<3):a<3:=Int.ofNat_lt.mp h0
theorem iqB {a:Nat}(h0:¬((a:Int)<3)):3<=a:=nH (Int.not_lt.mp h0)
theorem hqB {a:Nat}(h0:a<=300):a<=1000:=dA h0 (by decide)
theorem gqB {a:Nat}(h0:a<=300):a<=400:=dA h0 (by decide)
theorem fqB {a b:Nat}(h0:a<=300)(h1:b<=a+2):b<=400:=dA (aqh h0 h1) (by decide)
theorem eqB {a b c d:Nat}(h0:a<=b)(h1:c<a)(h2:d+1<=c+1):d<=b:=dA (Nat.le_of_succ_le_succ h2) (dA (iC h1) h0)
theorem dqB {a:Nat}(h0:a+1<900):a<1000:=dA (iC h0) (by decide)
theorem cqB {a:Int}{b:Nat}{c:Int}(h0:(a:Int)<=12*b)(h1:(c:Int)<=a+12):(c:Int)<=12*((b+1:Nat):Int):=nG h1 (nG (Int.add_le_add_right h0 12) (Int.le_of_eq (Int.mul_add 12 b 1).symm))
theorem bqB {a:Nat}{b:Int}(h0:a<70)(h1:(b:Int)<=12*a):(b:Int)<=900:=nG h1 (nG (Int.mul_le_mul_of_nonneg_left (wI (iC h0)) (by decide)) (by decide))
theorem aqB {a:Int}(h0:(0:Int)<=a):(2+a/10:Int)=(((Int.toNat (2+a/10)):Nat):Int):=(Int.toNat_of_nonneg (Int.add_nonneg (by decide) (Int.ediv_nonneg h0 (by decide)))).symm
theorem zpB {a:Int}(h0:(a:Int)<=20):(Int.toNat (2+a/10))<=4:=Int.toNat_le.mpr (Int.add_le_add_left (Int.ediv_le_ediv (by decide) h0) 2)
theorem ypB {a b:Nat}(h0:a=b+1):b<=a:=by simp_all
theorem xpB {a b:Nat}(h0:a+3*(b+12)<3000):a<9900:=iD (Nat.le_add_right _ _) (cE h0 (by decide))
theorem wpB {a b c:Nat}:a+(b+c)=a+b+c:=(Nat.add_assoc _ _ _).symm
theorem vpB {a:Nat}:¬(a+1=0):=by simp_all
theorem upB {a b c:Nat}(h0:a<=b):a<=b+c:=Nat.le_add_right_of_le h0
theorem tpB {a:Nat}:a=89\/a=97\/a=101\/a=105\/a=111\/a=117\/a=119\/a=120\/a=121↔(a=97\/a=101\/a=105\/a=111\/a=117\/a=121)\/a=89\/a=119\/a=120:=by simp only[or_assoc,or_comm,or_left_comm]
theorem rpB {a b:Nat}(h0:a<b):a<=(max a b):=Nat.le_max_left _ _
theorem qpB {a b:Nat}(h0:¬(a<b)):a<=(max a b):=by simp_all
theorem eaB {a b:Nat}(h:a<=b)(h1:a<b):a<=b-1:=Nat.le_sub_one_of_lt h1
theorem opB {a b:Nat}(h0:¬(a<b))(h1:¬(a=b)):b+1<=a:=Nat.lt_of_le_of_ne (Nat.not_lt.mp h0) (Ne.symm h1)
theorem npB {a b c d:Nat}(h0:a<=b)(h:c<=d)(h2:d<a)(h:c<d):d-1<b:=iD (fE _ _) (cE h2 h0)
theorem mpB {a b c d:Nat}(h0:a<b)(h1:c<=a)(h2:d<c):d<b:=Nat.lt_trans h2 (iD h1 h0)
theorem lpB {a b c d:Nat}(h0:a<=b)(h1:c<a)(h2:b<=d):c<d:=cE (cE h1 h0) h2
theorem kpB {a b:Nat}(h0:¬(a=b+1))(h1:b+1<=a):b+1<=a-1:=Nat.le_sub_one_of_lt (Nat.lt_of_le_of_ne h1 (Ne.symm h0))
theorem jpB {a b:Nat}(h:¬(a=b+1))(h1:b+1<=a):a-1<a:=Nat.sub_lt (iD (rC _) h1) (by decide)
theorem ipB {a b:Nat}(h0:a+1<=b):0<b:=iD (Nat.le_add_left _ _) h0
theorem daB {a b:Nat}(h0:a<b):(b:Int)<=a↔(1:Nat)<=0:=by simp_all
theorem epA {a b:Nat}(h0:a<b):(b:Int)<=a↔(2:Nat)<=0:=by simp_all
theorem hpB {a b:Nat}(h0:a<=b):((b:Int)+1:Int)<=a↔(1:Nat)<=0:=⟨λh=>absurd (nH h) (Nat.not_le.mpr (Nat.lt_succ_of_le h0)),λh=>absurd h (by decide)⟩
theorem gpB {a b c d:Nat}(h0:a=0+1)(h1:¬(b<=c))(h2:a<=d):((c:Int)+1:Int)<=b↔1<=d:=by grind
theorem caB {a b:Nat}(h0:a<b):(b:Int)<=a↔2<=0+1:=by simp_all
theorem fpB {a b c d:Nat}(h0:a+1<=b)(h1:¬(c<=b))(h2:d<=a):(c:Int)<=d↔(2:Nat)<=0:=⟨λh=>absurd (dA (nH h) (dA h2 (Nat.le_of_succ_le h0))) h1,λh=>absurd h (by decide)⟩
theorem epB {a b c d:Nat}(h0:a+1<=b)(h1:b+1<=c)(h2:d<=a):((c:Int)+1:Int)<=d↔(2:Nat)<=0:=⟨λh=>absurd (nH h) (Nat.not_le.mpr (Nat.lt_succ_of_le (dA h2 (dA (Nat.le_of_succ_le h0) (Nat.le_of_succ_le h1))))),λh=>absurd h (by decide)⟩
theorem dpB {a b:Nat}(h0:a<=b):((b:Int)+1:Int)<=a↔2<=0+1:=⟨λh=>absurd (nH h) (Nat.not_le.mpr (Nat.lt_succ_of_le h0)),λh=>absurd h (by decide)⟩
theorem cpB {a b c d e f g:Nat}(h0:a=0+1)(h1:b<c->d<c->e=a+1)(h2:¬(c<=b))(h3:¬(c<=d))(h4:¬(f<=d))(h5:e<=g):((d:Int)+1:Int)<=f↔2<=g:=by grind
theorem bpB {a:Nat}(h0:a≠121):a=97\/a=101\/a=105\/a=111\/a=117↔a=97\/a=101\/a=105\/a=111\/a=117\/a=121:=by simp_all
theorem dpA {a:Nat}:¬(a<a):=Nat.lt_irrefl _
theorem cpA {a b c d:Nat}(h0:a=b)(h1:c=d)(h2:b+1<=d):a<c:=(by subst h0 h1;exact h2)
theorem apB {a b c:Nat}(h0:a=b)(h1:c=0+1)(h2:c<=a):1<=b:=(by subst h0 h1;exact h2)
theorem baB {a b c d:Nat}(h0:¬(a<=b))(h1:c=d)(h2:a<=d)(h3:d<=(max (b+1) a)):c=a:=h1.trans (Nat.le_antisymm (Nat.max_eq_right (kF h0)▸h3) h2)
theorem aaB {a b:Nat}(h0:¬(a<=b)):b+1<=a:=kF h0
theorem bpA {a b:Nat}(h0:¬(a<=b)):b<a:=kF h0
theorem zoB {a b c:Nat}(h0:a=b)(h1:¬(c<=b)):b<c:=by simp_all
theorem yoB {a b:Nat}(h0:a+1<=b):a<b:=h0
theorem xoB {a b c d e f g:Nat}(h0:a=b)(h1:c=0+1)(h2:1<=b)(h3:¬(d<=e))(h4:e<d->f<d->g=c+1)(h5:¬(d<=f))(h6:g<=a):2<=b:=by simp_all
theorem woB {a:Nat}(h0:1<=a):0<a:=h0
theorem voB {a:Nat}(h:1<=a)(h1:2<=a):1<a:=h1
theorem uoB {a b c:Nat}(h0:a=b)(h1:¬(c<=b)):¬(a=c):=λh=>h1 (jE (h.symm.trans h0))
theorem toB {a:Nat}(h0:2<=a):a≠1:=Nat.ne_of_gt h0
theorem soB {a b:Nat}:(min a b)<=b:=Nat.min_le_right _ _
theorem roB {a b c:Nat}(h0:a<(min b c)):a<=b:=dA (iC h0) (Nat.min_le_left _ _)
theorem qoB {a b c:Nat}(h0:a<b+c)(h1:¬(a<=b)):a-b<c:=Nat.sub_lt_left_of_lt_add (Nat.le_of_not_le h1) h0
theorem zzA {a b:Nat}(h0:¬(a<=b)):b<=a:=Nat.le_of_not_le h0
theorem yzA {a b:Nat}(h0:a<=b)(h1:0<a):b-a<b:=Nat.sub_lt (cE h1 h0) h1
theorem poB {a b:Nat}(h0:a+1<=b):a<(min (a+1) b):=by simp_all
theorem ooB {a b c:Nat}(h0:a+1<=b)(h1:c<(min (a+1) b)):c<a+1:=by simp_all
theorem noB {a b c:Nat}(h0:a+1<=b)(h1:c<(min (a+1) b))(h2:c≠a):c<a:=Nat.lt_of_le_of_ne (oK (cE h1 (Nat.min_le_left _ _))) h2
theorem bV {a:Nat}(h0:0<a):a-1<a:=Nat.sub_lt_sub_left h0 (Nat.lt_succ_self _)
theorem moB {a:Nat}(h0:2<a):a-2+2=a:=Nat.sub_add_cancel (iC h0)
theorem loB {a b:Nat}(h0:2<a)(h1:b<a)(h2:¬(b<a-2))(h3:¬(b=a-2)):b-(a-2)=1:=aqc (P:=λa=>b<a->¬b<a-2->¬b=a-2->b-(a-2)=1) h0 (λn h1 h2 h3=>(congrArg (·-(n+1)) (Nat.le_antisymm (oK h1) (Nat.lt_of_le_of_ne (Nat.le_of_not_lt h2) (Ne.symm h3)))).trans (Nat.add_sub_cancel_left (n:=n+1) (m:=1))) h1 h2 h3
theorem xzA {a b:Nat}(h0:2<a)(h1:b<a-2):b<a:=cE h1 (fE _ _)
theorem koB {a:Nat}(h0:2<a):a-2<a:=Nat.sub_lt (iD (rC _) h0) (by decide)
theorem apA {a:Nat}(h0:2<a):a-1<a:=Nat.sub_lt (iD (rC _) h0) (by decide)
theorem joB {a b:Nat}(h0:118=a):¬(b-1<b-2):=Nat.not_lt.mpr (Nat.sub_le_sub_left (by decide) b)
theorem ioB {a:Nat}(h0:2<a):¬(a-1=a-2):=aqc (P:=λa=>¬a-1=a-2) h0 λn=>Nat.succ_ne_self _
theorem hoB {a b c:Nat}(h0:a=b)(h1:c<a):c<b:=Nat.lt_of_lt_of_eq h1 h0
theorem eoB {a b c:Nat}(h0:2<a)(h1:b=a)(h2:c<b)(h3:¬(c<a-2))(h4:¬(c=a-2)):c=a-1:=aqc (P:=λa=>c<a->¬c<a-2->¬c=a-2->c=a-1) h0 (λn h1 h2 h3=>Nat.le_antisymm (oK h1) (Nat.lt_of_le_of_ne (Nat.le_of_not_lt h2) (Ne.symm h3))) (h1▸h2) h3 h4
theorem doB {a:Nat}(h0:0<a-2):2<a:=Nat.lt_of_sub_pos h0
theorem coB {a:Nat}(h0:2<a):0<a:=Nat.lt_of_succ_lt (Nat.lt_of_succ_lt h0)
theorem wzA {a:Nat}(h0:2<a):0<a-1:=aqc (P:=λa=>0<a-1) h0 λn=>Nat.succ_pos _
theorem boB {a:Nat}(h0:2<a):0<a-2:=Nat.sub_pos_of_lt h0
theorem aoB {a:Nat}(h0:a=89\/a=119\/a=120):a=119\/a=120\/a=121\/a=89:=h0.elim (λh=>.inr (.inr (.inr h))) λh=>h.elim .inl λh=>.inr (.inl h)
theorem znB {a:Nat}(h:¬(a=89\/a=119\/a=120))(h1:a=119):a=89\/a=119\/a=120:=(by rw[h1];decide)
theorem ynB {a:Nat}(h:¬(a=89\/a=119\/a=120))(h1:a=120):a=89\/a=119\/a=120:=(by rw[h1];decide)
theorem xnB {a:Nat}(h:¬(a=89\/a=119\/a=120))(h1:a=89):a=89\/a=119\/a=120:=.inl h1
theorem wnB {a:Nat}(h0:2<a):a-1+1=a:=Nat.sub_add_cancel (iD (rC _) h0)
theorem vnB {a b:Nat}(h0:a<b-1)(h1:¬(a=b-2))(h2:¬(a=0)):a-1<b-2:=iD (fE a 1) (Nat.lt_of_le_of_ne (Nat.le_sub_one_of_lt h0) h1)
theorem unB {a b:Nat}(h:2<a)(h1:b<a-2):b<=a-3:=Nat.le_pred_of_lt h1
theorem tnB {a b:Nat}(h0:2<a)(h1:b<a-2):a-3<a-1:=aqc (P:=λa=>a-3<a-1) h0 λn=>Nat.lt_succ_of_lt (Nat.lt_succ_self n)
theorem snB {a:Nat}(h0:2<a):a-3<a-2:=Nat.sub_lt_sub_left h0 (Nat.lt_succ_self _)
theorem rnB {a b:Nat}(h0:a=1)(h1:a=b+1):b=0:=by simp_all
theorem qnB {a:Nat}(h0:2<a):a-1-1<a:=aqc (P:=λa=>a-1-1<a) h0 λn=>Nat.lt_succ_of_lt (Nat.lt_succ_self _)
theorem pnB {a:Nat}(h0:2<a):a-2-1<a:=aqc (P:=λa=>a-2-1<a) h0 λn=>Nat.lt_succ_of_lt (Nat.lt_succ_of_lt (Nat.lt_succ_self n))
theorem onB {a:Nat}(h0:¬(2<a)):¬(0<a-2):=by simp_all
theorem nnB {a b:Nat}{c:Int}{d:Nat}(h0:a=b)(h1:(b:Int)=c)(h2:(c:Int)<=((b-1:Nat):Int)↔1<=d)(h3:2<b):d=0:=Nat.eq_zero_of_not_pos λh=>Nat.not_le.mpr (Nat.sub_lt (iD (rC _) h3) (by decide)) (nH (h1▸h2.mpr h))
theorem mnB {a b:Nat}{c:Int}{d e:Nat}(h0:a=b)(h1:(c:Int)<=b↔1<=d)(h2:e=0)(h3:d=1)(h4:2<b)(h5:(c:Int)<=((b-1:Nat):Int)↔1<=e):(b:Int)=c:=Int.le_antisymm (nG (Int.le_of_eq (congrArg Int.ofNat (Nat.sub_add_cancel (iD (rC _) h4)).symm)) (Int.add_one_le_of_lt (Int.not_le.mp λh=>absurd (h5.mp h) (by rw[h2];decide)))) (h1.mpr (jE h3.symm))
theorem zoA {a:Nat}(h0:¬(a<2)):a-2<a:=Nat.sub_lt (cE (by decide) (Nat.not_lt.mp h0)) (by decide)
theorem yoA {a:Nat}(h0:¬(a<2)):a-1<a:=Nat.sub_lt (cE (by decide) (Nat.not_lt.mp h0)) (by decide)
theorem lnB {a:Nat}(h0:¬(a<2)):a-2+1=a-1:=aqb (P:=λa=>a-2+1=a-1) h0 λ_=>rfl
theorem knB {a:Nat}(h0:¬(a<2)):a-1+1=a:=aqb (P:=λa=>a-1+1=a) h0 λ_=>rfl
theorem jnB {a:Nat}:a+2-1-0-a=1:=by simp_all
theorem inB {a:Nat}:a+2-1-1-a=0:=by simp_all
theorem hnB {a:Nat}(h0:a<2)(h1:a-(a-2)=2):False:=absurd h1 (Nat.ne_of_lt (iD (fE _ _) h0))
theorem gnB {a b:Nat}(h0:a<b):1<=b-a:=Nat.sub_pos_of_lt h0
theorem vzA {a b:Nat}(h0:0<a)(h1:a<=b):b-a<b:=Nat.sub_lt (cE h0 h1) h0
theorem fnB {a:Nat}(h0:3<=a):a-3<a:=Nat.sub_lt (cE (by decide) h0) (by decide)
theorem enB {a:Nat}(h0:¬(a=1))(h1:¬(1<a)):¬(1<=a):=λh=>h1 (Nat.lt_of_le_of_ne h (Ne.symm h0))
theorem dnB {a:Nat}(h0:a<2)(h1:1<=(min (a-1) a)):False:=absurd (Nat.lt_of_sub_pos (dA h1 (Nat.min_le_left _ _))) (Nat.not_lt.mpr (oK h0))
theorem cnB {a b:Nat}(h0:1<=a):b-a<=b-1:=Nat.sub_le_sub_left h0 b
theorem bnB {a b c:Nat}(h0:a<b)(h1:¬(a<c)):c<b:=iD (Nat.le_of_not_lt h1) h0
theorem anB {a b:Nat}(h0:a+2=b):a<b:=h0▸Nat.lt_succ_of_lt (Nat.lt_succ_self a)
theorem zmB {a b:Nat}(h0:a+2=b):b-2=a:=(by subst h0;rfl)
theorem ymB {a b:Nat}(h0:a+2=b):b-1=a+1:=(by subst h0;rfl)
theorem xmB {a b:Nat}(h0:0<a)(h1:a+2=b):2<b:=h1▸Nat.add_lt_add_right h0 2
theorem wmB {a b c:Nat}(h0:a-2=b)(h1:c<a-2):c<b:=Nat.lt_of_lt_of_eq h1 h0
theorem vmB {a:Nat}(h0:a=97\/a=101\/a=105\/a=111\/a=117\/a=121):a=97\/a=101\/a=105\/a=111\/a=117\/a=119\/a=120\/a=121:=h0.imp id (Or.imp id (Or.imp id (Or.imp id (Or.imp id λh=>.inr (.inr h)))))
theorem umB {a b:Nat}(h0:a+2=b):a+1<b:=jE h0
theorem tmB {a b:Nat}(h0:a-1=b+1):b<a-1:=jE h0.symm
theorem smB {a b:Nat}(h0:¬(a<b-2))(h1:¬(b-2<a)):a=b-2:=Nat.le_antisymm (Nat.le_of_not_lt h1) (Nat.le_of_not_lt h0)
theorem rmB {a b:Nat}(h0:2<a)(h1:b=a-2):0<b:=h1▸Nat.sub_pos_of_lt h0
theorem qmB {a b:Nat}(h0:2<a)(h1:b=a-2):b+2=a:=h1▸Nat.sub_add_cancel (iC h0)
theorem pmB {a:Nat}(h0:2<a):a-2+1=a-1:=aqc (P:=λa=>a-2+1=a-1) h0 λ_=>rfl
theorem omB {a:Nat}(h0:¬(a=89\/a=119\/a=120))(h1:a=119):False:=h0 (.inr (.inl h1))
theorem nmB {a:Nat}(h0:¬(a=89\/a=119\/a=120))(h1:a=120):False:=h0 (.inr (.inr h1))
theorem mmB {a b:Nat}(h0:a<b):0<b:=iD (Nat.le_add_left _ _) h0
theorem lmB {a b:Nat}:(min (a-b) a)=a-b:=Nat.min_eq_left (fE _ _)
theorem kmB {a:Nat}(h0:a<2):a=0\/a=1:=(Nat.lt_or_ge a 1).imp (λh=>Nat.lt_one_iff.mp h) λh=>Nat.le_antisymm (oK h0) h
theorem jmB {a:Nat}(h0:a=97\/a=101\/a=105\/a=111\/a=117\/a=121):a=97\/a=101\/a=105\/a=111\/a=117\/a=121\/a=108\/a=115\/a=122:=h0.imp id (Or.imp id (Or.imp id (Or.imp id (Or.imp id Or.inl))))
theorem ffA {a b:Nat}(h0:0<a-b):b<a:=Nat.lt_of_sub_pos h0
theorem imB {a:Nat}(h0:0<a-1):1<a:=Nat.lt_of_sub_pos h0
theorem hmB {a:Nat}(h0:3<=a)(h1:3<a):a-3=a-4+1:=(Nat.sub_add_cancel (Nat.sub_pos_of_lt h1)).symm
theorem uzA {a:Nat}(h:3<=a)(h1:3<a):a-4<a:=Nat.sub_lt (iD (rC _) h1) (by decide)
theorem gmB {a:Nat}(h0:3<a)(h1:¬(4<a)):a-3=1:=(congrArg (·-3) (Nat.le_antisymm (Nat.le_of_not_lt h1) h0)).trans rfl
theorem fmB {a:Nat}(h0:3<=a)(h1:¬(3<a)):¬(4<a):=λh=>h1 (Nat.lt_of_succ_lt h)
theorem emB {a:Nat}(h0:a<=1):a-1=0:=Nat.sub_eq_zero_of_le h0
theorem dmB {a:Nat}(h0:1<=a):a=a-1+1:=(Nat.sub_add_cancel h0).symm
theorem cmB {a b:Nat}(h0:2<=a)(h1:b=a+1):2<=b:=h1▸Nat.le_succ_of_le h0
theorem tzA {a b:Nat}(h0:2<=a)(h1:b=a+1):3<=b:=by simp_all
theorem szA {a:Nat}(h0:2<=a):a-1<a:=Nat.sub_lt (iD (rC _) h0) (by decide)
theorem bmB {a:Nat}(h0:2<=a):a=a-1+1:=(Nat.sub_add_cancel (iD (rC _) h0)).symm
theorem zlB {a b c:Nat}(h0:a<=b)(h1:c+b=a):c=0:=Nat.eq_zero_of_le_zero (Nat.le_of_add_le_add_right (dA (jE h1) (dA h0 (jE (Nat.zero_add b).symm))))
theorem ylB {a:Nat}(h0:a<11)(h1:a≠2)(h2:a≠3):a=0\/a=1\/a=4\/a=5\/a=6\/a=7\/a=8\/a=9\/a=10:=by grind
theorem xlB {a:Nat}(h0:¬(((63:Nat):Int)<a)):a<=10000:=dA (nH (Int.not_lt.mp h0)) (by decide)
end Mine
namespace Mine
open PySem PySem.W PySem.Calls PySem.Sem
set_option genInjectivity true in
inductive Res (α:Type) where
 |ok (a:α) (p:Pos) (s:SharedT)
 |err (e:Value) (p:Pos) (s:SharedT)
 |no
noncomputable def ldO (s:SharedT)(a:Nat):Option Obj:=match Nat.blt a s.n with
 |true=>match s.tree.get a with
  |some o=>alive o
  |none=>none
 |false=>none
noncomputable def ldI (s:SharedT)(a:Nat):Option (Option Obj):=match Nat.blt a s.n with
 |true=>match s.tree.get a with
  |some o=>some (alive o)
  |none=>none
 |false=>some none
noncomputable def Res.of {α β:Type}(x:Option β)(f:β->Res α):Res α:=match x with
 |some b=>f b
 |none=>.no
noncomputable def Res.ofB {α:Type}(b:Bool)(f:Res α):Res α:=match b with
 |true=>f
 |false=>.no
noncomputable def Res.cK {α:Type}(x:Res Fin)(f:Flow->SharedT->Res α)(g:Code->Pos->SharedT->Res α)(e:Value->SharedT->Res α):Res α:=match x with
 | .ok (.done a) _ s=>f a s
 | .ok (.again c) p s=>g c p s
 | .err v _ s=>e v s
 | .no=>.no
section
variable (den:Code->Sem Fin)(set:Setting)
mutual
noncomputable def evB:Nat->(α:Type)->Ctx->Pos->Sem α->SharedT->Res α
 |0,_,_,_,_,_=>.no
 |n+1,α,Γ,p,t,s=>match t with
  | .pure a=>.ok a p s
  | .raise e=>.err e p s
  | .rule _ k=>evB n α Γ p (k ()) s
  | .at p' k=>evB n α Γ p' (k ()) s
  | .load a _ k=>Res.of (ldO s a) λo=>evB n α Γ p (k o) s
  | .update a _ f k=>Res.of (ldO s a) λ_=>evB n α Γ p (k ()) ⟨s.tree.set a f,s.n,s.life,s.gens,s.drawn,s.toks,s.os⟩
  | .alloc o k=>Res.ofB ((s.tree.ins s.n o).get s.n).isSome (evB n α Γ p (k s.n) ⟨s.tree.ins s.n o,s.n+1,s.life,s.gens,s.drawn,s.toks,s.os⟩)
  | .loadIfAlive a k=>Res.of (ldI s a) λx=>evB n α Γ p (k x) s
  | .point _ k=>evB n α Γ p (k ()) s
  | .fresh k=>evB n α Γ p (k s.toks) ⟨s.tree,s.n,s.life,s.gens,s.drawn,s.toks+1,s.os⟩
  | .ask k=>evB n α Γ p (k set) s
  | .handled own k=>evB n α Γ p (k (if own then Γ.own else Γ.handled)) s
  | .stack k=>evB n α Γ p (k ((Γ.code,p)::Γ.below)) s
  | .thread k=>evB n α Γ p (k 0) s
  | .call c h _ _ k=>evK n α Γ p c h p k s
  |_=>.no
noncomputable def evK:Nat->(α:Type)->Ctx->Pos->Code->Option Value->Pos->(Result->Sem α)->SharedT->Res α
 |0,_,_,_,_,_,_,_,_=>.no
 |n+1,α,Γ,p,c,h,p₀,k,s=>Res.cK (evB n Fin (Γ.enter c h p) p₀ (den c) s) (λf s'=>evB n α Γ p (k (.ok f)) s') (λc' p' s'=>Res.ofB c'.quiet (evK n α Γ p c' h p' k s')) λe s'=>evB n α Γ p (k (.error e)) s'
end
end
noncomputable def Res.Holds {α:Type}(Q:α->Pos->Shared->Prop)(E:Value->Pos->Shared->Prop):Res α->Prop
 | .ok a p s=>Q a p s.abs
 | .err e p s=>E e p s.abs
 | .no=>False
theorem Res.of_holds {α β:Type}{Q:α->Pos->Shared->Prop}{E:Value->Pos->Shared->Prop}{x:Option β}{f:β->Res α}(h:(Res.of x f).Holds Q E):∃b,x=some b/\(f b).Holds Q E:=by
 induction x using Option.casesOn with
 |none=>exact h.elim
 |some b=>exact⟨b,rfl,h⟩
theorem Res.ofB_holds {α:Type}{Q:α->Pos->Shared->Prop}{E:Value->Pos->Shared->Prop}{b:Bool}{f:Res α}(h:(Res.ofB b f).Holds Q E):b=true/\f.Holds Q E:=by
 induction b using Bool.casesOn with
 |false=>exact h.elim
 |true=>exact⟨rfl,h⟩
variable {prog:Program}{w:World}
theorem nmA {s:SharedT}{a:Nat}{o:Obj}(h:ldO s a=some o):Nat.blt a s.n=true/\∃x,s.tree.get a=some x/\alive x=some o:=by
 unfold ldO at h
 generalize Nat.blt a s.n=b at h
 generalize s.tree.get a=y at h
 induction b using Bool.casesOn with
 |false=>exact no h
 |true=>induction y using Option.casesOn with
  |none=>exact no h
  |some x=>exact⟨rfl,x,rfl,h⟩
theorem hW {s:SharedT}{a:Nat}{o:Obj}(h:ldO s a=some o):s.abs.heap.get? a=some o:=by
 obtain⟨h1,x,h2,h3⟩:=nmA h
 show(absHeap s.tree s.n s.life).get? a=some o
 rw[abs_get (Nat.le_of_ble_eq_true h1) h2,h3]
theorem ewA {s:SharedT}{a:Nat}{x:Option Obj}(h:ldI s a=some x):s.abs.heap.get? a=x:=by
 unfold ldI at h
 have f:=λq=>@abs_get_none s.tree s.n s.life a q
 have g:=λo q=>@abs_get s.tree s.n s.life a o q
 have h1:=@Nat.le_of_ble_eq_true (a+1) s.n
 have h2:=@Nat.ble_eq_true_of_le (a+1) s.n
 change Nat.blt a s.n=true->_ at h1
 change _->Nat.blt a s.n=true at h2
 show(absHeap s.tree s.n s.life).get? a=x
 generalize Nat.blt a s.n=b at h h1 h2
 generalize s.tree.get a=y at h g
 induction b using Bool.casesOn with
 |false=>exact(f λq=>nof (h2 q)).trans (inj h)
 |true=>induction y using Option.casesOn with
  |none=>exact no h
  |some o=>exact(g o (h1 rfl) rfl).trans (inj h)
theorem kqA {s:SharedT}{a:Nat}{o:Obj}{f:Obj->Obj}(h:ldO s a=some o):SharedT.abs ⟨s.tree.set a f,s.n,s.life,s.gens,s.drawn,s.toks,s.os⟩={s.abs with heap:=s.abs.heap.update a f}:=by
 obtain⟨_,x,h2,_⟩:=nmA h
 exact congrArg (λh=>Shared.mk h s.gens s.drawn s.toks s.os) (absHeap_set h2)
theorem nyA {s:SharedT}{o:Obj}(h:((s.tree.ins s.n o).get s.n).isSome=true):SharedT.abs ⟨s.tree.ins s.n o,s.n+1,s.life,s.gens,s.drawn,s.toks,s.os⟩={s.abs with heap:=s.abs.heap.push o}:=
 congrArg (λh=>Shared.mk h s.gens s.drawn s.toks s.os) (absHeap_ins h)
theorem bjA {α:Type}{Γ:Ctx}{p:Pos}{s:SharedT}{a:Nat}{q:Option Value}{o:Obj}{f:Obj->Obj}{k:Unit->Sem α}{Q:α->Pos->Shared->Prop}{E:Value->Pos->Shared->Prop}(e:ldO s a=some o)(h:wp (model prog w) Γ (k ()) Q E p (SharedT.abs ⟨s.tree.set a f,s.n,s.life,s.gens,s.drawn,s.toks,s.os⟩)):wp (model prog w) Γ (.update a q f k) Q E p s.abs:=
 ⟨by rw[hW e];rfl,kqA e▸h⟩
theorem bbB {α:Type}{Γ:Ctx}{p:Pos}{s:SharedT}{a:Nat}{x:Option Obj}{k:Option Obj->Sem α}{Q:α->Pos->Shared->Prop}{E:Value->Pos->Shared->Prop}(e:ldI s a=some x)(h:wp (model prog w) Γ (k x) Q E p s.abs):wp (model prog w) Γ (.loadIfAlive a k) Q E p s.abs:=by
 show wp _ _ (k (s.abs.heap.get? a)) Q E p s.abs
 rw[ewA e]
 exact h
theorem cjA {α:Type}{Γ:Ctx}{p:Pos}{s:SharedT}{o:Obj}{k:Nat->Sem α}{Q:α->Pos->Shared->Prop}{E:Value->Pos->Shared->Prop}(e:((s.tree.ins s.n o).get s.n).isSome=true)(h:wp (model prog w) Γ (k s.n) Q E p (SharedT.abs ⟨s.tree.ins s.n o,s.n+1,s.life,s.gens,s.drawn,s.toks,s.os⟩)):wp (model prog w) Γ (.alloc o k) Q E p s.abs:=by
 rw[nyA e]at h
 show wp _ _ (k s.abs.heap.objs.size) Q E p {s.abs with heap:=s.abs.heap.push o}
 rw[show s.abs.heap.objs.size=s.n from absHeap_size _ _ _]
 exact h
mutual
theorem lC:∀(n:Nat) (α:Type) (Γ:Ctx) (p:Pos) (t:Sem α) (s:SharedT) (Q:α->Pos->Shared->Prop) (E:Value->Pos->Shared->Prop),
  (evB (denote table) ⟨prog,w.params⟩ n α Γ p t s).Holds Q E->wp (model prog w) Γ t Q E p s.abs
 |0,_,_,_,_,_,_,_,h=>h.elim
 |n+1,α,Γ,p,t,s,Q,E,h=>by
  induction t using PySem.Sem.casesOn with
  |pure a=>exact h
  |raise e=>exact h
  |rule _ k=>exact lC n α Γ p (k ()) s Q E h
  |«at» p' k=>exact lC n α Γ p' (k ()) s Q E h
  |load a q k=>exact(Res.of_holds h).elim λo h=>⟨o,hW h.1,lC n α Γ p (k o) s Q E h.2⟩
  |update a q f k=>exact(Res.of_holds h).elim λo h=>bjA h.1 (lC n α Γ p (k ()) _ Q E h.2)
  |alloc o k=>exact cjA (Res.ofB_holds h).1 (lC n α Γ p (k s.n) _ Q E (Res.ofB_holds h).2)
  |loadIfAlive a k=>exact(Res.of_holds h).elim λx h=>bbB h.1 (lC n α Γ p (k x) s Q E h.2)
  |point _ k=>exact lC n α Γ p (k ()) s Q E h
  |fresh k=>exact lC n α Γ p (k s.toks) ⟨s.tree,s.n,s.life,s.gens,s.drawn,s.toks+1,s.os⟩ Q E h
  |ask k=>exact lC n α Γ p (k ⟨prog,w.params⟩) s Q E h
  |handled own k=>exact lC n α Γ p (k (if own then Γ.own else Γ.handled)) s Q E h
  |stack k=>exact lC n α Γ p (k ((Γ.code,p)::Γ.below)) s Q E h
  |thread k=>exact lC n α Γ p (k 0) s Q E h
  |call c hd g l k=>exact lP n α Γ p c hd p k s Q E h
  |_=>exact h.elim
theorem lP:∀(n:Nat) (α:Type) (Γ:Ctx) (p:Pos) (c:Code) (hd:Option Value) (p₀:Pos) (k:Result->Sem α) (s:SharedT) (Q:α->Pos->Shared->Prop) (E:Value->Pos->Shared->Prop),
  (evK (denote table) ⟨prog,w.params⟩ n α Γ p c hd p₀ k s).Holds Q E->wpCode (model prog w) (Γ.enter c hd p) (λr s'=>wp (model prog w) Γ (k r) Q E p s') p₀ s.abs
 |0,_,_,_,_,_,_,_,_,_,_,h=>h.elim
 |n+1,α,Γ,p,c,hd,p₀,k,s,Q,E,h=>by
  rw[wpCode_iff_wp]
  refine lC n Fin (Γ.enter c hd p) p₀ (denote table c) s _ _ ?_
  replace h:(Res.cK _ _ _ _).Holds Q E:=h
  generalize evB (denote table) ⟨prog,w.params⟩ n Fin (Γ.enter c hd p) p₀ (denote table c) s=x at h ⊢
  induction x using Res.casesOn with
  |ok a p' s'=>induction a using PySem.Fin.casesOn with
   |done f=>exact lC n α Γ p (k (.ok f)) s' Q E h
   |again c'=>exact⟨(Res.ofB_holds h).1,lP n α Γ p c' hd p' k s' Q E (Res.ofB_holds h).2⟩
  |err x p' s'=>exact lC n α Γ p (k (.error x)) s' Q E h
  |no=>exact h.elim
end
end Mine
namespace Mine
open PySem PySem.W PySem.Calls PySem.Spec PyProof.Rows
noncomputable def upd (h:Heap)(a:Addr)(o:Obj):Heap:=h.update a (λ_=>o)
noncomputable def qC (es:Array (Int×Value))(ep:Nat)(t:SetTable):Obj:=⟨.type "set",none,.set es ep t,#[]⟩
theorem zY {h:Heap}{a:Addr}{o:Obj}(e:h.get? a=some o):h.objs[a]?=some o:=by
 unfold Heap.get? at e
 split at e
 ·exact no e
 ·exact e
theorem xO {h:Heap}{a:Addr}{o:Obj}{f:Obj->Obj}(e:h.get? a=some o):h.update a f=upd h a (f o):=by
 have e':=zY e
 obtain⟨objs,l⟩:=h
 show Heap.mk _ _=Heap.mk _ _
 congr 1
 apply Array.ext_getElem?
 intro i
 refine qDzq (Array.getElem?_modify) ?_;simp only[Array.getElem?_modify]
 by_cases q:a=i
 ·subst q
  have e'':objs[a]?=some o:=e'
  simp[e'']
 ·simp[q]
theorem iqA (h:Heap)(a:Addr)(o o':Obj):upd (upd h a o) a o'=upd h a o':=by
 obtain⟨objs,l⟩:=h
 show Heap.mk _ _=Heap.mk _ _
 congr 1
 apply Array.ext_getElem?
 intro i
 refine qDzq (Array.getElem?_modify) ?_;rw[Array.getElem?_modify,Array.getElem?_modify]
 by_cases q:a=i
 ·subst q;cases objs[a]?<;>simp
 ·simp[q]
theorem jqA {h:Heap}{a:Addr}{o o':Obj}(e:h.get? a=some o)(hf:o'.isFreed=false):(upd h a o').get? a=some o':=
 Heap.get?_update_self _ e hf
section
variable {prog:Program}{w:World}{A:Around}{E:Value->Shared->Prop}{s:Shared}
structure oJ (prog:Program) (w:World) (S:Str->Bool) (n:Nat) (es:Array (Int×Value)) (t:SetTable):Prop where
 el:ElemsOf (strKind prog w) es.toList
 mem:∀k,S k=true↔∃e∈es.toList,(strKind prog w).is k e.2=true
 size:es.size=n
 fits:t.fits es.size=true
theorem rZ (led:Bool):oJ prog w (λø=>false) 0 #[] (.fresh 0 0 led):=
 ⟨λe he=>by simp at he,λk=>by simp,rfl,rfl⟩
theorem sZ (b:Bool){s₁:Shared}{Q':Unit->Shared->Prop}(hq:Q' () s₁):wpAny (model prog w) A (match b with|true=>rule "set.scan.the-table-gave-way"|false=>pure ()) Q' E s₁:=by
 induction b using Bool.casesOn<;>first|exact wpAny_pure hq|exact wpAny_rule hq
theorem vhB {a:Addr}{es:Array (Int×Value)}{ep:Nat}{t:SetTable}{S:Str->Bool}{n:Nat}{k:Str}{tk:Tok}{Q:Bool->Shared->Prop}
  (ho:s.heap.get? a=some (qC es ep t)) (g:oJ prog w S n es t) (hn:n+1<scanBound) (hS:S k=false)
  (h:∀es' ep' t',oJ prog w (λk'=>S k'||decide (k'=k)) (n+1) es' t'->Q true {s with heap:=upd s.heap a (qC es' ep' t'),toks:=s.toks+1}):
  wpAny (model prog w) A (setAdd a (.str k tk)) Q E s:=by
 have hsc:(Value.str k tk).scannable=true:=rfl
 have hkey:(strKind prog w).is k (.str k tk)=true:=strKind_is prog w k tk
 refine wpAny_holding (wpAny_bind ((strKind prog w).pyHash hkey ?_))
 have hb:es.size<scanBound:=by rw[g.size];exact iC ‹_›
 have hb1:es.size+1<scanBound:=by rw[g.size];exact hn
 refine wpAny_holding (wpAny_bind (wpAny_setState_of (o:=qC es ep t) ho rfl g.fits ?_))
 dsimp only
 rw[byScan_of hsc hb g.el]
 refine wpAny_bind ?_
 refine wpAny_bind (wpAny_rule ?_)
 refine wpAny_bind (wpAny_setScan_of (o:=qC es ep t) hkey ho rfl g.fits g.el ?_)
 have hr:List.findIdx? (λe=>(strKind prog w).is k e.2) es.toList=none:=by
  refine List.findIdx?_eq_none_iff.mpr λe he=>?_
  cases q:(strKind prog w).is k e.2 with
  |false=>rfl
  |true=>have:=(g.mem k).mpr (jA e he q);rw[hS]at this;exact nof this
 rw[hr]
 have hperm:=layNew_perm t es ((strKind prog w).hash k) (.str k tk)
 have hfits:=layNew_fits t es ((strKind prog w).hash k) (.str k tk)
 generalize layNew t es ((strKind prog w).hash k) (.str k tk)=Ln at hperm hfits ⊢
 obtain⟨es1,t1,wasDummy,gave⟩:=Ln
 simp only[Array.toList_push]at hperm
 have hel1:ElemsOf (strKind prog w) es1.toList:=(g.el.push hkey hsc).perm hperm
 have hmem1:∀k',(S k'||decide (k'=k))=true↔∃e∈es1.toList,(strKind prog w).is k' e.2=true:=mem_push_iff hkey g.mem hperm
 have hsz1:es1.size=n+1:=by
  have:=hperm.length_eq
  simp only[vC,Array.length_toList,Array.length_toList,g.size]at this
  simpa using this
 have hb1':es1.size<scanBound:=by rw[hsz1];exact hn
 have hend:∀t2:SetTable,t2.fits es1.size=true->
   wpAny (model prog w) A (do
    storeSet a es1 t2
    if(!wasDummy&&t2.tooFull)=true then do
      (match(relayAll t2 es1 (SetTable.grown es1.size)).2.2 with|true=>rule "set.scan.the-table-gave-way"|false=>pure ())
      storeSet a (relayAll t2 es1 (SetTable.grown es1.size)).1 (relayAll t2 es1 (SetTable.grown es1.size)).2.1
      pure (some true)
     else pure (some true)) (λr s'=>r=some true/\Q true s') E {s with toks:=s.toks+1}:=by
  intro t2 hf2
  refine wpAny_bind (wpAny_storeSet_of (o:=qC es ep t) ho rfl ?_ (fits_of_scanBound hb1'))
  have e1:s.heap.update a (Obj.putSet es1 t2)=upd s.heap a (qC es1 (ep+1) t2):=xO ho
  have ho1:(upd s.heap a (qC es1 (ep+1) t2)).get? a=some (qC es1 (ep+1) t2):=jqA ho rfl
  split
  ·have hp:=relayAll_perm t2 es1 (SetTable.grown es1.size)
   have hfr:=relayAll_fits t2 es1 (SetTable.grown es1.size)
   generalize relayAll t2 es1 (SetTable.grown es1.size)=Rl at hp hfr ⊢
   obtain⟨es2,t3,gave2⟩:=Rl
   have hsz:es2.size=es1.size:=by rw[<-Array.length_toList,hp.length_eq,Array.length_toList]
   refine wpAny_bind (sZ _ ?_)
   have ho1':(s.heap.update a (Obj.putSet es1 t2)).get? a=some (qC es1 (ep+1) t2):=by rw[e1];exact ho1
   refine wpAny_bind (wpAny_storeSet_of (o:=qC es1 (ep+1) t2) ho1' rfl ?_ (fits_of_scanBound (by rw[hsz];exact hb1')))
   refine wpAny_pure (eB rfl ?_)
   have e2:(s.heap.update a (Obj.putSet es1 t2)).update a (Obj.putSet es2 t3)=upd s.heap a (qC es2 (ep+1+1) t3):=by
    rw[xO ho1',e1,iqA];rfl
   rw[e2]
   exact h es2 _ t3 ⟨hel1.perm hp,λk'=>(hmem1 k').trans ⟨λo1=>by refine iA o1 λe he q=>?_;exact jA e (hp.mem_iff.mpr he) q,λo2=>by refine iA o2 λe he q=>?_;exact jA e (hp.mem_iff.mp he) q⟩,hsz.trans hsz1,hfr⟩
  ·refine wpAny_pure (eB rfl ?_)
   rw[e1]
   exact h es1 _ t2 ⟨hel1,hmem1,hsz1,hf2⟩
 refine wpAny_bind (sZ _ ?_)
 split
 ·refine wpAny_bind ?_
  rw[hashByValue_scannable 8 hsc]
  refine wpAny_pure ?_
  refine wpAny_mono (hend _ ?_) (λr s' x=>?_) λ_ _ x=>x
  ·split
   ·exact hfits
   ·exact SetTable.fits_plain_off hfits
  ·obtain⟨rfl,x⟩:=x;exact wpAny_pure x
 ·refine wpAny_bind (wpAny_pure ?_)
  refine wpAny_mono (hend _ hfits) (λr s' x=>?_) λ_ _ x=>x
  obtain⟨rfl,x⟩:=x;exact wpAny_pure x
theorem ijA {a:Addr}{es:Array (Int×Value)}{ep:Nat}{t:SetTable}{S:Str->Bool}{n:Nat}{Q:Unit->Shared->Prop}
  (ho:s.heap.get? a=some (qC es ep t)) (g:oJ prog w S n es t) (hn:n<scanBound)
  (h:∀es' ep' t',oJ prog w S n es' t'->Q () {s with heap:=upd s.heap a (qC es' ep' t')}):
  wpAny (model prog w) A (setUnled a) Q E s:=by
 have hf':({t with led:=false}:SetTable).fits es.size=true:=by cases t;exact g.fits
 refine wpAny_bind (wpAny_setState_of (o:=qC es ep t) ho rfl g.fits ?_)
 refine wpAny_storeSet_of (o:=qC es ep t) ho rfl ?_ (fits_of_scanBound (by rw[g.size];exact hn))
 rw[xO ho]
 exact h es (ep+1) _ ⟨g.el,g.mem,g.size,hf'⟩
end
set_option tactic.hygienic true
noncomputable def constStr?:PySem.Expr->Option Str
 | .Constant (.str x) _ _=>some x
 |_=>none
noncomputable def constStrs?:List PySem.Expr->Option (List Str)
 |[]=>some []
 |e::r=>match constStr? e,constStrs? r with
  |some x,some xs=>some (x::xs)
  |_,_=>none
theorem kX (h:Heap)(o o':Obj):upd (h.push o) h.objs.size o'=h.push o':=by
 obtain⟨objs,l⟩:=h
 show Heap.mk _ _=Heap.mk _ _
 congr 1
 apply Array.ext_getElem?
 intro i
 show((objs.push o).modify objs.size _)[i]?=(objs.push o')[i]?
 refine qDzq (Array.getElem?_modify) ?_;rw[Array.getElem?_push,Array.getElem?_push]
 by_cases q:objs.size=i
 ·subst q;simp
 ·simp[q,Ne.symm q]
noncomputable def rV:List Str->Nat->List Value
 |[],_=>[]
 |x::xs,t=>.str x t::rV xs (t+1)
section
variable {prog:Program}{w:World}{A:Around}{E:Value->Shared->Prop}{env:Env}
theorem zbA:∀(elts:List PySem.Expr) (xs:List Str) (s:Shared) (Q:List Value->Shared->Prop),constStrs? elts=some xs->
  Q (rV xs s.toks) {s with toks:=s.toks+xs.length}->KdsAll (model prog w) A E env elts Q s:=by
 intro l0
 induction l0 with
 |nil=>
  intro xs s Q hx h
  have o1:=inj hx;clear hx;obtain rfl:=o1
  exact h
 |cons e r ih=>
  intro xs s Q hx h
  unfold constStrs? at hx
  split at hx
  ·rename_i x xs' h1 h2
   obtain rfl:=inj hx
   unfold constStr? at h1
   split at h1
   ·cases h1
    refine wpAny_Constant_str (ih xs' _ _ h2 ?_)
    have e:s.toks+(x::xs').length=s.toks+1+xs'.length:=by exact ar0
    simp only[e]at h
    exact h
   ·exact no h1
  ·exact no hx
theorem gT (done:List Str)(x y:Str):(done++[x]).contains y=(done.contains y||decide (y=x)):=by
 refine(Bool.eq_iff_iff ..).mpr ?_
 simp[List.contains_iff_mem]
theorem kZ {h:Heap}{Q:Value->Shared->Prop}:∀(xs done:List Str) (es:Array (Int×Value)) (ep:Nat) (t:SetTable) (s:Shared) (tk:Nat),
  s.heap=h.push (qC es ep t)->oJ prog w (λy=>done.contains y) done.length es t->(done++xs).Nodup->(done++xs).length+1<scanBound->
  (∀es' ep' t',oJ prog w (λy=>(done++xs).contains y) (done++xs).length es' t'->Q (.ref h.objs.size) {s with heap:=h.push (qC es' ep' t'),toks:=s.toks+xs.length})->
  KdsFill (model prog w) A E true h.objs.size Q (rV xs tk) s:=by
 intro l0
 induction l0 with
 |nil=>
  intro done es ep t s tk hh g nd hb hQ
  rw[List.append_nil]at nd hb hQ
  refine kds_fill_unled rfl ?_
  have ho:s.heap.get? h.objs.size=some (qC es ep t):=by rw[hh];exact Heap.get?_push_size _ rfl
  refine ijA (prog:=prog) (w:=w) ho g (iC ‹_›) λes' ep' t' g'=>?_
  have:=hQ es' ep' t' g'
  rw[hh,kX]
  exact this
 |cons x xs ih=>
  intro done es ep t s tk hh g nd hb hQ
  refine kds_fill_cons ?_
  have ho:s.heap.get? h.objs.size=some (qC es ep t):=by rw[hh];exact Heap.get?_push_size _ rfl
  have hnew:done.contains x=false:=by
   cases q:done.contains x with
   |false=>rfl
   |true=>
    replace q:=(List.contains_iff_mem ..).mp q
    have:=(List.nodup_append.mp nd).2.2 x q x (.head _)
    exact absurd rfl this
  have hl:(done++x::xs).length=(done++[x]++xs).length:=by simp
  have hc:done++x::xs=done++[x]++xs:=by simp
  have hsz:done.length+1<scanBound:=by simp only[vC,List.length_cons]at hb;exact ar1 hb
  refine vhB (prog:=prog) (w:=w) ho g hsz hnew λes' ep' t' g'=>?_
  rw[hh,kX]
  have g2:oJ prog w (λy=>(done++[x]).contains y) (done++[x]).length es' t':=by
   have e:(λy=>(done++[x]).contains y)=λk'=>done.contains k'||decide (k'=x):=funext λy=>gT done x y
   simp only[e,vC]
   exact g'
  refine ih (done++[x]) es' ep' t' {s with heap:=h.push (qC es' ep' t'),toks:=s.toks+1} (tk+1) rfl g2 (hc▸nd) (by rw[<-hl];exact hb) λes2 ep2 t2 g3=>?_
  have e:s.toks+(x::xs).length=s.toks+1+xs.length:=by exact ar0
  have:=hQ es2 ep2 t2 (by rw[hc];exact g3)
  simp only[e]at this
  exact this
theorem cR {K:Frag}{elts:List PySem.Expr}{k:Nat}{pos:Pos}{xs:List Str}{s:Shared}{Q:Value->Shared->Prop}(X:K.In s.heap)(hc:kdsCode K env.code=true)
  (hroad:displayRoad k elts=.unsure) (hp:elts.all kdsPlain=true) (hlen:elts.length<=30) (hx:constStrs? elts=some xs) (nd:xs.Nodup) (hb:xs.length+1<scanBound)
  (h:∀es ep t,oJ prog w (λy=>xs.contains y) xs.length es t->
   Q (.ref s.heap.objs.size) {s with heap:=s.heap.push (qC es ep t),toks:=s.toks+xs.length+xs.length}):
  wpAny (model prog w) A (eval (.Set elts k pos) env) Q E s:=by
 simp only[arm_eval_Set]
 refine wpAny_bind (wpAny_standAt ?_)
 refine wpAny_bind (kds_main X hc λb=>?_)
 rw[kds_star elts hp,List.map_map]
 refine kds_core (ts:=(evalEach elts env).map λt=>do let v <-t;standAt pos;pure v) (by rw[hroad];rfl) ?_ ?_ ?_ λled=>?_
 ·refine List.findIdx?_eq_none_iff.mpr λx hx=>?_
  refine iA (List.mem_map.mp hx) λt ø o1=>?_;obtain rfl:=o1
  rfl
 ·rw[List.length_map,kds_len];exact hlen
 ·refine qDzq (List.map_map ..) ?_;rfl
 ·refine kds_all pos elts _ _ (zbA elts xs _ _ hx ?_)
  rw[hroad]
  refine kZ (h:=s.heap) xs [] #[] 0 (.fresh 0 0 led) _ _ rfl (rZ led) nd hb λes ep t g=>?_
  exact h es ep t g
end
set_option tactic.hygienic false
end Mine
namespace Mine
open PySem PySem.W PySem.Calls PyProof.Rows PySem.Sem
structure Stop (α:Type) where
 c:Code
 h:Option Value
 p:Pos
 k:Result->Sem α
 s:SharedT
noncomputable def nfB:Code->Bool
 | .body _ _=>true
 |_=>false
noncomputable def Stop.or {α:Type}(b:Bool)(x:α)(y:Option α):Option α:=match b with
 |true=>some x
 |false=>y
noncomputable def Stop.if {α:Type}(b:Bool)(y:Option α):Option α:=match b with
 |true=>y
 |false=>none
noncomputable def Res.okO {α β:Type}(r:Res α)(f:α->SharedT->Option β):Option β:=match r with
 | .ok a _ s=>f a s
 |_=>none
section
variable (den:Code->Sem Fin)(set:Setting)
noncomputable def evU:Nat->(α:Type)->Ctx->Pos->Sem α->SharedT->Option (Stop α)
 |0,_,_,_,_,_=>none
 |n+1,α,Γ,p,t,s=>match t with
  | .rule _ k=>evU n α Γ p (k ()) s
  | .at p' k=>evU n α Γ p' (k ()) s
  | .load a _ k=>(ldO s a).bind λo=>evU n α Γ p (k o) s
  | .update a _ f k=>(ldO s a).bind λ_=>evU n α Γ p (k ()) ⟨s.tree.set a f,s.n,s.life,s.gens,s.drawn,s.toks,s.os⟩
  | .alloc o k=>Stop.if ((s.tree.ins s.n o).get s.n).isSome (evU n α Γ p (k s.n) ⟨s.tree.ins s.n o,s.n+1,s.life,s.gens,s.drawn,s.toks,s.os⟩)
  | .point _ k=>evU n α Γ p (k ()) s
  | .fresh k=>evU n α Γ p (k s.toks) ⟨s.tree,s.n,s.life,s.gens,s.drawn,s.toks+1,s.os⟩
  | .ask k=>evU n α Γ p (k set) s
  | .handled own k=>evU n α Γ p (k (if own then Γ.own else Γ.handled)) s
  | .stack k=>evU n α Γ p (k ((Γ.code,p)::Γ.below)) s
  | .call c h _ _ k=>Stop.or (nfB c) ⟨c,h,p,k,s⟩ ((evK den set n Result Γ p c h p (λr=>.pure r) s).okO λr s'=>evU n α Γ p (k r) s')
  |_=>none
end
section
variable {prog:Program}{w:World}
theorem rlA {α β:Type}{r:Res α}{f:α->SharedT->Option β}{x:β}(h:r.okO f=some x):∃a p s,r=.ok a p s/\f a s=some x:=by
 induction r using Res.casesOn with
 |ok a p s=>exact⟨a,p,s,rfl,h⟩
 |_=>exact no h
theorem yY {α β:Type}{x:Option α}{f:α->Option β}{y:β}(h:x.bind f=some y):∃a,x=some a/\f a=some y:=by
 induction x using Option.casesOn with
 |none=>exact no h
 |some a=>exact⟨a,rfl,h⟩
theorem or_some {α:Type}{b:Bool}{x z:α}{y:Option α}(h:Stop.or b x y=some z):x=z\/y=some z:=by
 induction b using Bool.casesOn with
 |false=>exact .inr h
 |true=>exact .inl (inj h)
theorem qeA {α:Type}{b:Bool}{z:α}{y:Option α}(h:Stop.if b y=some z):b=true/\y=some z:=by
 induction b using Bool.casesOn with
 |false=>exact no h
 |true=>exact⟨rfl,h⟩
theorem yhA:∀(n:Nat) (α:Type) (Γ:Ctx) (p:Pos) (t:Sem α) (s:SharedT) (x:Stop α) (Q:α->Pos->Shared->Prop) (E:Value->Pos->Shared->Prop),
  evU (denote table) ⟨prog,w.params⟩ n α Γ p t s=some x->
  wpCode (model prog w) (Γ.enter x.c x.h x.p) (λr s'=>wp (model prog w) Γ (x.k r) Q E x.p s') x.p x.s.abs->wp (model prog w) Γ t Q E p s.abs:=by
 intro l0
 induction l0 with
 |zero=>
  intro ø ø ø ø ø ø ø ø h ø
  exact no h
 |succ n ih=>
  intro α Γ p t s x Q E h hx
  induction t using PySem.Sem.casesOn with
  |rule _ k=>exact ih α Γ p (k ()) s x Q E h hx
  |«at» p' k=>exact ih α Γ p' (k ()) s x Q E h hx
  |load a q k=>exact(yY h).elim λo h=>⟨o,hW h.1,ih α Γ p (k o) s x Q E h.2 hx⟩
  |update a q f k=>exact(yY h).elim λo h=>bjA h.1 (ih α Γ p (k ()) _ x Q E h.2 hx)
  |alloc o k=>exact cjA (qeA h).1 (ih α Γ p (k s.n) _ x Q E (qeA h).2 hx)
  |point _ k=>exact ih α Γ p (k ()) s x Q E h hx
  |fresh k=>exact ih α Γ p (k s.toks) ⟨s.tree,s.n,s.life,s.gens,s.drawn,s.toks+1,s.os⟩ x Q E h hx
  |ask k=>exact ih α Γ p (k ⟨prog,w.params⟩) s x Q E h hx
  |handled own k=>exact ih α Γ p (k (if own then Γ.own else Γ.handled)) s x Q E h hx
  |stack k=>exact ih α Γ p (k ((Γ.code,p)::Γ.below)) s x Q E h hx
  |call c hd g l k=>
   refine(or_some h).elim (λe=>?_) λh=>?_
   ·obtain rfl:=e
    exact hx
   ·obtain⟨r,p',s',e,h⟩:=rlA h
    exact lP (prog:=prog) (w:=w) n Result Γ p c hd p (λr=>.pure r) s (λr _ s'=>wp (model prog w) Γ (k r) Q E p s') (λ_ _ _=>False) (by rw[e];exact ih α Γ p (k r) s' x Q E h hx)
  |_=>exact no h
theorem lH {Γ:Ctx}{env:Env}{Q:Flow->Pos->Shared->Prop}{E:Value->Pos->Shared->Prop}(r:List Stmt):∀(l:List Stmt) (p:Pos) (s:Shared),
  wp (model prog w) Γ (execs l env) (λf p' s'=>f=.next/\wp (model prog w) Γ (execs r env) Q E p' s') E p s->wp (model prog w) Γ (execs (l++r) env) Q E p s:=by
 intro l0
 induction l0 with
 |nil=>
  intro p s h
  exact(show(Flow.next=.next/\wp (model prog w) Γ (execs r env) Q E p s)from h).2
 |cons st l ih=>
  intro p s h
  show wp (model prog w) Γ (execs (st::(l++r)) env) Q E p s
  rw[execs_cons]at h ⊢
  rw[wp_bind']at h ⊢
  refine wp_mono _ _ _ (λf p' s' x=>?_) (λ_ _ _ x=>x) _ _ h
  induction f using PySem.Flow.casesOn with
  |next=>exact ih p' s' x
  |brk=>exact absurd (show Flow.brk=.next from And.left x) (by intro q;cases q)
  |cont=>exact absurd (show Flow.cont=.next from And.left x) (by intro q;cases q)
  |ret v=>exact absurd (show Flow.ret v=.next from And.left x) (by intro q;cases q)
theorem bdA {Γ:Ctx}{b:List Stmt}{env:Env}{R:Result->Shared->Prop}{p:Pos}{s:Shared}(hc:Γ.code=.body b env)
  (h:wp (model prog w) Γ (blockStart b env) (λ_ p' s'=>wp (model prog w) Γ (execs b env) (λf _ s''=>R (.ok f) s'') (λ_ _ _=>False) p' s') (λ_ _ _=>False) p s):
  wpCode (model prog w) Γ R p s:=by
 rw[wpCode_iff_wp,hc]
 show wp (model prog w) Γ (do blockStart b env;return Fin.done (<-(execs b env).onRaise («leaving» env)):Sem Fin) _ _ p s
 rw[wp_bind']
 refine wp_mono _ _ _ (λ_ p' s' x=>?_) (λ_ _ _ x=>x.elim) _ _ h
 rw[wp_bind',wp_onRaise]
 refine wp_mono _ _ _ (λf p'' s'' y=>y) (λ_ _ _ y=>y.elim) _ _ x
end
noncomputable abbrev pw:Program:=PySem.Challenge.pw_ji0048_01
noncomputable def lcA:Code->Sem Fin:=PySem.W.Fast.tw11892475500146522536 PySem.W.Fast.tw14364793385576792824
theorem zeA:lcA=denote table:=by
 unfold lcA
 rw[<-PySem.W.Fast.te11892475500146522536,<-PySem.W.Fast.te14364793385576792824,table_eq_tree]
noncomputable def iL:List Stmt->Env->Sem Flow:=PySem.W.Fast.tw12563942051412417395
theorem jP:iL=execs:=PySem.W.Fast.te12563942051412417395.symm
noncomputable abbrev evQ (P:Params)(n:Nat){α:Type}(Γ:Ctx)(p:Pos)(t:Sem α)(s:SharedT):Res α:=evB lcA ⟨pw,P⟩ n α Γ p t s
theorem mF {w:World}{n:Nat}{α:Type}{Γ:Ctx}{p:Pos}{t:Sem α}{s:SharedT}{a:α}{p':Pos}{s':SharedT}{Q:α->Pos->Shared->Prop}{E:Value->Pos->Shared->Prop}
  (h:evQ w.params n Γ p t s=.ok a p' s') (hq:Q a p' s'.abs):wp (model pw w) Γ t Q E p s.abs:=by
 refine lC n α Γ p t s Q E ?_
 rw[<-zeA]
 have e:evB lcA ⟨pw,w.params⟩ n α Γ p t s=.ok a p' s':=h
 rw[e]
 exact hq
noncomputable def Res.st {α:Type}:Res α->SharedT
 | .ok _ _ s=>s
 | .err _ _ s=>s
 | .no=>⟨.nil,0,{},#[],{},0,{}⟩
noncomputable def Stop.k? {α:Type}:Option (Stop α)->Result->Sem α
 |some x=>x.k
 |none=>λ_=>.unsupported ""
noncomputable def Stop.s? {α:Type}:Option (Stop α)->SharedT
 |some x=>x.s
 |none=>⟨.nil,0,{},#[],{},0,{}⟩
theorem zR {w:World}{n:Nat}{α:Type}{Γ:Ctx}{p:Pos}{t:Sem α}{s:SharedT}{x:Stop α}{Q:α->Pos->Shared->Prop}{E:Value->Pos->Shared->Prop}
  (h:evU lcA ⟨pw,w.params⟩ n α Γ p t s=some x) (hq:wpCode (model pw w) (Γ.enter x.c x.h x.p) (λr s'=>wp (model pw w) Γ (x.k r) Q E x.p s') x.p x.s.abs):wp (model pw w) Γ t Q E p s.abs:=by
 rw[zeA]at h
 exact yhA n α Γ p t s x Q E h hq
noncomputable def T0 (P:Params):BT:=
 .node (boot_o_0 P) (.node (boot_o_1 P) (.node (boot_o_3 P) (.node (boot_o_7 P) .nil .nil) .nil) (.node (boot_o_5 P) (.node (boot_o_9 P) .nil .nil) .nil))
  (.node (boot_o_2 P) (.node (boot_o_4 P) (.node (boot_o_8 P) .nil .nil) .nil) (.node (boot_o_6 P) (.node (boot_o_10 P) .nil .nil) .nil))
noncomputable def S0 (P:Params)(os:OsState):SharedT:=⟨T0 P,11,{},#[],boot_drawn,boot_toks,os⟩
theorem diB (P:Params)(os:OsState):(S0 P os).abs=⟨boot_heap P,#[],boot_drawn,boot_toks,os⟩:=by kernel_rfl
noncomputable def ΓC:Ctx:=⟨.builtin "claim.caller" {},none,none,[],none⟩
noncomputable def lM:List Stmt:=behindTheImports pw
noncomputable def yZ:Env:={scope:=pw.main.scope,locals:=mainNs,globals:=mainNs,cells:=[],code:=.ref 13,frame:=some 14}
noncomputable def uA (P:Params)(os:OsState):Option (Stop Fin):=evU lcA ⟨pw,P⟩ 60 Fin ΓC default (topStub pw).cur (S0 P os)
noncomputable def sA (P:Params)(os:OsState):SharedT:=Stop.s? (uA P os)
noncomputable def kA (P:Params)(os:OsState):Result->Sem Fin:=Stop.k? (uA P os)
theorem oiB (P:Params)(os:OsState):uA P os=some ⟨.body lM yZ,none,default,kA P os,sA P os⟩:=by kernel_rfl
noncomputable def ΓM:Ctx:=ΓC.enter (.body lM yZ) none default
noncomputable def beB:List Stmt:=lM.take 25
noncomputable def rB (P:Params)(os:OsState):Res Flow:=evQ P 3000 ΓM default (iL beB yZ) (sA P os)
noncomputable def sB (P:Params)(os:OsState):SharedT:=(rB P os).st
noncomputable def posB:Pos:=⟨300,0,300,8⟩
noncomputable abbrev PW (w:World)(b:Bool):Params:=(w.withFollow "special-get-raises" b).params
theorem ahB (P:Params)(os:OsState):evQ P 30 ΓM default (blockStart lM yZ) (sA P os)=.ok () default (sA P os):=by kernel_rfl
theorem ojB (w:World)(b:Bool)(os:OsState):evQ (PW w b) 3000 ΓM default (iL beB yZ) (sA (PW w b) os)=.ok .next posB (sB (PW w b) os):=by induction b using Bool.casesOn<;>kernel_rfl
noncomputable def poA:List Stmt:=(lM.drop 25).take 1
noncomputable def ooA:List Stmt->List Stmt×Scope×Pos
 |[.ClassDef _ _ _ b _ _ sc _ _ _ p]=>(b,sc,p)
 |_=>([],default,default)
noncomputable def eaA:List Stmt:=(ooA poA).1
noncomputable def nbA:Pos:=(ooA poA).2.2
noncomputable def kcA:Env:={scope:=(ooA poA).2.1,locals:=342,globals:=mainNs,cells:=[],qual:="PorterStemmer.",code:=.ref 345,frame:=some 346}
noncomputable def uC (P:Params)(os:OsState):Option (Stop Flow):=evU lcA ⟨pw,P⟩ 2000 Flow ΓM posB (iL poA yZ) (sB P os)
noncomputable def sC (P:Params)(os:OsState):SharedT:=Stop.s? (uC P os)
noncomputable def kC (P:Params)(os:OsState):Result->Sem Flow:=Stop.k? (uC P os)
noncomputable def ΓB:Ctx:=ΓM.enter (.body eaA kcA) none nbA
theorem niB (w:World)(b:Bool)(os:OsState):uC (PW w b) os=some ⟨.body eaA kcA,none,nbA,kC (PW w b) os,sC (PW w b) os⟩:=by induction b using Bool.casesOn<;>kernel_rfl
theorem zgB (w:World)(b:Bool)(os:OsState):evQ (PW w b) 30 ΓB nbA (blockStart eaA kcA) (sC (PW w b) os)=.ok () nbA (sC (PW w b) os):=by induction b using Bool.casesOn<;>kernel_rfl
noncomputable def nZ (s:SharedT)(o:Obj)(k:Nat):SharedT:=⟨s.tree.ins s.n o,s.n+1,s.life,s.gens,s.drawn,s.toks+k,s.os⟩
noncomputable def wyA:Stmt->Str×Pos×List PySem.Expr×Nat×Pos×Pos
 | .Assign [.Name x px] (.Set elts k sp) pos=>(x,px,elts,k,sp,pos)
 |_=>(Str.empty,default,[],0,default,default)
noncomputable def st1:=wyA (eaA.headD (.Pass default))
noncomputable def st2:=wyA ((eaA.drop 1).headD (.Pass default))
noncomputable def hlA:List Stmt:=eaA.drop 2
noncomputable def nlA:List Stmt:=lM.drop 26
noncomputable def kdA (P:Params)(p:Pos)(x:Str)(a:Nat)(s:SharedT):Res Flow:=evQ P 300 ΓB p (do bindName kcA x (.ref a);Pure.pure Flow.next:Sem Flow) s
noncomputable def Res.nx {β:Type}(r:Res Flow)(f:Pos->SharedT->Option β):Option β:=match r with
 | .ok .next p s=>f p s
 |_=>none
noncomputable def Res.dn {β:Type}(r:Res Fin)(f:SharedT->Option β):Option β:=match r with
 | .ok (.done (.ret .none)) _ s=>f s
 |_=>none
theorem eO {β:Type}{r:Res Flow}{f:Pos->SharedT->Option β}{x:β}(h:r.nx f=some x):∃p s,r=.ok .next p s/\f p s=some x:=by
 induction r using Res.casesOn with
 |ok a p s=>induction a using PySem.Flow.casesOn with
  |next=>exact⟨p,s,rfl,h⟩
  |_=>exact no h
 |_=>exact no h
theorem oxA {β:Type}{r:Res Fin}{f:SharedT->Option β}{x:β}(h:r.dn f=some x):∃p s,r=.ok (.done (.ret .none)) p s/\f s=some x:=by
 induction r using Res.casesOn with
 |ok a p s=>induction a using PySem.Fin.casesOn with
  |done g=>induction g using PySem.Flow.casesOn with
   |ret v=>induction v using PySem.Value.casesOn with
    |none=>exact⟨p,s,rfl,h⟩
    |_=>exact no h
   |_=>exact no h
  |_=>exact no h
 |_=>exact no h
noncomputable def qnA (P:Params)(os:OsState)(o1 o2:Obj):Option (SharedT×SharedT×SharedT):=
 (kdA P st1.2.1 st1.1 (sC P os).n (nZ (sC P os) o1 12)).nx λ_ sE=>
 (kdA P st2.2.1 st2.1 sE.n (nZ sE o2 18)).nx λp3 sG=>
 (evQ P 20000 ΓB p3 (iL hlA kcA) sG).nx λ_ sH=>
 (evQ P 3000 ΓM nbA (kC P os (.ok .next)) sH).nx λp5 sI=>
 (evQ P 5000 ΓM p5 (iL nlA yZ) sI).nx λ_ sJ=>
 (evQ P 100 ΓC default (kA P os (.ok .next)) sJ).dn λsF=>some (sC P os,sE,sF)
end Mine
namespace Mine
set_option maxHeartbeats 0
open PySem PySem.W PySem.Calls PyProof.Rows
noncomputable def vS (x:String)(t:Nat):Value:=.str (Str.ofString x) t
noncomputable def vI (i:Int)(t:Nat):Value:=.int i t
noncomputable def vR (a:Nat):Value:=.ref a
noncomputable def vT (x:String):Value:=.type x
noncomputable def vB (x:String):Value:=.builtin x
noncomputable def vN:Value:=.none
noncomputable def vX (b:Bool):Value:=.bool b
noncomputable def kE (x:String)(t:Nat)(v:Value):Str×Tok×Value:=(Str.ofString x,t,v)
noncomputable def aK (c:Value)(xs:List Value)(n:Nat):Obj:=⟨c,none,.seq xs.toArray n,#[]⟩
noncomputable def vmA (P:Params)(es:List (Str×Tok×Value))(n:Nat):Data:=.dict (es.map λe=>⟨PyData.keyHash P e.1,.str e.1 e.2.1,e.2.2⟩).toArray n
noncomputable def nA (P:Params)(es:List (Str×Tok×Value))(n:Nat):Obj:=⟨.type "dict",none,vmA P es n,#[]⟩
noncomputable def kfB (P:Params)(es:List (Str×Tok×Value))(n:Nat):Obj:=⟨.none,none,vmA P es n,#[]⟩
noncomputable def kD (c:Value)(vs:List Value):Obj:=⟨c,none,.fields vs.toArray,#[]⟩
noncomputable def qzA:Stmt->Arguments×List Stmt×Scope
 | .FunctionDef _ a b _ _ _ sc _ _ _=>(a,b,sc)
 |_=>(⟨[],[],none,[],[],none,[]⟩,[],default)
noncomputable def eA (i:Nat):Arguments×List Stmt×Scope:=qzA ((lM[i]?).getD (.Pass default))
noncomputable def wgB:Stmt->List Stmt
 | .ClassDef _ _ _ b _ _ _ _ _ _ _=>b
 |_=>[]
noncomputable def fA (i j:Nat):Arguments×List Stmt×Scope:=qzA (((wgB ((lM[i]?).getD (.Pass default)))[j]?).getD (.Pass default))
noncomputable def kFn (name qual:String)(d:Arguments×List Stmt×Scope)(mod code:Value):Obj:=
 ⟨.type "function",none,.func {name:=Str.ofString name,qualname:=Str.ofString qual,params:=d.1,body:=.stmts d.2.1,scope:=d.2.2,globals:=3,closure:=[],defaults:=.none,kwdefaults:=.none,pyModule:=mod,code},#[]⟩
noncomputable def kP (a b:String)(k l n f m r:Nat)(d:Arguments×List Stmt×Scope)(mod:Value):List (Nat×Obj):=
 [(r+5,kD (vT "code") [vS a k,vS b (k+1),vS "/claim/cut.py" (k+2),vI l 0,vI n 0,vI 0 0,vI 0 0,vI f 0,vR r,vX true,vI 181 0,vR (r+1),vN,vR (r+2),vR (r+3),vR (r+4),vI m 0,vI l 0,vS "/claim/cut.py" (m+1)]),(r+6,kFn a b d mod (vR (r+5)))]
noncomputable def kM0:Value:=vS "snowballstemmer.basestemmer" 415
noncomputable def kM1:Value:=vS "whoosh.lang.porter" 194
noncomputable def kM2:Value:=vS "law_ji0048_01" 1847
noncomputable def kM3:Value:=vS "snowballstemmer.porter_stemmer" 683
noncomputable def KL0 (P:Params):List (Nat×Obj):=[(0,boot_o_0 P),
 (1,boot_o_1 P),
 (2,kfB P [kE "type.__subclasses__.Exception.0" 1803 (vI 654 0),kE "type.__subclasses__.Exception.n" 1804 (vI 3 0),kE "type.__subclasses__.Exception.1" 1823 (vI 667 0),kE "type.__subclasses__.Exception.2" 1843 (vI 680 0)] 4),
 (3,nA P [kE "__name__" 165 kM2,kE "__doc__" 166 vN,kE "__package__" 167 vN,kE "__loader__" 168 (vB "__main__.__loader__#opaque"),kE "__spec__" 169 vN,kE "__annotations__" 170 (vR 6),kE "__builtins__" 171 (vR 4),kE "__file__" 173 (vS "/claim/cut.py" 172),kE "__cached__" 174 vN,kE "_wall" 193 (vR 21),kE "_step2list" 259 (vR 22),kE "_step3list" 281 (vR 24),kE "_run" 291 (vR 31),kE "_mgr0" 300 (vR 38),kE "_meq1" 310 (vR 45),kE "_mgr1" 321 (vR 52),kE "_s_v" 328 (vR 59),kE "_c_v" 336 (vR 66),kE "_ed_ing" 343 (vR 73),kE "_at_bl_iz" 350 (vR 80),kE "_step1b" 357 (vR 87),kE "_longest" 367 (vR 94),kE "_step2" 374 (vR 101),kE "_step3" 381 (vR 108),kE "_step4_1" 388 (vR 115),kE "_step4_2" 395 (vR 122),kE "_step5" 402 (vR 129),kE "stem" 414 (vR 136),kE "BaseStemmer" 647 (vR 314),kE "Among" 682 (vR 335),kE "PorterStemmer" 1786 (vR 642),kE "lab0" 1806 (vR 654),kE "lab1" 1826 (vR 667),kE "lab2" 1846 (vR 680),kE "_law_reader" 1854 (vR 688),kE "_law_pick" 1864 (vR 695),kE "_law_second" 1870 (vR 702),kE "_law_third" 1876 (vR 709),kE "_law_fourth" 1882 (vR 716),kE "_law_ends" 1889 (vR 723),kE "_law_word" 1899 (vR 730),kE "_law_row" 1905 (vR 735),kE "_law_measure" 1911 (vR 740),kE "_law_short" 1918 (vR 747),kE "_law_marked" 1928 (vR 754),kE "_law_healed" 1936 (vR 761),kE "_law_first" 1945 (vR 768),kE "_law_end" 1956 (vR 775),kE "_law_swapped" 1966 (vR 782),kE "_law_rest" 1977 (vR 789),kE "_law_is_right" 1987 (vR 796),kE "law" 1993 (vR 801)] 52),
 (4,boot_o_4 P),
 (5,boot_o_5 P),
 (6,boot_o_6 P),
 (7,((boot_heap P).get? 7).getD default),
 (8,((boot_heap P).get? 8).getD default),
 (9,((boot_heap P).get? 9).getD default),
 (10,((boot_heap P).get? 10).getD default),
 (13,kD (vT "code") [(vS "<module>" 182),(vS "<module>" 183),(vS "/claim/cut.py" 184),(vI 1 0),(vI 0 0),(vI 0 0),(vI 0 0),(vI 0 0),(vR 11),(vX false),(vI 181 0),(vR 12),vN,vN,vN,vN,(vI 185 0),(vI 1 0),(vS "/claim/cut.py" 186)])]++(
 kP "_wall" "_wall" 187 1 1 3 191 15 (eA 0) (vS "__main__" 164)++(
 [(22,nA P [kE "ational" 196 (vS "ate" 197),kE "tional" 199 (vS "tion" 200),kE "enci" 202 (vS "ence" 203),kE "anci" 205 (vS "ance" 206),kE "izer" 208 (vS "ize" 209),kE "bli" 211 (vS "ble" 212),kE "alli" 214 (vS "al" 215),kE "entli" 217 (vS "ent" 218),kE "eli" 220 (vS "e" 221),kE "ousli" 223 (vS "ous" 224),kE "ization" 226 (vS "ize" 227),kE "ation" 229 (vS "ate" 230),kE "ator" 232 (vS "ate" 233),kE "alism" 235 (vS "al" 236),kE "iveness" 238 (vS "ive" 239),kE "fulness" 241 (vS "ful" 242),kE "ousness" 244 (vS "ous" 245),kE "aliti" 247 (vS "al" 248),kE "iviti" 249 (vS "ive" 250),kE "biliti" 251 (vS "ble" 252),kE "logi" 253 (vS "log" 254)] 21),
 (24,nA P [kE "icate" 260 (vS "ic" 261),kE "ative" 262 (vS "" 263),kE "alize" 264 (vS "al" 265),kE "iciti" 266 (vS "ic" 267),kE "ical" 268 (vS "ic" 269),kE "ful" 270 (vS "" 271),kE "ness" 272 (vS "" 273)] 7)]++(
 kP "_run" "_run" 282 7 4 3 289 25 (eA 4) kM1++(
 kP "_mgr0" "_mgr0" 292 11 1 3 298 32 (eA 5) kM1++(
 kP "_meq1" "_meq1" 301 15 1 3 308 39 (eA 6) kM1++(
 kP "_mgr1" "_mgr1" 311 20 1 3 319 46 (eA 7) kM1++(
 kP "_s_v" "_s_v" 322 26 1 3 326 53 (eA 8) kM1++(
 kP "_c_v" "_c_v" 329 28 1 3 334 60 (eA 9) kM1++(
 [(72,kD (vT "code") [(vS "_ed_ing" 337),(vS "_ed_ing" 338),(vS "/claim/cut.py" 339),(vI 31 0),(vI 1 0),(vI 0 0),(vI 0 0),(vI 3 0),(vR 67),(vX true),(vI 181 0),(vR 68),vN,(vR 69),(vR 70),(vR 71),(vI 341 0),(vI 31 0),(vS "/claim/cut.py" 342)])])))))))))
noncomputable def KL1 (P:Params):List (Nat×Obj):=[(73,kFn "_ed_ing" "_ed_ing" (eA 10) kM1 (vR 72))]++(
 kP "_at_bl_iz" "_at_bl_iz" 344 37 1 3 348 74 (eA 11) kM1++(
 kP "_step1b" "_step1b" 351 39 1 3 355 81 (eA 12) kM1++(
 kP "_longest" "_longest" 358 41 2 3 365 88 (eA 13) kM1++(
 kP "_step2" "_step2" 368 47 1 3 372 95 (eA 14) kM1++(
 kP "_step3" "_step3" 375 49 1 3 379 102 (eA 15) kM1++(
 kP "_step4_1" "_step4_1" 382 51 1 3 386 109 (eA 16) kM1++(
 kP "_step4_2" "_step4_2" 389 53 1 3 393 116 (eA 17) kM1++(
 kP "_step5" "_step5" 396 57 1 3 400 123 (eA 18) kM1++(
 kP "stem" "stem" 403 61 1 3 412 130 (eA 19) kM1++(
 kP "__init__" "BaseStemmer.__init__" 429 130 1 3 433 144 (fA 21 0) kM0++(
 kP "set_current" "BaseStemmer.set_current" 436 133 2 3 441 151 (fA 21 1) kM0++(
 kP "get_current" "BaseStemmer.get_current" 444 141 1 3 448 158 (fA 21 2) kM0))))))))))))
noncomputable def KL2 (P:Params):List (Nat×Obj):=kP "copy_from" "BaseStemmer.copy_from" 451 144 2 3 456 165 (fA 21 3) kM0++(
 kP "in_grouping" "BaseStemmer.in_grouping" 459 147 2 3 464 172 (fA 21 4) kM0++(
 kP "go_in_grouping" "BaseStemmer.go_in_grouping" 467 155 2 3 472 179 (fA 21 5) kM0++(
 kP "in_grouping_b" "BaseStemmer.in_grouping_b" 475 162 2 3 480 186 (fA 21 6) kM0++(
 kP "go_in_grouping_b" "BaseStemmer.go_in_grouping_b" 483 170 2 3 488 193 (fA 21 7) kM0++(
 kP "out_grouping" "BaseStemmer.out_grouping" 491 173 2 3 496 200 (fA 21 8) kM0++(
 kP "go_out_grouping" "BaseStemmer.go_out_grouping" 499 176 2 3 504 207 (fA 21 9) kM0++(
 kP "out_grouping_b" "BaseStemmer.out_grouping_b" 507 183 2 3 512 214 (fA 21 10) kM0++(
 kP "go_out_grouping_b" "BaseStemmer.go_out_grouping_b" 515 191 2 3 520 221 (fA 21 11) kM0++(
 kP "eq_s" "BaseStemmer.eq_s" 523 198 2 3 528 228 (fA 21 12) kM0++(
 kP "eq_s_b" "BaseStemmer.eq_s_b" 531 201 2 3 536 235 (fA 21 13) kM0++(
 kP "find_among" "BaseStemmer.find_among" 539 204 2 3 544 242 (fA 21 14) kM0++(
 [(254,kD (vT "code") [(vS "find_among_b" 547),(vS "BaseStemmer.find_among_b" 548),(vS "/claim/cut.py" 549),(vI 207 0),(vI 2 0),(vI 0 0),(vI 0 0),(vI 3 0),(vR 249),(vX true),(vI 181 0),(vR 250),vN,(vR 251),(vR 252),(vR 253),(vI 564 0),(vI 207 0),(vS "/claim/cut.py" 565)])]))))))))))))
noncomputable def KL3 (P:Params):List (Nat×Obj):=[(255,kFn "find_among_b" "BaseStemmer.find_among_b" (fA 21 15) kM0 (vR 254))]++(
 kP "replace_s" "BaseStemmer.replace_s" 567 252 4 3 575 256 (fA 21 16) kM0++(
 kP "slice_from" "BaseStemmer.slice_from" 578 262 2 3 583 263 (fA 21 17) kM0++(
 kP "slice_del" "BaseStemmer.slice_del" 586 270 1 3 590 270 (fA 21 18) kM0++(
 kP "insert" "BaseStemmer.insert" 593 273 4 3 601 277 (fA 21 19) kM0++(
 kP "slice_to" "BaseStemmer.slice_to" 604 280 1 3 608 284 (fA 21 20) kM0++(
 kP "assign_to" "BaseStemmer.assign_to" 611 283 1 3 615 291 (fA 21 21) kM0++(
 kP "stemWord" "BaseStemmer.stemWord" 618 286 2 3 623 298 (fA 21 22) kM0++(
 kP "stemWords" "BaseStemmer.stemWords" 626 291 2 3 631 305 (fA 21 23) kM0++(
 [(312,aK (vT "tuple") [(vS "bra" 634),(vS "current" 635),(vS "cursor" 636),(vS "ket" 637),(vS "limit" 638),(vS "limit_backward" 639)] 0),
 (313,nA P [kE "__module__" 424 kM0,kE "__firstlineno__" 428 (vI 128 427),kE "__init__" 435 (vR 150),kE "set_current" 443 (vR 157),kE "get_current" 450 (vR 164),kE "copy_from" 458 (vR 171),kE "in_grouping" 466 (vR 178),kE "go_in_grouping" 474 (vR 185),kE "in_grouping_b" 482 (vR 192),kE "go_in_grouping_b" 490 (vR 199),kE "out_grouping" 498 (vR 206),kE "go_out_grouping" 506 (vR 213),kE "out_grouping_b" 514 (vR 220),kE "go_out_grouping_b" 522 (vR 227),kE "eq_s" 530 (vR 234),kE "eq_s_b" 538 (vR 241),kE "find_among" 546 (vR 248),kE "find_among_b" 566 (vR 255),kE "replace_s" 577 (vR 262),kE "slice_from" 585 (vR 269),kE "slice_del" 592 (vR 276),kE "insert" 603 (vR 283),kE "slice_to" 610 (vR 290),kE "assign_to" 617 (vR 297),kE "stemWord" 625 (vR 304),kE "stemWords" 633 (vR 311),kE "__static_attributes__" 640 (vR 312),kE "__dict__" 642 (vR 315),kE "__weakref__" 644 (vR 316),kE "__doc__" 645 vN] 4),
 (314,⟨(vT "type"),none,.cls {name:="BaseStemmer",bases:=[(vT "object")],mro:=[(vR 314),(vT "object")],ns:=313,qualname:="BaseStemmer",hasDict:=true,slotNames:=[],subclasses:=[(vR 642)],abstract:=false,collection:=none,hasDel:=false},#[none,none,some (vS "BaseStemmer" 417),some (vS "BaseStemmer" 425),some (vB "object.__new__"),some (vX true)]⟩),
 (315,kD (vT "getset_descriptor") [(vS "__dict__" 641),(vR 314),(vB "function.__dict__"),(vB "function.__dict__#set")]),
 (316,kD (vT "getset_descriptor") [(vS "__weakref__" 643),(vR 314),(vB "ExceptionGroup.__weakref__"),vN])]++(
 kP "__init__" "Among.__init__" 662 296 4 3 669 326 (fA 23 0) (vS "snowballstemmer.among" 648)++(
 [(333,aK (vT "tuple") [(vS "result" 672),(vS "s" 673),(vS "substring_i" 674)] 0)])))))))))))
noncomputable def KL4 (P:Params):List (Nat×Obj):=[(334,nA P [kE "__module__" 657 (vS "snowballstemmer.among" 648),kE "__firstlineno__" 661 (vI 294 660),kE "__init__" 671 (vR 332),kE "__static_attributes__" 675 (vR 333),kE "__dict__" 677 (vR 336),kE "__weakref__" 679 (vR 337),kE "__doc__" 680 vN] 4),
 (335,⟨(vT "type"),none,.cls {name:="Among",bases:=[(vT "object")],mro:=[(vR 335),(vT "object")],ns:=334,qualname:="Among",hasDict:=true,slotNames:=[],subclasses:=[],abstract:=false,collection:=none,hasDel:=false},#[none,none,some (vS "Among" 650),some (vS "Among" 658),some (vB "object.__new__"),some (vX true)]⟩),
 (336,kD (vT "getset_descriptor") [(vS "__dict__" 676),(vR 335),(vB "function.__dict__"),(vB "function.__dict__#set")]),
 (337,kD (vT "getset_descriptor") [(vS "__weakref__" 678),(vR 335),(vB "ExceptionGroup.__weakref__"),vN]),
 (340,aK (vT "tuple") [(vR 314)] 0),
 (345,kD (vT "code") [(vS "PorterStemmer" 687),(vS "PorterStemmer" 688),(vS "/claim/cut.py" 689),(vI 301 0),(vI 0 0),(vI 0 0),(vI 0 0),(vI 0 0),(vR 343),(vX false),(vI 181 0),(vR 344),vN,vN,vN,vN,(vI 690 0),(vI 301 0),(vS "/claim/cut.py" 691)])]++(
 kP "r_shortv" "PorterStemmer.r_shortv" 733 307 1 3 737 349 (fA 25 4) kM3++(
 kP "r_R1" "PorterStemmer.r_R1" 740 314 1 3 744 356 (fA 25 5) kM3++(
 kP "r_R2" "PorterStemmer.r_R2" 747 317 1 3 751 363 (fA 25 6) kM3++(
 kP "r_Step_1a" "PorterStemmer.r_Step_1a" 754 320 1 3 759 370 (fA 25 7) kM3++(
 kP "r_Step_1b" "PorterStemmer.r_Step_1b" 762 330 1 3 771 377 (fA 25 8) kM3++(
 kP "r_Step_1c" "PorterStemmer.r_Step_1c" 774 373 1 3 778 384 (fA 25 9) kM3++(
 kP "r_Step_2" "PorterStemmer.r_Step_2" 781 394 1 3 786 391 (fA 25 10) kM3++(
 kP "r_Step_3" "PorterStemmer.r_Step_3" 789 405 1 3 794 398 (fA 25 11) kM3++(
 kP "r_Step_4" "PorterStemmer.r_Step_4" 797 416 1 3 802 405 (fA 25 12) kM3++(
 [(417,kD (vT "code") [(vS "r_Step_5a" 805),(vS "PorterStemmer.r_Step_5a" 806),(vS "/claim/cut.py" 807),(vI 442 0),(vI 1 0),(vI 0 0),(vI 0 0),(vI 3 0),(vR 412),(vX true),(vI 181 0),(vR 413),vN,(vR 414),(vR 415),(vR 416),(vI 810 0),(vI 442 0),(vS "/claim/cut.py" 811)])]))))))))))
noncomputable def KL5 (P:Params):List (Nat×Obj):=[(418,kFn "r_Step_5a" "PorterStemmer.r_Step_5a" (fA 25 13) kM3 (vR 417))]++(
 kP "r_Step_5b" "PorterStemmer.r_Step_5b" 813 469 1 3 817 419 (fA 25 14) kM3++(
 kP "_stem" "PorterStemmer._stem" 820 483 1 3 841 426 (fA 25 15) kM3++(
 [(433,nA P [kE "s" 853 (vS "s" 844),kE "substring_i" 855 (vI (-1) 846),kE "result" 857 (vI 3 847)] 3),
 (434,⟨(vR 335),some 433,.plain,#[]⟩),
 (436,nA P [kE "s" 866 (vS "ies" 858),kE "substring_i" 868 (vI 0 859),kE "result" 870 (vI 2 860)] 3),
 (437,⟨(vR 335),some 436,.plain,#[]⟩),
 (439,nA P [kE "s" 879 (vS "sses" 871),kE "substring_i" 881 (vI 0 872),kE "result" 883 (vI 1 873)] 3),
 (440,⟨(vR 335),some 439,.plain,#[]⟩),
 (442,nA P [kE "s" 893 (vS "ss" 884),kE "substring_i" 895 (vI 0 885),kE "result" 897 (vI (-1) 887)] 3),
 (443,⟨(vR 335),some 442,.plain,#[]⟩),
 (445,aK (vT "list") [(vR 434),(vR 437),(vR 440),(vR 443)] 0),
 (446,aK (vT "tuple") [(vS "ss" 899),(vS "i" 900),(vS "" 901)] 0),
 (447,nA P [kE "s" 912 (vS "" 903),kE "substring_i" 914 (vI (-1) 905),kE "result" 916 (vI 3 906)] 3),
 (448,⟨(vR 335),some 447,.plain,#[]⟩),
 (450,nA P [kE "s" 925 (vS "bb" 917),kE "substring_i" 927 (vI 0 918),kE "result" 929 (vI 2 919)] 3),
 (451,⟨(vR 335),some 450,.plain,#[]⟩),
 (453,nA P [kE "s" 938 (vS "dd" 930),kE "substring_i" 940 (vI 0 931),kE "result" 942 (vI 2 932)] 3),
 (454,⟨(vR 335),some 453,.plain,#[]⟩),
 (456,nA P [kE "s" 951 (vS "ff" 943),kE "substring_i" 953 (vI 0 944),kE "result" 955 (vI 2 945)] 3),
 (457,⟨(vR 335),some 456,.plain,#[]⟩),
 (459,nA P [kE "s" 964 (vS "gg" 956),kE "substring_i" 966 (vI 0 957),kE "result" 968 (vI 2 958)] 3),
 (460,⟨(vR 335),some 459,.plain,#[]⟩)])))
noncomputable def KL6 (P:Params):List (Nat×Obj):=[(462,nA P [kE "s" 977 (vS "bl" 969),kE "substring_i" 979 (vI 0 970),kE "result" 981 (vI 1 971)] 3),
 (463,⟨(vR 335),some 462,.plain,#[]⟩),
 (465,nA P [kE "s" 990 (vS "mm" 982),kE "substring_i" 992 (vI 0 983),kE "result" 994 (vI 2 984)] 3),
 (466,⟨(vR 335),some 465,.plain,#[]⟩),
 (468,nA P [kE "s" 1003 (vS "nn" 995),kE "substring_i" 1005 (vI 0 996),kE "result" 1007 (vI 2 997)] 3),
 (469,⟨(vR 335),some 468,.plain,#[]⟩),
 (471,nA P [kE "s" 1016 (vS "pp" 1008),kE "substring_i" 1018 (vI 0 1009),kE "result" 1020 (vI 2 1010)] 3),
 (472,⟨(vR 335),some 471,.plain,#[]⟩),
 (474,nA P [kE "s" 1029 (vS "rr" 1021),kE "substring_i" 1031 (vI 0 1022),kE "result" 1033 (vI 2 1023)] 3),
 (475,⟨(vR 335),some 474,.plain,#[]⟩),
 (477,nA P [kE "s" 1042 (vS "at" 1034),kE "substring_i" 1044 (vI 0 1035),kE "result" 1046 (vI 1 1036)] 3),
 (478,⟨(vR 335),some 477,.plain,#[]⟩),
 (480,nA P [kE "s" 1055 (vS "tt" 1047),kE "substring_i" 1057 (vI 0 1048),kE "result" 1059 (vI 2 1049)] 3),
 (481,⟨(vR 335),some 480,.plain,#[]⟩),
 (483,nA P [kE "s" 1068 (vS "iz" 1060),kE "substring_i" 1070 (vI 0 1061),kE "result" 1072 (vI 1 1062)] 3),
 (484,⟨(vR 335),some 483,.plain,#[]⟩),
 (486,aK (vT "list") [(vR 448),(vR 451),(vR 454),(vR 457),(vR 460),(vR 463),(vR 466),(vR 469),(vR 472),(vR 475),(vR 478),(vR 481),(vR 484)] 0),
 (487,nA P [kE "s" 1083 (vS "ed" 1074),kE "substring_i" 1085 (vI (-1) 1076),kE "result" 1087 (vI 2 1077)] 3),
 (488,⟨(vR 335),some 487,.plain,#[]⟩),
 (490,nA P [kE "s" 1096 (vS "eed" 1088),kE "substring_i" 1098 (vI 0 1089),kE "result" 1100 (vI 1 1090)] 3),
 (491,⟨(vR 335),some 490,.plain,#[]⟩),
 (493,nA P [kE "s" 1110 (vS "ing" 1101),kE "substring_i" 1112 (vI (-1) 1103),kE "result" 1114 (vI 2 1104)] 3),
 (494,⟨(vR 335),some 493,.plain,#[]⟩),
 (496,aK (vT "list") [(vR 488),(vR 491),(vR 494)] 0),
 (497,nA P [kE "s" 1125 (vS "anci" 1116),kE "substring_i" 1127 (vI (-1) 1118),kE "result" 1129 (vI 3 1119)] 3)]
noncomputable def KL7 (P:Params):List (Nat×Obj):=[(498,⟨(vR 335),some 497,.plain,#[]⟩),
 (500,nA P [kE "s" 1139 (vS "enci" 1130),kE "substring_i" 1141 (vI (-1) 1132),kE "result" 1143 (vI 2 1133)] 3),
 (501,⟨(vR 335),some 500,.plain,#[]⟩),
 (503,nA P [kE "s" 1153 (vS "abli" 1144),kE "substring_i" 1155 (vI (-1) 1146),kE "result" 1157 (vI 4 1147)] 3),
 (504,⟨(vR 335),some 503,.plain,#[]⟩),
 (506,nA P [kE "s" 1167 (vS "eli" 1158),kE "substring_i" 1169 (vI (-1) 1160),kE "result" 1171 (vI 6 1161)] 3),
 (507,⟨(vR 335),some 506,.plain,#[]⟩),
 (509,nA P [kE "s" 1181 (vS "alli" 1172),kE "substring_i" 1183 (vI (-1) 1174),kE "result" 1185 (vI 9 1175)] 3),
 (510,⟨(vR 335),some 509,.plain,#[]⟩),
 (512,nA P [kE "s" 1195 (vS "ousli" 1186),kE "substring_i" 1197 (vI (-1) 1188),kE "result" 1199 (vI 11 1189)] 3),
 (513,⟨(vR 335),some 512,.plain,#[]⟩),
 (515,nA P [kE "s" 1209 (vS "entli" 1200),kE "substring_i" 1211 (vI (-1) 1202),kE "result" 1213 (vI 5 1203)] 3),
 (516,⟨(vR 335),some 515,.plain,#[]⟩),
 (518,nA P [kE "s" 1223 (vS "aliti" 1214),kE "substring_i" 1225 (vI (-1) 1216),kE "result" 1227 (vI 9 1217)] 3),
 (519,⟨(vR 335),some 518,.plain,#[]⟩),
 (521,nA P [kE "s" 1237 (vS "biliti" 1228),kE "substring_i" 1239 (vI (-1) 1230),kE "result" 1241 (vI 13 1231)] 3),
 (522,⟨(vR 335),some 521,.plain,#[]⟩),
 (524,nA P [kE "s" 1251 (vS "iviti" 1242),kE "substring_i" 1253 (vI (-1) 1244),kE "result" 1255 (vI 12 1245)] 3),
 (525,⟨(vR 335),some 524,.plain,#[]⟩),
 (527,nA P [kE "s" 1265 (vS "tional" 1256),kE "substring_i" 1267 (vI (-1) 1258),kE "result" 1269 (vI 1 1259)] 3),
 (528,⟨(vR 335),some 527,.plain,#[]⟩),
 (530,nA P [kE "s" 1278 (vS "ational" 1270),kE "substring_i" 1280 (vI 10 1271),kE "result" 1282 (vI 8 1272)] 3),
 (531,⟨(vR 335),some 530,.plain,#[]⟩),
 (533,nA P [kE "s" 1292 (vS "alism" 1283),kE "substring_i" 1294 (vI (-1) 1285),kE "result" 1296 (vI 9 1286)] 3),
 (534,⟨(vR 335),some 533,.plain,#[]⟩)]
noncomputable def KL8 (P:Params):List (Nat×Obj):=[(536,nA P [kE "s" 1306 (vS "ation" 1297),kE "substring_i" 1308 (vI (-1) 1299),kE "result" 1310 (vI 8 1300)] 3),
 (537,⟨(vR 335),some 536,.plain,#[]⟩),
 (539,nA P [kE "s" 1319 (vS "ization" 1311),kE "substring_i" 1321 (vI 13 1312),kE "result" 1323 (vI 7 1313)] 3),
 (540,⟨(vR 335),some 539,.plain,#[]⟩),
 (542,nA P [kE "s" 1333 (vS "izer" 1324),kE "substring_i" 1335 (vI (-1) 1326),kE "result" 1337 (vI 7 1327)] 3),
 (543,⟨(vR 335),some 542,.plain,#[]⟩),
 (545,nA P [kE "s" 1347 (vS "ator" 1338),kE "substring_i" 1349 (vI (-1) 1340),kE "result" 1351 (vI 8 1341)] 3),
 (546,⟨(vR 335),some 545,.plain,#[]⟩),
 (548,nA P [kE "s" 1361 (vS "iveness" 1352),kE "substring_i" 1363 (vI (-1) 1354),kE "result" 1365 (vI 12 1355)] 3),
 (549,⟨(vR 335),some 548,.plain,#[]⟩),
 (551,nA P [kE "s" 1375 (vS "fulness" 1366),kE "substring_i" 1377 (vI (-1) 1368),kE "result" 1379 (vI 10 1369)] 3),
 (552,⟨(vR 335),some 551,.plain,#[]⟩),
 (554,nA P [kE "s" 1389 (vS "ousness" 1380),kE "substring_i" 1391 (vI (-1) 1382),kE "result" 1393 (vI 11 1383)] 3),
 (555,⟨(vR 335),some 554,.plain,#[]⟩),
 (557,aK (vT "list") [(vR 498),(vR 501),(vR 504),(vR 507),(vR 510),(vR 513),(vR 516),(vR 519),(vR 522),(vR 525),(vR 528),(vR 531),(vR 534),(vR 537),(vR 540),(vR 543),(vR 546),(vR 549),(vR 552),(vR 555)] 0),
 (558,aK (vT "tuple") [(vS "tion" 1395),(vS "ence" 1396),(vS "ance" 1397),(vS "able" 1398),(vS "ent" 1399),(vS "e" 1400),(vS "ize" 1401),(vS "ate" 1402),(vS "al" 1403),(vS "ful" 1404),(vS "ous" 1405),(vS "ive" 1406),(vS "ble" 1407)] 0),
 (559,nA P [kE "s" 1418 (vS "icate" 1409),kE "substring_i" 1420 (vI (-1) 1411),kE "result" 1422 (vI 2 1412)] 3),
 (560,⟨(vR 335),some 559,.plain,#[]⟩),
 (562,nA P [kE "s" 1432 (vS "ative" 1423),kE "substring_i" 1434 (vI (-1) 1425),kE "result" 1436 (vI 3 1426)] 3),
 (563,⟨(vR 335),some 562,.plain,#[]⟩),
 (565,nA P [kE "s" 1446 (vS "alize" 1437),kE "substring_i" 1448 (vI (-1) 1439),kE "result" 1450 (vI 1 1440)] 3),
 (566,⟨(vR 335),some 565,.plain,#[]⟩),
 (568,nA P [kE "s" 1460 (vS "iciti" 1451),kE "substring_i" 1462 (vI (-1) 1453),kE "result" 1464 (vI 2 1454)] 3),
 (569,⟨(vR 335),some 568,.plain,#[]⟩),
 (571,nA P [kE "s" 1474 (vS "ical" 1465),kE "substring_i" 1476 (vI (-1) 1467),kE "result" 1478 (vI 2 1468)] 3)]
noncomputable def KL9 (P:Params):List (Nat×Obj):=[(572,⟨(vR 335),some 571,.plain,#[]⟩),
 (574,nA P [kE "s" 1488 (vS "ful" 1479),kE "substring_i" 1490 (vI (-1) 1481),kE "result" 1492 (vI 3 1482)] 3),
 (575,⟨(vR 335),some 574,.plain,#[]⟩),
 (577,nA P [kE "s" 1502 (vS "ness" 1493),kE "substring_i" 1504 (vI (-1) 1495),kE "result" 1506 (vI 3 1496)] 3),
 (578,⟨(vR 335),some 577,.plain,#[]⟩),
 (580,aK (vT "list") [(vR 560),(vR 563),(vR 566),(vR 569),(vR 572),(vR 575),(vR 578)] 0),
 (581,aK (vT "tuple") [(vS "al" 1508),(vS "ic" 1509),(vS "" 1510)] 0),
 (582,nA P [kE "s" 1521 (vS "ic" 1512),kE "substring_i" 1523 (vI (-1) 1514),kE "result" 1525 (vI 1 1515)] 3),
 (583,⟨(vR 335),some 582,.plain,#[]⟩),
 (585,nA P [kE "s" 1535 (vS "ance" 1526),kE "substring_i" 1537 (vI (-1) 1528),kE "result" 1539 (vI 1 1529)] 3),
 (586,⟨(vR 335),some 585,.plain,#[]⟩),
 (588,nA P [kE "s" 1549 (vS "ence" 1540),kE "substring_i" 1551 (vI (-1) 1542),kE "result" 1553 (vI 1 1543)] 3),
 (589,⟨(vR 335),some 588,.plain,#[]⟩),
 (591,nA P [kE "s" 1563 (vS "able" 1554),kE "substring_i" 1565 (vI (-1) 1556),kE "result" 1567 (vI 1 1557)] 3),
 (592,⟨(vR 335),some 591,.plain,#[]⟩),
 (594,nA P [kE "s" 1577 (vS "ible" 1568),kE "substring_i" 1579 (vI (-1) 1570),kE "result" 1581 (vI 1 1571)] 3),
 (595,⟨(vR 335),some 594,.plain,#[]⟩),
 (597,nA P [kE "s" 1591 (vS "ate" 1582),kE "substring_i" 1593 (vI (-1) 1584),kE "result" 1595 (vI 1 1585)] 3),
 (598,⟨(vR 335),some 597,.plain,#[]⟩),
 (600,nA P [kE "s" 1605 (vS "ive" 1596),kE "substring_i" 1607 (vI (-1) 1598),kE "result" 1609 (vI 1 1599)] 3),
 (601,⟨(vR 335),some 600,.plain,#[]⟩),
 (603,nA P [kE "s" 1619 (vS "ize" 1610),kE "substring_i" 1621 (vI (-1) 1612),kE "result" 1623 (vI 1 1613)] 3),
 (604,⟨(vR 335),some 603,.plain,#[]⟩),
 (606,nA P [kE "s" 1633 (vS "iti" 1624),kE "substring_i" 1635 (vI (-1) 1626),kE "result" 1637 (vI 1 1627)] 3),
 (607,⟨(vR 335),some 606,.plain,#[]⟩)]
noncomputable def raC (P:Params):List (Nat×Obj):=[(609,nA P [kE "s" 1647 (vS "al" 1638),kE "substring_i" 1649 (vI (-1) 1640),kE "result" 1651 (vI 1 1641)] 3),
 (610,⟨(vR 335),some 609,.plain,#[]⟩),
 (612,nA P [kE "s" 1661 (vS "ism" 1652),kE "substring_i" 1663 (vI (-1) 1654),kE "result" 1665 (vI 1 1655)] 3),
 (613,⟨(vR 335),some 612,.plain,#[]⟩),
 (615,nA P [kE "s" 1675 (vS "ion" 1666),kE "substring_i" 1677 (vI (-1) 1668),kE "result" 1679 (vI 2 1669)] 3),
 (616,⟨(vR 335),some 615,.plain,#[]⟩),
 (618,nA P [kE "s" 1689 (vS "er" 1680),kE "substring_i" 1691 (vI (-1) 1682),kE "result" 1693 (vI 1 1683)] 3),
 (619,⟨(vR 335),some 618,.plain,#[]⟩),
 (621,nA P [kE "s" 1703 (vS "ous" 1694),kE "substring_i" 1705 (vI (-1) 1696),kE "result" 1707 (vI 1 1697)] 3),
 (622,⟨(vR 335),some 621,.plain,#[]⟩),
 (624,nA P [kE "s" 1717 (vS "ant" 1708),kE "substring_i" 1719 (vI (-1) 1710),kE "result" 1721 (vI 1 1711)] 3),
 (625,⟨(vR 335),some 624,.plain,#[]⟩),
 (627,nA P [kE "s" 1731 (vS "ent" 1722),kE "substring_i" 1733 (vI (-1) 1724),kE "result" 1735 (vI 1 1725)] 3),
 (628,⟨(vR 335),some 627,.plain,#[]⟩),
 (630,nA P [kE "s" 1744 (vS "ment" 1736),kE "substring_i" 1746 (vI 15 1737),kE "result" 1748 (vI 1 1738)] 3),
 (631,⟨(vR 335),some 630,.plain,#[]⟩),
 (633,nA P [kE "s" 1757 (vS "ement" 1749),kE "substring_i" 1759 (vI 16 1750),kE "result" 1761 (vI 1 1751)] 3),
 (634,⟨(vR 335),some 633,.plain,#[]⟩),
 (636,nA P [kE "s" 1771 (vS "ou" 1762),kE "substring_i" 1773 (vI (-1) 1764),kE "result" 1775 (vI 1 1765)] 3),
 (637,⟨(vR 335),some 636,.plain,#[]⟩),
 (639,aK (vT "list") [(vR 583),(vR 586),(vR 589),(vR 592),(vR 595),(vR 598),(vR 601),(vR 604),(vR 607),(vR 610),(vR 613),(vR 616),(vR 619),(vR 622),(vR 625),(vR 628),(vR 631),(vR 634),(vR 637)] 0),
 (640,aK (vT "tuple") [(vS "I_p1" 1777),(vS "I_p2" 1778),(vS "bra" 1779),(vS "cursor" 1780),(vS "ket" 1781),(vS "limit_backward" 1782)] 0),
 (641,nA P [kE "__module__" 692 kM3,kE "__firstlineno__" 696 (vI 301 695),kE "g_v" 709 (vR 347),kE "g_v_WXY" 728 (vR 348),kE "I_p2" 730 (vI 0 729),kE "I_p1" 732 (vI 0 731),kE "r_shortv" 739 (vR 355),kE "r_R1" 746 (vR 362),kE "r_R2" 753 (vR 369),kE "r_Step_1a" 761 (vR 376),kE "r_Step_1b" 773 (vR 383),kE "r_Step_1c" 780 (vR 390),kE "r_Step_2" 788 (vR 397),kE "r_Step_3" 796 (vR 404),kE "r_Step_4" 804 (vR 411),kE "r_Step_5a" 812 (vR 418),kE "r_Step_5b" 819 (vR 425),kE "_stem" 843 (vR 432),kE "a_0" 898 (vR 445),kE "as_0" 902 (vR 446),kE "a_1" 1073 (vR 486),kE "a_2" 1115 (vR 496),kE "a_3" 1394 (vR 557),kE "as_3" 1408 (vR 558),kE "a_4" 1507 (vR 580),kE "as_4" 1511 (vR 581),kE "a_5" 1776 (vR 639),kE "__static_attributes__" 1783 (vR 640),kE "__doc__" 1784 vN] 2),
 (642,⟨(vT "type"),none,.cls {name:="PorterStemmer",bases:=[(vR 314)],mro:=[(vR 642),(vR 314),(vT "object")],ns:=641,qualname:="PorterStemmer",hasDict:=true,slotNames:=[],subclasses:=[],abstract:=false,collection:=none,hasDel:=false},#[some (vR 340),none,some (vS "PorterStemmer" 685),some (vS "PorterStemmer" 693),some (vB "object.__new__"),some (vX true)]⟩),
 (645,aK (vT "tuple") [(vT "Exception")] 0)]
noncomputable def qaC (P:Params):List (Nat×Obj):=[(652,aK (vT "tuple") [] 0),
 (653,nA P [kE "__module__" 1794 kM3,kE "__firstlineno__" 1798 (vI 620 1797),kE "__static_attributes__" 1799 (vR 652),kE "__weakref__" 1801 (vR 655),kE "__doc__" 1802 vN] 3),
 (654,⟨(vT "type"),none,.cls {name:="lab0",bases:=[(vT "Exception")],mro:=[(vR 654),(vT "Exception"),(vT "BaseException"),(vT "object")],ns:=653,qualname:="lab0",hasDict:=true,slotNames:=[],subclasses:=[],abstract:=false,collection:=none,hasDel:=false},#[some (vR 645),none,some (vS "lab0" 1787),some (vS "lab0" 1795),some (vB "Exception.__new__"),some (vX true)]⟩),
 (655,kD (vT "getset_descriptor") [(vS "__weakref__" 1800),(vR 654),(vB "ExceptionGroup.__weakref__"),vN]),
 (658,aK (vT "tuple") [(vT "Exception")] 0),
 (665,aK (vT "tuple") [] 0),
 (666,nA P [kE "__module__" 1814 kM3,kE "__firstlineno__" 1818 (vI 622 1817),kE "__static_attributes__" 1819 (vR 665),kE "__weakref__" 1821 (vR 668),kE "__doc__" 1822 vN] 3),
 (667,⟨(vT "type"),none,.cls {name:="lab1",bases:=[(vT "Exception")],mro:=[(vR 667),(vT "Exception"),(vT "BaseException"),(vT "object")],ns:=666,qualname:="lab1",hasDict:=true,slotNames:=[],subclasses:=[],abstract:=false,collection:=none,hasDel:=false},#[some (vR 658),none,some (vS "lab1" 1807),some (vS "lab1" 1815),some (vB "Exception.__new__"),some (vX true)]⟩),
 (668,kD (vT "getset_descriptor") [(vS "__weakref__" 1820),(vR 667),(vB "ExceptionGroup.__weakref__"),vN]),
 (671,aK (vT "tuple") [(vT "Exception")] 0),
 (678,aK (vT "tuple") [] 0),
 (679,nA P [kE "__module__" 1834 kM3,kE "__firstlineno__" 1838 (vI 624 1837),kE "__static_attributes__" 1839 (vR 678),kE "__weakref__" 1841 (vR 681),kE "__doc__" 1842 vN] 3),
 (680,⟨(vT "type"),none,.cls {name:="lab2",bases:=[(vT "Exception")],mro:=[(vR 680),(vT "Exception"),(vT "BaseException"),(vT "object")],ns:=679,qualname:="lab2",hasDict:=true,slotNames:=[],subclasses:=[],abstract:=false,collection:=none,hasDel:=false},#[some (vR 671),none,some (vS "lab2" 1827),some (vS "lab2" 1835),some (vB "Exception.__new__"),some (vX true)]⟩),
 (681,kD (vT "getset_descriptor") [(vS "__weakref__" 1840),(vR 680),(vB "ExceptionGroup.__weakref__"),vN]),
 (687,kD (vT "code") [(vS "_law_reader" 1849),(vS "_law_reader" 1850),(vS "/claim/cut.py" 1851),(vI 627 0),(vI 1 0),(vI 0 0),(vI 0 0),(vI 3 0),(vR 684),(vX true),(vI 181 0),(vR 685),vN,vN,vN,(vR 686),(vI 1852 0),(vI 627 0),(vS "/claim/cut.py" 1853)]),
 (688,kFn "_law_reader" "_law_reader" (eA 30) kM2 (vR 687))]++(
 kP "_law_pick" "_law_pick" 1855 629 2 3 1862 689 (eA 31) kM2++(
 kP "_law_second" "_law_second" 1865 636 0 3 1868 696 (eA 32) kM2++(
 kP "_law_third" "_law_third" 1871 638 0 3 1874 703 (eA 33) kM2++(
 kP "_law_fourth" "_law_fourth" 1877 640 0 3 1880 710 (eA 34) kM2++(
 [(722,kD (vT "code") [(vS "_law_ends" 1883),(vS "_law_ends" 1884),(vS "/claim/cut.py" 1885),(vI 642 0),(vI 0 0),(vI 0 0),(vI 0 0),(vI 3 0),(vR 717),(vX true),(vI 181 0),(vR 718),vN,(vR 719),(vR 720),(vR 721),(vI 1887 0),(vI 642 0),(vS "/claim/cut.py" 1888)])])))))
noncomputable def paC (P:Params):List (Nat×Obj):=[(723,kFn "_law_ends" "_law_ends" (eA 35) kM2 (vR 722))]++(
 kP "_law_word" "_law_word" 1890 645 1 3 1897 724 (eA 36) kM2++(
 [(734,kD (vT "code") [(vS "_law_row" 1900),(vS "_law_row" 1901),(vS "/claim/cut.py" 1902),(vI 656 0),(vI 1 0),(vI 0 0),(vI 0 0),(vI 3 0),(vR 731),(vX true),(vI 181 0),(vR 732),vN,vN,vN,(vR 733),(vI 1903 0),(vI 656 0),(vS "/claim/cut.py" 1904)]),
 (735,kFn "_law_row" "_law_row" (eA 37) kM2 (vR 734)),
 (739,kD (vT "code") [(vS "_law_measure" 1906),(vS "_law_measure" 1907),(vS "/claim/cut.py" 1908),(vI 658 0),(vI 1 0),(vI 0 0),(vI 0 0),(vI 3 0),(vR 736),(vX true),(vI 181 0),(vR 737),vN,vN,vN,(vR 738),(vI 1909 0),(vI 658 0),(vS "/claim/cut.py" 1910)]),
 (740,kFn "_law_measure" "_law_measure" (eA 38) kM2 (vR 739))]++(
 kP "_law_short" "_law_short" 1912 661 1 3 1916 741 (eA 39) kM2++(
 kP "_law_marked" "_law_marked" 1919 663 2 3 1926 748 (eA 40) kM2++(
 kP "_law_healed" "_law_healed" 1929 670 2 3 1934 755 (eA 41) kM2++(
 kP "_law_first" "_law_first" 1937 676 2 3 1943 762 (eA 42) kM2++(
 kP "_law_end" "_law_end" 1946 691 3 3 1954 769 (eA 43) kM2++(
 kP "_law_swapped" "_law_swapped" 1957 697 3 3 1964 776 (eA 44) kM2++(
 kP "_law_rest" "_law_rest" 1967 702 2 3 1975 783 (eA 45) kM2++(
 kP "_law_is_right" "_law_is_right" 1978 720 1 3 1985 790 (eA 46) kM2++(
 [(800,kD (vT "code") [(vS "law" 1988),(vS "law" 1989),(vS "/claim/cut.py" 1990),(vI 735 0),(vI 1 0),(vI 0 0),(vI 0 0),(vI 3 0),(vR 797),(vX true),(vI 181 0),(vR 798),vN,vN,vN,(vR 799),(vI 1991 0),(vI 735 0),(vS "/claim/cut.py" 1992)]),
 (801,kFn "law" "law" (eA 47) kM2 (vR 800))])))))))))))
noncomputable def KL (P:Params):List (Nat×Obj):=KL0 P++(KL1 P++(KL2 P++(KL3 P++(KL4 P++(KL5 P++(KL6 P++(KL7 P++(KL8 P++(KL9 P++(raC P++(qaC P++(paC P))))))))))))
noncomputable def addrs:List Nat:=[0,1,2,3,4,5,6,7,8,9,10,13,20,21,22,24,30,31,37,38,44,45,51,52,58,59,65,66,72,73,79,80,86,87,93,94,100,101,107,108,114,115,121,122,128,129,135,136,149,150,156,157,163,164,170,171,177,178,184,185,191,192,198,199,205,206,212,213,219,220,226,227,233,234,240,241,247,248,254,255,261,262,268,269,275,276,282,283,289,290,296,297,303,304,310,311,312,313,314,315,316,331,332,333,334,335,336,337,340,345,354,355,361,362,368,369,375,376,382,383,389,390,396,397,403,404,410,411,417,418,424,425,431,432,433,434,436,437,439,440,442,443,445,446,447,448,450,451,453,454,456,457,459,460,462,463,465,466,468,469,471,472,474,475,477,478,480,481,483,484,486,487,488,490,491,493,494,496,497,498,500,501,503,504,506,507,509,510,512,513,515,516,518,519,521,522,524,525,527,528,530,531,533,534,536,537,539,540,542,543,545,546,548,549,551,552,554,555,557,558,559,560,562,563,565,566,568,569,571,572,574,575,577,578,580,581,582,583,585,586,588,589,591,592,594,595,597,598,600,601,603,604,606,607,609,610,612,613,615,616,618,619,621,622,624,625,627,628,630,631,633,634,636,637,639,640,641,642,645,652,653,654,655,658,665,666,667,668,671,678,679,680,681,687,688,694,695,701,702,708,709,715,716,722,723,729,730,734,735,739,740,746,747,753,754,760,761,767,768,774,775,781,782,788,789,795,796,800,801]
theorem spA (P:Params):(KL P).map (·.1)=addrs:=by kernel_rfl
structure Facts where
 objs:List (Option Obj)
 sets:Option Obj×Option Obj
 nC:Nat×Option Obj×Bool
 nE:Nat×Option Obj×Bool
 n:Nat
 life:Life
 gens:Array GenState
 os:OsState
noncomputable def nQ (o1 o2:Obj)(r:SharedT×SharedT×SharedT):Facts:=
 ⟨addrs.map r.2.2.tree.get,(r.2.2.tree.get 347,r.2.2.tree.get 348),(r.1.n,r.1.tree.get 345,((r.1.tree.ins r.1.n o1).get r.1.n).isSome),(r.2.1.n,r.2.1.tree.get 345,((r.2.1.tree.ins r.2.1.n o2).get r.2.1.n).isSome),r.2.2.n,r.2.2.life,r.2.2.gens,r.2.2.os⟩
noncomputable def zF:Obj:=kD (vT "code") [(vS "PorterStemmer" 687),(vS "PorterStemmer" 688),(vS "/claim/cut.py" 689),(vI 301 0),(vI 0 0),(vI 0 0),(vI 0 0),(vI 0 0),(vR 343),(vX false),(vI 181 0),(vR 344),vN,vN,vN,vN,(vI 690 0),(vI 301 0),(vS "/claim/cut.py" 691)]
noncomputable def pwB (b:List Stmt):Program:={pw with main:={pw.main with body:=b}}
noncomputable def qE:Program:=pwB (lM.drop 47)
noncomputable def yM:List Str:=pw.boundNames.filter (·!=("law":Str))
noncomputable def jO (P:Params)(s:Shared):=
 ((staticsOk (importedModules pw.main.body) (boot_heap P) s.heap&&namesBound pw s.heap&&gensDone s&&laidKept (boot_heap P) s.heap),
  openSeen qE yM (importedModules pw.main.body) (λ_=>true) true s)
theorem dcA (w:World)(os:OsState)(e1 e2:Array (Int×Value))(p1 p2:Nat)(t1 t2:SetTable):
  (qnA (PW w false) os (qC e1 p1 t1) (qC e2 p2 t2)).map (λr=>(nQ (qC e1 p1 t1) (qC e2 p2 t2) r,jO (PW w false) r.2.2.abs))=
   some (⟨(KL w.params).map λp=>some p.2,(some (qC e1 p1 t1),some (qC e2 p2 t2)),(347,some zF,true),(348,some zF,true),802,{},#[],os⟩,true,openGood qE yM):=by kernel_rfl
theorem ccA (w:World)(os:OsState)(e1 e2:Array (Int×Value))(p1 p2:Nat)(t1 t2:SetTable):
  (qnA (PW w true) os (qC e1 p1 t1) (qC e2 p2 t2)).map (λr=>(nQ (qC e1 p1 t1) (qC e2 p2 t2) r,jO (PW w true) r.2.2.abs))=
   some (⟨(KL w.params).map λp=>some p.2,(some (qC e1 p1 t1),some (qC e2 p2 t2)),(347,some zF,true),(348,some zF,true),802,{},#[],os⟩,true,openGood qE yM):=by kernel_rfl
theorem pnA (w:World)(b:Bool)(os:OsState)(e1 e2:Array (Int×Value))(p1 p2:Nat)(t1 t2:SetTable):
  (qnA (PW w b) os (qC e1 p1 t1) (qC e2 p2 t2)).map (λr=>(nQ (qC e1 p1 t1) (qC e2 p2 t2) r,jO (PW w b) r.2.2.abs))=
   some (⟨(KL w.params).map λp=>some p.2,(some (qC e1 p1 t1),some (qC e2 p2 t2)),(347,some zF,true),(348,some zF,true),802,{},#[],os⟩,true,openGood qE yM):=by
 cases b
 ·exact dcA w os e1 e2 p1 p2 t1 t2
 ·exact ccA w os e1 e2 p1 p2 t1 t2
end Mine
namespace Mine
open PySem PySem.W PySem.Calls PyProof.Rows
theorem dnA (s:SharedT)(o:Obj)(k:Nat)(h:((s.tree.ins s.n o).get s.n).isSome=true):(nZ s o k).abs={s.abs with heap:=s.abs.heap.push o,toks:=s.abs.toks+k}:=by
 have e:absHeap (s.tree.ins s.n o) (s.n+1) s.life=(absHeap s.tree s.n s.life).push o:=absHeap_ins h
 unfold nZ SharedT.abs
 rw[e]
theorem uT {w:World}{Γ:PySem.Ctx}{A:Around}(hA:Γ.In A){K:Frag}{x:Str}{px pos sp p:Pos}{elts:List PySem.Expr}{k:Nat}{env:Env}{xs:List Str}{s:SharedT}
  {Q:Flow->Pos->Shared->Prop} {E:Value->Pos->Shared->Prop}
  (X:K.In s.abs.heap) (hc:kdsCode K env.code=true)
  (hs:swapsWith (.Set elts k sp) (some (.Name x px)) pos.line env=pure false)
  (hroad:displayRoad k elts=.unsure) (hp:elts.all kdsPlain=true) (hlen:elts.length<=30) (hx:constStrs? elts=some xs) (nd:xs.Nodup) (hb:xs.length+1<scanBound)
  (hins:∀es ep t,((s.tree.ins s.n (qC es ep t)).get s.n).isSome=true)
  (h:∀es ep t,oJ pw w (λy=>xs.contains y) xs.length es t->
   Sem.wp (model pw w) Γ (do bindName env x (.ref s.n);(Pure.pure Flow.next:Sem Flow)) Q E px (nZ s (qC es ep t) (xs.length+xs.length)).abs):
  Sem.wp (model pw w) Γ (exec (.Assign [.Name x px] (.Set elts k sp) pos) env) Q E p s.abs:=by
 rw[exec_Assign_Name _ _ _ _ _ hs]
 show Sem.wp (model pw w) Γ (standAt pos>>=λ_=>eval (.Set elts k sp) env>>=λv=>standAt px>>=λ_=>bindName env x v>>=λ_=>Pure.pure Flow.next) Q E p s.abs
 rw[Sem.wp_bind']
 show Sem.wp (model pw w) Γ (eval (.Set elts k sp) env>>=λv=>standAt px>>=λ_=>bindName env x v>>=λ_=>Pure.pure Flow.next) Q E pos s.abs
 rw[Sem.wp_bind']
 have W:wpAny (model pw w) A (eval (.Set elts k sp) env) (λv s'=>∃es ep t,oJ pw w (λy=>xs.contains y) xs.length es t/\v=.ref s.n/\s'=(nZ s (qC es ep t) (xs.length+xs.length)).abs) (λ_ _=>False) s.abs:=by
  refine cR (prog:=pw) (w:=w) (s:=s.abs) X hc hroad hp hlen hx nd hb λes ep t g=>⟨es,ep,t,g,?_,?_⟩
  ·show Value.ref s.abs.heap.objs.size=_
   rw[show s.abs.heap.objs.size=s.n from absHeap_size _ _ _]
  ·rw[dnA s _ _ (hins es ep t),Nat.add_assoc]
 refine Sem.wp_mono _ _ _ (λv p' s' y=>?_) (λ_ _ _ y=>y.elim) _ _ (W Γ pos hA)
 obtain⟨es,ep,t,g,rfl,rfl⟩:=y
 have:=h es ep t g
 rw[Sem.wp_bind']
 exact this
noncomputable def AB:Around:={handled:=none,depth:=100000,frames:=none,guards:=none,units:=100000}
theorem ΓB_in:ΓB.In AB:=⟨rfl,by decide+kernel,nofun,nofun,by decide+kernel⟩
noncomputable def xs1:List Str:=["a","e","i","o","u","y"]
noncomputable def xs2:List Str:=["Y","a","e","i","o","u","w","x","y"]
theorem dZ:lM=beB++(poA++nlA):=by kernel_rfl
theorem qcA:eaA=[.Assign [.Name st1.1 st1.2.1] (.Set st1.2.2.1 st1.2.2.2.1 st1.2.2.2.2.1) st1.2.2.2.2.2]++([.Assign [.Name st2.1 st2.2.1] (.Set st2.2.2.1 st2.2.2.2.1 st2.2.2.2.2.1) st2.2.2.2.2.2]++hlA):=by kernel_rfl
structure cX (w:World) (os:OsState) (sF:SharedT):Prop where
 objs:∀p∈KL w.params,sF.tree.get p.1=some p.2
 set1:∃e ep t,sF.tree.get 347=some (qC e ep t)/\oJ pw w (λy=>xs1.contains y) 6 e t
 set2:∃e ep t,sF.tree.get 348=some (qC e ep t)/\oJ pw w (λy=>xs2.contains y) 9 e t
 n:sF.n=802
 life:sF.life={}
 gens:sF.gens=#[]
 os:sF.os=os
 look:jO w.params sF.abs=(true,openGood qE yM)
theorem nS {α β:Type}{l:List α}{f g:α->β}(h:l.map f=l.map g):∀x∈l,f x=g x:=by
 intro x hx
 exact(List.map_inj_left.mp h) x hx
theorem iT {w:World}{Γ:PySem.Ctx}{env:Env}{st:Stmt}{Q:Flow->Pos->Shared->Prop}{E:Value->Pos->Shared->Prop}{p:Pos}{s:Shared}
  (h:Sem.wp (model pw w) Γ (exec st env) (λf p' s'=>f=.next/\Q .next p' s') E p s):Sem.wp (model pw w) Γ (execs [st] env) Q E p s:=by
 rw[execs_cons,Sem.wp_bind']
 refine Sem.wp_mono _ _ _ (λf p' s' y=>?_) (λ_ _ _ y=>y) _ _ h
 obtain⟨rfl,y⟩:=y
 exact y
structure mvB where
 sE:SharedT
 sG:SharedT
 sH:SharedT
 sI:SharedT
 sJ:SharedT
 sF:SharedT
 p3:Pos
 p4:Pos
 p5:Pos
 p6:Pos
 p7:Pos
 p8:Pos
structure KeyOK (w:World) (b:Bool) (os:OsState) (e1:Array (Int×Value)) (p1:Nat) (t1:SetTable) (e2:Array (Int×Value)) (p2:Nat) (t2:SetTable) (k:mvB):Prop where
 x1:kdA (PW w b) st1.2.1 st1.1 (sC (PW w b) os).n (nZ (sC (PW w b) os) (qC e1 p1 t1) 12)=.ok .next k.p8 k.sE
 x2:kdA (PW w b) st2.2.1 st2.1 k.sE.n (nZ k.sE (qC e2 p2 t2) 18)=.ok .next k.p3 k.sG
 x3:evQ (PW w b) 20000 ΓB k.p3 (iL hlA kcA) k.sG=.ok .next k.p4 k.sH
 x4:evQ (PW w b) 3000 ΓM nbA (kC (PW w b) os (.ok .next)) k.sH=.ok .next k.p5 k.sI
 x5:evQ (PW w b) 5000 ΓM k.p5 (iL nlA yZ) k.sI=.ok .next k.p6 k.sJ
 x6:evQ (PW w b) 100 ΓC default (kA (PW w b) os (.ok .next)) k.sJ=.ok (.done (.ret .none)) k.p7 k.sF
 hf:nQ (qC e1 p1 t1) (qC e2 p2 t2) (sC (PW w b) os,k.sE,k.sF)=⟨(KL w.params).map λp=>some p.2,(some (qC e1 p1 t1),some (qC e2 p2 t2)),(347,some zF,true),(348,some zF,true),802,{},#[],os⟩
 hl:jO (PW w b) k.sF.abs=(true,openGood qE yM)
theorem fP (w:World)(b:Bool)(os:OsState)(e1:Array (Int×Value))(p1:Nat)(t1:SetTable)(e2:Array (Int×Value))(p2:Nat)(t2:SetTable):∃k,KeyOK w b os e1 p1 t1 e2 p2 t2 k:=by
 obtain⟨r,hr,hf⟩:=Option.map_eq_some_iff.mp (pnA w b os e1 e2 p1 p2 t1 t2)
 obtain⟨p8,sE,q1,hr⟩:=eO hr
 obtain⟨p3,sG,q2,hr⟩:=eO hr
 obtain⟨p4,sH,q3,hr⟩:=eO hr
 obtain⟨p5,sI,q4,hr⟩:=eO hr
 obtain⟨p6,sJ,q5,hr⟩:=eO hr
 obtain⟨p7,sF,q6,hr⟩:=oxA hr
 obtain rfl:=inj hr
 obtain⟨hf,hl⟩:=Prod.mk.inj hf
 exact⟨⟨sE,sG,sH,sI,sJ,sF,p3,p4,p5,p6,p7,p8⟩,q1,q2,q3,q4,q5,q6,hf,hl⟩
theorem KeyOK.same {w:World}{b:Bool}{os:OsState}{e1:Array (Int×Value)}{p1:Nat}{t1:SetTable}{e2 e2':Array (Int×Value)}{p2 p2':Nat}{t2 t2':SetTable}{k k':mvB}(h:KeyOK w b os e1 p1 t1 e2 p2 t2 k)(h':KeyOK w b os e1 p1 t1 e2' p2' t2' k'):k'.sE=k.sE:=by
 have e:=h.x1.symm.trans h'.x1
 injection e with _ _ e
 exact e.symm
theorem xbB (w:World)(b:Bool)(os:OsState):
  Sem.wp (model pw (w.withFollow "special-get-raises" b)) ΓC (topStub pw).cur (λfin _ s'=>fin=.done (.ret .none)/\∃sF,cX (w.withFollow "special-get-raises" b) os sF/\s'=sF.abs) (λ_ _ _=>False) default (S0 (PW w b) os).abs:=by
 refine zR (w:=w.withFollow "special-get-raises" b) (oiB (PW w b) os) ?_
 refine bdA rfl ?_
 refine mF (ahB (PW w b) os) ?_
 rw[dZ]
 refine lH _ _ _ _ ?_
 have h1:=ojB w b os
 rw[jP]at h1
 refine mF (w:=w.withFollow "special-get-raises" b) h1 ⟨rfl,?_⟩
 refine lH _ _ _ _ ?_
 have h2:=niB w b os
 unfold uC at h2
 rw[jP]at h2
 refine zR (w:=w.withFollow "special-get-raises" b) h2 ?_
 refine bdA rfl ?_
 refine mF (zgB w b os) ?_
 show Sem.wp _ ΓB (execs eaA kcA) _ _ nbA (sC (PW w b) os).abs
 rw[qcA]
 refine lH _ _ _ _ ?_
 refine iT ?_
 have hX:∀s:SharedT,s.n=347\/s.n=348->s.tree.get 345=some zF->Frag.In [(345,zF)] s.abs.heap:=by
  intro s hn hg a o ho
  have:a=345/\o=zF:=by
   simp only[List.lookup,beq_iff_eq]at ho
   split at ho
   ·rename_i q
    exact⟨by simpa using q,(inj ho).symm⟩
   ·cases ho
  obtain⟨rfl,rfl⟩:=this
  show(absHeap s.tree s.n s.life).get? 345=some zF
  rw[abs_get (ar2 hn) hg]
  rfl
 have nC:(sC (PW w b) os).n=347:=by
  obtain⟨k,K⟩:=fP w b os #[] 0 default #[] 0 default
  exact congrArg (λf=>f.nC.1) K.hf
 have gC:(sC (PW w b) os).tree.get 345=some zF:=by
  obtain⟨k,K⟩:=fP w b os #[] 0 default #[] 0 default
  exact congrArg (λf=>f.nC.2.1) K.hf
 refine uT (A:=AB) ΓB_in (K:=[(345,zF)]) (xs:=xs1) (hX _ (.inl nC) gC) (by kernel_rfl) (by kernel_rfl) (by kernel_rfl) (by kernel_rfl) (by decide+kernel) (by kernel_rfl) (by decide+kernel) (by decide) ?_ ?_
 ·intro e1 p1 t1
  obtain⟨k,K⟩:=fP w b os e1 p1 t1 #[] 0 default
  exact congrArg (λf=>f.nC.2.2) K.hf
 intro e1 p1 t1 g1
 obtain⟨k,K⟩:=fP w b os e1 p1 t1 #[] 0 default
 refine mF (w:=w.withFollow "special-get-raises" b) K.x1 ⟨rfl,rfl,?_⟩
 refine lH _ _ _ _ ?_
 refine iT ?_
 refine uT (A:=AB) ΓB_in (K:=[(345,zF)]) (xs:=xs2) (hX _ (.inr (congrArg (λf=>f.nE.1) K.hf)) (congrArg (λf=>f.nE.2.1) K.hf)) (by kernel_rfl) (by kernel_rfl) (by kernel_rfl) (by kernel_rfl) (by decide+kernel) (by kernel_rfl) (by decide+kernel) (by decide) ?_ ?_
 ·intro e2 p2 t2
  obtain⟨k',K'⟩:=fP w b os e1 p1 t1 e2 p2 t2
  rw[<-K.same K']
  exact congrArg (λf=>f.nE.2.2) K'.hf
 intro e2 p2 t2 g2
 obtain⟨k',K'⟩:=fP w b os e1 p1 t1 e2 p2 t2
 rw[<-K.same K']
 refine mF (w:=w.withFollow "special-get-raises" b) K'.x2 ⟨rfl,rfl,?_⟩
 rw[<-jP]
 refine mF (w:=w.withFollow "special-get-raises" b) K'.x3 ?_
 refine mF (w:=w.withFollow "special-get-raises" b) K'.x4 ⟨rfl,?_⟩
 refine mF (w:=w.withFollow "special-get-raises" b) K'.x5 ?_
 refine mF (w:=w.withFollow "special-get-raises" b) K'.x6 ⟨rfl,k'.sF,?_,rfl⟩
 have hobj:addrs.map k'.sF.tree.get=(KL w.params).map λp=>some p.2:=congrArg (λf=>f.objs) K'.hf
 rw[<-spA w.params,List.map_map]at hobj
 exact⟨λp hp=>nS hobj p hp,⟨e1,p1,t1,congrArg (λf=>f.sets.1) K'.hf,g1⟩,⟨e2,p2,t2,congrArg (λf=>f.sets.2) K'.hf,g2⟩,congrArg (λf=>f.n) K'.hf,congrArg (λf=>f.life) K'.hf,congrArg (λf=>f.gens) K'.hf,congrArg (λf=>f.os) K'.hf,K'.hl⟩
theorem hgA {den:Code->Sem Fin}{p:Program}{w:World}:∀{n:Nat} {s s':Shared} {t:Thread} {o:Outcome},runN den p w n s t=.halted o s'->o.ends=true->
  (∀k s₁ t₁,runN den p w k s t=.running s₁ t₁->t₁.calm=true)->s.asleep->∃m t',schedN den p w m (.single s t)=.running (.single s' t')/\step den p w s' t'=.halt o s':=by
 intro l0
 induction l0 with
 |zero=>
  intro ø ø ø ø h ø ø ø
  injection h
 |succ n ih=>
  intro s s' t o h ho hc hz
  have e:=sstep_single den p w s t (hc 0 s t rfl) hz
  rw[runN]at h
  cases hs:step den p w s t with
  |go s₂ t₂=>
   rw[hs]at h e
   refine jB (ih h ho (λk s₁ t₁ q=>hc (k+1) s₁ t₁ (by simp only[runN,hs];exact q)) (Shared.asleep_of_life (step_life den p w s s₂ t t₂ hs) hz)) λm t' h1 h2=>?_
   refine Or.elim e (λe=>?_) λe=>?_
   ·exact zA (m+1) t' (by simp only[schedN,e,Step.lift];exact h1) h2
   ·injection e
  |halt o₂ s₂=>
   simp only[hs]at h
   cases h
   have:=step_halt_same den p w s s' t o hs
   subst this
   exact zA 0 t rfl hs
noncomputable def lI:Step->Bool
 | .halt (.done _) _=>false
 |_=>true
theorem nd {x:Step}{f:Flow}{s:Shared}{P:Prop}(h:x=.halt (.done f) s)(e:lI x=true):P:=nof ((congrArg lI h).symm.trans e)
theorem heA {c:Prop}[Decidable c]{a b:Step}(h1:lI a=true)(h2:lI b=true):lI (if c then a else b)=true:=by
 split<;>assumption
theorem mW {den:Code->Sem Fin}{p:Program}{w:World}{s s':Shared}{t:Thread}{f:Flow}(h:step den p w s t=.halt (.done f) s'):through t=true:=by
 obtain⟨heap,gens,drawn,toks,os⟩:=s
 obtain⟨cur,code,pos,stack⟩:=t
 induction cur using PySem.Sem.casesOn with
 |pure x=>induction x using PySem.Fin.casesOn with
  |done g=>induction stack using List.casesOn with
   |nil=>rfl
   |cons F r=>induction F using PySem.Frame.casesOn with
    |_=>exact nd h rfl
  |again c=>exact nd h rfl
 |raise e=>induction stack using List.casesOn with
  |nil=>exact nd h (heA rfl rfl)
  |cons F r=>induction F using PySem.Frame.casesOn with
   |_=>exact nd h rfl
 |finish e=>exact nd h (heA rfl rfl)
 |load a q k=>
  refine nd h ?_
  show lI (match heap.get? a with|some o=>Step.go _ _|none=>Step.halt (.stuck _) _)=true
  generalize heap.get? a=x
  induction x using Option.casesOn with
  |_=>rfl
 |update a q f k=>exact nd h (heA rfl rfl)
 |choose a b k=>exact nd h (heA rfl rfl)
 |genState g k=>
  refine nd h ?_
  show lI (match gens[g]? with|none=>Step.halt (.stuck _) _|some st=>Step.go _ _)=true
  generalize gens[g]?=x
  induction x using Option.casesOn with
  |_=>rfl
 |resume g r l k=>
  refine nd h ?_
  unfold step
  dsimp only
  generalize gens[g]?=x
  induction x using Option.casesOn with
  |none=>rfl
  |some x=>induction x using PySem.GenState.casesOn with
   |fresh c=>induction r using PySem.Resume.casesOn with
    |send v=>induction v using PySem.Value.casesOn with
     |_=>rfl
    |throw e=>rfl
   |_=>rfl
 |«yield» v g0 l kk=>
  refine nd h ?_
  show lI (match splitAtGen stack with
   |some (frames,(g,k,c,p),rest)=>Step.go _ _
   |none=>.halt (.stuck _) _)=true
  generalize splitAtGen stack=x
  induction x using Option.casesOn with
  |_=>rfl
 |_=>exact nd h rfl
theorem pqA (w:World)(os:OsState)(hz:(S0 w.params os).abs.asleep):∃sF,cX w os sF/\(S0 w.params os).abs.heap.life=sF.abs.heap.life/\
  ∃n t,schedN (denote table) pw w n (.single (S0 w.params os).abs (topStub pw))=.running (.single sF.abs t)/\through t=true:=by
 have e:w.withFollow "special-get-raises" (w.params.followText "special-get-raises")=w:=World.withFollow_self w _
 have h:=xbB w (w.params.followText "special-get-raises") os
 unfold PW at h
 rw[e]at h
 have h2:=(wp_iff_halts (M:=model pw w) (c:=.builtin "claim.caller" {}) (t:=(topStub pw).cur) (R:=λr s'=>(r=.ok (.ret .none))/\∃sF,cX w os sF/\s'=sF.abs) default (S0 w.params os).abs).mp
  (Sem.wp_mono _ _ _ (λfin p' s' ⟨y,sF,z,z'⟩=>by
   subst y z'
   exact⟨⟨rfl,sF,z,rfl⟩,by
    have:=z.gens
    show leftWithCleanup sF.gens=false
    rw[this]
    simp[leftWithCleanup]⟩) (λ_ _ _ x=>x.elim) _ _ h)
 obtain⟨n,r,s',hn,hr,sF,T,hs'⟩:=h2
 subst hr
 obtain⟨s'',h3,h4,h5⟩:=runNI_real _ _ _ hn (outcomeOf_ends _)
 obtain rfl:s''=s':=Shared.eq_of_forget_eq h4 (by rw[hs'];exact T.gens)
 obtain⟨m,t',h6,h7⟩:=hgA h3 (outcomeOf_ends _) h5 hz
 subst hs'
 refine⟨sF,T,(runN_life _ _ _ h3).symm,m,t',?_,mW h7⟩
 exact h6
structure AmE where
 addr:Addr
 s:Str
 sub:Int
 res:Int
 deriving Inhabited
set_option genInjectivity true in
inductive V where
 |none
 |bool (b:Bool)
 |int (i:Int)
 |str (s:Str)
 |sl (xs:List Str)
 |il (xs:List Int)
 |sd (es:List (Str×Str))
 |tup (xs:List V)
 |aml (L:List AmE)
 |am (e:AmE)
 |kt (xs:List Str)
 |kd (es:List (Str×Str))
 |set (big:Bool)
 |self
 |rd
 |top (a:Nat)
 deriving Inhabited
set_option genInjectivity true in
inductive T (α:Type) where
 |ret (a:α)
 |ite (c:Bool) (t e:T α)
 |fail
 |triv
 |anyS (f:Str->T α)
 |anyI (f:Int->T α)
noncomputable def T.bind {α β:Type}:T α->(α->T β)->T β
 | .ret a,f=>f a
 | .ite c t e,f=>.ite c (t.bind f) (e.bind f)
 | .fail,_=>.fail
 | .triv,_=>.triv
 | .anyS t,f=>.anyS λx=>(t x).bind f
 | .anyI t,f=>.anyI λx=>(t x).bind f
noncomputable def T.sat {α:Type}:T α->(α->Prop)->Prop
 | .ret a,Q=>Q a
 | .ite c t e,Q=>(c=true->t.sat Q)/\(c=false->e.sat Q)
 | .fail,_=>False
 | .triv,_=>True
 | .anyS t,Q=>∀x,(t x).sat Q
 | .anyI t,Q=>∀x,(t x).sat Q
theorem T.sat_mono {α:Type}{Q Q':α->Prop}(h:∀a,Q a->Q' a):∀{t:T α},t.sat Q->t.sat Q'
 | .ret a,x=>h a x
 | .ite _ _ ø,x=>⟨λe=>T.sat_mono h (x.1 e),λe=>T.sat_mono h (x.2 e)⟩
 | .fail,x=>x.elim
 | .triv,ø=>trivial
 | .anyS ø,x=>λy=>T.sat_mono h (x y)
 | .anyI ø,x=>λy=>T.sat_mono h (x y)
theorem T.sat_bind {α β:Type}{f:α->T β}{Q:β->Prop}:∀{t:T α},(t.bind f).sat Q↔t.sat λa=>(f a).sat Q
 | .ret ø=>Iff.rfl
 | .ite c t e=>by
  show(_->(t.bind f).sat Q)/\(_->(e.bind f).sat Q)↔(_->t.sat _)/\(_->e.sat _)
  simp only[T.sat_bind (t:=t),T.sat_bind (t:=e)]
 | .fail=>Iff.rfl
 | .triv=>Iff.rfl
 | .anyS t=>⟨λx y=>T.sat_bind.mp (x y),λx y=>T.sat_bind.mpr (x y)⟩
 | .anyI t=>⟨λx y=>T.sat_bind.mp (x y),λx y=>T.sat_bind.mpr (x y)⟩
noncomputable abbrev T.need {α:Type}(c:Bool)(t:T α):T α:=.ite c t .fail
theorem T.sat_need {α:Type}{c:Bool}{t:T α}{Q:α->Prop}:(T.need c t).sat Q↔c=true/\t.sat Q:=by
 cases c
 ·exact⟨λh=>(h.2 rfl).elim,λh=>by cases h.1⟩
 ·exact⟨λh=>⟨rfl,h.1 rfl⟩,λh=>⟨λø=>h.2,λq=>by injection q⟩⟩
structure Mu where
 F:Option (List (Str×V)):=none
 R:Option (List (Str×V)):=none
structure AS where
 ρ:List (Str×V)
 μ:Mu
noncomputable def setA (b:Bool):Addr:=if b then 348 else 347
noncomputable def ycB (b:Bool):List Str:=if b then["Y","a","e","i","o","u","w","x","y"]else["a","e","i","o","u","y"]
noncomputable def rD (b:Bool)(x:Str):Bool:=(ycB b).contains x
structure Gr where
 prog:Program
 w:World
 K:Frag
 p:Program
 loose:List Str
 mean:ExcName->Option Value
 mg:Str->Option Value
 mb:Str->Option Value
 base:Heap
 X:K.In base
 T:Top p loose mean mg mb base
 cls:Addr
 st:Addr
 dd:Addr
 rd:Addr
 gens:Array GenState
 os:OsState
 sets:∀b,∃o n,K.lookup (setA b)=some o/\o.SetObjOf (PySem.strKind prog w) (rD b) n/\n<scanBound
noncomputable abbrev Gr.M (g:Gr):Model:=model g.prog g.w
noncomputable def sdD (es:List (Str×Str)):List (PyData×PyData):=es.map λe=>(.str e.1,.str e.2)
noncomputable def SD (prog:Program)(w:World)(o:Obj)(es:List (Str×Str)):Prop:=∃kvs,o.IsDictOf (PySem.strKind prog w) kvs/\PyProof.V.FlatPairs PyData.str kvs (sdD es)
noncomputable def AmR (K:Frag)(e:AmE):Prop:=∃d es n sl,K.lookup e.addr=some ⟨.ref 335,some d,.plain,sl⟩/\K.lookup d=some (dictOf es n)/\
 (∃t,getL "s" es=some (some (.str e.s t)))/\(∃t,getL "substring_i" es=some (some (.int e.sub t)))/\(∃t,getL "result" es=some (some (.int e.res t)))
section
variable (g:Gr)(news:List (Addr×Obj))
mutual
inductive VR:V->Value->Prop
 |none:VR .none .none
 |bool (b:Bool):VR (.bool b) (.bool b)
 |int (i:Int) (t:Tok):VR (.int i) (.int i t)
 |str (s:Str) (t:Tok):VR (.str s) (.str s t)
 |sl {a:Addr} {vals:List Value} {n:Nat} {xs:List Str} (h:(a,({cls:=.type "list",data:=.seq vals.toArray n}:Obj))∈news) (r:StrsAre vals xs):VR (.sl xs) (.ref a)
 |il {a:Addr} {vals:List Value} {n:Nat} {xs:List Int} (h:(a,({cls:=.type "list",data:=.seq vals.toArray n}:Obj))∈news) (r:IntsAre vals xs):VR (.il xs) (.ref a)
 |sd {a:Addr} {o:Obj} {es:List (Str×Str)} (h:(a,o)∈news) (hs:(a==sysModules)=false) (r:SD g.prog g.w o es):VR (.sd es) (.ref a)
 |tup {a:Addr} {vals:List Value} {n:Nat} {xs:List V} (h:(a,({cls:=.type "tuple",data:=.seq vals.toArray n}:Obj))∈news) (r:VRs xs vals):VR (.tup xs) (.ref a)
 |aml {a:Addr} {n:Nat} {sl:Array (Option Value)} {L:List AmE} (h:g.K.lookup a=some ⟨.type "list",.none,.seq (L.map λe=>Value.ref e.addr).toArray n,sl⟩) (r:∀e∈L,AmR g.K e):VR (.aml L) (.ref a)
 |am {e:AmE} (r:AmR g.K e):VR (.am e) (.ref e.addr)
 |kt {a:Addr} {vals:List Value} {n:Nat} {sl:Array (Option Value)} {xs:List Str} (h:g.K.lookup a=some ⟨.type "tuple",.none,.seq vals.toArray n,sl⟩) (r:StrsAre vals xs):VR (.kt xs) (.ref a)
 |kd {a:Addr} {o:Obj} {es:List (Str×Str)} (h:g.K.lookup a=some o) (hs:(a==sysModules)=false) (r:SD g.prog g.w o es):VR (.kd es) (.ref a)
 |set (big:Bool):VR (.set big) (.ref (setA big))
 |self:VR .self (.ref g.st)
 |rd:VR .rd (.ref g.rd)
 |top (a:Addr):VR (.top a) (.ref a)
inductive VRs:List V->List Value->Prop
 |nil:VRs [] []
 |cons {v:V} {val:Value} {vs:List V} {vals:List Value} (h:VR v val) (r:VRs vs vals):VRs (v::vs) (val::vals)
end
inductive DRs:List (Str×V)->List DictEntry->Prop
 |nil:DRs [] []
 |cons {k:Str} {t:Tok} {v:V} {val:Value} {kvs:List (Str×V)} {es:List DictEntry} (h:VR g news v val) (r:DRs kvs es):DRs ((k,v)::kvs) (⟨PyData.keyHash g.w.params k,.str k t,val⟩::es)
end
section
variable {g:Gr}{news news':List (Addr×Obj)}
noncomputable def waB (g:Gr)(news:List (Addr×Obj))(v:V)(val:Value):Prop:=match v with
 | .none=>val=.none
 | .bool b=>val=.bool b
 | .int i=>∃t,val=.int i t
 | .str s=>∃t,val=.str s t
 | .sl xs=>∃a vals n,val=.ref a/\(a,({cls:=.type "list",data:=.seq vals.toArray n}:Obj))∈news/\StrsAre vals xs
 | .il xs=>∃a vals n,val=.ref a/\(a,({cls:=.type "list",data:=.seq vals.toArray n}:Obj))∈news/\IntsAre vals xs
 | .sd es=>∃a o,val=.ref a/\(a,o)∈news/\(a==sysModules)=false/\SD g.prog g.w o es
 | .tup xs=>∃a vals n,val=.ref a/\(a,({cls:=.type "tuple",data:=.seq vals.toArray n}:Obj))∈news/\VRs g news xs vals
 | .aml L=>∃a n sl,val=.ref a/\g.K.lookup a=some ⟨.type "list",.none,.seq (L.map λe=>Value.ref e.addr).toArray n,sl⟩/\∀e∈L,AmR g.K e
 | .am e=>val=.ref e.addr/\AmR g.K e
 | .kt xs=>∃a vals n sl,val=.ref a/\g.K.lookup a=some ⟨.type "tuple",.none,.seq vals.toArray n,sl⟩/\StrsAre vals xs
 | .kd es=>∃a o,val=.ref a/\g.K.lookup a=some o/\(a==sysModules)=false/\SD g.prog g.w o es
 | .set big=>val=.ref (setA big)
 | .self=>val=.ref g.st
 | .rd=>val=.ref g.rd
 | .top a=>val=.ref a
theorem cB{α β:Type}{f:α->T β}{Q:β->Prop}{t:T α}(h:(t.bind f).sat Q):t.sat λa=>(f a).sat Q:=T.sat_bind.mp h
theorem uD{α:Type}{c:Bool}{t:T α}{Q:α->Prop}(h:(T.need c t).sat Q):c=true/\t.sat Q:=T.sat_need.mp h
theorem VR.inv {v:V}{val:Value}(r:VR g news v val):waB g news v val:=
 VR.casesOn (motive_1:=λv val ø=>waB g news v val) r rfl (λø=>rfl) (λø t=>yC t rfl) (λø t=>yC t rfl) (λh r=>mhA _ _ _ rfl h r) (λh r=>mhA _ _ _ rfl h r) (λh q r=>⟨_,_,rfl,h,q,r⟩)
  (λh r=>mhA _ _ _ rfl h r) (λh r=>mhA _ _ _ rfl h r) (λr=>eB rfl r) (λh r=>tfB _ _ _ _ rfl h r) (λh q r=>⟨_,_,rfl,h,q,r⟩) (λø=>rfl) rfl rfl (λø=>rfl)
noncomputable def yaB (g:Gr)(news:List (Addr×Obj))(F:List (Str×V))(es:List DictEntry):Prop:=match F with
 |[]=>es=[]
 |p::r=>∃t val es',es=⟨PyData.keyHash g.w.params p.1,.str p.1 t,val⟩::es'/\VR g news p.2 val/\DRs g news r es'
theorem DRs.inv {F:List (Str×V)}{es:List DictEntry}(r:DRs g news F es):yaB g news F es:=
 DRs.casesOn (motive:=λF es ø=>yaB g news F es) r rfl λh r=>mhA _ _ _ rfl h r
noncomputable def okO (o:Obj):Prop:=(o.cls=.type "list"\/o.cls=.type "tuple"\/o.cls=.type "dict")/\∀x,o.data≠.cell x
theorem okL {vals:List Value}{n:Nat}:okO {cls:=.type "list",data:=.seq vals.toArray n}:=⟨.inl rfl,λø h=>nomatch h⟩
theorem okT {vals:List Value}{n:Nat}:okO {cls:=.type "tuple",data:=.seq vals.toArray n}:=⟨.inr (.inl rfl),λø h=>nomatch h⟩
theorem SD.ok {prog:Program}{w:World}{o:Obj}{es:List (Str×Str)}(h:SD prog w o es):okO o:=by
 refine iA h λø o1 ø=>?_;refine zP o1 λø ø h1 h2 ø=>?_
 exact⟨.inr (.inr h1.1),λx e=>by rw[h2]at e;injection e⟩
section
variable (hs:∀p∈news,okO p.2->p∈news')
include hs
theorem VR.shift {v:V}{val:Value}(r:VR g news v val):VR g news' v val:=
 VR.rec (motive_1:=λv val ø=>VR g news' v val) (motive_2:=λvs vals ø=>VRs g news' vs vals) .none .bool .int .str (λh r=>.sl (hs _ h okL) r) (λh r=>.il (hs _ h okL) r) (λh q r=>.sd (hs _ h r.ok) q r)
  (λh ø ih=>.tup (hs _ h okT) ih) .aml .am .kt .kd .set .self .rd .top .nil (λø ø i1 i2=>.cons i1 i2) r
theorem VRs.shift {v:List V}{val:List Value}(r:VRs g news v val):VRs g news' v val:=
 VRs.rec (motive_1:=λv val ø=>VR g news' v val) (motive_2:=λvs vals ø=>VRs g news' vs vals) .none .bool .int .str (λh r=>.sl (hs _ h okL) r) (λh r=>.il (hs _ h okL) r) (λh q r=>.sd (hs _ h r.ok) q r)
  (λh ø ih=>.tup (hs _ h okT) ih) .aml .am .kt .kd .set .self .rd .top .nil (λø ø i1 i2=>.cons i1 i2) r
theorem DRs.shift {v:List (Str×V)}{val:List DictEntry}(r:DRs g news v val):DRs g news' v val:=by
 induction r with
 |nil=>exact .nil
 |cons h ø ih=>exact .cons (VR.shift hs h) ih
end
theorem VR.mono (hs:∀p∈news,p∈news'){v:V}{val:Value}:VR g news v val->VR g news' v val:=VR.shift λp h ø=>hs p h
theorem VRs.mono (hs:∀p∈news,p∈news'){v:List V}{val:List Value}:VRs g news v val->VRs g news' v val:=VRs.shift λp h ø=>hs p h
end
structure Cx where
 A₀:Around
 outer:List Env
 nm:Str
 sc:Scope
 L:Addr
 a:Addr
 cd:Value
 g₀:Heap
 hk:sc.kind=.function
noncomputable def Cx.env (c:Cx):Env:=envOf c.nm c.sc c.L c.a c.cd
noncomputable def Cx.A (c:Cx):Around:=c.A₀.deeper c.env
noncomputable def Cx.fs (c:Cx):List Addr:=c.outer.filterMap (·.frame)
structure StN (g:Gr) (c:Cx) (m:Str->Option Value) (news:List (Addr×Obj)) (h:Heap) (b:Heap):Prop where
 B:Below c.A₀ g.base c.outer b
 turn:KtsTurn c.fs c.g₀ b
 D:KtsDicts c.fs b
 F:Fr b c.L h m
 N:News b c.L h news
theorem StN.X {g:Gr}{c:Cx}{m:Str->Option Value}{news:List (Addr×Obj)}{h b:Heap}(x:StN g c m news h b):g.K.In b:=g.X.keeps x.B.stays
theorem StN.T {g:Gr}{c:Cx}{m:Str->Option Value}{news:List (Addr×Obj)}{h b:Heap}(x:StN g c m news h b):Top g.p g.loose g.mean g.mg g.mb b:=g.T.keeps x.B.stays
theorem StN.sub {g:Gr}{c:Cx}{m:Str->Option Value}{news news':List (Addr×Obj)}{h b:Heap}(x:StN g c m news h b)(hs:∀p∈news',p∈news):StN g c m news' h b:=⟨x.B,x.turn,x.D,x.F,λp hp=>x.N p (hs p hp)⟩
inductive MutR (g:Gr) (rest:List (Addr×Obj)):Mu->List (Addr×Obj)->Prop
 |none:MutR g rest ⟨.none,.none⟩ []
 |self {F:List (Str×V)} {es:List DictEntry} {n:Nat} (r:DRs g rest F es) (hd:∀p∈rest,p.1≠g.dd) (hs:∀p∈rest,p.1≠g.st) (hn:g.st≠g.dd):MutR g rest ⟨some F,.none⟩ [(g.dd,dictOf es n),(g.st,instObj g.cls g.dd)]
 |rd {R:List (Str×V)} {es:List DictEntry} {n:Nat} (r:DRs g rest R es) (hd:∀p∈rest,p.1≠g.rd):MutR g rest ⟨.none,some R⟩ [(g.rd,dictOf es n)]
noncomputable def wpA (g:Gr)(rest:List (Addr×Obj))(μ:Mu)(mo:List (Addr×Obj)):Prop:=match μ.F with
 |some F=>μ.R=none/\∃es n,mo=[(g.dd,dictOf es n),(g.st,instObj g.cls g.dd)]/\(∀p∈rest,p.1≠g.dd)/\(∀p∈rest,p.1≠g.st)/\g.st≠g.dd/\DRs g rest F es
 |none=>match μ.R with
  |none=>mo=[]
  |some R=>∃es n,mo=[(g.rd,dictOf es n)]/\(∀p∈rest,p.1≠g.rd)/\DRs g rest R es
theorem MutR.inv {g:Gr}{rest:List (Addr×Obj)}{μ:Mu}{mo:List (Addr×Obj)}(r:MutR g rest μ mo):wpA g rest μ mo:=
 MutR.casesOn (motive:=λμ mo ø=>wpA g rest μ mo) r rfl (λr hd hs hn=>eB rfl (rwA _ _ rfl hd hs hn r)) λr hd=>zI _ _ rfl hd r
theorem MutR.keep {g:Gr}{rest rest':List (Addr×Obj)}{μ:Mu}{mo:List (Addr×Obj)}(r:MutR g rest μ mo)(hs:∀p∈rest,okO p.2->p∈rest')(hn:∀p∈rest',p∈rest\/∀q∈mo,q.1≠p.1):MutR g rest' μ mo:=by
 cases r with
 |none=>exact .none
 |self r hd hs' hne=>exact .self (r.shift hs) (λp hp=>(hn p hp).elim (hd p) λh=>(h _ (.head _)).symm) (λp hp=>(hn p hp).elim (hs' p) λh=>(h _ (.tail _ (.head _))).symm) hne
 |rd r hd=>exact .rd (r.shift hs) λp hp=>(hn p hp).elim (hd p) λh=>(h _ (.head _)).symm
theorem MutR.cons {g:Gr}{rest:List (Addr×Obj)}{μ:Mu}{mo:List (Addr×Obj)}{p:Addr×Obj}(r:MutR g rest μ mo)(h:∀q∈mo,q.1≠p.1):MutR g (p::rest) μ mo:=
 r.keep (λø hp ø=>.tail _ hp) λq hq=>(xB hq).elim (λe=>.inr (e▸h)) .inl
theorem MutR.apart {g:Gr}{rest:List (Addr×Obj)}{μ:Mu}{mo:List (Addr×Obj)}(r:MutR g rest μ mo):∀p∈rest,∀q∈mo,q.1≠p.1:=by
 cases r with
 |none=>exact λø ø ø h=>nomatch h
 |self ø hd hs ø=>exact λp hp=>vK ⟨(hd p hp).symm,vK ⟨(hs p hp).symm,λø h=>nomatch h⟩⟩
 |rd ø hd=>exact λp hp=>vK ⟨(hd p hp).symm,λø h=>nomatch h⟩
noncomputable def LR (g:Gr)(rest:List (Addr×Obj))(m:Str->Option Value)(ρ:List (Str×V)):Prop:=∀x v,ρ.lookup x=some v->∃val,m x=some val/\VR g rest v val
structure StC (g:Gr) (c:Cx) (σ:AS) (ts:List (V×Value)) (P:List (Addr×Obj)) (h:Heap) (gs:Array GenState) (os:OsState) (b:Heap) (m:Str->Option Value) (mo rest:List (Addr×Obj)):Prop where
 a1:StN g c m (mo++rest) h b
 a2:MutR g rest σ.μ mo
 a3:LR g rest m σ.ρ
 a4:∀t∈ts,VR g rest t.1 t.2
 a5:∀p∈P,p∈rest
 a6:gs=g.gens/\os=g.os
noncomputable def St (g:Gr)(c:Cx)(σ:AS)(ts:List (V×Value))(P:List (Addr×Obj))(s:Shared):Prop:=
 ∃b m mo rest,StC g c σ ts P s.heap s.gens s.os b m mo rest
section
variable {g:Gr}{c:Cx}{σ:AS}{ts:List (V×Value)}{P:List (Addr×Obj)}{s:Shared}
theorem St.el {G:Prop}(S:St g c σ ts P s)(k:∀b m mo rest,StN g c m (mo++rest) s.heap b->MutR g rest σ.μ mo->LR g rest m σ.ρ->(∀t∈ts,VR g rest t.1 t.2)->(∀p∈P,p∈rest)->s.gens=g.gens->s.os=g.os->G):G:=
 S.elim λb h=>h.elim λm h=>h.elim λmo h=>h.elim λrest h=>k b m mo rest h.a1 h.a2 h.a3 h.a4 h.a5 h.a6.1 h.a6.2
theorem St.toks (h:St g c σ ts P s)(tk:Nat):St g c σ ts P {s with toks:=tk}:=h
theorem St.sub {ts':List (V×Value)}(h:St g c σ ts P s)(hs:∀t∈ts',t∈ts):St g c σ ts' P s:=
 let⟨b,m,mo,rest,K⟩:=h
 (lD b m mo rest ⟨K.a1,K.a2,K.a3,λt ht=>K.a4 t (hs t ht),K.a5,K.a6⟩)
theorem St.drop {t:V×Value}(h:St g c σ (t::ts) P s):St g c σ ts P s:=h.sub λø ht=>.tail _ ht
theorem St.imm (h:St g c σ ts P s){v:V}{val:Value}(r:∀rest,VR g rest v val):St g c σ ((v,val)::ts) P s:=
 let⟨b,m,mo,rest,K⟩:=h
 (lD b m mo rest ⟨K.a1,K.a2,K.a3,λt ht=>by
  rcases xB ht with rfl|ht
  ·exact r rest
  ·exact K.a4 t ht,K.a5,K.a6⟩)
theorem St.of {v:V}{val:Value}(h:St g c σ ts P s)(r:∀rest,(∀t∈ts,VR g rest t.1 t.2)->VR g rest v val):St g c σ ((v,val)::ts) P s:=
 let⟨b,m,mo,rest,K⟩:=h
 (lD b m mo rest ⟨K.a1,K.a2,K.a3,λt ht=>by
  rcases xB ht with rfl|ht
  ·exact r rest K.a4
  ·exact K.a4 t ht,K.a5,K.a6⟩)
theorem St.int (h:St g c σ ts P s)(i:Int)(t tk:Nat):St g c σ ((.int i,.int i t)::ts) P {s with toks:=tk}:=(h.toks tk).imm λø=>.int i t
theorem St.str (h:St g c σ ts P s)(x:Str)(t tk:Nat):St g c σ ((.str x,.str x t)::ts) P {s with toks:=tk}:=(h.toks tk).imm λø=>.str x t
theorem St.bool (h:St g c σ ts P s)(x:Bool):St g c σ ((.bool x,.bool x)::ts) P s:=h.imm λø=>.bool x
theorem St.turn {h':Heap}{tk:Nat}(h:St g c σ ts P s)(k:∀b m news,Fr b c.L s.heap m->News b c.L s.heap news->Fr b c.L h' m/\News b c.L h' news):St g c σ ts P {s with heap:=h',toks:=tk}:=
 let⟨b,m,mo,rest,K⟩:=h
 have e:=k b m _ K.a1.F K.a1.N
 (lD b m mo rest ⟨⟨K.a1.B,K.a1.turn,K.a1.D,e.1,e.2⟩,K.a2,K.a3,K.a4,K.a5,K.a6⟩)
end
set_option tactic.hygienic true
noncomputable abbrev PK (g:Gr)(c:Cx)(σ:AS)(ts:List (V×Value))(P:List (Addr×Obj))(Q:V->Prop)(val:Value)(s':Shared):Prop:=∃v,Q v/\St g c σ ((v,val)::ts) P s'
noncomputable abbrev K1 (g:Gr)(c:Cx)(t:Sem Value)(σ:AS)(ts:List (V×Value))(P:List (Addr×Obj))(Q:V->Prop)(s:Shared):Prop:=
 ∀E,wpAny g.M c.A t (PK g c σ ts P Q) E s
noncomputable abbrev PB (g:Gr)(c:Cx)(σ:AS)(ts:List (V×Value))(P:List (Addr×Obj))(Q:Bool->Prop)(b:Bool)(s':Shared):Prop:=Q b/\St g c σ ts P s'
noncomputable abbrev KB (g:Gr)(c:Cx)(t:Sem Bool)(σ:AS)(ts:List (V×Value))(P:List (Addr×Obj))(Q:Bool->Prop)(s:Shared):Prop:=
 ∀E,wpAny g.M c.A t (PB g c σ ts P Q) E s
noncomputable def big:Nat:=16777216
theorem kN:sizeLine=big:=by decide
noncomputable def jD (x y:Str):Bool:=decide (x.length+y.length<=big)
noncomputable def inS (y x:Str):Bool:=!(Builtin.Str.occurrences x y 0 x.length 1).isEmpty
noncomputable def V.isNone:V->Bool
 | .none=>true
 |_=>false
noncomputable def V.i?:V->Option Int
 | .int i=>some i
 |_=>Option.none
noncomputable def V.s?:V->Option Str
 | .str x=>some x
 |_=>Option.none
noncomputable def V.b?:V->Option Bool
 | .bool b=>some b
 |_=>Option.none
noncomputable def V.set?:V->Option Bool
 | .set b=>some b
 |_=>Option.none
theorem V.i?_eq {v:V}{i:Int}(h:v.i?=some i):v=.int i:=by induction v using Mine.V.casesOn<;>first|exact no h|exact nof h|(cases h;rfl)
theorem V.s?_eq {v:V}{i:Str}(h:v.s?=some i):v=.str i:=by induction v using Mine.V.casesOn<;>first|exact no h|exact nof h|(cases h;rfl)
theorem V.b?_eq {v:V}{i:Bool}(h:v.b?=some i):v=.bool i:=by induction v using Mine.V.casesOn<;>first|exact no h|exact nof h|(cases h;rfl)
theorem V.set?_eq {v:V}{i:Bool}(h:v.set?=some i):v=.set i:=by induction v using Mine.V.casesOn<;>first|exact no h|exact nof h|(cases h;rfl)
theorem V.isNone_eq {v:V}(h:v.isNone=true):v=.none:=by induction v using Mine.V.casesOn<;>first|exact no h|exact nof h|(injection h;rfl)
noncomputable def binI:Operator->Int->Int->T V
 | .Add,a,b=>.ret (.int (a+b))
 | .Sub,a,b=>.ret (.int (a-b))
 | .Mult,a,b=>.need (decide (Builtin.Int.intBits a<=64)) (.ret (.int (a*b)))
 | .Mod,a,b=>.need (b !=0) (.ret (.int (a.fmod b)))
 | .RShift,a,b=>if b=1 then .need (decide (0<=a)) (.ret (.int (a.fdiv 2)))else .fail
 |_,_,_=>.fail
noncomputable def isAdd:Operator->Bool
 | .Add=>true
 |_=>false
noncomputable def gV (op:Operator)(a b:V):T V:=match a.i? with
 |some x=>(match b.i? with|some y=>binI op x y|none=>.fail)
 |none=>match a.s? with
  |some x=>(match b.s? with|some y=>if isAdd op then .need (jD x y) (.ret (.str (x++y)))else .fail|none=>.fail)
  |none=>.fail
noncomputable def qxB:CmpOp->Int->Int->T V
 | .Eq,a,b=>.ret (.bool (a==b))
 | .NotEq,a,b=>.ret (.bool (a !=b))
 | .Lt,a,b=>.ret (.bool (decide (a<b)))
 | .LtE,a,b=>.ret (.bool (decide (a<=b)))
 | .Gt,a,b=>.ret (.bool (decide (b<a)))
 | .GtE,a,b=>.ret (.bool (decide (b<=a)))
 |_,_,_=>.fail
noncomputable def pxB:CmpOp->Str->Str->T V
 | .Eq,x,y=>.ret (.bool (x==y))
 | .NotEq,x,y=>.ret (.bool (x !=y))
 | .In,y,x=>.ret (.bool (inS y x))
 | .NotIn,y,x=>.ret (.bool (!inS y x))
 |_,_,_=>.fail
noncomputable def rxB:CmpOp->Str->Bool->T V
 | .In,y,b=>.ret (.bool (rD b y))
 | .NotIn,y,b=>.ret (.bool (!rD b y))
 |_,_,_=>.fail
noncomputable def sxB:CmpOp->Bool->Bool->T V
 | .Eq,a,b=>.ret (.bool (a==b))
 |_,_,_=>.fail
noncomputable def rkB:CmpOp->Bool
 | .Is=>true
 |_=>false
noncomputable def tS (op:CmpOp)(a b:V):T V:=if rkB op then(if b.isNone then .ret (.bool a.isNone)else .fail)else match a.i? with
 |some x=>(match b.i? with|some y=>qxB op x y|none=>.fail)
 |none=>match a.s? with
  |some x=>(match b.s? with|some y=>pxB op x y|none=>match b.set? with|some h=>rxB op x h|none=>.fail)
  |none=>match a.b? with
   |some x=>(match b.b? with|some y=>sxB op x y|none=>.fail)
   |none=>.fail
noncomputable def qH:V->T Bool
 | .bool b=>.ret b
 | .none=>.ret false
 | .int i=>.ret (i !=0)
 | .tup xs=>.need (decide (xs.length<=1000)) (.ret (!xs.isEmpty))
 |_=>.fail
noncomputable def ohB:UnaryOp->V->T V
 | .USub,.int a=>.ret (.int (-a))
 | .Not,v=>(qH v).bind λb=>.ret (.bool !b)
 |_,_=>.fail
section
variable {g:Gr}{c:Cx}{σ:AS}{ts:List (V×Value)}{P:List (Addr×Obj)}{s:Shared}{v1 v2:V}{val1 val2:Value}{Q:V->Prop}
theorem St.get (S:St g c σ ts P s){t:V×Value}(h:t∈ts):∃rest,VR g rest t.1 t.2:=by
 refine nfA S λø ø ø rest K=>?_
 exact yC rest (K.a4 t h)
theorem St.getInt (S:St g c σ ts P s){i:Int}{val:Value}(h:(V.int i,val)∈ts):∃t,val=.int i t:=by
 refine iB (S.get h) λrest r=>?_
 exact r.inv
theorem St.getStr (S:St g c σ ts P s){x:Str}{val:Value}(h:(V.str x,val)∈ts):∃t,val=.str x t:=by
 refine iB (S.get h) λrest r=>?_
 exact r.inv
theorem St.getBool (S:St g c σ ts P s){x:Bool}{val:Value}(h:(V.bool x,val)∈ts):val=.bool x:=by
 refine iB (S.get h) λrest r=>?_
 exact r.inv
theorem St.getNone (S:St g c σ ts P s){val:Value}(h:(V.none,val)∈ts):val=.none:=by
 refine iB (S.get h) λrest r=>?_
 exact r.inv
theorem St.getK (S:St g c σ ts P s){a:Addr}{o:Obj}(h:g.K.lookup a=some o):s.heap.get? a=some o:=by
 refine nfA S λø ø ø ø K=>?_
 exact(K.a1.X.keeps K.a1.F.keep) _ _ h
theorem St.getNews (S:St g c σ ts P s){t:V×Value}(h:t∈ts):∃rest,VR g rest t.1 t.2/\∀p∈rest,s.heap.get? p.1=some p.2:=by
 refine nfA S λø ø ø rest K=>?_
 exact jA rest (K.a4 t h) (λp hp=>(K.a1.N p (eE _ hp)).1)
theorem VR.isNone {rest:List (Addr×Obj)}{v:V}{val:Value}(r:VR g rest v val):(val==.none)=v.isNone:=by
 cases r<;>rfl
theorem wcB (S:St g c σ ts P s){b:Bool}{x:Str}{t:Tok}{Q:Value->Shared->Prop}{E:Value->Shared->Prop}(h:Q (.bool (rD b x)) {s with toks:=s.toks+1}):wpAny g.M c.A (compareOp .In (.str x t) (.ref (setA b))) Q E s:=by
 refine zP (g.sets b) λo n ho hs hn=>?_
 exact wpAny_inSet_of (knd:=PySem.strKind g.prog g.w) (beq_self_eq_true _) rfl (hs.setOf (S.getK ho) hn) h
theorem ggA (S:St g c σ ts P s){b:Bool}{x:Str}{t:Tok}{Q:Value->Shared->Prop}{E:Value->Shared->Prop}(h:Q (.bool (!rD b x)) {s with toks:=s.toks+1}):wpAny g.M c.A (compareOp .NotIn (.str x t) (.ref (setA b))) Q E s:=by
 refine zP (g.sets b) λo n ho hs hn=>?_
 exact wpAny_notInSet_of (knd:=PySem.strKind g.prog g.w) (beq_self_eq_true _) rfl (hs.setOf (S.getK ho) hn) h
theorem gyA {op:Operator}{a b:Int}{t u:Tok}(S:St g c σ ts P s)(hq:(binI op a b).sat Q):K1 g c (binaryOp op (.int a t) (.int b u)) σ ts P Q s:=by
 intro E
 induction op using PySem.Operator.casesOn with
 |Add=>exact add_int (jA _ hq (S.int _ _ _))
 |Sub=>exact sub_int (jA _ hq (S.int _ _ _))
 |Mult=>
  refine gA (uD hq) λhn hq=>?_
  exact mul_int (jA _ hq (S.int _ _ _)) (IntMulOk.of_left (bB hn))
 |Mod=>
  refine gA (uD hq) λhn hq=>?_
  exact mod_int' (bne_iff_ne.mp hn) (jA _ hq (S.int _ _ _))
 |RShift=>
  replace hq:T.sat (if b=1 then .need (decide (0<=a)) (.ret (.int (a.fdiv 2)))else .fail) Q:=hq
  by_cases h1:b=1
  case neg=>rw[if_neg h1]at hq;exact hq.elim
  rw[if_pos h1]at hq
  subst h1
  refine gA (uD hq) λhn hq=>?_
  have hn:=bB hn
  by_cases hb:(1:Int)≥((Builtin.Int.intBits a:Nat):Int)
  ·have ha:a=0\/a=1:=by
    unfold Builtin.Int.intBits at hb
    split at hb
    ·rename_i h;exact .inl (beq_iff_eq.mp h)
    ·right
     rename_i h2
     have h3:a≠0:=λq=>h2 (by rw[q];rfl)
     have h4:a.natAbs≠0:=by lia
     have:a.natAbs<2 ^ 1:=(Nat.log2_lt h4).mp (nH ‹_›)
     lia
   refine AutoIntOps.rshift_1 (by decide) hb ?_
   rw[if_neg (by lia)]
   have e:a.fdiv 2=0:=by rcases ha with rfl|rfl<;>rfl
   exact jA _ (e▸hq) (S.int _ _ _)
  ·exact AutoIntOps.rshift_2 (by decide) hb (jA _ hq (S.int _ _ _))
 |_=>exact hq.elim
theorem wR {op:Operator}(h:isAdd op=true):op=.Add:=by cases op<;>first|exact no h|exact nof h|(injection h;rfl)
theorem tcA {op:Operator}(S:St g c σ ts P s)(h1:(v1,val1)∈ts)(h2:(v2,val2)∈ts)(hq:(gV op v1 v2).sat Q):K1 g c (binaryOp op val1 val2) σ ts P Q s:=by
 unfold gV at hq
 split at hq
 ·rename_i hx
  split at hq
  ·rename_i hy
   refine iB (S.getInt (V.i?_eq hx▸h1)) λt o1=>?_;obtain rfl:=o1
   refine iB (S.getInt (V.i?_eq hy▸h2)) λu o3=>?_;obtain rfl:=o3
   exact gyA S hq
  ·exact hq.elim
 ·split at hq
  ·rename_i hx
   split at hq
   ·rename_i hy
    split at hq
    ·rename_i ha
     refine iB (S.getStr (V.s?_eq hx▸h1)) λt o5=>?_;obtain rfl:=o5
     refine iB (S.getStr (V.s?_eq hy▸h2)) λu o7=>?_;obtain rfl:=o7
     refine gA (uD hq) λhn hq=>?_
     rw[wR ha]
     exact λE=>add_str (λt' tk=>jA _ hq (S.str _ _ _)) (by rw[kN];exact bB hn)
    ·exact hq.elim
   ·exact hq.elim
  ·exact hq.elim
theorem lwA {op:CmpOp}(h:rkB op=true):op=.Is:=by cases op<;>first|exact no h|exact nof h|(injection h;rfl)
theorem ocA {op:CmpOp}(S:St g c σ ts P s)(h1:(v1,val1)∈ts)(h2:(v2,val2)∈ts)(hq:(tS op v1 v2).sat Q):K1 g c (compareOp op val1 val2) σ ts P Q s:=by
 intro E
 unfold tS at hq
 split at hq
 ·rename_i hi
  split at hq
  ·rename_i hn
   obtain rfl:=S.getNone (V.isNone_eq hn▸h2)
   obtain⟨rest,r⟩:=S.get h1
   rw[lwA hi]
   exact is_none ⟨_,hq,r.isNone▸S.bool _⟩
  ·exact hq.elim
 ·split at hq
  ·rename_i hx
   split at hq
   ·rename_i hy
    refine iB (S.getInt (V.i?_eq hx▸h1)) λt o2=>?_;obtain rfl:=o2
    refine iB (S.getInt (V.i?_eq hy▸h2)) λu o4=>?_;obtain rfl:=o4
    induction op using PySem.CmpOp.casesOn with
    |Eq=>exact eq_int ⟨_,hq,S.bool _⟩
    |NotEq=>exact ne_int ⟨_,hq,S.bool _⟩
    |Lt=>exact lt_int ⟨_,hq,S.bool _⟩
    |LtE=>exact le_int ⟨_,hq,S.bool _⟩
    |Gt=>exact gt_int ⟨_,hq,S.bool _⟩
    |GtE=>exact ge_int ⟨_,hq,S.bool _⟩
    |_=>exact hq.elim
   ·exact hq.elim
  ·split at hq
   ·rename_i hx
    refine iB (S.getStr (V.s?_eq hx▸h1)) λt o6=>?_;obtain rfl:=o6
    split at hq
    ·rename_i hy
     refine iB (S.getStr (V.s?_eq hy▸h2)) λu o8=>?_;obtain rfl:=o8
     induction op using PySem.CmpOp.casesOn with
     |Eq=>exact eq_str ⟨_,hq,S.bool _⟩
     |NotEq=>exact ne_str ⟨_,hq,S.bool _⟩
     |In=>exact in_str ⟨_,hq,S.bool _⟩
     |NotIn=>exact notIn_str ⟨_,hq,S.bool _⟩
     |_=>exact hq.elim
    ·split at hq
     ·rename_i hy
      refine iB (S.get (V.set?_eq hy▸h2)) λrest r=>?_
      obtain rfl:=r.inv
      cases op with
      |In=>exact wcB S ⟨_,hq,(S.toks _).bool _⟩
      |NotIn=>exact ggA S ⟨_,hq,(S.toks _).bool _⟩
      |_=>exact hq.elim
     ·exact hq.elim
   ·split at hq
    ·rename_i hx
     split at hq
     ·rename_i hy
      obtain rfl:=S.getBool (V.b?_eq hx▸h1)
      obtain rfl:=S.getBool (V.b?_eq hy▸h2)
      induction op using PySem.CmpOp.casesOn with
      |Eq=>exact eq_bool ⟨_,hq,S.bool _⟩
      |_=>exact hq.elim
     ·exact hq.elim
    ·exact hq.elim
theorem VRs.inv {rest:List (Addr×Obj)}{v:V}{vs:List V}{vals:List Value}(h:VRs g rest (v::vs) vals):∃val r,vals=val::r/\VR g rest v val/\VRs g rest vs r:=by
 cases h with
 |cons h r=>exact⟨_,_,rfl,h,r⟩
theorem VRs.inv0 {rest:List (Addr×Obj)}{vals:List Value}(h:VRs g rest [] vals):vals=[]:=by
 cases h
 rfl
theorem VRs.length {rest:List (Addr×Obj)}{vs:List V}:∀{vals:List Value},VRs g rest vs vals->vals.length=vs.length:=by
 induction vs with
 |nil=>intro vals h;rw[h.inv0];rfl
 |cons v vs ih=>intro vals h;obtain⟨val,r,rfl,_,h⟩:=h.inv;exact congrArg (·+1) (ih h)
theorem VRs.get {rest:List (Addr×Obj)}{vs:List V}:∀{vals:List Value} {k:Nat} {v:V},VRs g rest vs vals->vs[k]?=some v->∃val,vals[k]?=some val/\VR g rest v val:=by
 induction vs with
 |nil=>intro vals k v h e;exact no e
 |cons u vs ih=>
  intro vals k v h e
  obtain⟨val,r,rfl,h,hr⟩:=h.inv
  induction k using Nat.casesOn with
  |zero=>obtain rfl:=inj e;exact⟨_,rfl,h⟩
  |succ k=>exact ih (k:=k) hr e
theorem uK {v:V}{val:Value}{Q:Bool->Prop}(S:St g c σ ts P s)(h1:(v,val)∈ts)(hq:(qH v).sat Q):KB g c (truthy val) σ ts P Q s:=by
 intro E
 unfold qH at hq
 split at hq
 ·have o1:=S.getBool h1;clear h1;obtain rfl:=o1
  exact wpAny_truthy_bool (eB hq S)
 ·have o2:=S.getNone h1;clear h1;obtain rfl:=o2
  exact truthy_none (eB hq S)
 ·refine iB (S.getInt h1) λt o3=>?_;obtain rfl:=o3
  exact truthy_int (eB hq S)
 ·rename_i xs
  refine gA (uD hq) λhn hq=>?_
  have hn:=bB hn
  refine iA (S.getNews h1) λrest r k=>?_
  obtain⟨a,vals,n,rfl,h,r⟩:=r.inv
  have hl:=r.length
  refine truthy_tuple (zG _ (k _ h) rfl (yC _ rfl)) ?_ (eB ?_ (S.toks _))
  ·rw[List.size_toArray];lia
  ·rw[List.isEmpty_toArray]
   cases r<;>exact hq
 ·exact hq.elim
theorem miB {op:UnaryOp}{v:V}{val:Value}(S:St g c σ ts P s)(h1:(v,val)∈ts)(hq:(ohB op v).sat Q):K1 g c (unaryOp op val) σ ts P Q s:=by
 intro E
 unfold ohB at hq
 split at hq
 ·refine iB (S.getInt h1) λt o1=>?_;obtain rfl:=o1
  exact neg_int (jA _ hq (S.int _ _ _))
 ·exact not_value (wpAny_mono (uK S h1 (cB hq) E) (λb s' h=>jA _ h.1 (h.2.bool _)) λø ø x=>x)
 ·exact hq.elim
end
noncomputable def ymA:Expr->Bool
 | .Slice .. =>true
 |_=>false
noncomputable def xE (es:List (Str×Str))(k:Str):Str:=((es.find? λp=>decide (p.1=k)).map (·.2)).getD Str.empty
noncomputable def aJ (es:List (Str×Str))(k:Str):Bool:=(es.find? λp=>decide (p.1=k)).isSome
noncomputable def pE (n:Nat)(i:Int):Bool:=decide (0<=i)&&decide (i<n)&&decide (i<100000)
noncomputable def cC (x:Str)(i:Int):Bool:=decide (-(x.length:Int)<=i)&&decide (i<x.length)&&decide (-100000<i)&&decide (i<100000)
noncomputable def lwB:V->Int->T V
 | .str x,i=>.need (cC x i) (.ret (.str (Txt.item x i)))
 | .sl xs,i=>.need (pE xs.length i) (.ret (.str (xs.getD i.toNat Str.empty)))
 | .kt xs,i=>.need (pE xs.length i) (.ret (.str (xs.getD i.toNat Str.empty)))
 | .il xs,i=>.need (pE xs.length i) (.ret (.int (xs.getD i.toNat 0)))
 | .aml L,i=>.need (pE L.length i) (.ret (.am (L.getD i.toNat default)))
 | .tup xs,i=>match xs[i.toNat]? with
  |some v=>.need (pE xs.length i) (.ret v)
  |none=>.fail
 |_,_=>.fail
noncomputable def iwB:V->Str->T V
 | .sd es,k=>.need (aJ es k) (.ret (.str (xE es k)))
 | .kd es,k=>.need (aJ es k) (.ret (.str (xE es k)))
 |_,_=>.fail
noncomputable def cV (a b:V):T V:=match b.i? with
 |some i=>lwB a i
 |none=>match b.s? with
  |some k=>iwB a k
  |none=>.fail
theorem dR (k:Str):∀c:List (Str×Str),PySem.Spec.lookup (PyData.str k) (sdD c)=(c.find? λp=>decide (p.1=k)).map λp=>PyData.str p.2
 |[]=>rfl
 |(i,v)::c=>by
  show(if PySem.Spec.same (PyData.str i) (PyData.str k)=true then some (PyData.str v)else PySem.Spec.lookup (PyData.str k) (sdD c))=_
  rw[PyProof.V.same_str,dR k c,List.find?_cons]
  by_cases h:i=k
  ·simp[h]
  ·simp[h]
theorem trA {c:List (Str×Str)}{k:Str}(h:aJ c k=true):PySem.Spec.lookup (PyData.str k) (sdD c)=some (PyData.str (xE c k)):=by
 refine qDzq (dR ..) ?_
 unfold aJ at h
 unfold xE
 cases e:c.find? λp=>decide (p.1=k)with
 |none=>rw[e]at h;exact nof h
 |some p=>rfl
theorem dL {n:Nat}{i:Int}(h:pE n i=true):0<=i/\i<n/\i<100000:=by
 unfold pE at h
 replace h:=bmp (bmp bB bB) bB h
 exact cF h.1.1 h.1.2 h.2
theorem yG (value:Expr)(x:Str)(t:Tok)(r:Value):letTemporaryGo value (.str x t) r=pure ():=by induction value using PySem.Expr.casesOn<;>rfl
theorem jF {slice:Expr}(h:ymA slice=false)(o i:Value):subscripted slice false o i=operate [o,i] (getItem o i):=by
 induction slice using PySem.Expr.casesOn<;>first|rfl|injection h
section
variable {g:Gr}{c:Cx}{σ:AS}{ts:List (V×Value)}{P:List (Addr×Obj)}{s:Shared}{v1 v2:V}{val1 val2:Value}{Q:V->Prop}
theorem ints_get {vals:List Value}{xs:List Int}(r:IntsAre vals xs):∀{k:Nat},k<xs.length->∃t,vals[k]?=some (.int (xs.getD k 0) t):=by
 induction r with
 |nil=>intro k h;cases h
 |cons n t ø ih=>
  intro k h
  cases k with
  |zero=>exact yC t rfl
  |succ k=>exact ih (Nat.lt_of_succ_lt_succ h)
theorem anA {vals:List Value}{xs:List Int}(r:IntsAre vals xs):vals.length=xs.length:=by
 induction r with
 |nil=>rfl
 |cons n t ø ih=>refine qDzq (List.length_cons ..) ?_;simp only[List.length_cons,ih]
theorem St.tupGet (S:St g c σ ts P s){xs:List V}{val:Value}(h:(V.tup xs,val)∈ts):∃(a:Addr) (vals:List Value) (n:Nat),val=.ref a/\s.heap.get? a=some {cls:=.type "tuple",data:=.seq vals.toArray n}/\vals.length=xs.length/\
  ∀(k:Nat) (v:V),xs[k]?=some v->∃val:Value,vals[k]?=some val/\St g c σ ((v,val)::ts) P s:=by
 refine St.el S λb m mo rest a1 a2 a3 a4 a5 o1 o2=>?_;have a6:=And.intro o1 o2
 have r:VR g rest (.tup xs) val:=a4 _ h
 obtain⟨a,vals,n,rfl,hm,r⟩:=r.inv
 have hh:=(a1.N _ (eE mo hm)).1
 refine oZ a vals n rfl hh r.length (λk v e=>?_)
 refine iA (r.get e) λval ev rv=>?_
 refine jA val ev (lD b m mo rest ⟨a1,a2,a3,λt ht=>?_,a5,a6⟩)
 rcases xB ht with rfl|ht
 ·exact rv
 ·exact a4 t ht
theorem zaA {value slice:Expr}(hsl:ymA slice=false)(S:St g c σ ts P s)(h1:(v1,val1)∈ts)(h2:(v2,val2)∈ts)(hq:(cV v1 v2).sat Q):K1 g c (subscriptTail value slice val1 val2) σ ts P Q s:=by
 intro E
 unfold cV at hq
 split at hq
 ·rename_i i hi
  refine iB (S.getInt (V.i?_eq hi▸h2)) λu o1=>?_;obtain rfl:=o1
  induction v1 using Mine.V.casesOn with
  |str x=>
   refine iB (S.getStr h1) λt o3=>?_;obtain rfl:=o3
   refine gA (uD hq) λhn hq=>?_
   unfold cC at hn
   simp only[oA,vA]at hn
   exact item_str (fitsSsize_of (N:=100000) hn.1.2 hn.2 (by decide)) hn.1.1.1 hn.1.1.2 (λ_=>⟨_,hq,S.str _ _ _⟩) (jF hsl _ _) (yG _ _ _)
  |sl xs=>
   refine gA (uD hq) λhn hq=>?_
   obtain⟨q0,q1,q2⟩:=dL hn
   obtain⟨rest,r,k⟩:=S.getNews h1
   obtain⟨_,_,_,rfl,h,r⟩:=r.inv
   exact KTb.item_list ⟨_,k _ h,rfl,_,rfl⟩ r q0 q1 (by lia) (λt' _=>⟨_,hq,(S.str _ _ _)⟩) (jF hsl _ _)
  |kt xs=>
   obtain⟨hn,hq⟩:=uD hq
   refine vH (dL hn) λq0 q1 q2=>?_
   refine iA (S.getNews h1) λrest r k=>?_
   obtain⟨_,_,_,_,rfl,h,r⟩:=r.inv
   exact KTb.item_tup ⟨_,S.getK h,rfl,_,rfl⟩ r q0 q1 (by lia) (λt' _=>⟨_,hq,(S.str _ _ _)⟩) (jF hsl _ _)
  |il xs=>
   refine gA (uD hq) λhn hq=>?_
   obtain⟨q0,q1,q2⟩:=dL hn
   obtain⟨rest,r,k⟩:=S.getNews h1
   obtain⟨a,vals,n,rfl,h,r⟩:=r.inv
   obtain⟨t,e⟩:=ints_get r (k:=i.toNat) (ar3 q0 q1)
   have hl:s.heap.IsList a vals.toArray:=⟨_,k _ h,rfl,_,rfl⟩
   exact tail_any hl.typeIs slot_list_getitem.lookup (wpAny_getItem_list hl q0 (by lia) (by simpa using e) ⟨_,hq,S.int _ _ _⟩) (jF hsl _ _)
  |aml L=>
   refine gA (uD hq) λhn hq=>?_
   obtain⟨q0,q1,q2⟩:=dL hn
   obtain⟨rest,r,k⟩:=S.getNews h1
   obtain⟨a,n,sl,rfl,h,r⟩:=r.inv
   have hl:s.heap.IsList a (L.map λe=>Value.ref e.addr).toArray:=⟨_,S.getK h,rfl,_,rfl⟩
   have hlt:i.toNat<L.length:=by exact ar3 q0 q1
   refine tail_any hl.typeIs slot_list_getitem.lookup (wpAny_getItem_list (x:=.ref (L.getD i.toNat default).addr) hl q0 (by lia) (by simp[hlt]) ⟨_,hq,S.imm λ_=>.am (r _ ?_)⟩) (jF hsl _ _)
   rw[sD,mG hlt]
   exact List.getElem_mem hlt
  |tup xs=>
   replace hq:T.sat (match xs[i.toNat]? with|some v=>.need (pE xs.length i) (.ret v)|none=>.fail) Q:=hq
   split at hq
   ·rename_i v e
    refine gA (uD hq) λhn hq=>?_
    refine vH (dL hn) λq0 q1 q2=>?_
    obtain⟨a,vals,n,o9,hg,hl,hv⟩:=S.tupGet h1;obtain rfl:=o9
    refine iA (hv _ _ e) λval ev S'=>?_
    have ht:IsTup s.heap a vals.toArray:=⟨_,hg,rfl,_,rfl⟩
    exact tail_any ht.typeIs slot_tuple_getitem.lookup (getItem_tuple ht (by lia) (by lia) (seqIndex_of q0 (by rw[List.size_toArray,hl];exact q1)) (by simpa using ev) ⟨_,hq,S'⟩) (jF hsl _ _)
   ·exact hq.elim
  |_=>exact hq.elim
 ·split at hq
  ·rename_i kx hk
   refine iB (S.getStr (V.s?_eq hk▸h2)) λu o11=>?_;obtain rfl:=o11
   have key:∀{a:Addr} {o:Obj} {es:List (Str×Str)},(a==sysModules)=false->SD g.prog g.w o es->s.heap.get? a=some o->(T.need (aJ es kx) (.ret (.str (xE es kx)))).sat Q->wpAny g.M c.A (subscriptTail value slice (.ref a) (.str kx u)) (λval s'=>∃v,Q v/\St g c σ ((v,val)::ts) P s') E s:=λhs r ho hq=>by
    refine gA (uD hq) λhn hq=>?_
    refine iA r λkvs hd hf=>?_
    refine item_tab_any (knd:=PySem.strKind g.prog g.w) (enc:=PyData.str) PyProof.V.same_str (beq_self_eq_true _) ⟨hs,kvs,Heap.dictOf_iff.mpr ⟨_,ho,hd⟩,hf⟩ (trA hn) (λv hv=>?_) (jF hsl _ _)
    refine iB (PyProof.V.Flat.str_inv hv) λt o13=>?_;obtain rfl:=o13
    exact⟨_,hq,S.str _ _ _⟩
   induction v1 using Mine.V.casesOn with
   |sd es=>
    obtain⟨rest,r,k⟩:=S.getNews h1
    obtain⟨_,_,rfl,h,hs,r⟩:=r.inv
    exact key hs r (k _ h) hq
   |kd es=>
    obtain⟨rest,r,k⟩:=S.getNews h1
    obtain⟨_,_,rfl,h,hs,r⟩:=r.inv
    exact key hs r (S.getK h) hq
   |_=>exact hq.elim
  ·exact hq.elim
end
set_option tactic.hygienic false
noncomputable def scK (sc:Scope)(x:Str):Option NameKind:=sc.names.lookup x
theorem wrA (c:Cx)(x:Str):c.env.kindOf x=scK c.sc x:=rfl
noncomputable def pH (x:Str)(v:V):List (Str×V)->List (Str×V)
 |[]=>[(x,v)]
 |(y,u)::r=>if y==x then(y,v)::r else(y,u)::pH x v r
theorem pC (x y:Str)(v:V)(r:List (Str×V)):((x,v)::r).lookup y=if y=x then some v else r.lookup y:=by
 by_cases h:y=x
 ·subst h
  refine qDzq (List.lookup_cons_self ..) ?_;rw[if_pos rfl]
 ·simp only[if_neg h,List.lookup_cons,beq_false_of_ne h]
theorem jI (x:Str)(v:V)(y:Str):∀l:List (Str×V),(pH x v l).lookup y=if y=x then some v else l.lookup y
 |[]=>pC ..
 |(z,u)::r=>by
  unfold pH
  by_cases hz:z=x
  ·subst hz
   rw[if_pos (beq_self_eq_true _),pC,pC]
   by_cases h:y=z
   ·simp only[h,if_true]
   ·simp only[h,if_false]
  ·rw[if_neg (by rw[beq_false_of_ne hz];decide),pC,pC,jI x v y r]
   by_cases h:y=z
   ·simp only[h,if_true,if_neg hz]
   ·simp only[h,if_false]
section
variable {g:Gr}{c:Cx}{σ:AS}{ts:List (V×Value)}{P:List (Addr×Obj)}{s:Shared}{v1 v2:V}{val1 val2:Value}{Q:V->Prop}
theorem emA {x:Str}{pos:Pos}{v:V}(S:St g c σ ts P s)(hl:scK c.sc x=some .local)(hd:(x==("__debug__":Str))=false)(hv:σ.ρ.lookup x=some v)(hq:Q v):
  K1 g c (eval (.Name x pos) c.env) σ ts P Q s:=by
 intro E
 refine St.el S λb m mo rest a1 a2 a3 a4 a5 o1 o2=>?_;have a6:=And.intro o1 o2
 refine iA (a3 x v hv) λval hm hr=>?_
 refine ld a1.F hm (jA v hq (lD b m mo rest ⟨a1,a2,a3,λt ht=>?_,a5,a6⟩)) c.hk hl hd
 rcases xB ht with rfl|ht
 ·exact hr
 ·exact a4 t ht
theorem sN {x:Str}{v:V}{val:Value}{E:Value->Shared->Prop}{Q:Unit->Shared->Prop}(S:St g c σ ts P s)(hv:(v,val)∈ts)(hl:scK c.sc x=some .local)
  (h:∀s',St g c {σ with ρ:=pH x v σ.ρ} ts P s'->Q () s'):wpAny g.M c.A (storeName c.env x val) Q E s:=by
 refine St.el S λb m mo rest a1 a2 a3 a4 a5 o1 o2=>?_;have a6:=And.intro o1 o2
 refine stN a1.F a1.N (λh' F' N'=>h _ (lD b _ mo rest ⟨⟨a1.B,a1.turn,a1.D,F',N'⟩,a2,λy u hy=>?_,a4,a5,a6⟩)) c.hk hl
 rw[jI]at hy
 by_cases e:y=x
 ·rw[if_pos e]at hy
  have o4:=inj hy;clear hy;obtain rfl:=o4
  exact jA val (if_pos e) (a4 _ hv)
 ·rw[if_neg e]at hy
  refine iA (a3 y u hy) λw hw r=>?_
  exact jA w ((if_neg e).trans hw) r
noncomputable def qQ:V->V->V->T V
 | .str x,.int i,.int j=>.need (decide (x.length<=big)) (.ret (.str (Txt.slice x (some i) (some j))))
 | .str x,.none,.int j=>.need (decide (x.length<=big)) (.ret (.str (Txt.slice x none (some j))))
 | .str x,.int i,.none=>.need (decide (x.length<=big)) (.ret (.str (Txt.slice x (some i) none)))
 |_,_,_=>.fail
theorem ikA {value:Expr}{lo hi:Option Expr}{p:Pos}{v l u:V}{val vl vu:Value}(S:St g c σ ts P s)(h0:(v,val)∈ts)(h1:(l,vl)∈ts)(h2:(u,vu)∈ts)(hq:(qQ v l u).sat Q):
  K1 g c (subscriptTail value (.Slice lo hi none p) val (.ref s.heap.objs.size)) σ ts P Q {s with heap:=s.heap.push {cls:=.type "slice",data:=.fields #[vl,vu,.none]}}:=by
 intro E
 unfold qQ at hq
 split at hq
 ·refine iB (S.getStr h0) λt o1=>?_;obtain rfl:=o1
  refine iB (S.getInt h1) λt1 o3=>?_;obtain rfl:=o3
  refine iB (S.getInt h2) λt2 o5=>?_;obtain rfl:=o5
  refine gA (uD hq) λhn hq=>?_
  refine St.el S λb m mo rest a1 a2 a3 a4 a5 o7 o8=>?_;have a6:=And.intro o7 o8
  exact slice_strN_ss_len a1.F a1.N (λh' t' k F' N' _=>by
   have S':St g c σ ts P {s with heap:=h',toks:=k}:=lD b m mo rest ⟨⟨a1.B,a1.turn,a1.D,F',N'⟩,a2,a3,a4,a5,a6⟩
   exact jA _ hq (S'.imm λ_=>.str _ _)) rfl (yG _ _ _) (by rw[kN];exact bB hn)
 ·refine iB (S.getStr h0) λt o10=>?_;obtain rfl:=o10
  have o12:=S.getNone h1;clear h1;obtain rfl:=o12
  refine iB (S.getInt h2) λt2 o13=>?_;obtain rfl:=o13
  refine gA (uD hq) λhn hq=>?_
  refine St.el S λb m mo rest a1 a2 a3 a4 a5 o15 o16=>?_;have a6:=And.intro o15 o16
  exact slice_strN_ns_len a1.F a1.N (λh' t' k F' N' _=>by
   have S':St g c σ ts P {s with heap:=h',toks:=k}:=lD b m mo rest ⟨⟨a1.B,a1.turn,a1.D,F',N'⟩,a2,a3,a4,a5,a6⟩
   exact jA _ hq (S'.imm λ_=>.str _ _)) rfl (yG _ _ _) (by rw[kN];exact bB hn)
 ·refine iB (S.getStr h0) λt o18=>?_;obtain rfl:=o18
  refine iB (S.getInt h1) λt1 o20=>?_;obtain rfl:=o20
  have o22:=S.getNone h2;clear h2;obtain rfl:=o22
  refine gA (uD hq) λhn hq=>?_
  refine St.el S λb m mo rest a1 a2 a3 a4 a5 o23 o24=>?_;have a6:=And.intro o23 o24
  exact slice_strN_sn_len a1.F a1.N (λh' t' k F' N' _=>by
   have S':St g c σ ts P {s with heap:=h',toks:=k}:=lD b m mo rest ⟨⟨a1.B,a1.turn,a1.D,F',N'⟩,a2,a3,a4,a5,a6⟩
   exact jA _ hq (S'.imm λ_=>.str _ _)) rfl (yG _ _ _) (by rw[kN];exact bB hn)
 ·exact hq.elim
noncomputable def fieldNames:List Str:=["current","cursor","limit","limit_backward","bra","ket","I_p1","I_p2"]
structure adA (g:Gr) (globT clsT:List (Str×V)) (methT:List (Str×Addr)):Prop where
 globs:∀x v,globT.lookup x=some v->∃val,nsIn g.K mainGlobals x=some (some val)/\VR g [] v val
 clsV:∀x v,clsT.lookup x=some v->∃mc val,typeIn g.K (.ref g.cls)=some mc/\readsIn g.K g.cls mc=true/\findCls g.K (.ref g.cls) mc x=some (.val val)/\handedIn val=true/\VR g [] v val
 meths:∀x f,methT.lookup x=some f->plainGet g.K g.cls x=true/\findIn g.K (.ref g.cls) x=some (some (.ref f))/\isFn g.K (.ref f)=true
 fields:∀x∈fieldNames,plainGet g.K g.cls x=true/\∃attr,findIn g.K (.ref g.cls) x=some attr/\noGet g.K attr=true
 hasD:hasDictIn g.K g.cls=true
 setA:findIn g.K (.ref g.cls) "__setattr__"=some (some (.builtin "object.__setattr__"))
 plainO:plainOver g.K g.cls=true
 taker:∀x∈fieldNames,takerIn g.K g.cls x=some none
 am:∀x∈(["s","substring_i","result"]:List Str),plainGet g.K 335 x=true/\findIn g.K (.ref 335) x=some none
 amD:hasDictIn g.K 335=true
end
section
variable {g:Gr}{c:Cx}{σ:AS}{ts:List (V×Value)}{P:List (Addr×Obj)}{s:Shared}{v1 v2:V}{val1 val2:Value}{Q:V->Prop}{globT clsT:List (Str×V)}{methT:List (Str×Addr)}
theorem VR.handed {news:List (Addr×Obj)}{v:V}{val:Value}(r:VR g news v val):handedIn val=true:=
 VR.casesOn (motive_1:=λø val ø=>handedIn val=true) r rfl (λø=>rfl) (λø ø=>rfl) (λø ø=>rfl) (λø ø=>rfl) (λø ø=>rfl) (λø ø ø=>rfl) (λø ø=>rfl) (λø ø=>rfl) (λø=>rfl) (λø ø=>rfl) (λø ø ø=>rfl) (λø=>rfl) rfl rfl (λø=>rfl)
theorem DRs.getL {news:List (Addr×Obj)}{x:Str}{v:V}{F:List (Str×V)}{es:List DictEntry}(r:DRs g news F es):F.lookup x=some v->∃val,getL x es=some (some val)/\VR g news v val:=by
 induction r with
 |nil=>exact λe=>no e
 |@cons k t u val kvs es h r ih=>
  intro e
  rw[pC]at e
  unfold PySem.W.getL
  rw[List.find?_cons]
  by_cases hk:x=k
  ·subst hk
   rw[if_pos rfl]at e
   have o1:=inj e;clear e;obtain rfl:=o1
   have:(Value.str x t).isStr x=true:=by exact beq_self_eq_true _
   simp only[this]
   exact jA _ rfl h
  ·rw[if_neg hk]at e
   have q:(Value.str k t).isStr x=false:=by exact beq_false_of_ne λz=>hk z.symm
   simp only[q]
   refine iA (ih e) λw hw hr=>?_
   refine jA w ?_ hr
   unfold PySem.W.getL at hw
   split at hw
   ·rename_i e he;rw[he];exact hw
   ·split at hw<;>exact nomatch hw
theorem DRs.noRef {news:List (Addr×Obj)}{F:List (Str×V)}{es:List DictEntry}(r:DRs g news F es):es.any (·.refKey)=false:=by
 induction r with
 |nil=>rfl
 |cons ø ø ih=>refine qDzq (List.any_cons ..) ?_;refine qDzq (ih ..) ?_;rfl
theorem DRs.isSome {news:List (Addr×Obj)}{F:List (Str×V)}{es:List DictEntry}(r:DRs g news F es)(x:Str):(PySem.W.getL x es).isSome=true:=by
 unfold PySem.W.getL
 split
 ·rfl
 ·rw[r.noRef];rfl
theorem DRs.put {news:List (Addr×Obj)}{x:Str}{v:V}{val:Value}{tk:Tok}(hv:VR g news v val){F:List (Str×V)}{es:List DictEntry}(r:DRs g news F es):DRs g news (pH x v F) (putL x (PyData.keyHash g.w.params x) (.str x tk) val es):=by
 induction r with
 |nil=>exact .cons hv .nil
 |@cons k t u val' kvs es h r ih=>
  unfold pH putL
  by_cases hk:k=x
  ·have:(Value.str k t).isStr x=true:=by rw[hk];exact beq_self_eq_true _
   rw[if_pos (by rw[hk];exact beq_self_eq_true _)]
   simp only[this,if_true]
   exact .cons hv r
  ·have q:(Value.str k t).isStr x=false:=by exact beq_false_of_ne hk
   rw[if_neg (by rw[beq_false_of_ne hk];decide)]
   simp only[q]
   exact .cons h (ih)
theorem DRs.length {news:List (Addr×Obj)}{F:List (Str×V)}{es:List DictEntry}(r:DRs g news F es):es.length=F.length:=by
 induction r with
 |nil=>rfl
 |cons ø ø ih=>refine qDzq (List.length_cons ..) ?_;simp only[List.length_cons,ih]
theorem uY (x:Str)(v:V):∀l:List (Str×V),(pH x v l).length<=l.length+1
 |[]=>vD _
 |(z,u)::r=>by
  unfold pH
  split
  ·exact Nat.le_succ _
  ·have:=uY x v r
   exact Nat.lt_succ_of_le ‹_›
theorem agB {x:Str}{expr:Bool}{v:V}{F:List (Str×V)}(G:adA g globT clsT methT)(S:St g c σ ts P s)(hF:σ.μ.F=some F)(hx:x∈fieldNames)(hv:F.lookup x=some v)(hq:Q v):
  K1 g c (getAttr (.ref g.st) x expr) σ ts P Q s:=by
 intro E
 refine St.el S λb m mo rest a1 a2 a3 a4 a5 o1 o2=>?_;have a6:=And.intro o1 o2
 obtain⟨ρ,F',R⟩:=σ
 dsimp only at hF a2 a3
 subst hF
 refine gA a2.inv λhR o4=>?_;refine xiA o4 λes n o6 hd hs hn r=>?_;obtain rfl:=o6
 obtain rfl:R=none:=hR
 refine iA (r.getL hv) λval e hr=>?_
 refine gA (G.fields x hx) λhg o5=>?_;refine iA o5 λattr ha hno=>?_
 refine get_own (n:=n) a1.F a1.X (InstAt.of_news a1.N (.tail _ (.head _)) (.head _)) hg G.hasD ha hno e hr.handed (jA v hq (lD b m _ rest ⟨a1,.self r hd hs hn,a3,λt ht=>?_,a5,a6⟩))
 rcases xB ht with rfl|ht
 ·exact hr
 ·exact a4 t ht
theorem vcB {x:Str}{v:V}{val:Value}{F:List (Str×V)}{E:Value->Shared->Prop}{Q:Unit->Shared->Prop}(G:adA g globT clsT methT)(S:St g c σ ts P s)(hF:σ.μ=⟨some F,none⟩)(hx:x∈fieldNames)(hlen:F.length<=900)(hv:(v,val)∈ts)
  (hq:∀s',St g c {σ with μ:=⟨some (pH x v F),none⟩} ts P s'->Q () s'):
  wpAny g.M c.A (setAttr (.ref g.st) x val) Q E s:=by
 refine St.el S λb m mo rest a1 a2 a3 a4 a5 o1 o2=>?_;have a6:=And.intro o1 o2
 obtain⟨ρ,μ⟩:=σ
 dsimp only at hF a2 a3 hq
 subst hF
 refine gA a2.inv λø o4=>?_;refine xiA o4 λes n o5 hd hs hn r=>?_;obtain rfl:=o5
 have r':=DRs.put (tk:=s.toks+1) (x:=x) (a4 _ hv) r
 refine set_dict a1.F a1.X a1.N (InstAt.of_news a1.N (.tail _ (.head _)) (.head _)) rfl G.setA G.plainO (G.taker x hx) G.hasD (r.isSome x) rfl (.head λp hp=>?_) (by rw[r'.length];exact dA (uY ..) (iD ‹_› (by decide))) λh' F' N'=>
  hq _ (lD b m _ rest ⟨⟨a1.B,a1.turn,a1.D,F',N'⟩,.self r' hd hs hn,a3,a4,a5,a6⟩)
 rcases xB hp with rfl|hp
 ·exact hn
 ·exact hd p hp
noncomputable def uhB (x:Str)(e:AmE):T V:=if x=="s" then .ret (.str e.s)else if x=="substring_i" then .ret (.int e.sub)else if x=="result" then .ret (.int e.res)else .fail
theorem kvB {x:Str}{expr:Bool}{e:AmE}(G:adA g globT clsT methT)(S:St g c σ ts P s)(h:(V.am e,val1)∈ts)(hq:(uhB x e).sat Q):K1 g c (getAttr val1 x expr) σ ts P Q s:=by
 intro E
 refine iB (S.get h) λrest r=>?_
 refine gA r.inv λo1 r2=>?_;obtain rfl:=o1
 obtain⟨d,es,n,sl,ha,hd,o2,o3,o4⟩:=r2;refine iB o2 λt1 e1=>?_;refine iB o3 λt2 e2=>?_;refine iB o4 λt3 e3=>?_
 have go:∀(v:V) (val:Value),x∈(["s","substring_i","result"]:List Str)->PySem.W.getL x es=some (some val)->(∀rest,VR g rest v val)->Q v->wpAny g.M c.A (getAttr (.ref e.addr) x expr) (λval s'=>∃v,Q v/\St g c σ ((v,val)::ts) P s') E s:=λv val hx hl hr hq=>by
  refine gA (G.am x hx) λhg hf=>?_
  refine St.el (id S) λb m mo rest' a1 a2 ø ø ø ø ø=>?_
  exact get_own (n:=n) a1.F a1.X (InstAt.of_K (a1.X.keeps a1.F.keep) ha hd) hg G.amD hf rfl hl (hr []).handed (jA v hq ((S.toks _).imm hr))
 unfold uhB at hq
 split at hq
 ·rename_i q
  have q:=beq_iff_eq.mp q
  subst q
  exact go _ _ (.head _) e1 (λø=>.str _ _) hq
 ·split at hq
  ·rename_i q
   have q:=beq_iff_eq.mp q
   subst q
   exact go _ _ (.tail _ (.head _)) e2 (λø=>.int _ _) hq
  ·split at hq
   ·rename_i q
    have q:=beq_iff_eq.mp q
    subst q
    exact go _ _ (.tail _ (.tail _ (.head _))) e3 (λø=>.int _ _) hq
   ·exact hq.elim
theorem wwA {x:Str}{pos:Pos}{v:V}(G:adA g globT clsT methT)(S:St g c σ ts P s)(hl:scK c.sc x=some .globalImplicit)(hd:(x==("__debug__":Str))=false)(hv:globT.lookup x=some v)(hq:Q v):
  K1 g c (eval (.Name x pos) c.env) σ ts P Q s:=by
 intro E
 refine iA (G.globs x v hv) λval e r=>?_
 refine St.el (id S) λb m mo rest' a1 a2 ø ø ø ø ø=>?_
 exact name_K a1.F a1.X (topRead_of a1.T) e (jA v hq (S.imm λø=>r.mono λø h=>by cases h)) c.hk hl hd
theorem vgB {x:Str}{expr:Bool}{v:V}(G:adA g globT clsT methT)(S:St g c σ ts P s)(hv:clsT.lookup x=some v)(hq:Q v):K1 g c (getAttr (.ref g.cls) x expr) σ ts P Q s:=by
 intro E
 refine xiA (G.clsV x v hv) λmc val h1 h2 h3 h4 r=>?_
 refine St.el (id S) λb m mo rest' a1 a2 ø ø ø ø ø=>?_
 exact cls_val a1.F a1.X h1 h2 h3 h4 (jA v hq ((S.toks _).imm λø=>r.mono λø h=>by cases h))
theorem uoA {x:Str}{pos:Pos}{id':String}{E:Value->Shared->Prop}{Q:Value->Shared->Prop}(S:St g c σ ts P s)(hl:scK c.sc x=some .globalImplicit)(hd:(x==("__debug__":Str))=false)(hn:x≠"__name__")
  (e:nsIn g.K mainGlobals x=some none) (hv:bootBuiltins x=some (.builtin id')) (hq:Q (.builtin id') s):wpAny g.M c.A (eval (.Name x pos) c.env) Q E s:=by
 refine St.el S λb m mo rest' a1 a2 ø ø ø ø ø=>?_
 exact name_B a1.F a1.X (topRead_of a1.T) e hv hn hq c.hk hl hd
end
structure Tb where
 sc:Scope
 globT:List (Str×V)
 clsT:List (Str×V)
 methT:List (Str×Addr)
 fnT:List (Str×Addr)
 bltT:List (Str×String)
 call:Addr->List V->Mu->T (V×Mu)
noncomputable def isStar:Expr->Bool
 | .Starred .. =>true
 |_=>false
noncomputable def yB (es:List Expr):Bool:=es.all λe=>!isStar e
noncomputable def xW:List V->Option (List Str)
 |[]=>some []
 | .str x::r=>(xW r).map (x::·)
 |_=>none
noncomputable def lenOf:V->Option Nat
 | .str x=>some x.length
 | .sl xs=>some xs.length
 | .il xs=>some xs.length
 | .aml xs=>some xs.length
 |_=>none
noncomputable def jfA (id:String)(vs:List V):T V:=match vs with
 |[a]=>if id=="len" then(match lenOf a with|some n=>.need (decide (n<=big)) (.ret (.int n))|none=>.fail)
  else if id=="ord" then(match a.s? with|some x=>.need (decide (x.length=1)) (.ret (.int (x.cps.getD 0 0)))|none=>.fail)else .fail
 |[a,b]=>if id=="min" then(match a.i? with|some a=>(match b.i? with|some b=>.ret (.int (if b<a then b else a))|none=>.fail)|none=>.fail)else .fail
 |_=>.fail
noncomputable def zW (x:Str)(vs:List V):T V:=match vs with
 |[.str y]=>.ret (.bool (Txt.endswith x y))
 |_=>.fail
noncomputable def dE (f:Expr->AS->T (V×AS)):List Expr->AS->T (List V×AS)
 |[],σ=>.ret ([],σ)
 |e::r,σ=>(f e σ).bind λx=>(dE f r x.2).bind λy=>.ret (x.1::y.1,y.2)
noncomputable def lfA (fc:Expr->AS->T (Bool×AS))(op:BoolOp):List Expr->AS->T (Bool×AS)
 |[],σ=>.ret (match op with| .And=>true| .Or=>false,σ)
 |e::r,σ=>(fc e σ).bind λx=>match op with
  | .And=>.ite x.1 (lfA fc op r x.2) (.ret (false,x.2))
  | .Or=>.ite x.1 (.ret (true,x.2)) (lfA fc op r x.2)
noncomputable def aX (f:Expr->AS->T (V×AS))(op:BoolOp):List Expr->AS->T (V×AS)
 |[],_=>.fail
 |[e],σ=>f e σ
 |e::r,σ=>(f e σ).bind λx=>(qH x.1).bind λb=>match op with
  | .And=>.ite b (aX f op r x.2) (.ret x)
  | .Or=>.ite b (.ret x) (aX f op r x.2)
noncomputable def mL (t:Tb)(x:Str)(σ:AS):T (V×AS):=if x=="__debug__" then .fail else match scK t.sc x with
 |some .local=>(match σ.ρ.lookup x with|some v=>.ret (v,σ)|none=>.fail)
 |some .globalImplicit=>(match t.globT.lookup x with|some v=>.ret (v,σ)|none=>.fail)
 |_=>.fail
noncomputable def uS (t:Tb)(v:V)(x:Str)(σ:AS):T V:=match v with
 | .self=>(match σ.μ with
  |⟨some F,none⟩=>if fieldNames.contains x then(match F.lookup x with|some v=>.ret v|none=>.fail)else .fail
  |_=>.fail)
 | .am e=>uhB x e
 | .top 642=>(match t.clsT.lookup x with|some v=>.ret v|none=>.fail)
 |_=>.fail
noncomputable def pS (f:Expr->AS->T (V×AS)):Option Expr->AS->T (V×AS)
 |none,σ=>.ret (.none,σ)
 |some e,σ=>f e σ
noncomputable def bP:Expr->Bool
 | .UnaryOp .Not _ _=>false
 | .BoolOp .. =>false
 | .IfExp .. =>false
 | .Compare .. =>false
 |_=>true
noncomputable def rpA (t:Tb)(f:Expr->AS->T (V×AS))(fc:Expr->AS->T (Bool×AS))(e:Expr)(σ:AS):T (V×AS):=match e with
 | .Constant (.int i) _ _=>.ret (.int i,σ)
 | .Constant (.str x) _ _=>.ret (.str x,σ)
 | .Constant (.bool b) _ _=>.ret (.bool b,σ)
 | .Constant .none _ _=>.ret (.none,σ)
 | .Name x _=>mL t x σ
 | .BinOp l op r _=>(f l σ).bind λx=>(f r x.2).bind λy=>(gV op x.1 y.1).bind λv=>.ret (v,y.2)
 | .Compare l [op] [r] _=>if behindInMarks op r then .fail else(f l σ).bind λx=>(f r x.2).bind λy=>(tS op x.1 y.1).bind λv=>.ret (v,y.2)
 | .UnaryOp op x _=>(f x σ).bind λx=>(ohB op x.1).bind λv=>.ret (v,x.2)
 | .BoolOp op es _=>aX f op es σ
 | .IfExp c a b _=>(fc c σ).bind λx=>.ite x.1 (f a x.2) (f b x.2)
 | .Attribute (.Name n np) x _=>(f (.Name n np) σ).bind λo=>(uS t o.1 x o.2).bind λv=>.ret (v,o.2)
 | .Subscript value (.Slice lo hi none _) _=>(f value σ).bind λo=>(pS f lo o.2).bind λl=>(pS f hi l.2).bind λu=>(qQ o.1 l.1 u.1).bind λv=>.ret (v,u.2)
 | .Subscript value slice _=>if ymA slice then .fail else(f value σ).bind λo=>(f slice o.2).bind λi=>(cV o.1 i.1).bind λv=>.ret (v,i.2)
 | .Tuple es _ _=>if yB es&&decide (es.length<=30)then(dE f es σ).bind λx=>.ret (.tup x.1,x.2)else .fail
 | .List es _=>if yB es&&decide (es.length<=30)then(dE f es σ).bind λx=>(match xW x.1 with|some xs=>.ret (.sl xs,x.2)|none=>.fail)else .fail
 | .Call (.Name n np) es [] pos=>if yB es&&decide (es.length<=10)then(match scK t.sc n,t.fnT.lookup n,t.bltT.lookup n with
   |some .globalImplicit,some fa,_=>(dE f es σ).bind λx=>(t.call fa x.1 x.2.μ).bind λy=>.ret (y.1,{x.2 with μ:=y.2})
   |some .globalImplicit,none,some id=>(dE f es σ).bind λx=>(jfA id x.1).bind λv=>.ret (v,x.2)
   |_,_,_=>.fail)else .fail
 | .Call (.Attribute (.Name n np) m apos) es [] pos=>if yB es&&decide (es.length<=10)&&apos.endLine==pos.line then(f (.Name n np) σ).bind λo=>(match o.1 with
   | .self=>(match t.methT.lookup m,o.2.μ with
    |some fa,⟨some F,none⟩=>if(F.lookup m).isNone then(dE f es o.2).bind λx=>(t.call fa (.self::x.1) x.2.μ).bind λy=>.ret (y.1,{x.2 with μ:=y.2})else .fail
    |_,_=>.fail)
   | .str x=>if m=="endswith" then(dE f es o.2).bind λy=>(zW x y.1).bind λv=>.ret (v,y.2)else .fail
   |_=>.fail)else .fail
 |_=>.fail
noncomputable def thB (_t:Tb)(f:Expr->AS->T (V×AS))(fc:Expr->AS->T (Bool×AS))(e:Expr)(σ:AS):T (Bool×AS):=match e with
 | .UnaryOp .Not x _=>(fc x σ).bind λb=>.ret (!b.1,b.2)
 | .BoolOp op es _=>lfA fc op es σ
 | .Compare l [op] [r] _=>if behindInMarks op r then .fail else(f l σ).bind λx=>(f r x.2).bind λy=>(tS op x.1 y.1).bind λv=>(qH v).bind λb=>.ret (b,y.2)
 |e=>if bP e then(f e σ).bind λx=>(qH x.1).bind λb=>.ret (b,x.2)else .fail
noncomputable def ai (t:Tb):Nat->(Expr->AS->T (V×AS))×(Expr->AS->T (Bool×AS))
 |0=>(λ_ _=>.fail,λ_ _=>.fail)
 |n+1=>(rpA t (ai t n).1 (ai t n).2,thB t (ai t n).1 (ai t n).2)
set_option genInjectivity true in
inductive Out where
 |next
 |brk
 |cont
 |ret (v:V)
 |exc (a:Addr)
noncomputable def qN:Expr->Bool
 | .ListComp .. | .SetComp .. | .DictComp .. =>true
 |_=>false
noncomputable def eV (o:V)(x:Str)(v:V)(σ:AS):T AS:=match o,σ.μ with
 | .self,⟨some F,none⟩=>if fieldNames.contains x&&decide (F.length<=900)then .ret {σ with μ:=⟨some (pH x v F),none⟩}else .fail
 |_,_=>.fail
noncomputable def jzA:Operator->Bool
 | .Sub=>true
 |_=>false
theorem xmA {op:Operator}(h:jzA op=true):op=.Sub:=by cases op<;>first|exact nof h|rfl
noncomputable def fV (op:Operator)(a b:V):T V:=match a.i? with
 |some x=>(match b.i? with|some y=>if isAdd op then .ret (.int (x+y))else if jzA op then .ret (.int (x-y))else .fail|none=>.fail)
 |none=>match a.s? with
  |some x=>(match b.s? with|some y=>if isAdd op then .need (jD x y) (.ret (.str (x++y)))else .fail|none=>.fail)
  |none=>.fail
noncomputable def rS:Expr->Bool
 | .Call .. =>true
 |_=>false
noncomputable def noRef:V->Bool
 | .none| .bool _| .int _| .str _=>true
 |_=>false
noncomputable def xZ:List (Str×Addr):=[("lab0",654),("lab1",667),("lab2",680)]
noncomputable def aiB (f:Stmt->AS->T (Out×AS)):List Stmt->AS->T (Out×AS)
 |[],σ=>.ret (.next,σ)
 |st::r,σ=>(f st σ).bind λx=>match x.1 with
  | .next=>aiB f r x.2
  |o=>.ret (o,x.2)
noncomputable def phB (t:Tb)(fe:Expr->AS->T (V×AS))(fc:Expr->AS->T (Bool×AS))(fb:List Stmt->AS->T (Out×AS))(st:Stmt)(σ:AS):T (Out×AS):=match st with
 | .Return (some e) _=>(fe e σ).bind λx=>.ret (.ret x.1,x.2)
 | .Assign [.Name x _] e _=>if qN e||scK t.sc x !=some .local then .fail else(fe e σ).bind λv=>.ret (.next,{v.2 with ρ:=pH x v.1 v.2.ρ})
 | .Assign [.Attribute (.Name n np) x _] e _=>if qN e then .fail else(fe e σ).bind λv=>(fe (.Name n np) v.2).bind λo=>(eV o.1 x v.1 o.2).bind λσ'=>.ret (.next,σ')
 | .AugAssign (.Name x _) op e _=>if scK t.sc x !=some .local then .fail else(mL t x σ).bind λa=>(fe e a.2).bind λy=>(fV op a.1 y.1).bind λv=>.ret (.next,{y.2 with ρ:=pH x v y.2.ρ})
 | .AugAssign (.Attribute (.Name n np) x _) op e _=>(fe (.Name n np) σ).bind λo=>(uS t o.1 x o.2).bind λa=>(fe e o.2).bind λy=>(fV op a y.1).bind λv=>(eV o.1 x v y.2).bind λσ'=>.ret (.next,σ')
 | .If c a b _=>(fc c σ).bind λx=>.ite x.1 (fb a x.2) (fb b x.2)
 | .Expr e _=>if rS e then(fe e σ).bind λx=>if noRef x.1 then .ret (.next,x.2)else .fail else .fail
 | .Pass _=>.ret (.next,σ)
 | .Break _=>.ret (.brk,σ)
 | .Continue _=>.ret (.cont,σ)
 | .Assert c _ _=>(fc c σ).bind λx=>.need x.1 (.ret (.next,x.2))
 | .Raise (some (.Call (.Name n _) [] [] _)) none _=>(match scK t.sc n,xZ.lookup n with|some .globalImplicit,some a=>.ret (.exc a,σ)|_,_=>.fail)
 | .Try body [.ExceptHandler (some (.Name n _)) none [.Pass _] _] [] [] _=>(match scK t.sc n,xZ.lookup n with
  |some .globalImplicit,some a=>(fb body σ).bind λx=>(match x.1 with| .exc b=>if a=b then .ret (.next,x.2)else .fail|o=>.ret (o,x.2))
  |_,_=>.fail)
 | .While (.Constant (.bool true) _ _) body [] _=>(fb body σ).bind λx=>(match x.1 with| .brk=>.ret (.next,x.2)| .ret v=>.ret (.ret v,x.2)| .exc a=>.ret (.exc a,x.2)|_=>.fail)
 |_=>.fail
noncomputable def aiS (t:Tb):Nat->Stmt->AS->T (Out×AS)
 |0=>λ_ _=>.fail
 |n+1=>phB t (ai t 20).1 (ai t 20).2 (aiB (aiS t n))
set_option tactic.hygienic true
noncomputable abbrev PV (g:Gr)(c:Cx)(Q:V×AS->Prop)(ts:List (V×Value))(P:List (Addr×Obj))(val:Value)(s':Shared):Prop:=∃v σ',Q (v,σ')/\St g c σ' ((v,val)::ts) P s'
noncomputable abbrev PC (g:Gr)(c:Cx)(Q:Bool×AS->Prop)(ts:List (V×Value))(P:List (Addr×Obj))(b:Bool)(s':Shared):Prop:=∃σ',Q (b,σ')/\St g c σ' ts P s'
noncomputable abbrev PVs (g:Gr)(c:Cx)(Q:List V×AS->Prop)(ts:List (V×Value))(P:List (Addr×Obj))(vals:List Value)(s':Shared):Prop:=∃vs σ',Q (vs,σ')/\vs.length=vals.length/\St g c σ' (vs.zip vals++ts) P s'
noncomputable abbrev EV (g:Gr)(c:Cx)(e:Expr)(σ:AS)(Q:V×AS->Prop):Prop:=
 ∀(E:Value->Shared->Prop) (ts:List (V×Value)) (P:List (Addr×Obj)) (s:Shared),St g c σ ts P s->wpAny g.M c.A (eval e c.env) (PV g c Q ts P) E s
noncomputable abbrev EC (g:Gr)(c:Cx)(e:Expr)(σ:AS)(Q:Bool×AS->Prop):Prop:=
 ∀(E:Value->Shared->Prop) (ts:List (V×Value)) (P:List (Addr×Obj)) (s:Shared),St g c σ ts P s->wpAny g.M c.A (isTrue e c.env (eval e c.env)) (PC g c Q ts P) E s
noncomputable abbrev EVs (g:Gr)(c:Cx)(es:List Expr)(σ:AS)(Q:List V×AS->Prop):Prop:=
 ∀(E:Value->Shared->Prop) (pos:Pos) (ts:List (V×Value)) (P:List (Addr×Obj)) (s:Shared),St g c σ ts P s->
  wpAny g.M c.A (spliced (backTo pos (starEach es c.env))) (PVs g c Q ts P) E s
noncomputable def bqA (g:Gr)(c:Cx)(f:Addr)(vs:List V)(σ:AS)(Q:V×Mu->Prop):Prop:=
 ∀(E:Value->Shared->Prop) (ts:List (V×Value)) (P:List (Addr×Obj)) (s:Shared) (vals:List Value),vs.length=vals.length->St g c σ (vs.zip vals++ts) P s->
  wpAny g.M c.A (call (.ref f) vals) (λval s'=>∃v μ',Q (v,μ')/\St g c {σ with μ:=μ'} ((v,val)::ts) P s') E s
structure mB (g:Gr) (t:Tb) (c:Cx):Prop where
 sc:c.sc=t.sc
 gr:adA g t.globT t.clsT t.methT
 cls:g.cls=642
 fn:∀x f,t.fnT.lookup x=some f->nsIn g.K mainGlobals x=some (some (.ref f))/\keepIn g.K (.ref f)=true
 meth:∀x f,t.methT.lookup x=some f->keepIn g.K (.ref f)=true
 blt:∀x i,t.bltT.lookup x=some i->nsIn g.K mainGlobals x=some none/\bootBuiltins x=some (.builtin i)/\x≠"__name__"/\(x==("__debug__":Str))=false
 fnd:∀x f,t.fnT.lookup x=some f->(x==("__debug__":Str))=false
 call:∀f vs σ Q,(t.call f vs σ.μ).sat Q->bqA g c f vs σ Q
 handled:c.A.handled=none
theorem uG {e:Expr}{r:List Expr}{env:Env}(h:isStar e=false):starEach (e::r) env=(false,eval e env)::starEach r env:=by
 induction e using PySem.Expr.casesOn<;>first|rfl|injection h
theorem kL {pos:Pos}{t:Sem Value}{r:List (Bool×Sem Value)}:backTo pos ((false,t)::r)=(false,t)::backTo pos r:=rfl
theorem xI {env:Env}{pos:Pos}:∀{es:List Expr},yB es=true->(backTo pos (starEach es env)).any (·.1)=false:=by
 intro l0
 induction l0 with
 |nil=>
  intro ø
  exact rfl
 |cons e r ih=>
  intro h
  unfold yB at h
  simp only[List.all_cons,oA,aF]at h
  rw[uG h.1,kL,List.any_cons,ih h.2]
  rfl
theorem bZ {env:Env}{pos:Pos}{es:List Expr}(h:yB es=true):(backTo pos (starEach es env)).all (λx=>!x.1)=true:=by
 have:=xI (env:=env) (pos:=pos) h
 refine(List.all_eq_true ..).mpr ?_
 intro x hx
 rw[List.any_eq_false]at this
 simpa using this x hx
section
variable {g:Gr}{t:Tb}{c:Cx}{f:Expr->AS->T (V×AS)}{fc:Expr->AS->T (Bool×AS)}
theorem pQ (IH:∀e σ Q,(f e σ).sat Q->EV g c e σ Q):∀(es:List Expr) (σ:AS) (Q:List V×AS->Prop),yB es=true->(dE f es σ).sat Q->EVs g c es σ Q:=by
 intro l0
 induction l0 with
 |nil=>
  intro σ Q ø h
  exact λE pos ts P s S=>spliced_nil (zI ([]) σ h rfl S)
 |cons e r ih=>
  intro σ Q hs h E pos ts P s S
  unfold yB at hs
  simp only[List.all_cons,oA,aF]at hs
  rw[uG hs.1,kL]
  refine spliced_cons (wpAny_mono (IH _ _ _ (cB h) E ts P s S) (λv s₁ ⟨w,σ₁,hq,S₁⟩=>?_) λø ø x=>x)
  refine wpAny_mono (ih σ₁ _ hs.2 (cB hq) E pos _ P s₁ S₁) (λvs s₂ ⟨ws,σ₂,hq₂,hl,S₂⟩=>?_) λø ø x=>x
  refine zI (w::ws) σ₂ hq₂ (congrArg (·+1) hl) (S₂.sub λx hx=>?_)
  simp only[List.zip_cons_cons,List.cons_append,List.mem_cons,List.mem_append]at hx ⊢
  rcases hx with rfl|hx|hx
  ·exact .inr (.inl rfl)
  ·exact .inl hx
  ·exact .inr (.inr hx)
theorem nhB (IH:∀e σ Q,(fc e σ).sat Q->EC g c e σ Q)(op:BoolOp):∀(es:List Expr) (σ:AS) (Q:Bool×AS->Prop) (E:Value->Shared->Prop) (ts:List (V×Value)) (P:List (Addr×Obj)) (s:Shared),(lfA fc op es σ).sat Q->St g c σ ts P s->
  wpAny g.M c.A (allTrue op es c.env) (λb s'=>∃σ',Q (b,σ')/\St g c σ' ts P s') E s:=by
 intro l0
 induction l0 with
 |nil=>
  intro σ Q E ts P s h S
  cases op<;>exact wpAny_pure (jA σ h S)
 |cons e r ih=>
  intro σ Q E ts P s h S
  have h:=cB h
  induction op using PySem.BoolOp.casesOn with
  |And=>
   refine wpAny_allTrue_And_cons (wpAny_mono (IH _ _ _ h E ts P s S) (λb s₁ ⟨σ₁,hq,S₁⟩=>?_) λø ø x=>x)
   induction b using Bool.casesOn with
   |true=>exact ih σ₁ Q E ts P s₁ (hq.1 rfl) S₁
   |false=>exact jA σ₁ (hq.2 rfl) S₁
  |Or=>
   refine wpAny_allTrue_Or_cons (wpAny_mono (IH _ _ _ h E ts P s S) (λb s₁ ⟨σ₁,hq,S₁⟩=>?_) λø ø x=>x)
   induction b using Bool.casesOn with
   |true=>exact jA σ₁ (hq.1 rfl) S₁
   |false=>exact ih σ₁ Q E ts P s₁ (hq.2 rfl) S₁
theorem wW (IH:∀e σ Q,(f e σ).sat Q->EV g c e σ Q)(op:BoolOp)(pos:Pos):∀(es:List Expr) (σ:AS) (Q:V×AS->Prop) (E:Value->Shared->Prop) (ts:List (V×Value)) (P:List (Addr×Obj)) (s:Shared),(aX f op es σ).sat Q->St g c σ ts P s->
  wpAny g.M c.A (boolOp pos op (evalEach es c.env)) (λval s'=>∃v σ',Q (v,σ')/\St g c σ' ((v,val)::ts) P s') E s
 |[],_,_,_,_,_,_,h,ø=>h.elim
 |[e],σ,Q,E,ts,P,s,h,S=>IH _ _ _ h E ts P s S
 |e::e'::r,σ,Q,E,ts,P,s,h,S=>by
  have h:=cB h
  refine wpAny_bind (wpAny_mono (IH _ _ _ h E ts P s S) (λv s₁ ⟨w,σ₁,hq,S₁⟩=>wpAny_bind (wpAny_standAt (wpAny_bind (wpAny_holding (wpAny_mono (uK S₁ (.head _) (cB hq) E) (λb s₂ ⟨hb,S₂⟩=>?_) λø ø x=>x))))) λø ø x=>x)
  induction op using PySem.BoolOp.casesOn with
  |And=>
   induction b using Bool.casesOn with
   |true=>exact wW IH .And pos (e'::r) σ₁ Q E ts P s₂ (hb.1 rfl) S₂.drop
   |false=>exact wpAny_pure (zA w σ₁ (hb.2 rfl) S₂)
  |Or=>
   induction b using Bool.casesOn with
   |true=>exact wpAny_pure (zA w σ₁ (hb.1 rfl) S₂)
   |false=>exact wW IH .Or pos (e'::r) σ₁ Q E ts P s₂ (hb.2 rfl) S₂.drop
theorem gvA (O:mB g t c){x:Str}{pos:Pos}{σ:AS}{Q:V×AS->Prop}(h:(mL t x σ).sat Q):EV g c (.Name x pos) σ Q:=λE ts P s S=>by
 unfold mL at h
 split at h
 ·exact h.elim
 ·rename_i hd
  have hd:=cH hd
  rw[<-O.sc]at h
  split at h
  ·rename_i hl
   split at h
   ·rename_i v hv
    exact wpAny_mono (emA (Q:=λv=>Q (v,σ)) S hl hd hv h E) (λval s' o1=>by refine iA o1 λv hq S'=>?_;exact zA v σ hq S') λø ø x=>x
   ·exact h.elim
  ·rename_i hl
   split at h
   ·rename_i v hv
    exact wpAny_mono (wwA (Q:=λv=>Q (v,σ)) O.gr S hl hd hv h E) (λval s' o2=>by refine iA o2 λv hq S'=>?_;exact zA v σ hq S') λø ø x=>x
   ·exact h.elim
  ·exact h.elim
theorem efA (O:mB g t c){v:V}{val:Value}{x:Str}{expr:Bool}{σ:AS}{ts:List (V×Value)}{P:List (Addr×Obj)}{s:Shared}{Q:V->Prop}(S:St g c σ ts P s)(hv:(v,val)∈ts)(h:(uS t v x σ).sat Q):K1 g c (getAttr val x expr) σ ts P Q s:=by
 unfold uS at h
 split at h
 ·refine iB (S.get hv) λrest r=>?_
  obtain rfl:=r.inv
  split at h
  ·rename_i F hF
   split at h
   ·rename_i hx
    split at h
    ·rename_i v hv
     exact agB O.gr S (by rw[hF]) (List.contains_iff_mem.mp hx) hv h
    ·exact h.elim
   ·exact h.elim
  ·exact h.elim
 ·exact kvB O.gr S hv h
 ·refine iB (S.get hv) λrest r=>?_
  obtain rfl:=r.inv
  split at h
  ·rename_i v hv
   have:=vgB (expr:=expr) O.gr S hv h
   rw[O.cls]at this
   exact this
  ·exact h.elim
 ·exact h.elim
end
section
variable {g:Gr}{t:Tb}{c:Cx}{f:Expr->AS->T (V×AS)}{fc:Expr->AS->T (Bool×AS)}{σ:AS}{ts:List (V×Value)}{P:List (Addr×Obj)}{s:Shared}
theorem St.keeps (S:St g c σ ts P s){h':Heap}{tk:Nat}(k:∀a o,s.heap.get? a=some o->h'.get? a=some o):St g c σ ts P {s with heap:=h',toks:=tk}:=
 S.turn λb m news F N=>⟨⟨F.ns.at' λo e=>k _ o e,λa o e=>k a o (F.keep a o e),F.above⟩,λp hp=>⟨k _ _ (N p hp).1,(N p hp).2⟩⟩
theorem mzA {n:Nat}(h:n<=big):(n:Int)<2 ^ 63:=by unfold big at h;exact kJ (iD ‹_› (by decide))
theorem yuA {prog:Program}{w:World}{A:Around}{E:Value->Shared->Prop}{x:Str}{u:Tok}{Q:Value->Shared->Prop}(hx:x.length=1)(h:Q (.int (x.cps.getD 0 0) s.toks) {s with toks:=s.toks+1}):wpAny (model prog w) A (call (.builtin "ord") [.str x u]) Q E s:=by
 obtain⟨a⟩:=x
 obtain⟨l⟩:=a
 match l,hx,h with
 |[k],ø,h=>exact PySem.P.ord_of_char h
theorem tbA {a:Addr}{vals:List Value}{n m:Nat}{Q:V->Prop}{E:Value->Shared->Prop}(S:St g c σ ts P s){o:Obj}(hg:s.heap.get? a=some o)(hc:o.cls=.type "list")(hd:o.data=.seq vals.toArray n)(hl:vals.length=m)(hm:m<=big)(h:Q (.int m)):
  wpAny g.M c.A (call (.builtin "len") [.ref a]) (λval s'=>∃v,Q v/\St g c σ ((v,val)::ts) P s') E s:=by
 have e:((vals.toArray.size:Nat):Int)=(m:Int):=by rw[List.size_toArray,hl]
 refine PyProof.Rows.len_list (zG o hg hc (yC n hd)) (by rw[e];exact mzA hm) ?_
 rw[e]
 exact jA _ h (S.int _ _ _)
theorem len0 {α:Type}{l:List α}(h:l.length=0):l=[]:=List.eq_nil_of_length_eq_zero h
theorem bQ {α:Type}{l:List α}{n:Nat}(h:l.length=n+1):∃a r,l=a::r/\r.length=n:=by
 induction l using List.casesOn with
 |nil=>exact absurd h (Nat.succ_ne_zero n).symm
 |cons a r=>exact zA a r rfl (Nat.succ.inj h)
theorem mmA {v:V}{val:Value}{n:Nat}{Q:V->Prop}{E:Value->Shared->Prop}(S:St g c σ ts P s)(hv:(v,val)∈ts)(hn:lenOf v=some n)(hm:n<=big)(h:Q (.int n)):
  wpAny g.M c.A (call (.builtin "len") [val]) (λval s'=>∃v,Q v/\St g c σ ((v,val)::ts) P s') E s:=by
 refine iA (S.getNews hv) λrest r k=>?_
 cases r with
 |str x t=>
  have o1:=inj hn;clear hn;obtain rfl:=o1
  exact len_str (by have:=mzA hm;exact ar4 this) (jA _ h (S.int _ _ _))
 |sl hm' r=>
  have o2:=inj hn;clear hn;obtain rfl:=o2
  exact tbA S (k _ hm') rfl rfl r.length hm h
 |il hm' r=>
  have o3:=inj hn;clear hn;obtain rfl:=o3
  exact tbA S (k _ hm') rfl rfl (anA r) hm h
 |aml hm' r=>
  have o4:=inj hn;clear hn;obtain rfl:=o4
  exact tbA S (S.getK hm') rfl rfl ((List.length_map ..)) hm h
 |_=>exact no hn
theorem voA {id':String}{vs:List V}{vals:List Value}{Q:V->Prop}(hh:c.A.handled=none)(S:St g c σ (vs.zip vals++ts) P s)(hl:vs.length=vals.length)(h:(jfA id' vs).sat Q):K1 g c (call (.builtin id') vals) σ (vs.zip vals++ts) P Q s:=by
 intro E
 unfold jfA at h
 split at h
 ·refine iB (List.length_eq_one_iff.mp hl.symm) λval o1=>?_;obtain rfl:=o1
  split at h
  ·rename_i e
   rw[beq_iff_eq.mp e]
   split at h
   ·rename_i hn
    refine gA (uD h) λhm h=>?_
    exact mmA S (.head _) hn (bB hm) h
   ·exact h.elim
  ·split at h
   ·rename_i e
    rw[beq_iff_eq.mp e]
    split at h
    ·rename_i hx
     refine gA (uD h) λhn h=>?_
     have o2:=V.s?_eq hx;clear hx;obtain rfl:=o2
     refine iB (S.getStr (.head _)) λu o3=>?_;obtain rfl:=o3
     exact yuA (bB hn) (jA _ h (S.int _ _ _))
    ·exact h.elim
   ·exact h.elim
 ·refine jB (bQ hl.symm) λval r o5 e1=>?_;obtain rfl:=o5
  refine jB (bQ e1) λval' r o7 e2=>?_;obtain rfl:=o7
  have o9:=len0 e2;clear e2;obtain rfl:=o9
  split at h
  ·rename_i e
   rw[beq_iff_eq.mp e]
   split at h
   ·rename_i ha
    split at h
    ·rename_i b hb
     have o10:=V.i?_eq ha;clear ha;obtain rfl:=o10
     have o11:=V.i?_eq hb;clear hb;obtain rfl:=o11
     refine iB (S.getInt (.head _)) λu o12=>?_;obtain rfl:=o12
     refine iB (S.getInt (.tail _ (.head _))) λu' o14=>?_;obtain rfl:=o14
     refine min_two_ints hh λh' tk k=>?_
     have S':=S.keeps (tk:=tk) k
     split at h
     ·rename_i q
      rw[if_pos q]
      exact jA _ h (S'.int _ _ _)
     ·rename_i q
      rw[if_neg q]
      exact jA _ h (S'.int _ _ _)
    ·exact h.elim
   ·exact h.elim
  ·exact h.elim
 ·exact h.elim
end
section
variable {g:Gr}{t:Tb}{c:Cx}{f:Expr->AS->T (V×AS)}{fc:Expr->AS->T (Bool×AS)}{σ:AS}{ts:List (V×Value)}{P:List (Addr×Obj)}{s:Shared}
theorem St.two {a b d:V×Value}(S:St g c σ (a::b::d::ts) P s):St g c σ (a::ts) P s:=S.sub λx hx=>by
 rcases xB hx with rfl|hx
 ·exact .head _
 ·exact .tail _ (.tail _ (.tail _ hx))
theorem St.one {a b:V×Value}(S:St g c σ (a::b::ts) P s):St g c σ (a::ts) P s:=S.sub λx hx=>by
 rcases xB hx with rfl|hx
 ·exact .head _
 ·exact .tail _ (.tail _ hx)
theorem St.many {a:V×Value}{l:List (V×Value)}(S:St g c σ (a::(l++ts)) P s):St g c σ (a::ts) P s:=S.sub λx hx=>by
 rcases xB hx with rfl|hx
 ·exact .head _
 ·exact .tail _ (eE _ hx)
theorem woA (IH:∀e σ Q,(f e σ).sat Q->EV g c e σ Q){l r:Expr}{op:Operator}{pos:Pos}{Q:V×AS->Prop}
  (h:((f l σ).bind λx=>(f r x.2).bind λy=>(gV op x.1 y.1).bind λv=>.ret (v,y.2)).sat Q):EV g c (.BinOp l op r pos) σ Q:=λE ts P s S=>
 wpAny_BinOp (wpAny_mono (IH _ _ _ (cB h) E ts P s S) (λø ø o6=>by refine jB o6 λø ø h1 S1=>?_;exact wpAny_mono (IH _ ø _ (cB h1) E _ P _ S1) (λø ø o5=>by refine jB o5 λø ø h2 S2=>?_;exact wpAny_mono (tcA S2 (.tail _ (.head _)) (.head _) (cB h2) E) (λ_ _ o3=>by refine iA o3 λv h3 S3=>?_;exact zA v ø h3 S3.two) λø ø x=>x) λø ø x=>x) λø ø x=>x)
theorem noA (IH:∀e σ Q,(f e σ).sat Q->EV g c e σ Q){l r:Expr}{op:CmpOp}{pos:Pos}{Q:V×AS->Prop}
  (h:(if behindInMarks op r then .fail else(f l σ).bind λx=>(f r x.2).bind λy=>(tS op x.1 y.1).bind λv=>.ret (v,y.2):T (V×AS)).sat Q):EV g c (.Compare l [op] [r] pos) σ Q:=λE ts P s S=>by
 split at h
 ·exact h.elim
 ·rename_i hb
  exact wpAny_Compare1 (wpAny_mono (IH _ _ _ (cB h) E ts P s S) (λø ø o6=>by refine jB o6 λø ø h1 S1=>?_;exact wpAny_mono (IH _ ø _ (cB h1) E _ P _ S1) (λø ø o5=>by refine jB o5 λø ø h2 S2=>?_;exact wpAny_mono (ocA S2 (.tail _ (.head _)) (.head _) (cB h2) E) (λ_ _ o3=>by refine iA o3 λv h3 S3=>?_;exact zA v ø h3 S3.two) λø ø x=>x) λø ø x=>x) λø ø x=>x) (cH hb)
theorem iiA (IH:∀e σ Q,(f e σ).sat Q->EV g c e σ Q){l r:Expr}{op:CmpOp}{pos:Pos}{Q:Bool×AS->Prop}
  (h:(if behindInMarks op r then .fail else(f l σ).bind λx=>(f r x.2).bind λy=>(tS op x.1 y.1).bind λv=>(qH v).bind λb=>.ret (b,y.2):T (Bool×AS)).sat Q):EC g c (.Compare l [op] [r] pos) σ Q:=λE ts P s S=>by
 split at h
 ·exact h.elim
 ·rename_i hb
  exact wpAny_isTrue_Compare1 (wpAny_mono (IH _ _ _ (cB h) E ts P s S) (λø ø o10=>by refine jB o10 λø ø h1 S1=>?_;exact wpAny_mono (IH _ ø _ (cB h1) E _ P _ S1) (λø ø o9=>by refine jB o9 λø ø h2 S2=>?_;exact wpAny_mono (ocA S2 (.tail _ (.head _)) (.head _) (cB h2) E) (λ_ _ o7=>by refine iA o7 λv h3 S3=>?_;exact wpAny_mono (uK S3 (.head _) (cB h3) E) (λb _ o4=>by refine gA o4 λh4 S4=>?_;exact jA ø h4 S4.drop.drop.drop) λø ø x=>x) λø ø x=>x) λø ø x=>x) λø ø x=>x) (cH hb)
theorem zT (IH:∀e σ Q,(f e σ).sat Q->EV g c e σ Q){o:Option Expr}{Q:V×AS->Prop}(h:(pS f o σ).sat Q)(E:Value->Shared->Prop)(S:St g c σ ts P s):
  wpAny g.M c.A (evalPart o c.env) (λval s'=>∃v σ',Q (v,σ')/\St g c σ' ((v,val)::ts) P s') E s:=by
 induction o using Option.casesOn with
 |none=>exact wpAny_evalPart_none (zA .none σ h (S.imm λø=>.none))
 |some e=>exact wpAny_evalPart_some (IH _ _ _ h E ts P s S)
theorem dbA (IH:∀e σ Q,(f e σ).sat Q->EV g c e σ Q){value:Expr}{lo hi:Option Expr}{p pos:Pos}{Q:V×AS->Prop}
  (h:((f value σ).bind λo=>(pS f lo o.2).bind λl=>(pS f hi l.2).bind λu=>(qQ o.1 l.1 u.1).bind λv=>.ret (v,u.2)).sat Q):EV g c (.Subscript value (.Slice lo hi none p) pos) σ Q:=λE ts P s S=>by
 refine Subscript_ (wpAny_mono (IH _ _ _ (cB h) E ts P s S) (λø ø ⟨_,ø,h1,S1⟩=>wpAny_Slice ?_) λø ø x=>x)
 refine wpAny_mono (zT IH (cB h1) E S1) (λø ø ⟨_,ø,h2,S2⟩=>wpAny_mono (zT IH (cB h2) E S2) (λø ø ⟨_,ø,h3,S3⟩=>wpAny_evalPart_none ?_) λø ø x=>x) λø ø x=>x
 exact wpAny_mono (ikA S3 (.tail _ (.tail _ (.head _))) (.tail _ (.head _)) (.head _) (cB h3) E) (λø ø o4=>by refine iA o4 λv h4 S4=>?_;exact zA v _ h4 S4.two.one) λø ø x=>x
theorem xfA (IH:∀e σ Q,(f e σ).sat Q->EV g c e σ Q){value slice:Expr}{pos:Pos}{Q:V×AS->Prop}
  (h:(if ymA slice then .fail else(f value σ).bind λo=>(f slice o.2).bind λi=>(cV o.1 i.1).bind λv=>.ret (v,i.2):T (V×AS)).sat Q):EV g c (.Subscript value slice pos) σ Q:=λE ts P s S=>by
 split at h
 ·exact h.elim
 ·rename_i hb
  exact Subscript_ (wpAny_mono (IH _ _ _ (cB h) E ts P s S) (λø ø o6=>by refine jB o6 λø ø h1 S1=>?_;exact wpAny_mono (IH _ ø _ (cB h1) E _ P _ S1) (λø ø o5=>by refine jB o5 λø ø h2 S2=>?_;exact wpAny_mono (zaA (cH hb) S2 (.tail _ (.head _)) (.head _) (cB h2) E) (λ_ _ o3=>by refine iA o3 λv h3 S3=>?_;exact zA v ø h3 S3.two) λø ø x=>x) λø ø x=>x) λø ø x=>x)
theorem St.push (S:St g c σ ts P s){o:Obj}{v:V}(hfree:o.isFreed=false)(hdd:∀F R,σ.μ=⟨F,R⟩->True)
  (r:∀rest,(∀t∈ts,VR g rest t.1 t.2)->VR g ((s.heap.objs.size,o)::rest) v (.ref s.heap.objs.size)):
  St g c σ ((v,.ref s.heap.objs.size)::ts) P {s with heap:=s.heap.push o}:=by
 refine St.el S λb m mo rest a1 a2 a3 a4 a5 o1 o2=>?_;have a6:=And.intro o1 o2
 have N:=a1.N.push a1.F o hfree
 have hlt:∀p∈mo,p.1≠s.heap.objs.size:=λp hp=>Nat.ne_of_lt (Heap.lt_size (a1.N p (zH _ hp)).1)
 refine lD b m mo ((s.heap.objs.size,o)::rest) ⟨⟨a1.B,a1.turn,a1.D,a1.F.push o,λp hp=>N p ?_⟩,?_,λx v hx=>?_,λt ht=>?_,λp hp=>.tail _ (a5 p hp),a6⟩
 ·refine Or.elim (dI hp) (λh=>?_) λh=>?_
  ·exact .tail _ (zH _ h)
  ·rcases xB h with rfl|h
   ·exact .head _
   ·exact .tail _ (eE _ h)
 ·exact a2.cons hlt
 ·refine iA (a3 x v hx) λval h1 h2=>?_
  exact jA val h1 (h2.mono λp hp=>.tail _ hp)
 ·rcases xB ht with rfl|ht
  ·exact r rest a4
  ·exact(a4 t ht).mono λp hp=>.tail _ hp
theorem VRs.of_zip {news:List (Addr×Obj)}{vs:List V}:∀{vals:List Value},vs.length=vals.length->(∀t∈vs.zip vals,VR g news t.1 t.2)->VRs g news vs vals:=by
 induction vs with
 |nil=>intro vals hl h;induction vals using List.casesOn with
  |nil=>exact .nil
  |cons a r=>exact nomatch hl
 |cons v vs ih=>intro vals hl h;induction vals using List.casesOn with
  |nil=>exact nomatch hl
  |cons a r=>exact .cons (h (v,a) (.head _)) (ih (Nat.succ.inj hl) λt ht=>h t (.tail _ ht))
theorem uX {news:List (Addr×Obj)}{vs:List V}:∀{xs:List Str} {vals:List Value},xW vs=some xs->vs.length=vals.length->(∀t∈vs.zip vals,VR g news t.1 t.2)->StrsAre vals xs:=by
 induction vs with
 |nil=>intro xs vals e hl h;induction vals using List.casesOn with
  |nil=>obtain rfl:=inj e;exact .nil
  |cons a r=>exact nomatch hl
 |cons v vs ih=>intro xs vals e hl h;induction vals using List.casesOn with
  |nil=>exact nomatch hl
  |cons val r=>induction v using V.casesOn with
   |str x=>
    obtain⟨ys,hy,rfl⟩:=Option.map_eq_some_iff.mp e
    obtain⟨_,rfl⟩:=(h (.str x,val) (.head _)).inv
    exact .cons _ _ (ih hy (Nat.succ.inj hl) λt ht=>h t (.tail _ ht))
   |_=>exact no e
theorem VRs.mono' {news news':List (Addr×Obj)}(hs:∀p∈news,p∈news'){vs:List V}{vals:List Value}(r:VRs g news vs vals):VRs g news' vs vals:=r.mono hs
end
section
variable {g:Gr}{t:Tb}{c:Cx}{f:Expr->AS->T (V×AS)}{fc:Expr->AS->T (Bool×AS)}{σ:AS}{ts:List (V×Value)}{P:List (Addr×Obj)}{s:Shared}
theorem wS {f:Expr->AS->T (V×AS)}:∀(es:List Expr) (σ:AS) (Q:List V×AS->Prop),(dE f es σ).sat Q->(dE f es σ).sat λx=>x.1.length=es.length/\Q x:=by
 intro l0
 induction l0 with
 |nil=>
  intro σ Q h
  exact⟨rfl,h⟩
 |cons e r ih=>
  intro σ Q h
  exact T.sat_bind.mpr (T.sat_mono (λx hx=>T.sat_bind.mpr (T.sat_mono (λy hy=>⟨congrArg (·+1) hy.1,hy.2⟩) (ih x.2 _ (cB hx)))) (cB h))
theorem DRs.getNone {news:List (Addr×Obj)}{x:Str}{F:List (Str×V)}{es:List DictEntry}(r:DRs g news F es):(F.lookup x).isNone=true->PySem.W.getL x es=some none:=by
 induction r with
 |nil=>exact λø=>rfl
 |@cons k t u val kvs es h r ih=>
  intro e
  rw[pC]at e
  by_cases hk:x=k
  ·rw[if_pos hk]at e;exact nof e
  ·rw[if_neg hk]at e
   have ih:=ih e
   unfold PySem.W.getL at ih ⊢
   have q:(Value.str k t).isStr x=false:=by exact beq_false_of_ne λz=>hk z.symm
   rw[List.find?_cons,List.any_cons]
   rw[q]
   exact ih
theorem tE (IH:∀e σ Q,(f e σ).sat Q->EV g c e σ Q){es:List Expr}{first:List Value}{fv:Value}{pos:Pos}{Q:List V×AS->Prop}{R:Value->Shared->Prop}{E:Value->Shared->Prop}
  (hk:(∃i,fv=.builtin i)\/keepIn g.K fv=true) (hs:yB es=true) (h:(dE f es σ).sat Q) (S:St g c σ ts P s)
  (k:∀vals vs σ' s',Q (vs,σ')->vs.length=vals.length->St g c σ' (vs.zip vals++ts) P s'->wpAny g.M c.A (call fv (first++vals)) R E s'):
  wpAny g.M c.A (callWith pos fv first (backTo pos (starEach es c.env)) []) R E s:=by
 have hargs:=pQ IH es σ Q hs h E pos ts P s S
 have hplain:=xI (env:=c.env) (pos:=pos) hs
 have main:wpAny g.M c.A (evalArgs fv true (backTo pos (starEach es c.env)) []) (λa s₁=>g.K.In s₁.heap/\wpAny g.M c.A (call fv (first++a.pos) a.kw) R E s₁) E s:=by
  induction es using List.casesOn with
  |nil=>
   refine evalArgs_nil3 ?_
   have:wpAny g.M c.A (spliced []) _ E s:=hargs
   have k':=k [] [] σ s h rfl S
   refine St.el S λb m mo rest a1 a2 ø ø ø ø ø=>?_
   exact⟨a1.X.keeps a1.F.keep,k'⟩
  |cons e r=>
   unfold yB at hs
   simp only[List.all_cons,oA,aF]at hs
   rw[uG hs.1,kL]at hargs ⊢
   refine evalArgs_plain (wpAny_mono hargs (λvals s₁ ⟨vs,σ₁,hq,hl,S₁⟩=>?_) λø ø x=>x)
   have k':=k vals vs σ₁ s₁ hq hl S₁
   refine St.el S₁ λb m mo rest a1 a2 ø ø ø ø ø=>?_
   exact⟨a1.X.keeps a1.F.keep,k'⟩
 rcases hk with⟨i,rfl⟩|hk
 ·exact callWith_builtin hplain (wpAny_mono main (λa s₁ h=>h.2) λø ø x=>x)
 ·exact callWith_of (P:=g.K.In) (by rw[hplain];rfl) (keeps_K hk) main
theorem gcA (O:mB g t c)(IH:∀e σ Q,(f e σ).sat Q->EV g c e σ Q){n:Str}{np pos:Pos}{es:List Expr}{fa:Addr}{Q:V×AS->Prop}(hs:yB es=true)(hl:scK t.sc n=some .globalImplicit)(hf:t.fnT.lookup n=some fa)
  (h:((dE f es σ).bind λx=>(t.call fa x.1 x.2.μ).bind λy=>.ret (y.1,{x.2 with μ:=y.2})).sat Q):EV g c (.Call (.Name n np) es [] pos) σ Q:=λE ts P s S=>by
 refine gA (O.fn n fa hf) λe1 e2=>?_
 have hl':scK c.sc n=some .globalImplicit:=by rw[O.sc];exact hl
 refine wpAny_Call_ofName ?_
 refine St.el (id S) λb m mo rest a1 a2 ø ø ø ø ø=>?_
 refine name_K a1.F a1.X (topRead_of a1.T) e1 ?_ c.hk hl' (O.fnd n fa hf)
 refine tE IH (.inr e2) hs (cB h) S λvals vs σ' s' hq hlen S'=>?_
 exact wpAny_mono (O.call fa vs σ' _ (cB hq) E ts P s' vals hlen S') (λval s₂ o1=>by refine jB o1 λv μ' hq' S₂=>?_;exact zA v _ hq' S₂) λø ø x=>x
theorem ucA (O:mB g t c)(IH:∀e σ Q,(f e σ).sat Q->EV g c e σ Q){n:Str}{np pos:Pos}{es:List Expr}{i:String}{Q:V×AS->Prop}(hs:yB es=true)(hl:scK t.sc n=some .globalImplicit)(hf:t.bltT.lookup n=some i)
  (h:((dE f es σ).bind λx=>(jfA i x.1).bind λv=>.ret (v,x.2)).sat Q):EV g c (.Call (.Name n np) es [] pos) σ Q:=λE ts P s S=>by
 refine raA (O.blt n i hf) λe1 e2 e3 e4=>?_
 have hl':scK c.sc n=some .globalImplicit:=by rw[O.sc];exact hl
 refine wpAny_Call_ofName (uoA S hl' e4 e3 e1 e2 ?_)
 refine tE IH (.inl (yC _ rfl)) hs (cB h) S λvals vs σ' s' hq hlen S'=>?_
 exact wpAny_mono (voA O.handled S' hlen (cB hq) E) (λval s₂ o1=>by refine iA o1 λv hq' S₂=>?_;exact zA v _ hq' S₂.many) λø ø x=>x
theorem vJ {o:Expr}{m:Str}{apos pos:Pos}{es:List Expr}{R:Value->Shared->Prop}{E:Value->Shared->Prop}(hb:attributeBase o m c.env (eval o c.env)=eval o c.env)(hs:yB es=true)(hn:es.length<=10)(hline:(apos.endLine==pos.line)=true)
  (h:wpAny g.M c.A (eval o c.env) (λov s₁=>wpAny g.M c.A (getMethod ov m (do return(<-importBound o c.env).getD true)) (λfx s₂=>wpAny g.M c.A (callWith pos fx.1 fx.2 (backTo pos (starEach es c.env)) []) R E s₂) E s₁) E s):
  wpAny g.M c.A (eval (.Call (.Attribute o m apos) es [] pos) c.env) R E s:=by
 simp only[arm_eval_Call,hb]
 refine wpAny_bind (wpAny_mono h (λov s₁ h₁=>wpAny_bind (wpAny_standAt ?_)) λø ø x=>x)
 have hform:methodCallForm (es.length+([]:List Keyword).length) (backTo pos (starEach es c.env)) (backToKw pos (keywordEach [] c.env))=true:=by
  unfold methodCallForm
  rw[bZ hs]
  show(true&&true&&decide (es.length+0+0<30))=true
  simp only[Bool.and_self,eD,vA]
  exact iD ‹_› (by decide)
 have hpos:methodCallPos true o c.env apos pos=pure pos:=by unfold methodCallPos;simp[hline]
 unfold methodCall
 rw[hform]
 refine wpAny_bind (wpAny_holding (wpAny_mono h₁ (λfx s₂ h₂=>?_) λø ø x=>x))
 exact wpAny_bind (wpAny_of_eq hpos h₂)
theorem zhA {x:Str}{u:Tok}{vs:List V}{vals:List Value}{Q:V->Prop}(S:St g c σ (vs.zip vals++ts) P s)(hl:vs.length=vals.length)(h:(zW x vs).sat Q):K1 g c (call (.builtin "str.endswith") ([.str x u]++vals)) σ (vs.zip vals++ts) P Q s:=by
 intro E
 unfold zW at h
 split at h
 ·match vals,hl with
  |[val],ø=>
   refine iB (S.getStr (.head _)) λu' o1=>?_;obtain rfl:=o1
   exact SC.endswith (jA _ h (S.bool _))
 ·exact h.elim
theorem ahA (O:mB g t c)(IH:∀e σ Q,(f e σ).sat Q->EV g c e σ Q){n m:Str}{np apos pos:Pos}{es:List Expr}{Q:V×AS->Prop}(hs:yB es=true)(hn:es.length<=10)(hline:(apos.endLine==pos.line)=true)
  (h:((f (.Name n np) σ).bind λo=>(match o.1 with
   | .self=>(match t.methT.lookup m,o.2.μ with
    |some fa,⟨some F,none⟩=>if(F.lookup m).isNone then(dE f es o.2).bind λx=>(t.call fa (.self::x.1) x.2.μ).bind λy=>.ret (y.1,{x.2 with μ:=y.2})else .fail
    |_,_=>.fail)
   | .str x=>if m=="endswith" then(dE f es o.2).bind λy=>(zW x y.1).bind λv=>.ret (v,y.2)else .fail
   |_=>.fail)).sat Q):EV g c (.Call (.Attribute (.Name n np) m apos) es [] pos) σ Q:=λE ts P s S=>by
 refine vJ rfl hs hn hline ?_
 refine wpAny_mono (IH _ _ _ (cB h) E ts P s S) (λov s₁ ⟨ow,σ₁,hq,S₁⟩=>?_) λ_ _ x=>x
 dsimp only at hq
 split at hq
 ·split at hq
  ·rename_i fa F hf hμ
   split at hq
   ·rename_i hF
    refine iB (S₁.get (.head _)) λrest' r'=>?_
    obtain rfl:=r'.inv
    refine vH (O.gr.meths m fa hf) λq1 q2 q3=>?_
    have S₁':=S₁
    refine St.el S₁ λb mm mo rest a1 a2 a3 a4 a5 ø ø=>?_
    simp only[hμ]at a2
    refine gA a2.inv λø o6=>?_;refine xiA o6 λes' n' o9 hd hs' hn' r=>?_;obtain rfl:=o9
    refine method_inst (n:=n') a1.F a1.X (InstAt.of_news a1.N (.tail _ (.head _)) (.head _)) q1 q2 q3 (r.getNone hF) ?_
    refine tE IH (.inr (O.meth m fa hf)) hs (cB hq) S₁' λvals vs σ' s' hq' hlen S'=>?_
    have S'':St g c σ' ((V.self::vs).zip (Value.ref g.st::vals)++ts) P s':=S'.sub λx hx=>by
     simp only[List.zip_cons_cons,List.cons_append]at hx
     rcases xB hx with rfl|hx
     ·exact eE _ (.head _)
     ·refine Or.elim (dI hx) (λhx=>?_) λhx=>?_
      ·exact zH _ hx
      ·exact eE _ (.tail _ hx)
    exact wpAny_mono (O.call fa (.self::vs) σ' _ (cB hq') E ts P s' (Value.ref g.st::vals) (congrArg (·+1) hlen) S'') (λval s₂ o2=>by refine jB o2 λv μ' hq' S₂=>?_;exact zA v _ hq' S₂) λ_ _ x=>x
   ·exact hq.elim
  ·exact hq.elim
 ·refine iB (S₁.getStr (.head _)) λu o7=>?_;obtain rfl:=o7
  split at hq
  ·rename_i hm
   have hm:=beq_iff_eq.mp hm
   subst hm
   refine GM.endswith (tE IH (.inl (yC _ rfl)) hs (cB hq) S₁ λvals vs σ' s' hq' hlen S'=>?_)
   exact wpAny_mono (zhA S' hlen (cB hq') E) (λval s₂ o3=>by refine iA o3 λv hq' S₂=>?_;exact zA v _ hq' S₂.many.one) λ_ _ x=>x
  ·exact hq.elim
 ·exact hq.elim
theorem vaA (IH:∀e σ Q,(f e σ).sat Q->EV g c e σ Q){es:List Expr}{k:Nat}{pos:Pos}{Q:V×AS->Prop}(hs:yB es=true)(hn:es.length<=30)(h:((dE f es σ).bind λx=>.ret (.tup x.1,x.2)).sat Q):EV g c (.Tuple es k pos) σ Q:=λE ts P s S=>by
 refine Tuple_ (wpAny_mono (pQ IH es σ _ hs (wS es σ _ (cB h)) E pos ts P s S) (λvals s₁ ⟨vs,σ₁,⟨hle,hq⟩,hl,S₁⟩=>?_) λø ø x=>x)
 have hsz:vals.length<=sizeLine:=by simp only[kN];dsimp only at hle;exact ar5 hn hle hl
 refine wpAny_newObj_type (zA (.tup vs) σ₁ hq ((S₁.push (v:=.tup vs) rfl (λø ø ø=>trivial) λrest hr=>.tup (n:=0) (.head _) ?_).many)) (by show vals.toArray.size<=sizeLine;rw[List.size_toArray];exact hsz)
 exact(VRs.of_zip hl λt ht=>hr t (zH _ ht)).mono' λp hp=>.tail _ hp
theorem ehA (IH:∀e σ Q,(f e σ).sat Q->EV g c e σ Q){es:List Expr}{pos:Pos}{Q:V×AS->Prop}(hs:yB es=true)(hn:es.length<=30)
  (h:((dE f es σ).bind λx=>(match xW x.1 with|some xs=>.ret (.sl xs,x.2)|none=>.fail)).sat Q):EV g c (.List es pos) σ Q:=λE ts P s S=>by
 refine List_ (wpAny_mono (pQ IH es σ _ hs (wS es σ _ (cB h)) E pos ts P s S) (λvals s₁ ⟨vs,σ₁,⟨hle,hq⟩,hl,S₁⟩=>?_) λø ø x=>x)
 have hsz:vals.length<=sizeLine:=by simp only[kN];exact ar5 hn hle hl
 dsimp only at hq
 split at hq
 ·rename_i xs hx
  refine wpAny_newObj_type (zA (.sl xs) σ₁ hq ((S₁.push (v:=.sl xs) rfl (λø ø ø=>trivial) λrest hr=>.sl (n:=0) (.head _) ?_).many)) (by show vals.toArray.size<=sizeLine;rw[List.size_toArray];exact hsz)
  exact uX hx hl λt ht=>hr t (zH _ ht)
 ·exact hq.elim
end
section
variable {g:Gr}{t:Tb}{c:Cx}{f:Expr->AS->T (V×AS)}{fc:Expr->AS->T (Bool×AS)}{σ:AS}
theorem yeA (O:mB g t c)(IH:∀e σ Q,(f e σ).sat Q->EV g c e σ Q)(IC:∀e σ Q,(fc e σ).sat Q->EC g c e σ Q)(e:Expr)(σ:AS)(Q:V×AS->Prop)(h:(rpA t f fc e σ).sat Q):EV g c e σ Q:=by
 induction e using PySem.Expr.casesOn with
 |Constant k _ _=>induction k using PySem.Const.casesOn with
  |int i=>exact λE ts P s S=>wpAny_Constant_int (zA _ σ h (S.int _ _ _))
  |str x=>exact λE ts P s S=>wpAny_Constant_str (zA _ σ h (S.str _ _ _))
  |bool b=>exact λE ts P s S=>wpAny_Constant_bool (zA _ σ h (S.bool _))
  |none=>exact λE ts P s S=>wpAny_Constant_none (zA .none σ h (S.imm λ_=>.none))
  |_=>exact h.elim
 |Name x _=>exact gvA O h
 |BinOp l op r _=>exact woA IH h
 |Compare l ops rs _=>induction ops using List.casesOn with
  |nil=>exact h.elim
  |cons op ops=>induction ops using List.casesOn with
   |cons _ _=>exact h.elim
   |nil=>induction rs using List.casesOn with
    |nil=>exact h.elim
    |cons r rs=>induction rs using List.casesOn with
     |cons _ _=>exact h.elim
     |nil=>exact noA IH h
 |UnaryOp op x _=>exact λE ts P s S=>wpAny_UnaryOp (wpAny_mono (IH _ _ _ (cB h) E ts P s S) (λ_ _ o6=>by refine jB o6 λø ø h1 S1=>?_;exact wpAny_mono (miB S1 (.head _) (cB h1) E) (λ_ _ o2=>by refine iA o2 λv h2 S2=>?_;exact zA v _ h2 S2.one) λ_ _ x=>x) λ_ _ x=>x)
 |BoolOp op es _=>exact λE ts P s S=>wW IH _ _ _ σ Q E ts P s h S
 |IfExp a b d _=>
  refine λE ts P s S=>wpAny_IfExp (wpAny_mono (IC _ _ _ (cB h) E ts P s S) (λb s₁ ⟨σ₁,h1,S1⟩=>?_) λ_ _ x=>x)
  induction b using Bool.casesOn with
  |true=>exact IH _ _ _ (h1.1 rfl) E ts P s₁ S1
  |false=>exact IH _ _ _ (h1.2 rfl) E ts P s₁ S1
 |Attribute v x _=>induction v using PySem.Expr.casesOn with
  |Name n np=>exact λE ts P s S=>Attribute_name (wpAny_mono (IH _ _ _ (cB h) E ts P s S) (λ_ _ o8=>by refine jB o8 λø ø h1 S1=>?_;exact wpAny_mono (efA O S1 (.head _) (cB h1) E) (λ_ _ o5=>by refine iA o5 λv h2 S2=>?_;exact zA v _ h2 S2.one) λ_ _ x=>x) λ_ _ x=>x)
  |_=>exact h.elim
 |Subscript value slice pos=>induction slice using PySem.Expr.casesOn with
  |Slice lo hi st sp=>induction st using Option.casesOn with
   |none=>exact dbA IH h
   |some _=>exact h.elim
  |_=>exact xfA IH h
 |Tuple es a b=>
  replace h:T.sat (if yB es&&decide (es.length<=30)then _ else _) Q:=h
  split at h
  ·rename_i hb
   simp only[oA,vA]at hb
   exact vaA IH hb.1 hb.2 h
  ·exact h.elim
 |List es a=>
  replace h:T.sat (if yB es&&decide (es.length<=30)then _ else _) Q:=h
  split at h
  ·rename_i hb
   replace hb:=bmp id bB hb
   exact ehA IH hb.1 hb.2 h
  ·exact h.elim
 |Call fn es ks pos=>induction fn using PySem.Expr.casesOn with
  |Name n np=>induction ks using List.casesOn with
   |cons _ _=>exact h.elim
   |nil=>
    replace h:T.sat (if yB es&&decide (es.length<=10)then(match scK t.sc n,t.fnT.lookup n,t.bltT.lookup n with
     |some .globalImplicit,some fa,_=>_
     |some .globalImplicit,none,some id=>_
     |_,_,ø=>_)else _) Q:=h
    split at h
    ·rename_i hb
     simp only[oA,vA]at hb
     split at h
     ·rename_i h1 h2
      exact gcA O IH hb.1 h1 h2 h
     ·rename_i h1 h2 h3
      exact ucA O IH hb.1 h1 h3 h
     ·exact h.elim
    ·exact h.elim
  |Attribute v m apos=>induction v using PySem.Expr.casesOn with
   |Name n np=>induction ks using List.casesOn with
    |cons ø ø=>exact h.elim
    |nil=>
     replace h:T.sat (if yB es&&decide (es.length<=10)&&apos.endLine==pos.line then _ else _) Q:=h
     split at h
     ·rename_i hb
      simp only[oA,oA,vA]at hb
      exact ahA O IH hb.1.1 hb.1.2 hb.2 h
     ·exact h.elim
   |_=>exact h.elim
  |_=>exact h.elim
 |_=>exact h.elim
theorem zV {e:Expr}(h:bP e=true)(env:Env)(whole:Sem Value):isTrue e env whole=(do let v <-whole;standAt e.pos;holding [v] (truthy v)):=by
 induction e using PySem.Expr.casesOn<;>first|rfl|injection h|skip
 rename_i op x pos
 cases op<;>first|rfl|injection h
theorem lR (IH:∀e σ Q,(f e σ).sat Q->EV g c e σ Q){e:Expr}{σ:AS}{Q:Bool×AS->Prop}(hp:bP e=true)(h:((f e σ).bind λx=>(qH x.1).bind λb=>.ret (b,x.2)).sat Q):EC g c e σ Q:=
 λE ts P s S=>wpAny_isTrue_value (wpAny_mono (IH _ _ _ (cB h) E ts P s S) (λø ø o3=>by refine jB o3 λø ø h1 S1=>?_;exact wpAny_mono (uK S1 (.head _) (cB h1) E) (λb _ o2=>by refine gA o2 λh2 S2=>?_;exact jA ø h2 S2.drop) λø ø x=>x) λø ø x=>x) (zV hp _ _)
theorem rzA (IH:∀e σ Q,(f e σ).sat Q->EV g c e σ Q)(IC:∀e σ Q,(fc e σ).sat Q->EC g c e σ Q)(e:Expr)(σ:AS)(Q:Bool×AS->Prop)(h:(thB t f fc e σ).sat Q):EC g c e σ Q:=by
 induction e using PySem.Expr.casesOn with
 |UnaryOp op x ø=>induction op using PySem.UnaryOp.casesOn with
  |Not=>exact λE ts P s S=>wpAny_isTrue_Not (wpAny_mono (IC _ _ _ (cB h) E ts P s S) (λb s₁ o1=>by refine iA o1 λσ₁ h1 S1=>?_;exact jA σ₁ h1 S1) λø ø x=>x)
  |_=>exact lR IH rfl h
 |BoolOp op es ø=>exact λE ts P s S=>wpAny_isTrue_BoolOp (nhB IC _ _ σ Q E ts P s h S)
 |IfExp ø ø ø ø=>exact h.elim
 |Compare l ops rs ø=>induction ops using List.casesOn with
  |nil=>exact h.elim
  |cons op ops=>induction ops using List.casesOn with
   |cons ø ø=>exact h.elim
   |nil=>induction rs using List.casesOn with
    |nil=>exact h.elim
    |cons r rs=>induction rs using List.casesOn with
     |cons ø ø=>exact h.elim
     |nil=>exact iiA IH h
 |_=>exact lR IH rfl h
theorem nK (O:mB g t c):∀n,(∀e σ Q,((ai t n).1 e σ).sat Q->EV g c e σ Q)/\(∀e σ Q,((ai t n).2 e σ).sat Q->EC g c e σ Q):=by
 intro l0
 induction l0 with
 |zero=>
  exact⟨λø ø ø h=>h.elim,λø ø ø h=>h.elim⟩
 |succ n ih=>
  exact⟨yeA O (ih).1 (ih).2,rzA (t:=t) (ih).1 (ih).2⟩
end
theorem hZ {M:Model}{A:Around}{E:Value->Shared->Prop}{s:Shared}{base h:Heap}{env:Env}{outer:List Env}{L e:Addr}{cls:Value}{args:List Value}{Q:Unit->Shared->Prop}
  (hfr:A.frames=some (env::outer)) (hf:env.frame=some L) (hkb:base.StaysIn h) (hl:h.FunFrames base (env::outer)) (hx:Heap.MadeExcOf h s.heap e cls args)
  (hQ:∀h' t,Heap.HeldW base (env::outer) e cls (.ref t) L h'->h'.TupAt t args->base.get? t=none->s.heap.UpToSlots h'->Q () {s with heap:=h'}):wpAny M A (noteFrame (.ref e) env) Q E s:=by
 refine oM hx.there λt he htn ht=>?_
 have fresh:∀b,h.get? b=none->base.get? b=none:=λb hb=>by
  cases hq:base.get? b with
  |none=>rfl
  |some o'=>have:=hkb b o' hq;rw[hb]at this;exact no this
 have h1:(#[Value.ref t,.none,.none,.none,.bool false,.none]:Array Value)[1]?=some Value.none:=rfl
 unfold noteFrame
 rw[hf]
 refine wpAny_bind (wpAny_field he rfl h1 ?_)
 rw[if_neg (by decide)]
 refine wpAny_entryW (a0:=.ref t) hfr (hl.of_keeps λb o hb ø=>jA o (hx.keeps b o hb) rfl) hf he (λb o hb=>hx.keeps b o (hkb b o hb)) (fresh e hx.new) rfl (Array.getElem?_eq_some_iff.mp h1).1 rfl λh' hN=>?_
 refine raA hN λk1 k2 k3 k4=>?_
 exact hQ h' t (gM k1 (fresh e hx.new) k2 k3) (Heap.TupAt.of_slots (zI _ _ ht rfl rfl) k4) (fresh t htn) k4
section
variable {prog:Program}{w:World}{A₀:Around}{E:Value->Shared->Prop}{s':Shared}{base g g₀ h:Heap}{outer:List Env}{L a e C:Addr}{m:Str->Option Value}{name:Str}{scope:Scope}{cd:Value}
 {vs:List Value} {b₀:Stmt} {suite:List Stmt} {pos np:Pos} {rest:List ExceptHandler} {Q:Flow->Shared->Prop} {news:List (Addr×Obj)} {KF:Frag}
 {p:Program} {loose:List Str} {mean:ExcName->Option Value} {mg mb:Str->Option Value} {x:Str}
theorem eZ (hx':Heap.MadeExcOf h s'.heap e (.ref C) vs)(F:Fr g L h m)(N:News g L h news)(K:Below A₀ base outer g)(XB:KF.In base)(TB:Top p loose mean mg mb base)
  (D:KtsDicts (outer.filterMap (·.frame)) g) (T0:KtsTurn (outer.filterMap (·.frame)) g₀ g)
  (ex:nsIn KF mainGlobals x=some (some (.ref C))) (q:ktsIn KF C "BaseException"=true)
  (k:∀h' g',KtsTurn (outer.filterMap (·.frame)) g₀ g'->Fr g' L h' m->News g' L h' news->Below A₀ base outer g'->KtsDicts (outer.filterMap (·.frame)) g'->
   wpAny (model prog w) ((A₀.deeper (envOf name scope L a cd)).mark (some (.ref e))) (execs (b₀::suite) (envOf name scope L a cd)) Q E {s' with heap:=h'})
  (hk:scope.kind=.function) (hx:(envOf name scope L a cd).kindOf x=some .globalImplicit) (hd:(x==("__debug__":Str))=false)
  (hE:PassesOwnAt (model prog w) ((A₀.deeper (envOf name scope L a cd)).mark (some (.ref e))) (A₀.deeper (envOf name scope L a cd)) (envOf name scope L a cd) E):
  wpAny (model prog w) (A₀.deeper (envOf name scope L a cd)) (noteFrame (.ref e) (envOf name scope L a cd))
   (λø s₂=>wpAny (model prog w) (A₀.deeper (envOf name scope L a cd)) (setFlight (.ref e) none) (λø s₃=>
    wpAny (model prog w) (A₀.deeper (envOf name scope L a cd)) (handleBy (.ref e) (envOf name scope L a cd) (.ExceptHandler (some (.Name x np)) none (b₀::suite) pos::rest)) Q E s₃) E s₂) E s':=by
 have K':=K.push (name:=name) (a:=a) (cd:=cd) F hk
 have hin:∀env∈(envOf name scope L a cd::outer),∀b,env.frame=some b->b∈(envOf name scope L a cd::outer).filterMap (·.frame):=λenv he b hb=>List.mem_filterMap.mpr (jA env he hb)
 have hfs:(envOf name scope L a cd::outer).filterMap (·.frame)=L::outer.filterMap (·.frame):=rfl
 have kb:base.StaysIn (hideAll h ((envOf name scope L a cd::outer).filterMap (·.frame))):=λb o qb=>hideAll_get _ (K'.stays b o qb) λhm=>by
  rw[(K'.frames.mem hm).1]at qb;exact no qb
 have kg:∀b o,g.get? b=some o->b∉outer.filterMap (·.frame)->(hideAll h ((envOf name scope L a cd::outer).filterMap (·.frame))).get? b=some o:=λb o qb nm=>hideAll_get _ (F.keep b o qb) λhm=>by
  refine Or.elim (kts_mem hm) (λz=>?_) λz=>?_
  ·rw[z,kts_self F]at qb
   exact no qb
  ·exact nm z
 have hL:(hideAll h ((envOf name scope L a cd::outer).filterMap (·.frame))).get? L=none:=hideAll_none _ (by rw[hfs];exact .head _)
 have hl:∀q∈news,(hideAll h ((envOf name scope L a cd::outer).filterMap (·.frame))).get? q.1=some q.2:=λq hq=>hideAll_get _ (N q hq).1 λhm=>by
  refine Or.elim (kts_mem hm) (λz=>?_) λz=>?_
  ·exact(N q hq).2.1 z
  ·refine gA (K.frames.mem z) λø o1=>?_;refine iA o1 λo ho ø=>?_
   rw[(N q hq).2.2]at ho;exact nomatch ho
 generalize hB:hideAll h ((envOf name scope L a cd::outer).filterMap (·.frame))=B at kb kg hL hl
 have hBh:B.StaysIn h:=λb o qb=>of_hideAll _ (hB▸qb)
 have hfun:h.FunFrames B (envOf name scope L a cd::outer):=hB▸funFrames_hide K'.frames hin
 refine hZ (Around.frames_deeper K.stack) rfl hBh hfun hx' λh₄ t hheld₄ htup htn hsm₄'=>?_
 have hsm₄:h.UpToSlots h₄:=(Heap.UpToSlots.of_keeps hx'.keeps).trans hsm₄'
 refine wpAny_landsW hheld₄ λh₅ hheld hsm₅'=>?_
 have hsm₅:=hsm₄.trans hsm₅'
 have ground:∀{h₅:Heap},B.StaysIn h₅->h.UpToSlots h₅->∃g',KtsTurn (outer.filterMap (·.frame)) g g'/\Fr g' L h₅ m/\Below A₀ base outer g':=λ{h₅} hBh hsm=>by
  obtain⟨T,S⟩:=kts_turn_at (h:=h₅) (fs:=outer.filterMap (·.frame)) (g:=g)
   (λb hb=>by
    refine gA (K.frames.mem hb) λø o2=>?_;refine iA o2 λo ho ø=>?_
    exact yC o ho)
   (λb o e nm=>hBh b o (kg b o e nm))
   (λb o e hm=>by
    refine gA (K.frames.mem hm) λø o3=>?_;refine iA o3 λo' ho' hd=>?_
    rw[e]at ho'
    have o4:=inj ho';clear ho';obtain rfl:=o4
    exact hsm b o (F.keep b o e) hd)
  refine zG _ T ⟨hsm.ns F.ns,S,by rw[T.size];exact F.above⟩ ⟨K.stack,λb o e=>T.other b o (K.stays b o e) (λhm=>by
   rw[(K.frames.mem hm).1]at e
   exact no e),K.frames.of_keeps λb o e ø=>?_⟩
  refine iB (T.up e) λsl hs=>?_
  exact jA _ hs rfl
 refine oM (ground hheld.1 hsm₅) λg₅ T₅ F₅ K₅=>?_
 have X₅:KF.In g₅:=XB.keeps K₅.stays
 have P₅:TopRead p loose mg mb g₅:=topRead_of (TB.keeps K₅.stays)
 refine iA hheld.there λob hob hobc=>?_
 obtain⟨nm,q',N',bs,bm,hdct,sn,sub,ab,col,dd,k0,k1,k2,k3,k5,newId,hC,hbase,hbT⟩:=kts_cls X₅ q
 have hC₅:=F₅.keep _ _ hC
 refine wpAny_handleBy_cons (codeAny_handlers_test (name_K F₅ X₅ P₅ ex ?_ hk hx hd)) (by intro q;injection q)
 refine wpAny_excMatches_sub_self hC₅ hob hobc hbase (codeAny_handlers_suite ?_)
 refine lands_againW hheld λh₆ hfl₆ hsm₆=>?_
 refine oM (ground hfl₆.1 (hsm₅.trans hsm₆)) λg₆ T₆ F₆ K₆=>?_
 have Nl:News g₆ L h₆ news:=λq hq=>cF (hfl₆.1 _ _ (hl q hq)) ((N q hq).2.1) (T₆.none_ _ (N q hq).2.2)
 exact wpAny_passesOwnAt hE (k h₆ g₆ (T0.trans T₆) F₆ Nl K₆ (D.turn T₆))
end
noncomputable abbrev znA:String:="Exception.__new__"
noncomputable abbrev aoA:List Value:=[.type "Exception",.type "BaseException",.type "object"]
structure fI (g:Gr):Prop where
 at_:∀n a,xZ.lookup n=some a->nsIn g.K mainGlobals n=some (some (.ref a))/\(n==("__debug__":Str))=false/\excIn g.K a aoA znA=true/\ktsIn g.K a "BaseException"=true
noncomputable def Rz (g:Gr)(c:Cx)(σ:AS)(ts:List (V×Value))(P:List (Addr×Obj))(a e:Addr)(s':Shared):Prop:=
 ∃h,St g c σ ts P {s' with heap:=h}/\Heap.MadeExcOf h s'.heap e (.ref a) []
noncomputable def Post (g:Gr)(c:Cx)(Q:Out×AS->Prop)(ts:List (V×Value))(P:List (Addr×Obj))(fl:Flow)(s':Shared):Prop:=
 ∃o σ',Q (o,σ')/\match o with
  | .next=>fl=.next/\St g c σ' ts P s'
  | .brk=>fl=.brk/\St g c σ' ts P s'
  | .cont=>fl=.cont/\St g c σ' ts P s'
  | .ret v=>∃val,fl=.ret val/\St g c σ' ((v,val)::ts) P s'
  | .exc _=>False
structure EOK (g:Gr) (c:Cx) (Q:Out×AS->Prop) (ts:List (V×Value)) (P:List (Addr×Obj)) (E:Value->Shared->Prop):Prop where
 own:PassesOwn g.M c.A c.env E
 take:∀a σ' e s',Q (.exc a,σ')->Rz g c σ' ts P a e s'->E (.ref e) s'
noncomputable abbrev ES (g:Gr)(c:Cx)(st:Stmt)(σ:AS)(Q:Out×AS->Prop):Prop:=
 ∀(E:Value->Shared->Prop) (ts:List (V×Value)) (P:List (Addr×Obj)) (s:Shared),EOK g c Q ts P E->St g c σ ts P s->wpAny g.M c.A (exec st c.env) (Post g c Q ts P) E s
noncomputable abbrev EB (g:Gr)(c:Cx)(b:List Stmt)(σ:AS)(Q:Out×AS->Prop):Prop:=
 ∀(E:Value->Shared->Prop) (ts:List (V×Value)) (P:List (Addr×Obj)) (s:Shared),EOK g c Q ts P E->St g c σ ts P s->wpAny g.M c.A (execs b c.env) (Post g c Q ts P) E s
section
variable {g:Gr}{t:Tb}{c:Cx}{fe:Expr->AS->T (V×AS)}{fc:Expr->AS->T (Bool×AS)}{fb:List Stmt->AS->T (Out×AS)}{f:Stmt->AS->T (Out×AS)}{σ:AS}{ts:List (V×Value)}{P:List (Addr×Obj)}{s:Shared}{Q Q':Out×AS->Prop}{E:Value->Shared->Prop}
theorem Post.mono (h:∀x,Q x->Q' x){fl:Flow}{s':Shared}:Post g c Q ts P fl s'->Post g c Q' ts P fl s':=λo1=>by refine jB o1 λo σ' hq r=>?_;exact zA o σ' (h _ hq) r
theorem EOK.mono (h:∀x,Q x->Q' x)(K:EOK g c Q' ts P E):EOK g c Q ts P E:=⟨K.own,λa σ' e s' hq=>K.take a σ' e s' (h _ hq)⟩
theorem bJ (h:Q (.next,σ)):EB g c [] σ Q:=λE ts P s ø S=>wpAny_execs_nil (zA .next σ h ⟨rfl,S⟩)
noncomputable def Seq (g:Gr)(c:Cx)(r:List Stmt)(Q:Out×AS->Prop):Out×AS->Prop
 |(.next,σ)=>EB g c r σ Q
 |x=>Q x
theorem rA {st:Stmt}{r:List Stmt}(h:ES g c st σ (Seq g c r Q)):EB g c (st::r) σ Q:=λE ts P s K S=>by
 refine wpAny_execs_cons (wpAny_mono (h E ts P s ⟨K.own,λa σ' e s' hq=>K.take a σ' e s' hq⟩ S) (λfl s' ⟨o,σ',hq,hr⟩=>?_) λø ø x=>x)
 induction o using Mine.Out.casesOn with
 |next=>obtain⟨rfl,S'⟩:=hr;exact hq E ts P s' K S'
 |brk=>obtain⟨rfl,S'⟩:=hr;exact zA .brk σ' hq (eB rfl S')
 |cont=>obtain⟨rfl,S'⟩:=hr;exact zA .cont σ' hq (eB rfl S')
 |ret v=>refine iA hr λval o5 S'=>?_;obtain rfl:=o5;exact zA (.ret v) σ' hq (jA val rfl S')
 |exc a=>exact hr.elim
theorem uO (IH:∀st σ Q,(f st σ).sat Q->ES g c st σ Q):∀(b:List Stmt) (σ:AS) (Q:Out×AS->Prop),(aiB f b σ).sat Q->EB g c b σ Q:=by
 intro l0
 induction l0 with
 |nil=>
  intro σ Q h
  exact bJ h
 |cons st r ih=>
  intro σ Q h
  exact rA (IH _ _ _ (T.sat_mono (λ⟨o,σ'⟩ hx=>by
   induction o using Mine.Out.casesOn with
   |next=>exact ih σ' Q hx
   |_=>exact hx) (cB h)))
theorem sY (O:mB g t c){o v:V}{oval val:Value}{x:Str}{Q:AS->Prop}{R:Unit->Shared->Prop}{E:Value->Shared->Prop}(h:(eV o x v σ).sat Q)(S:St g c σ ts P s)(ho:(o,oval)∈ts)(hv:(v,val)∈ts)
  (k:∀σ' s',Q σ'->St g c σ' ts P s'->R () s'):wpAny g.M c.A (setAttr oval x val) R E s:=by
 unfold eV at h
 split at h
 ·rename_i F hF
  refine iB (S.get ho) λrest r=>?_
  obtain rfl:=r.inv
  split at h
  ·rename_i hc
   replace hc:=bmp id bB hc
   exact vcB O.gr S hF (List.contains_iff_mem.mp hc.1) hc.2 hv λs' S'=>k _ _ h S'
  ·exact h.elim
 ·exact h.elim
end
set_option tactic.hygienic false
theorem wG {e:Expr}(h:qN e=false)(t:Option Expr)(l:Nat)(env:Env):swapsWith e t l env=pure false:=by
 induction e using PySem.Expr.casesOn<;>first|rfl|injection h
section
variable {g:Gr}{t:Tb}{c:Cx}{fe:Expr->AS->T (V×AS)}{fc:Expr->AS->T (Bool×AS)}{fb:List Stmt->AS->T (Out×AS)}{f:Stmt->AS->T (Out×AS)}{σ:AS}{ts:List (V×Value)}{P:List (Addr×Obj)}{s:Shared}{Q Q':Out×AS->Prop}{E:Value->Shared->Prop}{v1 v2:V}{val1 val2:Value}
theorem zmA {op:Operator}{Q:V->Prop}(S:St g c σ ts P s)(h1:(v1,val1)∈ts)(h2:(v2,val2)∈ts)(hq:(fV op v1 v2).sat Q):K1 g c (inplaceOp op val1 val2) σ ts P Q s:=by
 intro E
 unfold fV at hq
 split at hq
 ·rename_i hx
  split at hq
  ·rename_i hy
   refine iB (S.getInt (V.i?_eq hx▸h1)) λt o1=>?_;obtain rfl:=o1
   refine iB (S.getInt (V.i?_eq hy▸h2)) λu o3=>?_;obtain rfl:=o3
   split at hq
   ·rename_i ho
    rw[wR ho]
    exact iadd_int (jA _ hq (S.int _ _ _))
   ·split at hq
    ·rename_i ho
     rw[xmA ho]
     exact isub_int (jA _ hq (S.int _ _ _))
    ·exact hq.elim
  ·exact hq.elim
 ·split at hq
  ·rename_i hx
   split at hq
   ·rename_i hy
    split at hq
    ·rename_i ho
     refine iB (S.getStr (V.s?_eq hx▸h1)) λt o5=>?_;obtain rfl:=o5
     refine iB (S.getStr (V.s?_eq hy▸h2)) λu o7=>?_;obtain rfl:=o7
     refine gA (uD hq) λhn hq=>?_
     rw[wR ho]
     exact iadd_str (λt' tk=>jA _ hq (S.str _ _ _)) (by rw[kN];exact bB hn)
    ·exact hq.elim
   ·exact hq.elim
  ·exact hq.elim
theorem jR (IH:∀e σ Q,(fe e σ).sat Q->EV g c e σ Q){e:Expr}{pos:Pos}(h:((fe e σ).bind λx=>.ret (.ret x.1,x.2)).sat Q):ES g c (.Return (some e) pos) σ Q:=λE ts P s K S=>
 wpAny_Return_some (wpAny_mono (IH _ _ _ (cB h) E ts P s S) (λø ø o1=>by refine jB o1 λv σ' hq S'=>?_;exact zA (.ret v) σ' hq (jA _ rfl S')) λø ø x=>x)
theorem xY {a b:Bool}(h:¬(a||b)=true):a=false/\b=false:=by
 induction a using Bool.casesOn<;>induction b using Bool.casesOn<;>first|exact⟨rfl,rfl⟩|exact absurd rfl h
theorem tO {o:Option NameKind}{k:NameKind}(h:(o !=some k)=false):o=some k:=by
 simpa using h
theorem aV (O:mB g t c)(IH:∀e σ Q,(fe e σ).sat Q->EV g c e σ Q){x:Str}{p pos:Pos}{e:Expr}
  (h:(if qN e||scK t.sc x !=some .local then .fail else(fe e σ).bind λv=>.ret (.next,{v.2 with ρ:=pH x v.1 v.2.ρ}):T (Out×AS)).sat Q):ES g c (.Assign [.Name x p] e pos) σ Q:=λE ts P s ø S=>by
 split at h
 ·exact h.elim
 ·rename_i hc
  refine gA (xY hc) λhs hl=>?_
  exact wpAny_Assign_Name (wpAny_mono (IH _ _ _ (cB h) E ts P s S) (λval s₁ o1=>by refine jB o1 λv σ₁ hq S₁=>?_;exact sN S₁ (.head _) (by rw[O.sc];exact tO hl) λs' S'=>zA .next _ hq ⟨rfl,S'.drop⟩) λø ø x=>x) (wG hs _ _ _)
theorem riA (O:mB g t c)(IH:∀e σ Q,(fe e σ).sat Q->EV g c e σ Q){n x:Str}{np p pos:Pos}{e:Expr}
  (h:(if qN e then .fail else(fe e σ).bind λv=>(fe (.Name n np) v.2).bind λo=>(eV o.1 x v.1 o.2).bind λσ'=>.ret (.next,σ'):T (Out×AS)).sat Q):ES g c (.Assign [.Attribute (.Name n np) x p] e pos) σ Q:=λE ts P s ø S=>by
 split at h
 ·exact h.elim
 ·rename_i hs
  refine plainObj_wpAny_Assign_Attribute (wpAny_mono (IH _ _ _ (cB h) E ts P s S) (λval s₁ ⟨v,σ₁,hq,S₁⟩=>?_) λø ø x=>x) (wG (cH hs) _ _ _)
  refine wpAny_mono (IH _ _ _ (cB hq) E _ P s₁ S₁) (λov s₂ ⟨o,σ₂,hq₂,S₂⟩=>?_) λø ø x=>x
  exact sY O (cB hq₂) S₂ (.head _) (.tail _ (.head _)) λσ' s' hq S'=>zA .next σ' hq ⟨rfl,S'.drop.drop⟩
theorem piA (O:mB g t c)(IH:∀e σ Q,(fe e σ).sat Q->EV g c e σ Q){x:Str}{p pos:Pos}{op:Operator}{e:Expr}
  (h:(if scK t.sc x !=some .local then .fail else(mL t x σ).bind λa=>(fe e a.2).bind λy=>(fV op a.1 y.1).bind λv=>.ret (.next,{y.2 with ρ:=pH x v y.2.ρ}):T (Out×AS)).sat Q):ES g c (.AugAssign (.Name x p) op e pos) σ Q:=λE ts P s ø S=>by
 split at h
 ·exact h.elim
 ·rename_i hc
  have hl:=tO (cH hc)
  have h:=cB h
  unfold mL at h
  rw[hl]at h
  split at h
  ·exact h.elim
  ·dsimp only at h
   split at h
   ·rename_i v hv
    refine wpAny_AugAssign_Name ?_
    refine St.el (id S) λb m mo rest a1 a2 a3 a4 a5 o3 o4=>?_;have a6:=And.intro o3 o4
    refine iA (a3 x v hv) λval hm hr=>?_
    refine wpAny_loadName_local c.hk (by rw[wrA,O.sc];exact hl) a1.F.ns hm ?_
    have S0:St g c σ ((v,val)::ts) P s:=lD b m mo rest ⟨a1,a2,a3,λt ht=>by
     rcases xB ht with rfl|ht
     ·exact hr
     ·exact a4 t ht,a5,a6⟩
    refine wpAny_mono (IH _ _ _ (cB h) E _ P s S0) (λval₁ s₁ ⟨w,σ₁,hq,S₁⟩=>?_) λø ø x=>x
    refine wpAny_mono (zmA S₁ (.tail _ (.head _)) (.head _) (cB hq) E) (λval₂ s₂ ⟨u,hq₂,S₂⟩=>?_) λø ø x=>x
    exact sN S₂.two (.head _) (by rw[O.sc];exact hl) λs' S'=>zA .next _ hq₂ ⟨rfl,S'.drop⟩
   ·exact h.elim
theorem qiA (O:mB g t c)(IH:∀e σ Q,(fe e σ).sat Q->EV g c e σ Q){n x:Str}{np p pos:Pos}{op:Operator}{e:Expr}
  (h:((fe (.Name n np) σ).bind λo=>(uS t o.1 x o.2).bind λa=>(fe e o.2).bind λy=>(fV op a y.1).bind λv=>(eV o.1 x v y.2).bind λσ'=>.ret (.next,σ')).sat Q):ES g c (.AugAssign (.Attribute (.Name n np) x p) op e pos) σ Q:=λE ts P s ø S=>by
 refine wpAny_AugAssign_AttributeAny (wpAny_mono (IH _ _ _ (cB h) E ts P s S) (λov s₁ ⟨o,σ₁,hq,S₁⟩=>?_) λø ø x=>x)
 refine wpAny_mono (efA O S₁ (.head _) (cB hq) E) (λold s₂ ⟨a,hq₂,S₂⟩=>?_) λø ø x=>x
 refine wpAny_mono (IH _ _ _ (cB hq₂) E _ P s₂ S₂) (λval₁ s₃ ⟨w,σ₃,hq₃,S₃⟩=>?_) λø ø x=>x
 refine wpAny_mono (zmA S₃ (.tail _ (.head _)) (.head _) (cB hq₃) E) (λval₂ s₄ ⟨u,hq₄,S₄⟩=>?_) λø ø x=>x
 exact sY O (cB hq₄) S₄ (.tail _ (.tail _ (.tail _ (.head _)))) (.head _) λσ' s' hq S'=>zA .next σ' hq ⟨rfl,S'.drop.drop.drop.drop⟩
theorem owA (IC:∀e σ Q,(fc e σ).sat Q->EC g c e σ Q)(IB:∀b σ Q,(fb b σ).sat Q->EB g c b σ Q){e:Expr}{a b:List Stmt}{pos:Pos}(h:((fc e σ).bind λx=>.ite x.1 (fb a x.2) (fb b x.2)).sat Q):ES g c (.If e a b pos) σ Q:=λE ts P s K S=>by
 refine wpAny_If (wpAny_mono (IC _ _ _ (cB h) E ts P s S) (λb s₁ ⟨σ₁,hq,S₁⟩=>?_) λø ø x=>x)
 induction b using Bool.casesOn with
 |true=>exact IB _ _ _ (hq.1 rfl) E ts P s₁ K S₁
 |false=>exact IB _ _ _ (hq.2 rfl) E ts P s₁ K S₁
theorem viA {e:Expr}(hc:rS e=true):qN e=false:=by
 induction e using PySem.Expr.casesOn with
 |Call ø ø ø ø=>rfl
 |_=>exact nof hc
theorem whA (IH:∀e σ Q,(fe e σ).sat Q->EV g c e σ Q){e:Expr}{pos:Pos}(hc:rS e=true)(h:((fe e σ).bind λx=>if noRef x.1 then .ret (.next,x.2)else .fail:T (Out×AS)).sat Q):ES g c (.Expr e pos) σ Q:=λE ts P s K S=>by
 have hi:interactive c.env=false:=by
  unfold interactive
  rw[show c.env.scope.kind=.function from c.hk]
  rfl
 refine wpAny_Expr (wpAny_mono (IH _ _ _ (cB h) E ts P s S) (λval s₁ ⟨v,σ₁,hq,S₁⟩=>?_) λø ø x=>x) hi (wG (viA hc) _ _ _)
 dsimp only at hq
 split at hq
 ·rename_i hn
  refine iB (S₁.get (.head _)) λrest r=>?_
  cases r<;>first|exact zA .next σ₁ hq ⟨rfl,S₁.drop⟩|injection hn
 ·exact hq.elim
theorem haA (IC:∀e σ Q,(fc e σ).sat Q->EC g c e σ Q){e:Expr}{m:Option Expr}{pos:Pos}(h:((fc e σ).bind λx=>T.need x.1 (.ret (.next,x.2))).sat Q):ES g c (.Assert e m pos) σ Q:=λE ts P s K S=>
 wpAny_Assert_holds (wpAny_mono (IC _ _ _ (cB h) E ts P s S) (λb s₁ o1=>by refine iA o1 λσ₁ hq S₁=>?_;exact⟨(uD hq).1,.next,σ₁,(uD hq).2,rfl,S₁⟩) λø ø x=>x)
theorem kbA (O:mB g t c)(X:fI g){n:Str}{np cpos pos:Pos}{a:Addr}(hl:scK t.sc n=some .globalImplicit)(ha:xZ.lookup n=some a)(h:Q (.exc a,σ)):
  ES g c (.Raise (some (.Call (.Name n np) [] [] cpos)) none pos) σ Q:=λE ts P s K S=>by
 refine raA (X.at_ n a ha) λe1 e2 e3 e4=>?_
 refine St.el (id S) λb m mo rest a1 a2 ø ø ø ø ø=>?_
 refine Raise_own20 a1.F (topRead_of a1.T).g (own_of_in a1.X (topRead_of a1.T) e1 e3) PySem.F.excBase_Exception (by decide) PySem.F.excBase_Exception O.handled (λh' e hm=>K.take a σ e _ h (jA s.heap S hm)) c.hk (by show scK c.sc n=_;rw[O.sc];exact hl) e2
theorem tK (O:mB g t c)(X:fI g)(IB:∀b σ Q,(fb b σ).sat Q->EB g c b σ Q){n:Str}{np hp pp pos:Pos}{body:List Stmt}{a:Addr}(hl:scK t.sc n=some .globalImplicit)(ha:xZ.lookup n=some a){QB:Out×AS->Prop}
  (hb:EB g c body σ QB) (h:∀o σ',QB (o,σ')->match o with| .exc b=>b=a/\Q (.next,σ')|o=>Q (o,σ')):
  ES g c (.Try body [.ExceptHandler (some (.Name n np)) none [.Pass pp] hp] [] [] pos) σ Q:=λE ts P s K S=>by
 refine raA (X.at_ n a ha) λe1 e2 e3 e4=>?_
 refine wpAny_Try_except (wpAny_mono (hb _ ts P s ⟨PassesOwnAt.lookingOf (SameStack.refl _) (K:=λe s₂=>wpAny g.M c.A (setFlight e none) (λø s₃=>wpAny g.M c.A (handleBy e c.env [.ExceptHandler (some (.Name n np)) none [.Pass pp] hp]) (Post g c Q ts P) E s₃) E s₂) (E₁:=E),?_⟩ S) (λfl s₁ ⟨o,σ₁,hq,hr⟩=>?_) λø ø x=>x)
 ·intro b σ₁ e s₁ hq o2;refine iA o2 λh₁ S₁ hm=>?_
  refine gA (h _ _ hq) λo4 hq=>?_;obtain rfl:=o4
  refine St.el S₁ λb' m mo rest a1 a2 a3 a4 a5 o6 o7=>?_;have a6:=And.intro o6 o7
  have:=eZ (prog:=g.prog) (w:=g.w) (name:=c.nm) (a:=c.a) (cd:=c.cd) (scope:=c.sc) (E:=λø ø=>False) (Q:=Post g c Q ts P) (np:=np) (pos:=hp) (rest:=[]) (b₀:=.Pass pp) (suite:=[]) hm a1.F a1.N a1.B g.X g.T a1.D a1.turn e1 e4 (λh' g' k1 k2 k3 k4 k5=>wpAny_execs_cons (wpAny_Pass (wpAny_execs_nil (zA .next σ₁ hq (eB rfl (lD g' m mo rest ⟨⟨k4,k1,k5,k2,k3⟩,a2,a3,a4,a5,a6⟩)))))) c.hk (by show scK c.sc n=_;rw[O.sc];exact hl) e2 PassesOwnAt.never
  exact wpAny_mono this (λø s₂ h₂=>wpAny_mono h₂ (λø s₃ h₃=>wpAny_mono h₃ (λø ø x=>x) λø ø x=>x.elim) λø ø x=>x.elim) λø ø x=>x.elim
 ·have hq:=h _ _ hq
  induction o using Mine.Out.casesOn with
  |next=>refine gA hr λo9 S'=>?_;obtain rfl:=o9;exact wpAny_execs_nil (zA .next σ₁ hq (eB rfl S'))
  |brk=>refine gA hr λo10 S'=>?_;obtain rfl:=o10;exact zA .brk σ₁ hq (eB rfl S')
  |cont=>refine gA hr λo11 S'=>?_;obtain rfl:=o11;exact zA .cont σ₁ hq (eB rfl S')
  |ret v=>refine iA hr λval o12 S'=>?_;obtain rfl:=o12;exact zA (.ret v) σ₁ hq (jA val rfl S')
  |exc a=>exact hr.elim
theorem hU {body:List Stmt}{pos kp:Pos}{kk:Nat}(I:Nat->AS->Prop)(n:Nat)(h0:I n σ)
  (turn:∀n σ,I n σ->EB g c body σ λx=>match x.1 with| .next| .cont=>∃m,m<n/\I m x.2| .brk=>Q (.next,x.2)| .ret v=>Q (.ret v,x.2)| .exc a=>Q (.exc a,x.2)):
  ES g c (.While (.Constant (.bool true) kk kp) body [] pos) σ Q:=λE ts P s K S=>by
 refine wpAny_While (codeAny_whileLoop (λn s=>∃σ,I n σ/\St g c σ ts P s) ?_ n (jA σ h0 S))
 intro n s o1;refine iA o1 λσ hI S=>?_
 refine wpAny_isTrue_value (wpAny_Constant_bool (wpAny_truthy_bool ?_)) rfl
 refine wpAny_passesOwn K.own (wpAny_mono (turn n σ hI E ts P s ⟨K.own,λa σ' e s' hq=>K.take a σ' e s' hq⟩ S) (λfl s₁ ⟨o,σ₁,hq,hr⟩=>?_) λø ø x=>x)
 induction o using Mine.Out.casesOn with
 |next=>refine gA hr λo4 S'=>?_;obtain rfl:=o4;refine iA hq λm hm hI'=>?_;exact jA m hm (jA σ₁ hI' S')
 |cont=>refine gA hr λo5 S'=>?_;obtain rfl:=o5;refine iA hq λm hm hI'=>?_;exact jA m hm (jA σ₁ hI' S')
 |brk=>refine gA hr λo6 S'=>?_;obtain rfl:=o6;exact zA .next σ₁ hq (eB rfl S')
 |ret v=>refine iA hr λval o7 S'=>?_;obtain rfl:=o7;exact zA (.ret v) σ₁ hq (jA val rfl S')
 |exc a=>exact hr.elim
theorem pM {test:Expr}{body:List Stmt}{pos:Pos}(I:Nat->AS->Prop)(n:Nat)(h0:I n σ)
  (turn:∀n σ,I n σ->EC g c test σ λx=>(x.1=true->EB g c body x.2 λx=>match x.1 with| .next| .cont=>∃m,m<n/\I m x.2| .brk=>Q (.next,x.2)| .ret v=>Q (.ret v,x.2)| .exc a=>Q (.exc a,x.2))/\(x.1=false->Q (.next,x.2))):
  ES g c (.While test body [] pos) σ Q:=λE ts P s K S=>by
 refine wpAny_While (codeAny_whileLoop (λn s=>∃σ,I n σ/\St g c σ ts P s) ?_ n (jA σ h0 S))
 intro n s o1;refine iA o1 λσ hI S=>?_
 refine wpAny_mono (turn n σ hI _ ts P s S) (λb s₀ ⟨σ₀,⟨ht,hf⟩,S₀⟩=>?_) λø ø x=>x
 induction b using Bool.casesOn with
 |false=>exact wpAny_execs_nil (zA .next σ₀ (hf rfl) (eB rfl S₀))
 |true=>
  refine wpAny_passesOwn K.own (wpAny_mono (ht rfl E ts P s₀ ⟨K.own,λa σ' e s' hq=>K.take a σ' e s' hq⟩ S₀) (λfl s₁ ⟨o,σ₁,hq,hr⟩=>?_) λø ø x=>x)
  induction o using Mine.Out.casesOn with
  |next=>refine gA hr λo6 S'=>?_;obtain rfl:=o6;refine iA hq λm hm hI'=>?_;exact jA m hm ⟨σ₁,hI',S'⟩
  |cont=>refine gA hr λo7 S'=>?_;obtain rfl:=o7;refine iA hq λm hm hI'=>?_;exact jA m hm ⟨σ₁,hI',S'⟩
  |brk=>refine gA hr λo8 S'=>?_;obtain rfl:=o8;exact zA .next σ₁ hq (eB rfl S')
  |ret v=>refine iA hr λval o9 S'=>?_;obtain rfl:=o9;exact zA (.ret v) σ₁ hq (jA val rfl S')
  |exc a=>exact hr.elim
end
section
variable {g:Gr}{t:Tb}{c:Cx}{fe:Expr->AS->T (V×AS)}{fc:Expr->AS->T (Bool×AS)}{fb:List Stmt->AS->T (Out×AS)}
theorem yyA (O:mB g t c)(X:fI g)(IH:∀e σ Q,(fe e σ).sat Q->EV g c e σ Q)(IC:∀e σ Q,(fc e σ).sat Q->EC g c e σ Q)(IB:∀b σ Q,(fb b σ).sat Q->EB g c b σ Q)(st:Stmt)(σ:AS)(Q:Out×AS->Prop)
  (h:(phB t fe fc fb st σ).sat Q):ES g c st σ Q:=by
 induction st using PySem.Stmt.casesOn with
 |Return v _=>induction v using Option.casesOn with
  |none=>exact h.elim
  |some e=>exact jR IH h
 |Assign l e _=>induction l using List.casesOn with
  |nil=>exact h.elim
  |cons a r=>induction a using PySem.Expr.casesOn with
   |Name x _=>induction r using List.casesOn with
    |nil=>exact aV O IH h
    |cons _ _=>exact h.elim
   |Attribute v x _=>induction v using PySem.Expr.casesOn with
    |Name n np=>induction r using List.casesOn with
     |nil=>exact riA O IH h
     |cons _ _=>exact h.elim
    |_=>exact h.elim
   |_=>exact h.elim
 |AugAssign a op e _=>induction a using PySem.Expr.casesOn with
  |Name x _=>exact piA O IH h
  |Attribute v x _=>induction v using PySem.Expr.casesOn with
   |Name n np=>exact qiA O IH h
   |_=>exact h.elim
  |_=>exact h.elim
 |If c a b _=>exact owA IC IB h
 |Expr e _=>
  replace h:T.sat (if rS e then(fe e σ).bind λx=>if noRef x.1 then .ret (.next,x.2)else .fail else .fail) Q:=h
  by_cases hc:rS e=true
  ·rw[if_pos hc]at h
   exact whA IH hc h
  ·rw[if_neg hc]at h
   exact h.elim
 |Pass _=>exact λE ts P s _ S=>wpAny_Pass (zA .next σ h (eB rfl S))
 |Break _=>exact λE ts P s _ S=>wpAny_Break (zA .brk σ h (eB rfl S))
 |Continue _=>exact λE ts P s _ S=>wpAny_Continue (zA .cont σ h (eB rfl S))
 |Assert c _ _=>exact haA IC h
 |Raise e k _=>induction e using Option.casesOn with
  |none=>exact h.elim
  |some e=>induction e using PySem.Expr.casesOn with
   |Call f as ks _=>induction f using PySem.Expr.casesOn with
    |Name n _=>induction as using List.casesOn with
     |nil=>induction ks using List.casesOn with
      |nil=>induction k using Option.casesOn with
       |none=>
        replace h:T.sat (match scK t.sc n,xZ.lookup n with|some .globalImplicit,some a=>.ret (.exc a,σ)|_,_=>.fail) Q:=h
        split at h
        ·rename_i h1 h2
         exact kbA O X h1 h2 h
        ·exact h.elim
       |some _=>exact h.elim
      |cons _ _=>exact h.elim
     |cons _ _=>exact h.elim
    |_=>exact h.elim
   |_=>exact h.elim
 |Try body hs els fin _=>induction hs using List.casesOn with
  |nil=>exact h.elim
  |cons x r=>induction x using PySem.ExceptHandler.casesOn with
   |ExceptHandler ty nm b hp=>induction ty using Option.casesOn with
    |none=>exact h.elim
    |some e=>induction e using PySem.Expr.casesOn with
     |Name n np=>induction nm using Option.casesOn with
      |some _=>exact h.elim
      |none=>induction b using List.casesOn with
       |nil=>exact h.elim
       |cons s1 b'=>induction s1 using PySem.Stmt.casesOn with
        |Pass pp=>induction b' using List.casesOn with
         |cons _ _=>exact h.elim
         |nil=>induction r using List.casesOn with
          |cons _ _=>exact h.elim
          |nil=>induction els using List.casesOn with
           |cons _ _=>exact h.elim
           |nil=>induction fin using List.casesOn with
            |cons _ _=>exact h.elim
            |nil=>
             replace h:T.sat (match scK t.sc n,xZ.lookup n with
              |some .globalImplicit,some a=>(fb body σ).bind λx=>(match x.1 with| .exc b=>if a=b then .ret (.next,x.2)else .fail|o=>.ret (o,x.2))
              |_,_=>.fail) Q:=h
             split at h
             ·rename_i h1 h2
              refine tK O X IB h1 h2 (IB _ _ _ (cB h)) λo σ' hq=>?_
              induction o using Mine.Out.casesOn with
              |exc b=>
               dsimp only at hq
               split at hq
               ·rename_i e;exact eB e.symm hq
               ·exact hq.elim
              |_=>exact hq
             ·exact h.elim
        |_=>exact h.elim
     |_=>exact h.elim
 |While e body els _=>induction e using PySem.Expr.casesOn with
  |Constant k kk kp=>induction k using PySem.Const.casesOn with
   |bool b=>induction b using Bool.casesOn with
    |false=>exact h.elim
    |true=>induction els using List.casesOn with
     |cons _ _=>exact h.elim
     |nil=>
      replace h:T.sat ((fb body σ).bind λx=>(match x.1 with| .brk=>.ret (.next,x.2)| .ret v=>.ret (.ret v,x.2)| .exc a=>.ret (.exc a,x.2)|_=>.fail)) Q:=h
      have hb:=IB _ _ _ (cB h)
      refine hU (λn σ'=>n=0/\σ'=σ) 0 (eB rfl rfl) λn σ' hI=>?_
      obtain⟨rfl,rfl⟩:=hI
      refine λE ts P s K S=>wpAny_mono (hb E ts P s (K.mono λx hx=>?_) S) (λfl s' h=>h.mono λx hx=>?_) λ_ _ x=>x
      ·obtain⟨o,σ''⟩:=x
       induction o using Mine.Out.casesOn<;>first|exact hx|exact hx.elim
      ·obtain⟨o,σ''⟩:=x
       induction o using Mine.Out.casesOn<;>first|exact hx|exact hx.elim
   |_=>exact h.elim
  |_=>exact h.elim
 |_=>exact h.elim
theorem cJ (O:mB g t c)(X:fI g):∀n st σ Q,(aiS t n st σ).sat Q->ES g c st σ Q:=by
 intro l0
 induction l0 with
 |zero=>
  intro ø ø ø h
  exact h.elim
 |succ n ih=>
  intro st σ Q h
  exact yyA O X (nK O 20).1 (nK O 20).2 (uO (ih)) st σ Q h
theorem fD (O:mB g t c)(X:fI g)(n:Nat)(b:List Stmt)(σ:AS)(Q:Out×AS->Prop)(h:(aiB (aiS t n) b σ).sat Q):EB g c b σ Q:=uO (cJ O X n) b σ Q h
end
structure CxOK (c:Cx) (n:Nat):Prop where
 depth:c.A.depth+n<900
 handled:c.A.handled=none
 units:c.A.units+3*n<3000
noncomputable def xS (g:Gr)(n:Nat)(f:Addr)(vs:List V)(μ:Mu)(Q:V×Mu->Prop):Prop:=∀c σ,CxOK c n->σ.μ=μ->bqA g c f vs σ Q
noncomputable def dB (Q:V×Mu->Prop):Out×AS->Prop
 |(.ret v,σ)=>Q (v,σ.μ)
 |(.next,σ)=>Q (.none,σ.μ)
 |_=>False
theorem qK {ps:List Str}:∀{vals:List Value},ps.Nodup->∀{x:Str},(ps.zip vals).reverse.lookup x=(ps.zip vals).lookup x:=by
 intro vals hn x
 induction ps generalizing vals with
 |nil=>rfl
 |cons p ps ih=>
  induction vals using List.casesOn with
  |nil=>rfl
  |cons v vals=>
   simp only[List.zip_cons_cons,List.reverse_cons,List.lookup_append,ih (List.nodup_cons.mp hn).2]
   by_cases h:x=p
   ·subst h
    have:(ps.zip vals).lookup x=none:=by
     refine(List.lookup_eq_none_iff ..).mpr ?_
     intro q hq
     have:=(List.of_mem_zip hq).1
     refine(bne_iff_ne ..).mpr ?_;refine(ne_eq ..).mpr ?_
     intro e
     rw[e]at hn
     exact(List.nodup_cons.mp hn).1 this
    simp only[this,List.lookup_cons_self]
    simp
   ·have q:(x==p)=false:=beq_false_of_ne h
    simp only[List.lookup_cons,q,List.lookup_nil]
    cases (ps.zip vals).lookup x<;>rfl
theorem rK {ps:List Str}:∀{vs:List V} {vals:List Value},vs.length=vals.length->∀{x:Str} {v:V},(ps.zip vs).lookup x=some v->∃val,(ps.zip vals).lookup x=some val/\(v,val)∈vs.zip vals:=by
 intro vs vals hl x v h
 induction ps generalizing vs vals with
 |nil=>exact no h
 |cons p ps ih=>
  induction vs using List.casesOn with
  |nil=>exact no h
  |cons w vs=>
   induction vals using List.casesOn with
   |nil=>injection hl
   |cons u vals=>
    rw[List.zip_cons_cons,List.lookup_cons]at h
    simp only[List.zip_cons_cons,List.lookup_cons,List.zip_cons_cons]
    by_cases q:x=p
    ·subst q
     rw[beq_self_eq_true]at h ⊢
     have o1:=inj h;clear h;obtain rfl:=o1
     exact jA u rfl (.head _)
    ·rw[beq_false_of_ne q]at h ⊢
     refine iA (ih (Nat.succ.inj hl) h) λval e hm=>?_
     exact jA val e (.tail _ hm)
section
variable {g:Gr}{n:Nat}{f:Addr}{vs:List V}{μ:Mu}{Q:V×Mu->Prop}{name qual:Str}{params:Arguments}{body:List Stmt}{scope:Scope}{dV kV doc pm cdv ct oc:Value}{an od:Option Addr}{osl:Array (Option Value)}
theorem liA (ps:List Str)(hf:g.K.lookup f=some ⟨oc,od,.func (fnOf name qual params body scope dV kV doc pm an cdv ct),osl⟩)(hcd:codeIn g.K cdv qual=true)(hlen:vs.length=ps.length)
  (hbind:∀vals:List Value,vals.length=ps.length->bindArgs (fnOf name qual params body scope dV kV doc pm an cdv ct) ⟨vals,[]⟩=pure (ps.zip vals)) (hn:ps.Nodup) (hloc:∀y∈ps,scope.names.lookup y=some .local)
  (hco:scope.isCoroutine=false) (hgen:scope.isGenerator=false) (hk:scope.kind=.function) (hcell:∀x∈scope.names,x.2≠.cell)
  (hb:∀c,CxOK c n->c.sc=scope->EB g c body ⟨ps.zip vs,μ⟩ (dB Q)):xS g (n+1) f vs μ Q:=by
 intro c σ hc hμ E ts P s vals hl S
 refine St.el S λb m mo rest a1 a2 a3 a4 a5 a6 a7=>?_
 have hvl:vals.length=ps.length:=hl.symm.trans hlen
 refine wpAny_call (code_defS (A₀:=c.A₀) (base:=g.base) (outer:=c.outer) (K:=g.K) (g₀:=c.g₀) (cn:=c.nm) (cs:=c.sc) (a:=c.a) (ccd:=c.cd) (binds:=ps.zip vals) a1.B a1.F a1.X a1.N a1.T g.X g.T a1.D a1.turn (Around.frames_deeper a1.B.stack) hf hcd
  (by have:=hc.depth;exact ar6 this) (.of_eq (hbind vals hvl)) (λy hy=>hloc _ (List.of_mem_zip hy).1) (λG L' h₁ F0 F1 N1 B1 X1 T1 D1=>?_) c.hk hco hgen hk hcell)
 let c':Cx:=⟨c.A,c.env::c.outer,qual,scope,L',f,cdv,G,hk⟩
 have hc':CxOK c' n:=⟨by have:=hc.depth;exact ar7 this,hc.handled,by have:=hc.units;exact ar8 this⟩
 have S':St g c' ⟨ps.zip vs,μ⟩ [] rest {s with heap:=h₁,toks:=s.toks+(ps.zip vals).length}:=by
  refine lD G _ mo rest ⟨⟨B1,.refl,D1,F1,N1⟩,by simp only[<-hμ];exact a2,λx v hx=>?_,λt ht=>(nomatch ht),λp hp=>hp,a6,a7⟩
  refine iA (rK hl hx) λval e hm=>?_
  refine jA val ?_ (a4 _ (zH _ hm))
  refine qDzq (qK hn ..) ?_
  exact e
 have fin:∀(v:V) (val:Value) (σ':AS) (s':Shared),Q (v,σ'.μ)->St g c' σ' [(v,val)] rest s'->LeaveS ((c.env::c.outer).filterMap (·.frame)) c.A₀ g.base c.outer g.K g.p g.loose g.mean g.mg g.mb c.g₀ b c.L m G
   (λr s'=>match r with| .ok (.ret v)=>∃w μ',Q (w,μ')/\St g c {σ with μ:=μ'} ((w,v)::ts) P s'| .ok ø=>False| .error e=>E e s') val s':=λv val σ' s' hq hS=>by
  refine St.el hS λb' m' mo' rest' b1 b2 b3 b4 b5 b6 b7=>?_
  refine leaveS_r b1.F b1.N b1.turn λh₀' k1 k2 k3 k4 k5 k6 k7=>zA v σ'.μ hq (lD h₀' m mo' rest' ⟨⟨k4,k1,k7,k2,k3⟩,b2,λx u hx=>?_,λt ht=>?_,λp hp=>b5 p (a5 p hp),b6,b7⟩)
  ·refine iA (a3 x u hx) λw hw hr=>?_
   exact jA w hw (hr.mono b5)
  ·rcases xB ht with rfl|ht
   ·exact b4 _ (.head _)
   ·exact(a4 t (eE _ ht)).mono b5
 have hE:EOK g c' (dB Q) [] rest (λe s'=>wpAny g.M c'.A («leaving» c'.env e) (λø s''=>(match(Except.error e:Result)with| .ok (.ret v)=>∃w μ',Q (w,μ')/\St g c {σ with μ:=μ'} ((w,v)::ts) P s''| .ok ø=>False| .error e=>E e s''))
   (λe' s''=>(match(Except.error e':Result)with| .ok (.ret v)=>∃w μ',Q (w,μ')/\St g c {σ with μ:=μ'} ((w,v)::ts) P s''| .ok ø=>False| .error e=>E e s'')) s'):=by
  refine⟨PassesOwn.leaving (Q₁:=λe s''=>E e s''),λa σ' e s' hq ø=>hq.elim⟩
 refine wpAny_mono (hb c' hc' rfl _ [] rest _ hE S') (λfl s' ⟨o,σ',hq,hr⟩=>?_) λø ø x=>x
 induction o using Mine.Out.casesOn with
 |next=>refine gA hr λo4 S''=>?_;obtain rfl:=o4;exact fin .none .none σ' s' hq (S''.imm λø=>.none)
 |ret v=>refine iA hr λval o5 S''=>?_;obtain rfl:=o5;exact fin v val σ' s' hq S''
 |brk=>exact hq.elim
 |cont=>exact hq.elim
 |exc a=>exact hr.elim
end
end Mine
namespace Mine
set_option maxHeartbeats 0
open PySem PySem.W PySem.Calls PyProof.Rows
noncomputable def pP:List AmE:=[⟨434,"s",(-1),3⟩,⟨437,"ies",0,2⟩,⟨440,"sses",0,1⟩,⟨443,"ss",0,(-1)⟩]
noncomputable def dQ:List AmE:=[⟨448,"",(-1),3⟩,⟨451,"bb",0,2⟩,⟨454,"dd",0,2⟩,⟨457,"ff",0,2⟩,⟨460,"gg",0,2⟩,⟨463,"bl",0,1⟩,⟨466,"mm",0,2⟩,⟨469,"nn",0,2⟩,⟨472,"pp",0,2⟩,⟨475,"rr",0,2⟩,⟨478,"at",0,1⟩,⟨481,"tt",0,2⟩,⟨484,"iz",0,1⟩]
noncomputable def cQ:List AmE:=[⟨488,"ed",(-1),2⟩,⟨491,"eed",0,1⟩,⟨494,"ing",(-1),2⟩]
noncomputable def naA:List AmE:=[⟨498,"anci",(-1),3⟩,⟨501,"enci",(-1),2⟩,⟨504,"abli",(-1),4⟩,⟨507,"eli",(-1),6⟩,⟨510,"alli",(-1),9⟩,⟨513,"ousli",(-1),11⟩,⟨516,"entli",(-1),5⟩,⟨519,"aliti",(-1),9⟩,⟨522,"biliti",(-1),13⟩,⟨525,"iviti",(-1),12⟩,⟨528,"tional",(-1),1⟩,⟨531,"ational",10,8⟩,⟨534,"alism",(-1),9⟩,⟨537,"ation",(-1),8⟩,⟨540,"ization",13,7⟩,⟨543,"izer",(-1),7⟩,⟨546,"ator",(-1),8⟩,⟨549,"iveness",(-1),12⟩,⟨552,"fulness",(-1),10⟩,⟨555,"ousness",(-1),11⟩]
noncomputable def maA:List AmE:=[⟨560,"icate",(-1),2⟩,⟨563,"ative",(-1),3⟩,⟨566,"alize",(-1),1⟩,⟨569,"iciti",(-1),2⟩,⟨572,"ical",(-1),2⟩,⟨575,"ful",(-1),3⟩,⟨578,"ness",(-1),3⟩]
noncomputable def mS:List AmE:=[⟨583,"ic",(-1),1⟩,⟨586,"ance",(-1),1⟩,⟨589,"ence",(-1),1⟩,⟨592,"able",(-1),1⟩,⟨595,"ible",(-1),1⟩,⟨598,"ate",(-1),1⟩,⟨601,"ive",(-1),1⟩,⟨604,"ize",(-1),1⟩,⟨607,"iti",(-1),1⟩,⟨610,"al",(-1),1⟩,⟨613,"ism",(-1),1⟩,⟨616,"ion",(-1),2⟩,⟨619,"er",(-1),1⟩,⟨622,"ous",(-1),1⟩,⟨625,"ant",(-1),1⟩,⟨628,"ent",(-1),1⟩,⟨631,"ment",15,1⟩,⟨634,"ement",16,1⟩,⟨637,"ou",(-1),1⟩]
noncomputable def vcA:List Str:=["ss","i",""]
noncomputable def jaA:List Str:=["tion","ence","ance","able","ent","e","ize","ate","al","ful","ous","ive","ble"]
noncomputable def iaA:List Str:=["al","ic",""]
noncomputable def s2L:List (Str×Str):=[("ational","ate"),("tional","tion"),("enci","ence"),("anci","ance"),("izer","ize"),("bli","ble"),("alli","al"),("entli","ent"),("eli","e"),("ousli","ous"),("ization","ize"),("ation","ate"),("ator","ate"),("alism","al"),("iveness","ive"),("fulness","ful"),("ousness","ous"),("aliti","al"),("iviti","ive"),("biliti","ble"),("logi","log")]
noncomputable def s3L:List (Str×Str):=[("icate","ic"),("ative",""),("alize","al"),("iciti","ic"),("ical","ic"),("ful",""),("ness","")]
noncomputable def clsT:List (Str×V):=[("g_v",.set false),("g_v_WXY",.set true),("a_0",.aml pP),("a_1",.aml dQ),("a_2",.aml cQ),("a_3",.aml naA),("a_4",.aml maA),("a_5",.aml mS),("as_0",.kt vcA),("as_3",.kt jaA),("as_4",.kt iaA)]
noncomputable def methT:List (Str×Addr):=[(("r_shortv":Str),(355:Addr)),(("r_R1":Str),(362:Addr)),(("r_R2":Str),(369:Addr)),(("r_Step_1a":Str),(376:Addr)),(("r_Step_1b":Str),(383:Addr)),(("r_Step_1c":Str),(390:Addr)),(("r_Step_2":Str),(397:Addr)),(("r_Step_3":Str),(404:Addr)),(("r_Step_4":Str),(411:Addr)),(("r_Step_5a":Str),(418:Addr)),(("r_Step_5b":Str),(425:Addr)),(("_stem":Str),(432:Addr)),(("__init__":Str),(150:Addr)),(("set_current":Str),(157:Addr)),(("get_current":Str),(164:Addr)),(("copy_from":Str),(171:Addr)),(("in_grouping":Str),(178:Addr)),(("go_in_grouping":Str),(185:Addr)),(("in_grouping_b":Str),(192:Addr)),(("go_in_grouping_b":Str),(199:Addr)),(("out_grouping":Str),(206:Addr)),(("go_out_grouping":Str),(213:Addr)),(("out_grouping_b":Str),(220:Addr)),(("go_out_grouping_b":Str),(227:Addr)),(("eq_s":Str),(234:Addr)),(("eq_s_b":Str),(241:Addr)),(("find_among":Str),(248:Addr)),(("find_among_b":Str),(255:Addr)),(("replace_s":Str),(262:Addr)),(("slice_from":Str),(269:Addr)),(("slice_del":Str),(276:Addr)),(("insert":Str),(283:Addr)),(("slice_to":Str),(290:Addr)),(("assign_to":Str),(297:Addr)),(("stemWord":Str),(304:Addr)),(("stemWords":Str),(311:Addr))]
noncomputable def fnT:List (Str×Addr):=[(("_wall":Str),(21:Addr)),(("_run":Str),(31:Addr)),(("_mgr0":Str),(38:Addr)),(("_meq1":Str),(45:Addr)),(("_mgr1":Str),(52:Addr)),(("_s_v":Str),(59:Addr)),(("_c_v":Str),(66:Addr)),(("_ed_ing":Str),(73:Addr)),(("_at_bl_iz":Str),(80:Addr)),(("_step1b":Str),(87:Addr)),(("_longest":Str),(94:Addr)),(("_step2":Str),(101:Addr)),(("_step3":Str),(108:Addr)),(("_step4_1":Str),(115:Addr)),(("_step4_2":Str),(122:Addr)),(("_step5":Str),(129:Addr)),(("stem":Str),(136:Addr)),(("_law_reader":Str),(688:Addr)),(("_law_pick":Str),(695:Addr)),(("_law_second":Str),(702:Addr)),(("_law_third":Str),(709:Addr)),(("_law_fourth":Str),(716:Addr)),(("_law_ends":Str),(723:Addr)),(("_law_word":Str),(730:Addr)),(("_law_row":Str),(735:Addr)),(("_law_measure":Str),(740:Addr)),(("_law_short":Str),(747:Addr)),(("_law_marked":Str),(754:Addr)),(("_law_healed":Str),(761:Addr)),(("_law_first":Str),(768:Addr)),(("_law_end":Str),(775:Addr)),(("_law_swapped":Str),(782:Addr)),(("_law_rest":Str),(789:Addr)),(("_law_is_right":Str),(796:Addr)),(("law":Str),(801:Addr))]
noncomputable def globT:List (Str×V):=[("PorterStemmer",.top 642),("_step2list",.kd s2L),("_step3list",.kd s3L)]
noncomputable def bltT:List (Str×String):=[("len","len"),("min","min"),("ord","ord")]
structure Ex where
 e1:Array (Int×Value)
 p1:Nat
 t1:SetTable
 e2:Array (Int×Value)
 p2:Nat
 t2:SetTable
noncomputable def KX (P:Params)(ex:Ex):Frag:=KL P++[(347,qC ex.e1 ex.p1 ex.t1),(348,qC ex.e2 ex.p2 ex.t2)]
section
variable (P:Params)(ex:Ex)
theorem pR:(methT.all λe=>plainGet (KX P ex) 642 e.1&&(findIn (KX P ex) (.ref 642) e.1==some (some (.ref e.2)))&&isFn (KX P ex) (.ref e.2)&&keepIn (KX P ex) (.ref e.2))=true:=by kernel_rfl
theorem vZ:(fnT.all λe=>(nsIn (KX P ex) 3 e.1==some (some (.ref e.2)))&&keepIn (KX P ex) (.ref e.2)&&(e.1==("__debug__":Str))==false)=true:=by kernel_rfl
theorem oiA:(bltT.all λe=>(nsIn (KX P ex) 3 e.1==some none)&&(bootBuiltins e.1==some (.builtin e.2))&&(e.1==("__name__":Str))==false&&(e.1==("__debug__":Str))==false)=true:=by kernel_rfl
theorem yP:(fieldNames.all λx=>plainGet (KX P ex) 642 x&&(match findIn (KX P ex) (.ref 642) x with|some a=>noGet (KX P ex) a|none=>false)&&(takerIn (KX P ex) 642 x==some none))=true:=by kernel_rfl
theorem bM:(hasDictIn (KX P ex) 642&&(findIn (KX P ex) (.ref 642) "__setattr__"==some (some (.builtin "object.__setattr__")))&&plainOver (KX P ex) 642&&hasDictIn (KX P ex) 335)=true:=by kernel_rfl
theorem lpA:((["s","substring_i","result"]:List Str).all λx=>plainGet (KX P ex) 335 x&&(findIn (KX P ex) (.ref 335) x==some none))=true:=by kernel_rfl
theorem xhA:(xZ.all λe=>(nsIn (KX P ex) 3 e.1==some (some (.ref e.2)))&&(e.1==("__debug__":Str))==false&&excIn (KX P ex) e.2 aoA znA&&ktsIn (KX P ex) e.2 "BaseException")=true:=by kernel_rfl
noncomputable def xgB:List (Str×Addr):=[("g_v",347),("g_v_WXY",348),("a_0",445),("a_1",486),("a_2",496),("a_3",557),("a_4",580),("a_5",639),("as_0",446),("as_3",558),("as_4",581)]
theorem pcA:(xgB.all λe=>(typeIn (KX P ex) (.ref 642)==some (.type "type"))&&readsIn (KX P ex) 642 (.type "type")&&(match findCls (KX P ex) (.ref 642) (.type "type") e.1 with|some (.val v)=>v==.ref e.2|_=>false))=true:=by kernel_rfl
end
end Mine
namespace Mine
open PySem PySem.W PySem.Calls PyProof.Rows
noncomputable def ncB (x:Str):Option (Option Value)->Bool
 |some (some (.str y _))=>y==x
 |_=>false
noncomputable def mwA (x:Int):Option (Option Value)->Bool
 |some (some (.int y _))=>y==x
 |_=>false
theorem zqA {x:Str}{o:Option (Option Value)}(h:ncB x o=true):∃t,o=some (some (.str x t)):=by
 unfold ncB at h
 split at h
 ·rw[eq_of_beq h];exact yC _ rfl
 ·exact nof h
theorem peA {x:Int}{o:Option (Option Value)}(h:mwA x o=true):∃t,o=some (some (.int x t)):=by
 unfold mwA at h
 split at h
 ·rw[eq_of_beq h];exact yC _ rfl
 ·exact nof h
noncomputable def mfB:Data->Bool
 | .plain=>true
 |_=>false
noncomputable def ioA:Data->Option (List DictEntry×Nat)
 | .dict es n=>some (es.toList,n)
 |_=>none
theorem kwA {d:Data}(h:mfB d=true):d=.plain:=by cases d<;>first|exact no h|exact nof h|(injection h;rfl)
theorem hoA {d:Data}{x:List DictEntry×Nat}(h:ioA d=some x):d=.dict x.1.toArray x.2:=by cases d<;>first|exact no h|exact nof h|(cases h;rfl)
noncomputable def amD (e:AmE)(o:Obj):Bool:=o.cls==.type "dict"&&o.dict.isNone&&o.slots==#[]&&(match ioA o.data with
 |some x=>ncB e.s (getL "s" x.1)&&mwA e.sub (getL "substring_i" x.1)&&mwA e.res (getL "result" x.1)
 |none=>false)
noncomputable def amB (K:Frag)(e:AmE):Bool:=((K.lookup e.addr).bind λo=>if o.cls==.ref 335&&mfB o.data then o.dict.bind λd=>(K.lookup d).map (amD e)else none).getD false
theorem mhB {K:Frag}{e:AmE}(h:amB K e=true):AmR K e:=by
 unfold amB at h
 cases q:((K.lookup e.addr).bind λo=>if o.cls==.ref 335&&mfB o.data then o.dict.bind λd=>(K.lookup d).map (amD e)else none)with
 |none=>rw[q]at h;exact nof h
 |some b=>
  rw[q]at h
  replace h:b=true:=h
  subst h
  refine iA (dH q) λo ho q=>?_
  split at q
  ·rename_i hc
   refine iA (dH q) λd hd q=>?_
   refine iA (Option.map_eq_some_iff.mp q) λo2 ho2 q=>?_
   unfold amD at q
   simp only[oA]at hc
   replace q:=bmp (bmp (bmp id id) id) id q
   obtain⟨⟨⟨q1,q2⟩,q3⟩,q4⟩:=q
   obtain⟨c,dd,dt,sl⟩:=o
   obtain⟨c2,dd2,dt2,sl2⟩:=o2
   cases hx:ioA dt2 with
   |none=>rw[hx]at q4;exact nof q4
   |some x=>
    rw[hx]at q4
    replace q4:=bmp (bmp id id) id q4
    have e1:c=.ref 335:=eq_of_beq hc.1
    have e2:dt=.plain:=kwA hc.2
    have e3:dd=some d:=hd
    have e4:c2=.type "dict":=eq_of_beq q1
    have e5:dd2=none:=Option.isNone_iff_eq_none.mp q2
    have e6:sl2=#[]:=eq_of_beq q3
    have e7:=hoA hx
    subst e1 e2 e3 e4 e5 e6 e7
    exact sfB d x.1 x.2 sl ho ho2 (zqA q4.1.1) (peA q4.1.2) (peA q4.2)
  ·exact no q
structure qA (a:Addr) (d:Arguments×List Stmt×Scope) (ps:List Str):Prop where
 lk:∀P ex,∃(nm q:Str) (mod code:Value),(KX P ex).lookup a=some ⟨.type "function",none,.func (fnOf nm q d.1 d.2.1 d.2.2 .none .none .none mod none code .none),#[]⟩/\codeIn (KX P ex) code q=true
 bind:∀(nm q:Str) (mod code:Value) (vals:List Value),vals.length=ps.length->bindArgs (fnOf nm q d.1 d.2.1 d.2.2 .none .none .none mod none code .none) ⟨vals,[]⟩=pure (ps.zip vals)
 nd:ps.Nodup
 loc:(ps.all λy=>d.2.2.names.lookup y==some .local)=true
 sc:(!d.2.2.isCoroutine&&!d.2.2.isGenerator&&d.2.2.kind==.function&&d.2.2.names.all λx=>x.2 !=.cell)=true
theorem mD {g:Gr}{ex:Ex}(hK:g.K=KX g.w.params ex){a:Addr}{d:Arguments×List Stmt×Scope}{ps:List Str}(R:qA a d ps){n:Nat}{vs:List V}{μ:Mu}{Q:V×Mu->Prop}(hlen:vs.length=ps.length)
  (hb:∀c,CxOK c n->c.sc=d.2.2->EB g c d.2.1 ⟨ps.zip vs,μ⟩ (dB Q)):xS g (n+1) a vs μ Q:=by
 refine paA (R.lk g.w.params ex) λnm q mod code e1 e2=>?_
 have sc:=R.sc
 simp only[oA,aF,beq_iff_eq,List.all_eq_true,bne_iff_ne,ne_eq]at sc
 refine liA ps (by simp only[hK];exact e1) (by rw[hK];exact e2) hlen (R.bind nm q mod code) R.nd (λy hy=>?_) sc.1.1.1 sc.1.1.2 sc.1.2 (λx hx=>sc.2 x hx) hb
 exact beq_iff_eq.mp (fC R.loc y hy)
noncomputable abbrev oaC (a:Addr)(d:Arguments×List Stmt×Scope)(nm q:Str)(mod code:Value):Prop:=∀P ex,(KX P ex).lookup a=some ⟨.type "function",none,.func (fnOf nm q d.1 d.2.1 d.2.2 .none .none .none mod none code .none),#[]⟩
noncomputable abbrev aT (d:Arguments×List Stmt×Scope)(ps:List Str)(vals:List Value):Prop:=∀(nm q:Str) (mod code:Value),bindArgs (fnOf nm q d.1 d.2.1 d.2.2 .none .none .none mod none code .none) ⟨vals,[]⟩=pure (ps.zip vals)
noncomputable def mjB (d:Arguments×List Stmt×Scope)(ps:List Str):Bool:=decide ps.Nodup&&((ps.all λy=>d.2.2.names.lookup y==some .local)&&(!d.2.2.isCoroutine&&!d.2.2.isGenerator&&d.2.2.kind==.function&&d.2.2.names.all λx=>x.2 !=.cell))
theorem fB {a:Addr}{d:Arguments×List Stmt×Scope}{ps:List Str}(nm q:Str)(mod code:Value)(lk:oaC a d nm q mod code)(cd:∀P ex,codeIn (KX P ex) code q=true)(hb:mjB d ps=true)(bd:∀vals:List Value,vals.length=ps.length->aT d ps vals):qA a d ps:=by
 unfold mjB at hb
 rw[oA,oA]at hb
 exact⟨λP ex=>⟨nm,q,mod,code,lk P ex,cd P ex⟩,λnm q mod code vals h=>bd vals h nm q mod code,bB hb.1,hb.2.1,hb.2.2⟩
section
variable {d:Arguments×List Stmt×Scope}{ps:List Str}
theorem bd0 (hp:ps.length=0)(h:aT d ps [])(vals:List Value)(e:vals.length=ps.length):aT d ps vals:=len0 (e.trans hp)▸h
theorem bd1 (hp:ps.length=1)(h:∀a,aT d ps [a])(vals:List Value)(e:vals.length=ps.length):aT d ps vals:=by
 refine jB (bQ (e.trans hp)) λa r o1 e1=>?_;obtain rfl:=o1
 exact len0 e1▸h a
theorem bd2 (hp:ps.length=2)(h:∀a b,aT d ps [a,b])(vals:List Value)(e:vals.length=ps.length):aT d ps vals:=by
 refine jB (bQ (e.trans hp)) λa r o1 e1=>?_;obtain rfl:=o1
 refine jB (bQ e1) λb r o3 e2=>?_;obtain rfl:=o3
 exact len0 e2▸h a b
theorem bd3 (hp:ps.length=3)(h:∀a b c,aT d ps [a,b,c])(vals:List Value)(e:vals.length=ps.length):aT d ps vals:=by
 refine jB (bQ (e.trans hp)) λa r o1 e1=>?_;obtain rfl:=o1
 refine jB (bQ e1) λb r o3 e2=>?_;obtain rfl:=o3
 refine jB (bQ e2) λc r o5 e3=>?_;obtain rfl:=o5
 exact len0 e3▸h a b c
theorem bd4 (hp:ps.length=4)(h:∀a b c x,aT d ps [a,b,c,x])(vals:List Value)(e:vals.length=ps.length):aT d ps vals:=by
 refine jB (bQ (e.trans hp)) λa r o1 e1=>?_;obtain rfl:=o1
 refine jB (bQ e1) λb r o3 e2=>?_;obtain rfl:=o3
 refine jB (bQ e2) λc r o5 e3=>?_;obtain rfl:=o5
 refine jB (bQ e3) λx r o7 e4=>?_;obtain rfl:=o7
 exact len0 e4▸h a b c x
end
theorem wdB:qA 31 (eA 4) ["s","p","signs","inside"]:=fB "_run" "_run" (vS "whoosh.lang.porter" 194) (vR 30) (λø ø=>by kernel_rfl) (λø ø=>by kernel_rfl) (by kernel_rfl) (bd4 rfl λø ø ø ø ø ø ø ø=>by kernel_rfl)
theorem vdB:qA 38 (eA 5) ["s"]:=fB "_mgr0" "_mgr0" (vS "whoosh.lang.porter" 194) (vR 37) (λø ø=>by kernel_rfl) (λø ø=>by kernel_rfl) (by kernel_rfl) (bd1 rfl λø ø ø ø ø=>by kernel_rfl)
theorem udB:qA 45 (eA 6) ["s"]:=fB "_meq1" "_meq1" (vS "whoosh.lang.porter" 194) (vR 44) (λø ø=>by kernel_rfl) (λø ø=>by kernel_rfl) (by kernel_rfl) (bd1 rfl λø ø ø ø ø=>by kernel_rfl)
theorem tdB:qA 52 (eA 7) ["s"]:=fB "_mgr1" "_mgr1" (vS "whoosh.lang.porter" 194) (vR 51) (λø ø=>by kernel_rfl) (λø ø=>by kernel_rfl) (by kernel_rfl) (bd1 rfl λø ø ø ø ø=>by kernel_rfl)
theorem sdB:qA 59 (eA 8) ["s"]:=fB "_s_v" "_s_v" (vS "whoosh.lang.porter" 194) (vR 58) (λø ø=>by kernel_rfl) (λø ø=>by kernel_rfl) (by kernel_rfl) (bd1 rfl λø ø ø ø ø=>by kernel_rfl)
theorem rdB:qA 66 (eA 9) ["s"]:=fB "_c_v" "_c_v" (vS "whoosh.lang.porter" 194) (vR 65) (λø ø=>by kernel_rfl) (λø ø=>by kernel_rfl) (by kernel_rfl) (bd1 rfl λø ø ø ø ø=>by kernel_rfl)
theorem qdB:qA 73 (eA 10) ["w"]:=fB "_ed_ing" "_ed_ing" (vS "whoosh.lang.porter" 194) (vR 72) (λø ø=>by kernel_rfl) (λø ø=>by kernel_rfl) (by kernel_rfl) (bd1 rfl λø ø ø ø ø=>by kernel_rfl)
theorem pdB:qA 80 (eA 11) ["w"]:=fB "_at_bl_iz" "_at_bl_iz" (vS "whoosh.lang.porter" 194) (vR 79) (λø ø=>by kernel_rfl) (λø ø=>by kernel_rfl) (by kernel_rfl) (bd1 rfl λø ø ø ø ø=>by kernel_rfl)
theorem odB:qA 87 (eA 12) ["w"]:=fB "_step1b" "_step1b" (vS "whoosh.lang.porter" 194) (vR 86) (λø ø=>by kernel_rfl) (λø ø=>by kernel_rfl) (by kernel_rfl) (bd1 rfl λø ø ø ø ø=>by kernel_rfl)
theorem ndB:qA 94 (eA 13) ["w","ends"]:=fB "_longest" "_longest" (vS "whoosh.lang.porter" 194) (vR 93) (λø ø=>by kernel_rfl) (λø ø=>by kernel_rfl) (by kernel_rfl) (bd2 rfl λø ø ø ø ø ø=>by kernel_rfl)
theorem muA:qA 101 (eA 14) ["w"]:=fB "_step2" "_step2" (vS "whoosh.lang.porter" 194) (vR 100) (λø ø=>by kernel_rfl) (λø ø=>by kernel_rfl) (by kernel_rfl) (bd1 rfl λø ø ø ø ø=>by kernel_rfl)
theorem luA:qA 108 (eA 15) ["w"]:=fB "_step3" "_step3" (vS "whoosh.lang.porter" 194) (vR 107) (λø ø=>by kernel_rfl) (λø ø=>by kernel_rfl) (by kernel_rfl) (bd1 rfl λø ø ø ø ø=>by kernel_rfl)
theorem kuA:qA 115 (eA 16) ["w"]:=fB "_step4_1" "_step4_1" (vS "whoosh.lang.porter" 194) (vR 114) (λø ø=>by kernel_rfl) (λø ø=>by kernel_rfl) (by kernel_rfl) (bd1 rfl λø ø ø ø ø=>by kernel_rfl)
theorem juA:qA 122 (eA 17) ["w"]:=fB "_step4_2" "_step4_2" (vS "whoosh.lang.porter" 194) (vR 121) (λø ø=>by kernel_rfl) (λø ø=>by kernel_rfl) (by kernel_rfl) (bd1 rfl λø ø ø ø ø=>by kernel_rfl)
theorem iuA:qA 129 (eA 18) ["w"]:=fB "_step5" "_step5" (vS "whoosh.lang.porter" 194) (vR 128) (λø ø=>by kernel_rfl) (λø ø=>by kernel_rfl) (by kernel_rfl) (bd1 rfl λø ø ø ø ø=>by kernel_rfl)
theorem huA:qA 136 (eA 19) ["w"]:=fB "stem" "stem" (vS "whoosh.lang.porter" 194) (vR 135) (λø ø=>by kernel_rfl) (λø ø=>by kernel_rfl) (by kernel_rfl) (bd1 rfl λø ø ø ø ø=>by kernel_rfl)
theorem guA:qA 150 (fA 21 0) ["self"]:=fB "__init__" "BaseStemmer.__init__" (vS "snowballstemmer.basestemmer" 415) (vR 149) (λø ø=>by kernel_rfl) (λø ø=>by kernel_rfl) (by kernel_rfl) (bd1 rfl λø ø ø ø ø=>by kernel_rfl)
theorem aeA:qA 157 (fA 21 1) ["self","value"]:=fB "set_current" "BaseStemmer.set_current" (vS "snowballstemmer.basestemmer" 415) (vR 156) (λø ø=>by kernel_rfl) (λø ø=>by kernel_rfl) (by kernel_rfl) (bd2 rfl λø ø ø ø ø ø=>by kernel_rfl)
theorem fuA:qA 164 (fA 21 2) ["self"]:=fB "get_current" "BaseStemmer.get_current" (vS "snowballstemmer.basestemmer" 415) (vR 163) (λø ø=>by kernel_rfl) (λø ø=>by kernel_rfl) (by kernel_rfl) (bd1 rfl λø ø ø ø ø=>by kernel_rfl)
theorem euA:qA 178 (fA 21 4) ["self","s"]:=fB "in_grouping" "BaseStemmer.in_grouping" (vS "snowballstemmer.basestemmer" 415) (vR 177) (λø ø=>by kernel_rfl) (λø ø=>by kernel_rfl) (by kernel_rfl) (bd2 rfl λø ø ø ø ø ø=>by kernel_rfl)
theorem duA:qA 185 (fA 21 5) ["self","s"]:=fB "go_in_grouping" "BaseStemmer.go_in_grouping" (vS "snowballstemmer.basestemmer" 415) (vR 184) (λø ø=>by kernel_rfl) (λø ø=>by kernel_rfl) (by kernel_rfl) (bd2 rfl λø ø ø ø ø ø=>by kernel_rfl)
theorem cuA:qA 192 (fA 21 6) ["self","s"]:=fB "in_grouping_b" "BaseStemmer.in_grouping_b" (vS "snowballstemmer.basestemmer" 415) (vR 191) (λø ø=>by kernel_rfl) (λø ø=>by kernel_rfl) (by kernel_rfl) (bd2 rfl λø ø ø ø ø ø=>by kernel_rfl)
theorem buA:qA 213 (fA 21 9) ["self","s"]:=fB "go_out_grouping" "BaseStemmer.go_out_grouping" (vS "snowballstemmer.basestemmer" 415) (vR 212) (λø ø=>by kernel_rfl) (λø ø=>by kernel_rfl) (by kernel_rfl) (bd2 rfl λø ø ø ø ø ø=>by kernel_rfl)
theorem auA:qA 220 (fA 21 10) ["self","s"]:=fB "out_grouping_b" "BaseStemmer.out_grouping_b" (vS "snowballstemmer.basestemmer" 415) (vR 219) (λø ø=>by kernel_rfl) (λø ø=>by kernel_rfl) (by kernel_rfl) (bd2 rfl λø ø ø ø ø ø=>by kernel_rfl)
theorem ztA:qA 227 (fA 21 11) ["self","s"]:=fB "go_out_grouping_b" "BaseStemmer.go_out_grouping_b" (vS "snowballstemmer.basestemmer" 415) (vR 226) (λø ø=>by kernel_rfl) (λø ø=>by kernel_rfl) (by kernel_rfl) (bd2 rfl λø ø ø ø ø ø=>by kernel_rfl)
theorem ytA:qA 255 (fA 21 15) ["self","v"]:=fB "find_among_b" "BaseStemmer.find_among_b" (vS "snowballstemmer.basestemmer" 415) (vR 254) (λø ø=>by kernel_rfl) (λø ø=>by kernel_rfl) (by kernel_rfl) (bd2 rfl λø ø ø ø ø ø=>by kernel_rfl)
theorem xtA:qA 262 (fA 21 16) ["self","c_bra","c_ket","s"]:=fB "replace_s" "BaseStemmer.replace_s" (vS "snowballstemmer.basestemmer" 415) (vR 261) (λø ø=>by kernel_rfl) (λø ø=>by kernel_rfl) (by kernel_rfl) (bd4 rfl λø ø ø ø ø ø ø ø=>by kernel_rfl)
theorem wtA:qA 269 (fA 21 17) ["self","s"]:=fB "slice_from" "BaseStemmer.slice_from" (vS "snowballstemmer.basestemmer" 415) (vR 268) (λø ø=>by kernel_rfl) (λø ø=>by kernel_rfl) (by kernel_rfl) (bd2 rfl λø ø ø ø ø ø=>by kernel_rfl)
theorem vtA:qA 276 (fA 21 18) ["self"]:=fB "slice_del" "BaseStemmer.slice_del" (vS "snowballstemmer.basestemmer" 415) (vR 275) (λø ø=>by kernel_rfl) (λø ø=>by kernel_rfl) (by kernel_rfl) (bd1 rfl λø ø ø ø ø=>by kernel_rfl)
theorem utA:qA 283 (fA 21 19) ["self","c_bra","c_ket","s"]:=fB "insert" "BaseStemmer.insert" (vS "snowballstemmer.basestemmer" 415) (vR 282) (λø ø=>by kernel_rfl) (λø ø=>by kernel_rfl) (by kernel_rfl) (bd4 rfl λø ø ø ø ø ø ø ø=>by kernel_rfl)
theorem ttA:qA 304 (fA 21 22) ["self","word"]:=fB "stemWord" "BaseStemmer.stemWord" (vS "snowballstemmer.basestemmer" 415) (vR 303) (λø ø=>by kernel_rfl) (λø ø=>by kernel_rfl) (by kernel_rfl) (bd2 rfl λø ø ø ø ø ø=>by kernel_rfl)
theorem stA:qA 355 (fA 25 4) ["self"]:=fB "r_shortv" "PorterStemmer.r_shortv" (vS "snowballstemmer.porter_stemmer" 683) (vR 354) (λø ø=>by kernel_rfl) (λø ø=>by kernel_rfl) (by kernel_rfl) (bd1 rfl λø ø ø ø ø=>by kernel_rfl)
theorem rtA:qA 362 (fA 25 5) ["self"]:=fB "r_R1" "PorterStemmer.r_R1" (vS "snowballstemmer.porter_stemmer" 683) (vR 361) (λø ø=>by kernel_rfl) (λø ø=>by kernel_rfl) (by kernel_rfl) (bd1 rfl λø ø ø ø ø=>by kernel_rfl)
theorem qtA:qA 369 (fA 25 6) ["self"]:=fB "r_R2" "PorterStemmer.r_R2" (vS "snowballstemmer.porter_stemmer" 683) (vR 368) (λø ø=>by kernel_rfl) (λø ø=>by kernel_rfl) (by kernel_rfl) (bd1 rfl λø ø ø ø ø=>by kernel_rfl)
theorem ptA:qA 376 (fA 25 7) ["self"]:=fB "r_Step_1a" "PorterStemmer.r_Step_1a" (vS "snowballstemmer.porter_stemmer" 683) (vR 375) (λø ø=>by kernel_rfl) (λø ø=>by kernel_rfl) (by kernel_rfl) (bd1 rfl λø ø ø ø ø=>by kernel_rfl)
theorem otA:qA 383 (fA 25 8) ["self"]:=fB "r_Step_1b" "PorterStemmer.r_Step_1b" (vS "snowballstemmer.porter_stemmer" 683) (vR 382) (λø ø=>by kernel_rfl) (λø ø=>by kernel_rfl) (by kernel_rfl) (bd1 rfl λø ø ø ø ø=>by kernel_rfl)
theorem ntA:qA 390 (fA 25 9) ["self"]:=fB "r_Step_1c" "PorterStemmer.r_Step_1c" (vS "snowballstemmer.porter_stemmer" 683) (vR 389) (λø ø=>by kernel_rfl) (λø ø=>by kernel_rfl) (by kernel_rfl) (bd1 rfl λø ø ø ø ø=>by kernel_rfl)
theorem mtA:qA 397 (fA 25 10) ["self"]:=fB "r_Step_2" "PorterStemmer.r_Step_2" (vS "snowballstemmer.porter_stemmer" 683) (vR 396) (λø ø=>by kernel_rfl) (λø ø=>by kernel_rfl) (by kernel_rfl) (bd1 rfl λø ø ø ø ø=>by kernel_rfl)
theorem ltA:qA 404 (fA 25 11) ["self"]:=fB "r_Step_3" "PorterStemmer.r_Step_3" (vS "snowballstemmer.porter_stemmer" 683) (vR 403) (λø ø=>by kernel_rfl) (λø ø=>by kernel_rfl) (by kernel_rfl) (bd1 rfl λø ø ø ø ø=>by kernel_rfl)
theorem ktA:qA 411 (fA 25 12) ["self"]:=fB "r_Step_4" "PorterStemmer.r_Step_4" (vS "snowballstemmer.porter_stemmer" 683) (vR 410) (λø ø=>by kernel_rfl) (λø ø=>by kernel_rfl) (by kernel_rfl) (bd1 rfl λø ø ø ø ø=>by kernel_rfl)
theorem jtA:qA 418 (fA 25 13) ["self"]:=fB "r_Step_5a" "PorterStemmer.r_Step_5a" (vS "snowballstemmer.porter_stemmer" 683) (vR 417) (λø ø=>by kernel_rfl) (λø ø=>by kernel_rfl) (by kernel_rfl) (bd1 rfl λø ø ø ø ø=>by kernel_rfl)
theorem itA:qA 425 (fA 25 14) ["self"]:=fB "r_Step_5b" "PorterStemmer.r_Step_5b" (vS "snowballstemmer.porter_stemmer" 683) (vR 424) (λø ø=>by kernel_rfl) (λø ø=>by kernel_rfl) (by kernel_rfl) (bd1 rfl λø ø ø ø ø=>by kernel_rfl)
theorem htA:qA 432 (fA 25 15) ["self"]:=fB "_stem" "PorterStemmer._stem" (vS "snowballstemmer.porter_stemmer" 683) (vR 431) (λø ø=>by kernel_rfl) (λø ø=>by kernel_rfl) (by kernel_rfl) (bd1 rfl λø ø ø ø ø=>by kernel_rfl)
theorem gtA:qA 688 (eA 30) ["script"]:=fB "_law_reader" "_law_reader" (vS "law_ji0048_01" 1847) (vR 687) (λø ø=>by kernel_rfl) (λø ø=>by kernel_rfl) (by kernel_rfl) (bd1 rfl λø ø ø ø ø=>by kernel_rfl)
theorem ftA:qA 695 (eA 31) ["d","many"]:=fB "_law_pick" "_law_pick" (vS "law_ji0048_01" 1847) (vR 694) (λø ø=>by kernel_rfl) (λø ø=>by kernel_rfl) (by kernel_rfl) (bd2 rfl λø ø ø ø ø ø=>by kernel_rfl)
theorem etA:qA 702 (eA 32) []:=fB "_law_second" "_law_second" (vS "law_ji0048_01" 1847) (vR 701) (λø ø=>by kernel_rfl) (λø ø=>by kernel_rfl) (by kernel_rfl) (bd0 rfl λø ø ø ø=>by kernel_rfl)
theorem dtA:qA 709 (eA 33) []:=fB "_law_third" "_law_third" (vS "law_ji0048_01" 1847) (vR 708) (λø ø=>by kernel_rfl) (λø ø=>by kernel_rfl) (by kernel_rfl) (bd0 rfl λø ø ø ø=>by kernel_rfl)
theorem zdA:qA 716 (eA 34) []:=fB "_law_fourth" "_law_fourth" (vS "law_ji0048_01" 1847) (vR 715) (λø ø=>by kernel_rfl) (λø ø=>by kernel_rfl) (by kernel_rfl) (bd0 rfl λø ø ø ø=>by kernel_rfl)
theorem ctA:qA 723 (eA 35) []:=fB "_law_ends" "_law_ends" (vS "law_ji0048_01" 1847) (vR 722) (λø ø=>by kernel_rfl) (λø ø=>by kernel_rfl) (by kernel_rfl) (bd0 rfl λø ø ø ø=>by kernel_rfl)
theorem btA:qA 730 (eA 36) ["d"]:=fB "_law_word" "_law_word" (vS "law_ji0048_01" 1847) (vR 729) (λø ø=>by kernel_rfl) (λø ø=>by kernel_rfl) (by kernel_rfl) (bd1 rfl λø ø ø ø ø=>by kernel_rfl)
theorem ydA:qA 735 (eA 37) ["word"]:=fB "_law_row" "_law_row" (vS "law_ji0048_01" 1847) (vR 734) (λø ø=>by kernel_rfl) (λø ø=>by kernel_rfl) (by kernel_rfl) (bd1 rfl λø ø ø ø ø=>by kernel_rfl)
theorem zsA:qA 747 (eA 39) ["word"]:=fB "_law_short" "_law_short" (vS "law_ji0048_01" 1847) (vR 746) (λø ø=>by kernel_rfl) (λø ø=>by kernel_rfl) (by kernel_rfl) (bd1 rfl λø ø ø ø ø=>by kernel_rfl)
theorem ysA:qA 754 (eA 40) ["word","ours"]:=fB "_law_marked" "_law_marked" (vS "law_ji0048_01" 1847) (vR 753) (λø ø=>by kernel_rfl) (λø ø=>by kernel_rfl) (by kernel_rfl) (bd2 rfl λø ø ø ø ø ø=>by kernel_rfl)
theorem xsA:qA 761 (eA 41) ["word","ours"]:=fB "_law_healed" "_law_healed" (vS "law_ji0048_01" 1847) (vR 760) (λø ø=>by kernel_rfl) (λø ø=>by kernel_rfl) (by kernel_rfl) (bd2 rfl λø ø ø ø ø ø=>by kernel_rfl)
theorem wsA:qA 768 (eA 42) ["word","ours"]:=fB "_law_first" "_law_first" (vS "law_ji0048_01" 1847) (vR 767) (λø ø=>by kernel_rfl) (λø ø=>by kernel_rfl) (by kernel_rfl) (bd2 rfl λø ø ø ø ø ø=>by kernel_rfl)
theorem vsA:qA 775 (eA 43) ["word","ends","ours"]:=fB "_law_end" "_law_end" (vS "law_ji0048_01" 1847) (vR 774) (λø ø=>by kernel_rfl) (λø ø=>by kernel_rfl) (by kernel_rfl) (bd3 rfl λø ø ø ø ø ø ø=>by kernel_rfl)
theorem usA:qA 782 (eA 44) ["word","table","ours"]:=fB "_law_swapped" "_law_swapped" (vS "law_ji0048_01" 1847) (vR 781) (λø ø=>by kernel_rfl) (λø ø=>by kernel_rfl) (by kernel_rfl) (bd3 rfl λø ø ø ø ø ø ø=>by kernel_rfl)
theorem tsA:qA 789 (eA 45) ["word","ours"]:=fB "_law_rest" "_law_rest" (vS "law_ji0048_01" 1847) (vR 788) (λø ø=>by kernel_rfl) (λø ø=>by kernel_rfl) (by kernel_rfl) (bd2 rfl λø ø ø ø ø ø=>by kernel_rfl)
theorem ssA:qA 796 (eA 46) ["word"]:=fB "_law_is_right" "_law_is_right" (vS "law_ji0048_01" 1847) (vR 795) (λø ø=>by kernel_rfl) (λø ø=>by kernel_rfl) (by kernel_rfl) (bd1 rfl λø ø ø ø ø=>by kernel_rfl)
set_option tactic.hygienic true
theorem yF {α β:Type}[BEq α][LawfulBEq α]{l:List (α×β)}{q:α×β->Bool}(h:l.all q=true){x:α}{v:β}(e:l.lookup x=some v):q (x,v)=true:=by
 refine jB (List.lookup_eq_some_iff.mp e) λl1 l2 e ø=>?_
 exact fC h (x,v) (by rw[e];simp)
structure GX (g:Gr) (ex:Ex):Prop where
 hK:g.K=KX g.w.params ex
 cls:g.cls=642
noncomputable def kds (es:List (Str×Tok×Str×Tok))(P:Params)(n:Nat):Obj:=nA P (es.map λe=>(e.1,e.2.1,Value.str e.2.2.1 e.2.2.2)) n
theorem umA (prog:Program)(w:World)(n:Nat)(es:List (Str×Tok×Str×Tok))(hn:(es.map (·.1)).Nodup):SD prog w (kds es w.params n) (es.map λe=>(e.1,e.2.2.1)):=by
 refine jA (es.map λe=>(e.1,Value.str e.2.2.1 e.2.2.2)) (rwA _ n (cF rfl rfl rfl) rfl ?_ ?_ ?_) ?_
 ·intro e he
  simp only[List.mem_toArray,List.mem_map]at he
  obtain⟨x,⟨y,hy,rfl⟩,rfl⟩:=he
  exact jA y.1 (beq_self_eq_true _) rfl
 ·clear hn
  induction es with
  |nil=>exact .nil
  |cons e r ih=>exact .cons (beq_self_eq_true _) rfl ih
 ·simp only[List.map_map]
  exact hn
 ·clear hn
  induction es with
  |nil=>exact .nil
  |cons e r ih=>exact .cons (λh=>PyProof.V.Flat.str _ _ h) ih
noncomputable def d22:List (Str×Tok×Str×Tok):=[("ational",196,"ate",197),("tional",199,"tion",200),("enci",202,"ence",203),("anci",205,"ance",206),("izer",208,"ize",209),("bli",211,"ble",212),("alli",214,"al",215),("entli",217,"ent",218),("eli",220,"e",221),("ousli",223,"ous",224),("ization",226,"ize",227),("ation",229,"ate",230),("ator",232,"ate",233),("alism",235,"al",236),("iveness",238,"ive",239),("fulness",241,"ful",242),("ousness",244,"ous",245),("aliti",247,"al",248),("iviti",249,"ive",250),("biliti",251,"ble",252),("logi",253,"log",254)]
noncomputable def d24:List (Str×Tok×Str×Tok):=[("icate",260,"ic",261),("ative",262,"",263),("alize",264,"al",265),("iciti",266,"ic",267),("ical",268,"ic",269),("ful",270,"",271),("ness",272,"",273)]
section
variable (P:Params)(ex:Ex)
theorem bfB:(KX P ex).lookup 22=some (kds d22 P 21):=by kernel_rfl
theorem afB:(KX P ex).lookup 24=some (kds d24 P 7):=by kernel_rfl
theorem ecA:(([("PorterStemmer",642),("_step2list",22),("_step3list",24)]:List (Str×Addr)).all λe=>nsIn (KX P ex) 3 e.1==some (some (.ref e.2)))=true:=by kernel_rfl
noncomputable def amT:List (Addr×List AmE):=[(445,pP),(486,dQ),(496,cQ),(557,naA),(580,maA),(639,mS)]
theorem uiA:(amT.all λe=>(match(KX P ex).lookup e.1 with|some ⟨.type "list",none,.seq xs 0,sl⟩=>sl==#[]&&xs==(e.2.map λe=>Value.ref e.addr).toArray|ø=>false)&&e.2.all λe=>amB (KX P ex) e)=true:=by kernel_rfl
noncomputable def ktT:List (Addr×List Str):=[(446,vcA),(558,jaA),(581,iaA)]
noncomputable def strsOf:List Value->Option (List Str)
 |[]=>some []
 | .str x _::r=>(strsOf r).map (x::·)
 |_=>none
theorem abA:∀{vs:List Value} {xs:List Str},strsOf vs=some xs->StrsAre vs xs:=by
 intro l0
 induction l0 with
 |nil=>
  intro xs e
  have o1:=inj e;clear e;obtain rfl:=o1;exact .nil
 |cons v vs ih=>
  intro xs e
  unfold strsOf at e
  split at e
  ·rename_i q;injection q
  ·rename_i x t r q
   cases q
   refine iA (Option.map_eq_some_iff.mp e) λys hy o2=>?_;obtain rfl:=o2
   exact .cons _ _ (ih hy)
  ·exact no e
theorem hhA:(ktT.all λe=>match(KX P ex).lookup e.1 with|some ⟨.type "tuple",none,.seq xs 0,sl⟩=>sl==#[]&&strsOf xs.toList==some e.2|ø=>false)=true:=by kernel_rfl
end
section
variable {g:Gr}{ex:Ex}
theorem wO (h:GX g ex){a:Addr}{L:List AmE}(e:amT.lookup a=some L):VR g [] (.aml L) (.ref a):=by
 have f:=yF (uiA g.w.params ex) e
 dsimp only at f
 rw[<-h.hK,oA]at f
 refine gA f λf1 f2=>?_
 split at f1
 ·rename_i xs sl ho
  replace f1:=bmp eq_of_beq eq_of_beq f1
  obtain⟨rfl,rfl⟩:=f1
  exact .aml ho λe he=>mhB (fC f2 e he)
 ·exact nof f1
theorem ejA (h:GX g ex){a:Addr}{xs:List Str}(e:ktT.lookup a=some xs):VR g [] (.kt xs) (.ref a):=by
 have f:=yF (hhA g.w.params ex) e
 dsimp only at f
 rw[<-h.hK]at f
 split at f
 ·rename_i vs sl ho
  replace f:=bmp eq_of_beq eq_of_beq f
  obtain⟨rfl,f⟩:=f
  exact .kt (vals:=vs.toList) ho (abA f)
 ·exact nof f
theorem sbB (h:GX g ex):∀e∈clsT,∃a,xgB.lookup e.1=some a/\VR g [] e.2 (.ref a):=
 vK ⟨jA _ rfl (.set _),vK ⟨jA _ rfl (.set _),vK ⟨jA _ rfl (wO h rfl),vK ⟨jA _ rfl (wO h rfl),vK ⟨jA _ rfl (wO h rfl),
  vK ⟨jA _ rfl (wO h rfl),vK ⟨jA _ rfl (wO h rfl),vK ⟨jA _ rfl (wO h rfl),vK ⟨jA _ rfl (ejA h rfl),vK ⟨jA _ rfl (ejA h rfl),
  vK ⟨jA _ rfl (ejA h rfl),λø h=>nomatch h⟩⟩⟩⟩⟩⟩⟩⟩⟩⟩⟩
theorem yfB (h:GX g ex):∀e∈globT,∃val,nsIn g.K 3 e.1=some (some val)/\VR g [] e.2 val:=by
 have hf:=ecA g.w.params ex
 rw[<-h.hK]at hf
 exact vK ⟨jA _ (beq_iff_eq.mp (yF hf rfl)) (.top _),vK ⟨jA _ (beq_iff_eq.mp (yF hf rfl)) (.kd (by rw[h.hK];exact bfB ..) rfl (umA g.prog g.w 21 d22 (by decide+kernel))),
  vK ⟨jA _ (beq_iff_eq.mp (yF hf rfl)) (.kd (by rw[h.hK];exact afB ..) rfl (umA g.prog g.w 7 d24 (by decide+kernel))),λø h=>nomatch h⟩⟩⟩
theorem cZ {β:Type}{l:List (Str×β)}{x:Str}{v:β}(e:l.lookup x=some v):(x,v)∈l:=by
 refine jB (List.lookup_eq_some_iff.mp e) λl1 l2 e ø=>?_
 simp only[e]
 exact eE _ (.head _)
theorem wfB (h:GX g ex):adA g globT clsT methT where
 globs:=λx v e=>yfB h _ (cZ e)
 clsV:=λx v e=>by
  have hf:=pcA g.w.params ex
  rw[<-h.hK]at hf
  have go:∀a,xgB.lookup x=some a->VR g [] v (.ref a)->∃mc val,typeIn g.K (.ref g.cls)=some mc/\readsIn g.K g.cls mc=true/\findCls g.K (.ref g.cls) mc x=some (.val val)/\handedIn val=true/\VR g [] v val:=λa ea r=>by
   have f:=yF hf ea
   dsimp only at f
   simp only[oA,beq_iff_eq]at f
   refine gA f λo1 f3=>?_;refine gA o1 λf1 f2=>?_
   rw[h.cls]
   split at f3
   ·rename_i w hw
    rw[eq_of_beq f3]at hw
    exact rwA _ _ f1 f2 hw rfl r
   ·exact nof f3
  refine iA (sbB h _ (cZ e)) λa e1 r=>?_
  exact go a e1 r
 meths:=λx f e=>by
  have hf:=yF (pR g.w.params ex) e
  dsimp only at hf
  rw[<-h.hK]at hf
  simp only[oA,beq_iff_eq]at hf
  rw[h.cls]
  exact cF hf.1.1.1 hf.1.1.2 hf.1.2
 fields:=λx hx=>by
  have hf:=fC (yP g.w.params ex) x hx
  rw[<-h.hK]at hf
  simp only[oA,beq_iff_eq]at hf
  rw[h.cls]
  refine eB hf.1.1 ?_
  have h2:=hf.1.2
  split at h2
  ·rename_i a ha;exact jA a ha h2
  ·exact nof h2
 hasD:=by
  have hf:=bM g.w.params ex
  rw[<-h.hK]at hf
  simp only[oA,beq_iff_eq]at hf
  rw[h.cls];exact hf.1.1.1
 setA:=by
  have hf:=bM g.w.params ex
  rw[<-h.hK]at hf
  simp only[oA,beq_iff_eq]at hf
  rw[h.cls];exact hf.1.1.2
 plainO:=by
  have hf:=bM g.w.params ex
  rw[<-h.hK]at hf
  simp only[oA,beq_iff_eq]at hf
  rw[h.cls];exact hf.1.2
 taker:=λx hx=>by
  have hf:=fC (yP g.w.params ex) x hx
  rw[<-h.hK]at hf
  simp only[oA,beq_iff_eq]at hf
  rw[h.cls];exact hf.2
 am:=λx hx=>by
  have hf:=fC (lpA g.w.params ex) x hx
  rw[<-h.hK]at hf
  simp only[oA,beq_iff_eq]at hf
  exact hf
 amD:=by
  have hf:=bM g.w.params ex
  rw[<-h.hK]at hf
  simp only[oA,beq_iff_eq]at hf
  exact hf.2
theorem nD (h:GX g ex):fI g where
 at_:=λn a e=>by
  have hf:=yF (xhA g.w.params ex) e
  dsimp only at hf
  rw[<-h.hK]at hf
  simp only[oA,beq_iff_eq]at hf
  exact gM hf.1.1.1 hf.1.1.2 hf.1.2 hf.2
noncomputable abbrev Spec:=List V->Mu->T (V×Mu)
noncomputable def soA (l:List (Addr×Spec))(f:Addr)(vs:List V)(μ:Mu):T (V×Mu):=match l.lookup f with
 |some k=>k vs μ
 |none=>.fail
noncomputable def SpOK (g:Gr)(n:Nat)(f:Addr)(k:Spec):Prop:=∀vs μ Q,(k vs μ).sat Q->xS g n f vs μ Q
noncomputable def CTOK (g:Gr)(n:Nat)(l:List (Addr×Spec)):Prop:=∀e∈l,SpOK g n e.1 e.2
theorem CxOK.le {c:Cx}{n m:Nat}(h:n<=m)(k:CxOK c m):CxOK c n:=⟨by have:=k.depth;exact ar9 h this,k.handled,by have:=k.units;exact laC h this⟩
theorem SpOK.le {n m:Nat}(h:n<=m){f:Addr}{k:Spec}(x:SpOK g n f k):SpOK g m f k:=λvs μ Q hq c σ hc=>x vs μ Q hq c σ (hc.le h)
theorem CTOK.nil {n:Nat}:CTOK g n []:=λø h=>nomatch h
theorem CTOK.cons {n:Nat}{f:Addr}{k:Spec}{l:List (Addr×Spec)}(h:SpOK g n f k)(x:CTOK g n l):CTOK g n ((f,k)::l):=λe he=>by
 rcases xB he with rfl|he
 ·exact h
 ·exact x e he
noncomputable abbrev xA (sc:Scope)(l:List (Addr×Spec)):Tb:=⟨sc,globT,clsT,methT,fnT,bltT,soA l⟩
theorem cG (h:GX g ex){n:Nat}{l:List (Addr×Spec)}(hl:CTOK g n l){c:Cx}(hc:CxOK c n){sc:Scope}(hs:c.sc=sc):mB g (xA sc l) c where
 sc:=hs
 gr:=wfB h
 cls:=h.cls
 fn:=λx f e=>by
  have hf:=yF (vZ g.w.params ex) e
  dsimp only at hf
  rw[<-h.hK]at hf
  simp only[oA,beq_iff_eq]at hf
  exact eB hf.1.1 hf.1.2
 meth:=λx f e=>by
  have hf:=yF (pR g.w.params ex) e
  dsimp only at hf
  rw[<-h.hK]at hf
  simp only[oA,beq_iff_eq]at hf
  exact hf.2
 blt:=λx i e=>by
  have hf:=yF (oiA g.w.params ex) e
  dsimp only at hf
  rw[<-h.hK]at hf
  replace hf:=bmp (bmp (bmp eq_of_beq eq_of_beq) eq_of_beq) eq_of_beq hf
  exact gM hf.1.1.1 hf.1.1.2 (by simpa using hf.1.2) hf.2
 fnd:=λx f e=>by
  have hf:=yF (vZ g.w.params ex) e
  dsimp only at hf
  replace hf:=bmp id eq_of_beq hf
  exact hf.2
 call:=λf vs σ Q hq=>by
  unfold xA soA at hq
  dsimp only at hq
  split at hq
  ·rename_i k hk
   refine jB (List.lookup_eq_some_iff.mp hk) λl1 l2 e ø=>?_
   exact hl (f,k) (by rw[e];simp) vs σ.μ Q hq c σ hc rfl
  ·exact hq.elim
 handled:=hc.handled
theorem nuA (h:GX g ex){n:Nat}{l:List (Addr×Spec)}(hl:CTOK g n l){a:Addr}{d:Arguments×List Stmt×Scope}{ps:List Str}(R:qA a d ps)(N:Nat){vs:List V}{μ:Mu}{Q:V×Mu->Prop}(hlen:vs.length=ps.length)
  (hb:(aiB (aiS (xA d.2.2 l) N) d.2.1 ⟨ps.zip vs,μ⟩).sat (dB Q)):xS g (n+1) a vs μ Q:=
 mD h.hK R hlen λc hc hs=>fD (cG h hl hc hs) (nD h) N _ _ _ hb
end
noncomputable def V.sl?:V->Option (List Str)
 | .sl x=>some x
 |_=>Option.none
noncomputable def V.sd?:V->Option (List (Str×Str))
 | .sd x=>some x
 |_=>Option.none
noncomputable def V.aml?:V->Option (List AmE)
 | .aml x=>some x
 |_=>Option.none
noncomputable def V.isRd:V->Bool
 | .rd=>true
 |_=>false
theorem V.sl?_eq {v:V}{i:List Str}(h:v.sl?=some i):v=.sl i:=by cases v<;>first|exact no h|(cases h;rfl)
theorem V.sd?_eq {v:V}{i:List (Str×Str)}(h:v.sd?=some i):v=.sd i:=by cases v<;>first|exact no h|(cases h;rfl)
theorem V.aml?_eq {v:V}{i:List AmE}(h:v.aml?=some i):v=.aml i:=by cases v<;>first|exact no h|(cases h;rfl)
theorem V.isRd_eq {v:V}(h:v.isRd=true):v=.rd:=by cases v<;>first|exact nof h|(injection h;rfl)
noncomputable def aL {α:Type}(vs:List V)(k:List Str->List V->T α):T α:=match vs with
 |v::r=>(match v.sl? with|some x=>k x r|none=>.fail)
 |[]=>.fail
theorem upA {α:Type}{vs:List V}{k:List Str->List V->T α}{Q:α->Prop}(h:(aL vs k).sat Q):∃x r,vs=.sl x::r/\(k x r).sat Q:=by
 induction vs using List.casesOn with
 |nil=>exact h.elim
 |cons v r=>
  replace h:T.sat (match v.sl? with|some x=>k x r|none=>.fail) Q:=h
  split at h
  ·rename_i x e
   exact zA x r (by rw[V.sl?_eq e]) h
  ·exact h.elim
noncomputable def aD {α:Type}(vs:List V)(k:List (Str×Str)->List V->T α):T α:=match vs with
 |v::r=>(match v.sd? with|some x=>k x r|none=>.fail)
 |[]=>.fail
theorem zhB {α:Type}{vs:List V}{k:List (Str×Str)->List V->T α}{Q:α->Prop}(h:(aD vs k).sat Q):∃x r,vs=.sd x::r/\(k x r).sat Q:=by
 induction vs using List.casesOn with
 |nil=>exact h.elim
 |cons v r=>
  replace h:T.sat (match v.sd? with|some x=>k x r|none=>.fail) Q:=h
  split at h
  ·rename_i x e
   exact zA x r (by rw[V.sd?_eq e]) h
  ·exact h.elim
noncomputable def aA {α:Type}(vs:List V)(k:List AmE->List V->T α):T α:=match vs with
 |v::r=>(match v.aml? with|some x=>k x r|none=>.fail)
 |[]=>.fail
theorem biB {α:Type}{vs:List V}{k:List AmE->List V->T α}{Q:α->Prop}(h:(aA vs k).sat Q):∃x r,vs=.aml x::r/\(k x r).sat Q:=by
 induction vs using List.casesOn with
 |nil=>exact h.elim
 |cons v r=>
  replace h:T.sat (match v.aml? with|some x=>k x r|none=>.fail) Q:=h
  split at h
  ·rename_i x e
   exact zA x r (by rw[V.aml?_eq e]) h
  ·exact h.elim
noncomputable def aR {α:Type}(vs:List V)(k:List V->T α):T α:=match vs with
 |v::r=>if v.isRd then k r else .fail
 |[]=>.fail
theorem yhB {α:Type}{vs:List V}{k:List V->T α}{Q:α->Prop}(h:(aR vs k).sat Q):∃r,vs=.rd::r/\(k r).sat Q:=by
 induction vs using List.casesOn with
 |nil=>exact h.elim
 |cons v r=>
  replace h:T.sat (if v.isRd then k r else .fail) Q:=h
  split at h
  ·rename_i e
   exact jA r (by rw[V.isRd_eq e]) h
  ·exact h.elim
noncomputable def a0 {α:Type}(vs:List V)(t:T α):T α:=match vs with
 |[]=>t
 |_::_=>.fail
theorem tD {α:Type}{vs:List V}{t:T α}{Q:α->Prop}(h:(a0 vs t).sat Q):vs=[]/\t.sat Q:=by
 induction vs using List.casesOn with
 |nil=>exact⟨rfl,h⟩
 |cons ø ø=>exact h.elim
noncomputable def vgA {α β:Type}(o:Option β)(t:T α):T α:=match o with
 |some _=>t
 |none=>.fail
noncomputable def aS {α:Type}(vs:List V)(k:Str->List V->T α):T α:=match vs with
 |v::r=>(match v.s? with|some x=>k x r|none=>.fail)
 |[]=>.fail
theorem lG {α:Type}{vs:List V}{k:Str->List V->T α}{Q:α->Prop}(h:(aS vs k).sat Q):∃x r,vs=.str x::r/\(k x r).sat Q:=by
 induction vs using List.casesOn with
 |nil=>exact h.elim
 |cons v r=>
  replace h:T.sat (match v.s? with|some x=>k x r|none=>.fail) Q:=h
  split at h
  ·rename_i x e
   exact zA x r (by rw[V.s?_eq e]) h
  ·exact h.elim
noncomputable def aI {α:Type}(vs:List V)(k:Int->List V->T α):T α:=match vs with
 |v::r=>(match v.i? with|some x=>k x r|none=>.fail)
 |[]=>.fail
theorem bX {α:Type}{vs:List V}{k:Int->List V->T α}{Q:α->Prop}(h:(aI vs k).sat Q):∃x r,vs=.int x::r/\(k x r).sat Q:=by
 induction vs using List.casesOn with
 |nil=>exact h.elim
 |cons v r=>
  replace h:T.sat (match v.i? with|some x=>k x r|none=>.fail) Q:=h
  split at h
  ·rename_i x e
   exact zA x r (by rw[V.i?_eq e]) h
  ·exact h.elim
noncomputable def aB {α:Type}(vs:List V)(k:Bool->List V->T α):T α:=match vs with
 |v::r=>(match v.b? with|some x=>k x r|none=>.fail)
 |[]=>.fail
theorem rP {α:Type}{vs:List V}{k:Bool->List V->T α}{Q:α->Prop}(h:(aB vs k).sat Q):∃x r,vs=.bool x::r/\(k x r).sat Q:=by
 induction vs using List.casesOn with
 |nil=>exact h.elim
 |cons v r=>
  replace h:T.sat (match v.b? with|some x=>k x r|none=>.fail) Q:=h
  split at h
  ·rename_i x e
   exact zA x r (by rw[V.b?_eq e]) h
  ·exact h.elim
noncomputable def aH {α:Type}(vs:List V)(k:Bool->List V->T α):T α:=match vs with
 |v::r=>(match v.set? with|some x=>k x r|none=>.fail)
 |[]=>.fail
theorem zcA {α:Type}{vs:List V}{k:Bool->List V->T α}{Q:α->Prop}(h:(aH vs k).sat Q):∃x r,vs=.set x::r/\(k x r).sat Q:=by
 induction vs using List.casesOn with
 |nil=>exact h.elim
 |cons v r=>
  replace h:T.sat (match v.set? with|some x=>k x r|none=>.fail) Q:=h
  split at h
  ·rename_i x e
   exact zA x r (by rw[V.set?_eq e]) h
  ·exact h.elim
noncomputable def zyA (x:Out×AS):T (V×Mu):=match x.1 with
 | .ret v=>.ret (v,x.2.μ)
 | .next=>.ret (.none,x.2.μ)
 |_=>.fail
noncomputable def qD (d:Arguments×List Stmt×Scope)(ps:List Str)(l:List (Addr×Spec)):Spec:=λvs μ=>
 if vs.length=ps.length then(aiB (aiS (xA d.2.2 l) 12) d.2.1 ⟨ps.zip vs,μ⟩).bind zyA else .fail
theorem nB {g:Gr}{ex:Ex}(h:GX g ex){n:Nat}{l:List (Addr×Spec)}(hl:CTOK g n l){a:Addr}{d:Arguments×List Stmt×Scope}{ps:List Str}(R:qA a d ps):SpOK g (n+1) a (qD d ps l):=λvs μ Q hq=>by
 unfold qD at hq
 split at hq
 ·rename_i hlen
  refine nuA h hl R 12 hlen (T.sat_mono (λx hx=>?_) (cB hq))
  obtain⟨o,σ⟩:=x
  induction o using Mine.Out.casesOn<;>first|exact hx|exact hx.elim
 ·exact hq.elim
structure Sn where
 cur:Str
 c:Int
 l:Int
 lb:Int
 b:Int
 k:Int
 o:Option (Int×Int)
noncomputable def mkF (s:Sn):List (Str×V):=("current",.str s.cur)::("cursor",.int s.c)::("limit",.int s.l)::("limit_backward",.int s.lb)::("bra",.int s.b)::("ket",.int s.k)::(match s.o with
 |none=>[]
 |some (p,q)=>[("I_p1",.int p),("I_p2",.int q)])
noncomputable def tjB (k:Str):List (Str×V)->Option (Str×List (Str×V))
 |(x,v)::r=>if x=k then v.s?.map λs=>(s,r)else none
 |[]=>none
noncomputable def kR (k:Str):List (Str×V)->Option (Int×List (Str×V))
 |(x,v)::r=>if x=k then v.i?.map λs=>(s,r)else none
 |[]=>none
theorem ruA {k:Str}{F:List (Str×V)}{x:Str×List (Str×V)}(h:tjB k F=some x):F=(k,.str x.1)::x.2:=by
 induction F using List.casesOn with
 |nil=>exact no h
 |cons p r=>
  obtain⟨y,v⟩:=p
  replace h:(if y=k then v.s?.map λs=>(s,r)else none)=some x:=h
  split at h
  ·rename_i e
   refine iA (Option.map_eq_some_iff.mp h) λs hs o1=>?_;obtain rfl:=o1
   simp only[e,V.s?_eq hs]
  ·exact no h
theorem kI {k:Str}{F:List (Str×V)}{x:Int×List (Str×V)}(h:kR k F=some x):F=(k,.int x.1)::x.2:=by
 induction F using List.casesOn with
 |nil=>exact no h
 |cons p r=>
  obtain⟨y,v⟩:=p
  replace h:(if y=k then v.i?.map λs=>(s,r)else none)=some x:=h
  split at h
  ·rename_i e
   refine iA (Option.map_eq_some_iff.mp h) λs hs o1=>?_;obtain rfl:=o1
   simp only[e,V.i?_eq hs]
  ·exact no h
noncomputable def ezA (x1:Str)(x2 x3 x4 x5 x6:Int)(F:List (Str×V)):Option Sn:=match F with
 |[]=>some ⟨x1,x2,x3,x4,x5,x6,none⟩
 |F=>(kR "I_p1" F).bind λp=>(kR "I_p2" p.2).bind λq=>match q.2 with
  |[]=>some ⟨x1,x2,x3,x4,x5,x6,some (p.1,q.1)⟩
  |_::_=>none
noncomputable def unF (F:List (Str×V)):Option Sn:=(tjB "current" F).bind λy1=>(kR "cursor" y1.2).bind λy2=>(kR "limit" y2.2).bind λy3=>(kR "limit_backward" y3.2).bind λy4=>(kR "bra" y4.2).bind λy5=>(kR "ket" y5.2).bind λy6=>
 ezA y1.1 y2.1 y3.1 y4.1 y5.1 y6.1 y6.2
theorem tbB {F:List (Str×V)}{s:Sn}(h:unF F=some s):F=mkF s:=by
 refine iA (dH h) λy1 h1 h=>?_
 refine iA (dH h) λy2 h2 h=>?_
 refine iA (dH h) λy3 h3 h=>?_
 refine iA (dH h) λy4 h4 h=>?_
 refine iA (dH h) λy5 h5 h=>?_
 refine iA (dH h) λy6 h6 h=>?_
 have e:=kI h6
 have tail:∀{R:List (Str×V)},ezA y1.1 y2.1 y3.1 y4.1 y5.1 y6.1 R=some s->(("current",.str y1.1)::("cursor",.int y2.1)::("limit",.int y3.1)::("limit_backward",.int y4.1)::("bra",.int y5.1)::("ket",.int y6.1)::R:List (Str×V))=mkF s:=λ{R} h=>by
  induction R using List.casesOn with
  |nil=>have o1:=inj h;clear h;obtain rfl:=o1;rfl
  |cons a b=>
   replace h:((kR "I_p1" (a::b)).bind λp=>(kR "I_p2" p.2).bind λq=>match q.2 with|[]=>some _|_::_=>none)=some s:=h
   refine iA (dH h) λp h7 h=>?_
   refine iA (dH h) λq h8 h=>?_
   simp only[kI h7,kI h8]
   obtain⟨q1,q2⟩:=q
   induction q2 using List.casesOn with
   |nil=>have o2:=inj h;clear h;obtain rfl:=o2;rfl
   |cons ø ø=>exact no h
 refine qDzq (ruA h1 ..) ?_;simp only[kI h2,kI h3,kI h4,kI h5,e]
 exact tail h
noncomputable abbrev muS (s:Sn):Mu:=⟨some (mkF s),none⟩
noncomputable def mSpec (f:Sn->List V->T (V×Sn)):Spec:=λvs μ=>match vs,μ with
 | .self::r,⟨some F,none⟩=>(match unF F with
  |some s=>(f s r).bind λx=>.ret (x.1,muS x.2)
  |none=>.fail)
 |_,_=>.fail
theorem vF {g:Gr}{n:Nat}{a:Addr}{f:Sn->List V->T (V×Sn)}(h:∀s r Q,(f s r).sat (λx=>Q (x.1,muS x.2))->xS g n a (.self::r) (muS s) Q):SpOK g n a (mSpec f):=λvs μ Q hq=>by
 unfold mSpec at hq
 split at hq
 ·split at hq
  ·rename_i s hs
   rw[tbB hs]
   exact h s _ Q (cB hq)
  ·exact hq.elim
 ·exact hq.elim
set_option tactic.hygienic false
noncomputable def bL (o:Obj):Prop:=o.cls≠.type "list"/\o.cls≠.type "tuple"/\o.cls≠.type "dict"
section
variable {g:Gr}{c:Cx}{σ:AS}{ts:List (V×Value)}{P:List (Addr×Obj)}{s:Shared}
theorem okO.not {o:Obj}(h:okO o):¬bL o:=λq=>by
 refine Or.elim h.1 (λe=>?_) λh=>h.elim (λe=>?_) λe=>?_
 ·exact q.1 e
 ·exact q.2.1 e
 ·exact q.2.2 e
theorem VR.less {rest rest':List (Addr×Obj)}(k:∀p∈rest,¬bL p.2->p∈rest'){v:V}{val:Value}:VR g rest v val->VR g rest' v val:=VR.shift λp h q=>k p h q.not
noncomputable def jlA (I:Addr)(o:Option Obj)(l:List (Addr×Obj)):List (Addr×Obj):=(o.map λo=>(I,o)).toList++l.filter λp=>p.1 !=I
theorem aO {I:Addr}{o:Option Obj}{l:List (Addr×Obj)}{p:Addr×Obj}(h:p∈l)(hn:p.1≠I):p∈jlA I o l:=eE _ (List.mem_filter.mpr ⟨h,bne_iff_ne.mpr hn⟩)
theorem vM {I:Addr}{o:Option Obj}{l:List (Addr×Obj)}{p:Addr×Obj}(h:p∈jlA I o l):(∃o',o=some o'/\p=(I,o'))\/(p∈l/\p.1≠I):=by
 refine Or.elim (dI h) (λh=>?_) λh=>?_
 ·induction o using Option.casesOn with
  |none=>cases h
  |some o=>exact .inl (jA o rfl (oH h))
 ·exact .inr (eB ((List.mem_filter.mp h).1) (bne_iff_ne.mp (List.mem_filter.mp h).2))
theorem St.advance (S:St g c σ ts P s){I:Addr}{oI:Obj}{oI':Option Obj}(hI:(I,oI)∈P)(hi:bL oI){h':Heap}{tk:Nat}(k:∀b o,b≠I->s.heap.get? b=some o->h'.get? b=some o)(hI':∀o,oI'=some o->h'.get? I=some o):
  St g c σ ts (jlA I oI' P) {s with heap:=h',toks:=tk}:=by
 refine St.el S λb m mo rest a1 a2 a3 a4 a5 o2 o3=>?_;have a6:=And.intro o2 o3
 have hIn:=a1.N _ (eE mo (a5 _ hI))
 have same:∀p∈mo++rest,p.1=I->p.2=oI:=λp hp e=>by
  have:=(a1.N p hp).1
  rw[e]at this
  exact inj (this.symm.trans hIn.1)
 have less:∀p∈rest,¬bL p.2->p∈jlA I oI' rest:=λp hp hn=>aO hp λe=>hn (by simp only[same p (eE _ hp) e];exact hi)
 have old:∀a o,b.get? a=some o->a≠I:=λa o e q=>by rw[q,hIn.2.2]at e;exact no e
 have hmo:∀p∈mo,p.1≠I:=λp hp=>a2.apart _ (a5 _ hI) p hp
 refine lD b m mo (jlA I oI' rest) ⟨⟨a1.B,a1.turn,a1.D,⟨a1.F.ns.at' λo e=>k _ o (λq=>hIn.2.1 q.symm) e,λa o e=>k a o (old a o e) (a1.F.keep a o e),a1.F.above⟩,λp hp=>?_⟩,?_,λx v hx=>?_,λt ht=>(a4 t ht).less less,λp hp=>?_,a6⟩
 ·refine Or.elim (dI hp) (λhp=>?_) λhp=>?_
  ·have:=a1.N p (zH _ hp)
   exact eB (k _ _ (hmo p hp) this.1) this.2
  ·rcases vM hp with⟨o',e,rfl⟩|⟨hp,hne⟩
   ·exact eB (hI' _ e) hIn.2
   ·have:=a1.N p (eE _ hp)
    exact eB (k _ _ hne this.1) this.2
 ·exact a2.keep (λp hp ok=>less p hp ok.not) λp hp=>(vM hp).elim (λo1=>by refine iA o1 λø ø e=>?_;exact .inr λq hq=>by rw[e];exact hmo q hq) λh=>.inl h.1
 ·refine iA (a3 x v hx) λval h1 h2=>?_
  exact jA val h1 (h2.less less)
 ·rcases vM hp with⟨o',e,rfl⟩|⟨hp,hne⟩
  ·subst e;exact .head _
  ·exact aO (a5 p hp) hne
theorem St.pins (S:St g c σ ts P s){P':List (Addr×Obj)}(h:∀p∈P',p∈P):St g c σ ts P' s:=
 let⟨b,m,mo,rest,K⟩:=S
 (lD b m mo rest ⟨K.a1,K.a2,K.a3,K.a4,λp hp=>K.a5 p (h p hp),K.a6⟩)
theorem St.pin (S:St g c σ ts P s){p:Addr×Obj}(hp:p∈P):s.heap.get? p.1=some p.2:=
 let⟨_,_,mo,ø,K⟩:=S
 (K.a1.N p (eE mo (K.a5 p hp))).1
structure yS (g:Gr) (c:Cx) (I:Addr) (R:List (Addr×Obj)) (n:Nat) (Pv:Nat->Value->Prop) (ItSt:Nat->Heap->Prop):Prop where
 W:Walks g.prog g.w c.A I (I::R.map (·.1)) [I] n Pv ItSt
 obj:∀i h,ItSt i h->∃o,h.get? I=some o/\bL o
 ne:∀p∈R,p.1≠I
theorem oO {Q:Out×AS->Prop}{E:Value->Shared->Prop}{x:Str}{px:Pos}{body:List Stmt}{I:Addr}{R:List (Addr×Obj)}{n:Nat}{Pv:Nat->Value->Prop}{ItSt:Nat->Heap->Prop}(W:yS g c I R n Pv ItSt)(hl:scK c.sc x=some .local)
  (items:Nat->V) (hv:∀i v,i<n->Pv i v->∀rest,VR g rest (items i) v) (J:Nat->AS->Prop) (h0:J 0 σ)
  (step:∀i σ,i<n->J i σ->EB g c body {σ with ρ:=pH x (items i) σ.ρ} λy=>match y.1 with| .next| .cont=>J (i+1) y.2| .brk=>Q (.next,y.2)| .ret v=>Q (.ret v,y.2)| .exc a=>Q (.exc a,y.2))
  (hend:∀σ,J n σ->Q (.next,σ)) (hP:∀p∈P,p.1≠I) (K:EOK g c Q ts P E) {oI:Obj} (S:St g c σ ts ((I,oI)::(R++P)) s) (hst:ItSt 0 s.heap):
  codeAny g.M c.A (.forLoop (.Name x px) (.ref I) body [] c.env) (λr s'=>match r with| .ok f=>Post g c Q ts P f s'| .error e=>cameBackBy g.M c.A c.env E e s') s:=by
 refine codeAny_forLoop_any (λk s=>∃i σ oI,k=n-i/\i<=n/\J i σ/\St g c σ ts ((I,oI)::(R++P)) s/\ItSt i s.heap) ?_ n (pwA 0 σ oI rfl (rC _) h0 S hst)
 intro k s o1;obtain⟨i,σ,oI,o4,hi,hJ,S,hst⟩:=o1;obtain rfl:=o4
 refine iA (W.obj i _ hst) λo₁ hg₁ hi₁=>?_
 have e₁:oI=o₁:=inj ((S.pin (.head _)).symm.trans hg₁)
 subst e₁
 by_cases hlt:i<n
 ·refine W.W.item i s _ _ hlt hst λv h' tk hPv hst' hk=>?_
  refine iA (W.obj _ _ hst') λo₂ hg₂ hi₂=>?_
  have S₁:St g c σ ts ((I,o₂)::(R++P)) {s with heap:=h',toks:=tk}:=(S.advance (tk:=tk) (oI':=some o₂) (.head _) hi₁ (λb o hb e=>hk b o (by simpa using hb) e) λo e=>by have o5:=inj e;clear e;obtain rfl:=o5;exact hg₂).pins λp hp=>by
   rcases xB hp with rfl|hp
   ·exact .head _
   ·refine aO (.tail _ hp) ?_
    refine Or.elim (dI hp) (λhp=>?_) λhp=>?_
    ·exact W.ne p hp
    ·exact hP p hp
  have e:letOwnedTupleGo (.Name x px) (.ref I) v=pure ():=rfl
  show wpAny _ _ (letOwnedTupleGo (.Name x px) (.ref I) v) _ _ _
  rw[e]
  refine wpAny_pure ?_
  refine wpAny_assign_Name (sN (S₁.imm (hv i v hlt hPv)) (.head _) hl λs₂ S₂=>?_)
  have again:∀{σ' s₃},St g c σ' ts ((I,o₂)::(R++P)) s₃->ItSt (i+1) s₃.heap:=λ{σ' s₃} S₃=>W.W.frame _ _ _ hst' λb hb o e₀=>by
   rcases xB hb with rfl|hb
   ·have e':=S₁.pin (.head _)
    rw[e₀]at e'
    have o6:=inj e';clear e';obtain rfl:=o6
    exact S₃.pin (.head _)
   ·refine iA (List.mem_map.mp hb) λp hp o7=>?_;obtain rfl:=o7
    have hm:p∈(I,o₂)::(R++P):=.tail _ (zH _ hp)
    have e':=S₁.pin hm
    rw[e₀]at e'
    have o9:=inj e';clear e';obtain rfl:=o9
    exact S₃.pin hm
  refine wpAny_passesOwn K.own (wpAny_mono (step i σ hlt hJ E ts ((I,o₂)::(R++P)) s₂ ⟨K.own,λa σ' e s' hq hr=>K.take a σ' e s' hq ?_⟩ S₂.drop) (λfl s₃ ⟨o,σ₁,hq,hr⟩=>?_) λø ø x=>x)
  ·refine iA hr λh hS hm=>?_
   exact jA h (hS.pins λp hp=>.tail _ (eE _ hp)) hm
  ·induction o using Mine.Out.casesOn with
   |next=>refine gA hr λo10 S'=>?_;obtain rfl:=o10;exact jA (n-(i+1)) (yuB hi hlt) (pwA (i+1) σ₁ o₂ rfl hlt hq S' (again S'))
   |cont=>refine gA hr λo11 S'=>?_;obtain rfl:=o11;exact jA (n-(i+1)) (yuB hi hlt) (pwA (i+1) σ₁ o₂ rfl hlt hq S' (again S'))
   |brk=>refine gA hr λo12 S'=>?_;obtain rfl:=o12;exact zA .next σ₁ hq (eB rfl (S'.pins λp hp=>.tail _ (eE _ hp)))
   |ret v=>refine iA hr λval o13 S'=>?_;obtain rfl:=o13;exact zA (.ret v) σ₁ hq (jA val rfl (S'.pins λp hp=>.tail _ (eE _ hp)))
   |exc a=>exact hr.elim
 ·have e:i=n:=by exact kaC hi hlt
  subst e
  refine W.W.done s _ _ hst λh' tk hk=>wpAny_execs_nil (zA .next σ (hend σ hJ) (eB rfl ?_))
  exact(S.advance (tk:=tk) (oI':=none) (.head _) hi₁ (λb o hb e=>hk b o (by simpa using hb) e) λo e=>nomatch e).pins λp hp=>aO (.tail _ (eE _ hp)) (hP p hp)
end
section
variable {g:Gr}{c:Cx}{σ:AS}{ts:List (V×Value)}{P:List (Addr×Obj)}{s:Shared}
theorem St.pushP (S:St g c σ ts P s){o:Obj}(hfree:o.isFreed=false):St g c σ ts ((s.heap.objs.size,o)::P) {s with heap:=s.heap.push o}:=by
 refine St.el S λb m mo rest a1 a2 a3 a4 a5 o1 o2=>?_;have a6:=And.intro o1 o2
 have N:=a1.N.push a1.F o hfree
 have hlt:∀p∈mo,p.1≠s.heap.objs.size:=λp hp=>Nat.ne_of_lt (Heap.lt_size (a1.N p (zH _ hp)).1)
 have mono:∀p∈rest,p∈(s.heap.objs.size,o)::rest:=λp hp=>.tail _ hp
 refine lD b m mo ((s.heap.objs.size,o)::rest) ⟨⟨a1.B,a1.turn,a1.D,a1.F.push o,λp hp=>N p ?_⟩,?_,λx v hx=>?_,λt ht=>(a4 t ht).mono mono,λp hp=>?_,a6⟩
 ·refine Or.elim (dI hp) (λh=>?_) λh=>?_
  ·exact .tail _ (zH _ h)
  ·rcases xB h with rfl|h
   ·exact .head _
   ·exact .tail _ (eE _ h)
 ·exact a2.cons hlt
 ·refine iA (a3 x v hx) λval h1 h2=>?_
  exact jA val h1 (h2.mono mono)
 ·rcases xB hp with rfl|hp
  ·exact .head _
  ·exact .tail _ (a5 p hp)
theorem St.old (S:St g c σ ts P s):∀p∈P,p.1≠s.heap.objs.size:=λp hp=>Nat.ne_of_lt (Heap.lt_size (S.pin hp))
theorem St.pinL (S:St g c σ ts P s){xs:List Str}{val:Value}(h:(V.sl xs,val)∈ts):∃(a:Addr) (vals:List Value) (n:Nat),val=.ref a/\StrsAre vals xs/\St g c σ ts ((a,({cls:=.type "list",data:=.seq vals.toArray n}:Obj))::P) s:=by
 refine St.el S λb m mo rest a1 a2 a3 a4 a5 o1 o2=>?_;have a6:=And.intro o1 o2
 have r:VR g rest (.sl xs) val:=a4 _ h
 obtain⟨a,vals,n,rfl,hm,r⟩:=r.inv
 refine mhA a vals n rfl r (lD b m mo rest ⟨a1,a2,a3,a4,λp hp=>?_,a6⟩)
 rcases xB hp with rfl|hp
 ·exact hm
 ·exact a5 p hp
theorem khA (hh:c.A.handled=none){I ax:Addr}{o:Obj}(hne:ax≠I)(items:Array Value):yS g c I [(ax,o)] items.size (λi v=>items[i]?=some v) (λi h=>h.IsListIter I ax i/\h.IsList ax items) where
 W:=Walks.list hh I ax hne items
 obj:=λi h o1=>by refine gA o1 λo2 ø=>?_;refine oM o2 λo ho hc ø=>?_;exact jA o ho (by rw[bL,hc];decide)
 ne:=λp hp=>by rcases oH hp with rfl;exact hne
theorem acA (hh:c.A.handled=none){I:Addr}(a d:Int)(n:Nat):yS g c I [] n (λi v=>∃t,v=.int (a+i*d) t) (λi h=>IsRangeIter h I (a+(i:Nat)*d) ((n:Int)-(i:Nat)) d) where
 W:=Walks.range hh I a d n
 obj:=λi h ho=>lW _ ho (by decide:Value.type "range_iterator"≠.type "list") (by decide:Value.type "range_iterator"≠.type "tuple") (by decide:Value.type "range_iterator"≠.type "dict")
 ne:=λø h=>nomatch h
theorem bcA (hh:c.A.handled=none){I:Addr}(x:Str)(t:Tok):yS g c I [] x.cps.size (SignAt x) (λi h=>h.IsStrIter I "str_ascii_iterator" x t i) where
 W:=Walks.strAscii hh I x t
 obj:=λi h o1=>by refine oM o1 λo ho hc ø=>?_;exact jA o ho (by rw[bL,hc];decide)
 ne:=λø h=>nomatch h
theorem jhA (hh:c.A.handled=none){I:Addr}(x:Str)(t:Tok):yS g c I [] x.cps.size (SignAt x) (λi h=>h.IsStrIter I "str_iterator" x t i) where
 W:=Walks.strWide hh I x t
 obj:=λi h o1=>by refine oM o1 λo ho hc ø=>?_;exact jA o ho (by rw[bL,hc];decide)
 ne:=λø h=>nomatch h
noncomputable def eX (Q:Out×AS->Prop)(N:AS->Prop):Out×AS->Prop
 |(.next,σ)=>N σ
 |(.cont,σ)=>N σ
 |(.brk,σ)=>Q (.next,σ)
 |(.ret v,σ)=>Q (.ret v,σ)
 |(.exc a,σ)=>Q (.exc a,σ)
theorem lQ {Q:Out×AS->Prop}{N:AS->Prop}{x:Out×AS}(h:eX Q N x):match x.1 with| .next| .cont=>N x.2| .brk=>Q (.next,x.2)| .ret v=>Q (.ret v,x.2)| .exc a=>Q (.exc a,x.2):=by
 obtain⟨o,σ⟩:=x
 induction o using Mine.Out.casesOn<;>exact h
theorem oQ {b:List Stmt}{Q Q':Out×AS->Prop}(h:∀x,Q x->Q' x)(e:EB g c b σ Q):EB g c b σ Q':=λE ts P s K S=>wpAny_mono (e E ts P s (K.mono h) S) (λø ø z=>z.mono h) λø ø x=>x
theorem uZ (hh:c.A.handled=none){Q:Out×AS->Prop}{x:Str}{px pos:Pos}{iter:Expr}{body:List Stmt}(hl:scK c.sc x=some .local)(hs:∀v,foldedSetIterable iter c.env v=pure v)(xs:List Str)(J:Nat->AS->Prop)
  (he:EV g c iter σ λy=>y.1=.sl xs/\J 0 y.2)
  (step:∀i σ,i<xs.length->J i σ->EB g c body {σ with ρ:=pH x (.str (xs.getD i Str.empty)) σ.ρ} (eX Q (J (i+1))))
  (hend:∀σ,J xs.length σ->Q (.next,σ)):ES g c (.For (.Name x px) iter body [] pos) σ Q:=λE ts P s K S=>by
 refine wpAny_For (wpAny_mono (he E ts P s S) (λval s₁ ⟨v,σ₁,⟨e,h0⟩,S₁⟩=>?_) λø ø x=>x) hs
 dsimp only at e
 subst e
 obtain⟨a,vals,n,o2,r,S₂⟩:=S₁.pinL (.head _);obtain rfl:=o2
 have hg:=S₂.pin (.head _)
 refine wpAny_pyIter_list (items:=vals.toArray) (zG _ hg rfl ⟨n,rfl⟩) ?_
 have S₃:=(S₂.drop).pushP (o:={cls:=.type "list_iterator",data:=.fields #[.ref a,.int 0 0]}) rfl
 have hne:a≠s₁.heap.objs.size:=S₂.old _ (.head _)
 have hlen:vals.toArray.size=xs.length:=by refine qDzq (List.size_toArray ..) ?_;exact(r.length ..)
 refine oO (R:=[(a,_)]) (khA hh hne vals.toArray) hl (λi=>.str (xs.getD i Str.empty)) (λi v hi hv rest=>?_) J h0 (λi σ hi hJ=>oQ (λx h=>lQ h) (step i σ (by simp only[<-hlen];exact hi) hJ)) (λσ hJ=>hend σ (by rw[<-hlen];exact hJ)) (λp hp=>S₁.old p hp) K S₃ ⟨zG _ (Heap.get?_push_size _ rfl) rfl rfl,zG _ (Heap.get?_push_of_some _ hg) rfl ⟨n,rfl⟩⟩
 simp only[hlen]at hi
 refine iB (r.get i (xs.getD i Str.empty) (by rw[sD,mG hi];rfl)) λt' e=>?_
 rw[List.getElem?_toArray,e]at hv
 have o4:=inj hv;clear hv;obtain rfl:=o4
 exact .str _ _
theorem zwA (hh:c.A.handled=none){Q:Out×AS->Prop}{x:Str}{px pos:Pos}{iter:Expr}{body:List Stmt}(hl:scK c.sc x=some .local)(hs:∀v,foldedSetIterable iter c.env v=pure v)(y:Str)(J:Nat->AS->Prop)
  (he:EV g c iter σ λz=>z.1=.str y/\J 0 z.2)
  (step:∀i σ,i<y.length->J i σ->EB g c body {σ with ρ:=pH x (.str ⟨#[y.cps.getD i 0]⟩) σ.ρ} (eX Q (J (i+1))))
  (hend:∀σ,J y.length σ->Q (.next,σ)):ES g c (.For (.Name x px) iter body [] pos) σ Q:=λE ts P s K S=>by
 refine wpAny_For (wpAny_mono (he E ts P s S) (λval s₁ ⟨v,σ₁,⟨e,h0⟩,S₁⟩=>?_) λø ø x=>x) hs
 dsimp only at e
 subst e
 obtain⟨t,rfl⟩:=S₁.getStr (.head _)
 have hv:∀i v,i<y.cps.size->SignAt y i v->∀rest,VR g rest (.str ⟨#[y.cps.getD i 0]⟩) v:=λi v hi ⟨k,u,e,hv⟩ rest=>by
  subst hv
  have:y.cps.getD i 0=k:=by refine qDzq (Array.getD_eq_getD_getElem?) ?_;rw[e];rfl
  rw[this]
  exact .str _ _
 cases ha:y.cps.all (·<128)with
 |true=>
  refine wpAny_pyIter_ascii ha ?_
  exact oO (R:=[]) (bcA hh y t) hl _ hv J h0 (λi σ hi hJ=>oQ (λx h=>lQ h) (step i σ hi hJ)) hend (λp hp=>S₁.old p hp) K (S₁.drop.pushP (o:={cls:=.type "str_ascii_iterator",data:=.fields #[.str y t,.int 0 0]}) rfl) (zG _ (Heap.get?_push_size _ rfl) rfl rfl)
 |false=>
  refine wpAny_pyIter_wide ha ?_
  exact oO (R:=[]) (jhA hh y t) hl _ hv J h0 (λi σ hi hJ=>oQ (λx h=>lQ h) (step i σ hi hJ)) hend (λp hp=>S₁.old p hp) K (S₁.drop.pushP (o:={cls:=.type "str_iterator",data:=.fields #[.str y t,.int 0 0]}) rfl) (zG _ (Heap.get?_push_size _ rfl) rfl rfl)
end
theorem rY (P:Params)(ex:Ex):(nsIn (KX P ex) 3 "range"==some none)=true:=by kernel_rfl
theorem wM:bootBuiltins "range"=some (.type "range"):=by kernel_rfl
theorem pO {x:Int}(h1:-1000000<x)(h2:x<1000000):Builtin.Range.rangeFitsLong x=true:=by
 unfold Builtin.Range.rangeFitsLong
 refine kK pA pA ?_
 constructor<;>lia
theorem yQ {n:Nat}(h:n<=100000):Builtin.Range.small 0 (n:Int) 1=true:=by
 have e:Builtin.Range.rangeSize 0 (n:Int) 1=n:=by rw[rangeSize_one];split<;>(first|rfl|lia)
 unfold Builtin.Range.small
 rw[e,pO (by exact gD _) (by exact gD _),pO (by exact gD _) (by exact jaC h),pO (by exact gD _) (by exact gD _)]
 rw[if_pos (by decide),pO (by exact gD _) (by exact iaC h)]
 simp
theorem rT (a b:Int):Builtin.Range.rangeSize a b (-1)=max 0 (a-b):=by
 unfold Builtin.Range.rangeSize
 refine qDzq (if_neg (by decide) ..) ?_
 rw[Int.neg_neg,Int.ediv_one]
 split<;>lia
theorem small_down {a b:Int}(hb:-100000<b)(hb':b<100000)(ha:a<100000)(ha':-100000<a):Builtin.Range.small a b (-1)=true:=by
 unfold Builtin.Range.small
 rw[rT,pO (rtB ha') (itB ha),pO (rtB hb) (itB hb'),pO (gD _) (gD _),pO (haC hb' ha') (gaC hb ha)]
 rw[if_neg (by decide),pO (faC hb) (eaC hb')]
 simp
section
variable {g:Gr}{ex:Ex}{c:Cx}{σ:AS}{f:Expr->AS->T (V×AS)}
theorem jbA (G:GX g ex)(IH:∀e σ Q,(f e σ).sat Q->EV g c e σ Q)(hl:scK c.sc "range"=some .globalImplicit){np pos:Pos}{es:List Expr}{Q:List V×AS->Prop}{R:Value->Shared->Prop}{E:Value->Shared->Prop}{ts:List (V×Value)}{P:List (Addr×Obj)}{s:Shared}
  (hne:es≠[]) (hs:yB es=true) (h:(dE f es σ).sat Q) (S:St g c σ ts P s)
  (k:∀vals vs σ' s',Q (vs,σ')->vs.length=vals.length->St g c σ' (vs.zip vals++ts) P s'->wpAny g.M c.A (call (.type "range") vals) R E s'):
  wpAny g.M c.A (eval (.Call (.Name "range" np) es [] pos) c.env) R E s:=by
 refine St.el (id S) λb m mo rest' a1 a2 ø ø ø ø ø=>?_
 refine wpAny_Call_ofName (name_B a1.F a1.X (topRead_of a1.T) (by rw[G.hK];exact beq_iff_eq.mp (rY ..)) wM (by decide) ?_ c.hk hl rfl)
 match es,hne with
 |e::r,ø=>
  unfold yB at hs
  simp only[List.all_cons,oA,aF]at hs
  refine callWith_type1 (wpAny_mono (pQ IH (e::r) σ Q (by unfold yB;rw[List.all_cons,hs.1,hs.2];rfl) h E pos ts P s S) (λvals s₁ o1=>by refine zP o1 λvs σ₁ hq hl S₁=>?_;exact k vals vs σ₁ s₁ hq hl S₁) λø ø x=>x) (uG hs.1) (xI (es:=r) hs.2)
theorem qU (G:GX g ex)(hh:c.A.handled=none)(IH:∀e σ Q,(f e σ).sat Q->EV g c e σ Q)(hr:scK c.sc "range"=some .globalImplicit){Q:Out×AS->Prop}{x:Str}{px pos np cp:Pos}{es:List Expr}{body:List Stmt}(hl:scK c.sc x=some .local)
  (hne:es≠[]) (hs:yB es=true) (a d:Int) (n:Nat) (J:Nat->AS->Prop)
  (h:(dE f es σ).sat λy=>J 0 y.2/\((y.1=[.int (n:Int)]/\a=0/\d=1/\n<=100000)\/(∃b,y.1=[.int a,.int b,.int d]/\d= -1/\(-100000<b/\b<100000)/\(a<100000/\-100000<a)/\(n:Int)=max 0 (a-b))))
  (step:∀i σ,i<n->J i σ->EB g c body {σ with ρ:=pH x (.int (a+i*d)) σ.ρ} (eX Q (J (i+1))))
  (hend:∀σ,J n σ->Q (.next,σ)):ES g c (.For (.Name x px) (.Call (.Name "range" np) es [] cp) body [] pos) σ Q:=λE ts P s K S=>by
 refine wpAny_For (jbA G IH hr hne hs h S λvals vs σ₁ s₁ ⟨h0,hq⟩ hlen S₁=>?_) (λ_=>rfl)
 have fin:∀(s₂:Shared),(∃b t u v,IsRange s₂.heap s₁.heap.objs.size a b d t u v/\Builtin.Range.small a b d=true/\Builtin.Range.rangeSize a b d=n)->St g c σ₁ ts P s₂->
   wpAny g.M c.A (pyIter (.ref s₁.heap.objs.size)) (λit s₃=>codeAny g.M c.A (.forLoop (.Name x px) it body [] c.env) (λr s'=>match r with| .ok f=>Post g c Q ts P f s'| .error e=>cameBackBy g.M c.A c.env E e s') s₃) E s₂:=λs₂ ⟨b,t,u,v,hr,hsm,hsz⟩ S₂=>by
  refine wpAny_pyIter_range hr hsm ?_
  exact oO (R:=[]) (acA hh a d n) hl (λi=>.int (a+i*d)) (λi v _ o3 rest=>by obtain⟨t,e⟩:=o3;exact by subst e;exact .int _ _) J h0 (λi σ hi hJ=>oQ (λx h=>lQ h) (step i σ hi hJ)) hend (λp hp=>S₂.old p hp) K (S₂.pushP (o:={cls:=.type "range_iterator",data:=.fields #[rawInt a,rawInt (Builtin.Range.rangeSize a b d),rawInt d]}) rfl)
   (by rw[hsz];show(s₂.heap.push _).get? _=_;refine qDzq (Heap.get?_push_size _ rfl ..) ?_;simp)
 rcases hq with⟨e,rfl,rfl,hn⟩|⟨b,e,rfl,hb,ha,hnn⟩
 ·dsimp only at e
  subst e
  obtain⟨val,rfl⟩:=vyA hlen
  refine iB (S₁.getInt (.head _)) λu o6=>?_;obtain rfl:=o6
  refine call_range_1 (fin _ (tfB _ _ _ _ (Heap.get?_push_size _ rfl) ?_ ?_) ?_)
  ·exact yQ hn
  ·refine qDzq (rangeSize_one ..) ?_;split<;>(first|rfl|lia)
  ·exact(S₁.sub λx hx=>eE _ hx).keeps λa o e=>Heap.get?_push_of_some _ e
 ·dsimp only at e
  subst e
  obtain⟨v1,v2,v3,rfl⟩:=fjB hlen
  obtain⟨u1,rfl⟩:=S₁.getInt (.head _)
  obtain⟨u2,rfl⟩:=S₁.getInt (.tail _ (.head _))
  obtain⟨u3,rfl⟩:=S₁.getInt (.tail _ (.tail _ (.head _)))
  refine call_range_3 (by decide) (fin _ (tfB _ _ _ _ (Heap.get?_push_size _ rfl) ?_ ?_) ?_) (.inl (PyProof.noPylong_small (Nat.le_add_left _ _)))
  ·exact small_down hb.1 hb.2 ha.1 ha.2
  ·rw[rT,hnn]
  ·exact(S₁.sub λx hx=>eE _ hx).keeps λa o e=>Heap.get?_push_of_some _ e
end
end Mine
namespace Mine
open PySem PyProof.Rows
noncomputable def mk (l:List Nat):Str:=⟨l.toArray⟩
theorem bC (x:Str):mk x.cps.toList=x:=rfl
@[simp] theorem mk_len (l:List Nat):(mk l).length=l.length:=rfl
@[simp] theorem mk_list (l:List Nat):(mk l).cps.toList=l:=rfl
theorem qF (a b:List Nat):mk a++mk b=mk (a++b):=by
 show(⟨a.toArray++b.toArray⟩:Str)=⟨(a++b).toArray⟩
 rw[List.append_toArray]
theorem mk_inj {a b:List Nat}(h:mk a=mk b):a=b:=by
 have:=congrArg (λx:Str=>x.cps.toList) h
 exact this
theorem iG (a b:List Nat):(mk a==mk b)=(a==b):=by
 by_cases h:a=b
 ·subst h;refine qDzq (beq_self_eq_true ..) ?_;simp only[beq_self_eq_true]
 ·simp only[beq_false_of_ne h,beq_false_of_ne λe=>h (mk_inj e)]
theorem ivA (l:List Nat)(i:Nat):(mk l).cps.getD i 0=l.getD i 0:=by
 show l.toArray.getD i 0=_
 refine qDzq (Array.getD_eq_getD_getElem?) ?_;simp only[List.getElem?_toArray,sD]
theorem xF {l:List Nat}{i:Nat}(h:i<l.length):Txt.item (mk l) (i:Int)=mk [l.getD i 0]:=by
 have e:seqIndex? (i:Int) (mk l).length=some i:=by
  unfold seqIndex?
  have h0:¬((i:Int)<0):=by exact tiA
  refine qDzq (if_pos (by refine kK pA pA ?_;exact daC h) ..) ?_
  rfl
 unfold Txt.item Txt.charAt
 rw[e]
 show(⟨#[((l.toArray[i]?).getD 0)]⟩:Str)=⟨[l.getD i 0].toArray⟩
 rw[List.getElem?_toArray,sD]
theorem mJ {l:List Nat}{i:Nat}(h:i<l.length):Txt.item (mk l) (-((i:Int)+1))=mk [l.getD (l.length-1-i) 0]:=by
 have e:seqIndex? (-((i:Int)+1)) (mk l).length=some (l.length-1-i):=by
  unfold seqIndex?
  have h0:(-((i:Int)+1)<0):=by exact caC
  rw[mk_len,if_pos h0]
  refine qDzq (if_pos (by refine kK pA pA ?_;exact baC h) ..) ?_
  congr 1
  exact aaC h
 unfold Txt.item Txt.charAt
 rw[e]
 show(⟨#[((l.toArray[l.length-1-i]?).getD 0)]⟩:Str)=⟨[l.getD (l.length-1-i) 0].toArray⟩
 rw[List.getElem?_toArray,sD]
noncomputable def jC (n:Nat)(d:Nat):Option Int->Nat
 |none=>d
 |some i=>(max 0 (min (if i<0 then i+n else i) n)).toNat
theorem faA {n d:Nat}(h:d<=n)(o:Option Int):jC n d o<=n:=by
 induction o using Option.casesOn with
 |none=>exact h
 |some i=>exact zzB
theorem yX (lo hi:Option Int)(n:Nat):Builtin.Str.strSliceIndices lo hi 1 n=Builtin.Str.strSliceIndices (some (jC n 0 lo)) (some (jC n n hi)) 1 n:=by
 unfold Builtin.Str.strSliceIndices
 simp only[show(1:Int)>0 by decide,if_true]
 have h1:¬((jC n 0 lo:Nat):Int)<0:=by exact tiA
 have h2:¬((jC n n hi:Nat):Int)<0:=by exact tiA
 rw[if_neg h1,if_neg h2]
 congr 1
 ·induction lo using Option.casesOn with
  |none=>rfl
  |some i=>exact ppB
 ·induction hi using Option.casesOn with
  |none=>exact yzB
  |some i=>exact ppB
theorem fG (l:List Nat)(lo hi:Option Int):Txt.slice (mk l) lo hi=mk ((l.take (jC l.length l.length hi)).drop (jC l.length 0 lo)):=by
 have e:Txt.slice (mk l) lo hi=Txt.slice (mk l) (some (jC l.length 0 lo)) (some (jC l.length l.length hi)):=by
  unfold Txt.slice
  rw[show(mk l).length=l.length from rfl,yX lo hi l.length]
 refine qDzq (e ..) ?_
 have h1:=faA (rC l.length) lo
 have h2:=faA (vD l.length) hi
 generalize jC l.length 0 lo=a at*
 generalize jC l.length l.length hi=b at*
 by_cases hab:a<=b
 ·have:=slice_closes (x:=mk l) (i:=a) (j:=b) (cF (gD _) (wI ‹_›) (wI ‹_›))
  refine qDzq (eq_of_beq this ..) ?_
  show mk _=mk _
  simp only[mk_list,Int.toNat_natCast]
  simp only[List.drop_take,show((b:Int)-a).toNat=b-a by exact xzB hab]
 ·have hidx:Builtin.Str.strSliceIndices (some (a:Int)) (some (b:Int)) 1 l.length=[]:=by
   unfold Builtin.Str.strSliceIndices sliceRange
   simp only[show(1:Int)>0 by decide,if_true]
   rw[if_neg tiA,if_neg (show ¬((b:Int)<0) by exact tiA),if_neg (wzB h1 hab)]
   rfl
  have hz:(l.take b).drop a=[]:=by rw[List.drop_eq_nil_iff,gF];exact vzB h2 hab
  unfold Txt.slice
  rw[show(mk l).length=l.length from rfl,hidx,hz]
  split
  ·rename_i q
   have:l.length=0:=by
    simp only[oA,beq_iff_eq,List.length_nil]at q
    exact uzB h1 h2 hab q
   simp only[List.eq_nil_of_length_eq_zero this]
  ·rfl
theorem sW (l e:List Nat):Txt.endswith (mk l) (mk e)=e.isSuffixOf l:=by
 unfold Txt.endswith Builtin.Str.subAt
 rw[show(mk l).length=l.length from rfl,show(mk e).length=e.length from rfl]
 by_cases h:e.length<=l.length
 ·have h0:decide (0+e.length<=l.length)=true:=by refine(vA ..).mpr ?_;exact tzB h
  rw[h0,eD]
  have e1:(mk l).cps.extract (l.length-e.length) (l.length-e.length+e.length)=(l.drop (l.length-e.length)).toArray:=by
   rw[Nat.sub_add_cancel h]
   show l.toArray.extract _ _=_
   refine qDzq (List.extract_toArray ..) ?_
   simp only[List.extract_eq_take_drop]
   rw[List.take_of_length_le (by rw[List.length_drop];exact vD _)]
  rw[e1]
  have e2:((l.drop (l.length-e.length)).toArray==(mk e).cps)=(l.drop (l.length-e.length)==e):=by
   by_cases q:l.drop (l.length-e.length)=e
   ·rw[q]
    show(e.toArray==e.toArray)=(e==e)
    rw[beq_self_eq_true,beq_self_eq_true]
   ·rw[beq_false_of_ne q,beq_false_of_ne]
    intro q'
    exact q (congrArg Array.toList q')
  refine qDzq (e2 ..) ?_
  rw[Bool.eq_iff_iff,beq_iff_eq,List.isSuffixOf_iff_suffix]
  constructor
  ·intro q;rw[<-q];exact List.drop_suffix _ _
  ·intro q;exact(List.suffix_iff_eq_drop.mp q).symm
 ·have h0:decide (0+e.length<=l.length)=false:=by refine(decide_eq_false_iff_not ..).mpr ?_;exact szB h
  rw[h0,Bool.false_and]
  symm
  refine(Bool.eq_false_iff ..).mpr ?_
  intro q
  exact h (List.isSuffixOf_iff_suffix.mp q).length_le
theorem xP (k:Nat)(l:List Nat):(!(Builtin.Str.occurrences (mk l) (mk [k]) 0 (mk l).length 1).isEmpty)=decide (k∈l):=StrLaws.found_one (mk l) k
end Mine
namespace Mine
open PySem PySem.W PySem.Calls PyProof.Rows
noncomputable abbrev Df:=Arguments×List Stmt×Scope
noncomputable def lA (b:List Stmt)(i:Nat):Stmt:=(b[i]?).getD (.Pass default)
noncomputable def whT:Stmt->Expr
 | .While t _ _ _=>t
 | .If t _ _ _=>t
 | .For _ i _ _ _=>i
 |_=>.Constant .none 0 default
noncomputable def whB:Stmt->List Stmt
 | .While _ b _ _=>b
 | .For _ _ b _ _=>b
 | .Try b _ _ _ _=>b
 | .If _ b _ _=>b
 |_=>[]
noncomputable def whP:Stmt->Pos
 | .While _ _ _ p=>p
 | .For _ _ _ _ p=>p
 | .Try _ _ _ _ p=>p
 | .If _ _ _ p=>p
 |_=>default
noncomputable def whX:Stmt->Pos
 | .For (.Name _ p) _ _ _ _=>p
 |_=>default
noncomputable def hit (y:List Nat)(b:Bool)(k:Nat):Bool:=decide (k∈y)==b
noncomputable def mE (l:List Nat)(p:Nat)(y:List Nat)(b:Bool):Nat:=p+((l.drop p).takeWhile (hit y b)).length
noncomputable def syA:Spec:=λvs μ=>aS vs λx vs=>aI vs λp vs=>aS vs λy vs=>aB vs λb vs=>a0 vs (.need (decide (0<=p)&&decide (p<=x.length)&&decide (x.length<=1000)) (.ret (.int (mE x.cps.toList p.toNat y.cps.toList b),μ)))
noncomputable def iM:Df:=eA 4
theorem sxA:iM.2.1=[.While (whT (lA iM.2.1 0)) (whB (lA iM.2.1 0)) [] (whP (lA iM.2.1 0)),lA iM.2.1 1]:=by kernel_rfl
noncomputable def yH (x y:Str)(b:Bool)(p:Int)(μ:Mu):AS:=⟨[("s",.str x),("p",.int p),("signs",.str y),("inside",.bool b)],μ⟩
section
variable (x y:Str)(b:Bool)(p:Int)(μ:Mu)
theorem zkA:(ai (xA iM.2.2 []) 20).2 (whT (lA iM.2.1 0)) (yH x y b p μ)=
  .need (decide (x.length<=big)) (.ite (decide (p<x.length)) (.need (cC x p) (.ite (inS (Txt.item x p) y==b) (.ret (true,yH x y b p μ)) (.ret (false,yH x y b p μ)))) (.ret (false,yH x y b p μ))):=by kernel_rfl
theorem alA:aiB (aiS (xA iM.2.2 []) 12) (whB (lA iM.2.1 0)) (yH x y b p μ)=.ret (.next,yH x y b (p+1) μ):=by kernel_rfl
theorem msA:aiB (aiS (xA iM.2.2 []) 12) [lA iM.2.1 1] (yH x y b p μ)=.ret (.ret (.int p),yH x y b p μ):=by kernel_rfl
end
theorem igA {l:List Nat}{p:Nat}{y:List Nat}{b:Bool}(h:l.length<=p):mE l p y b=p:=by
 unfold mE;rw[List.drop_eq_nil_of_le h];rfl
theorem gbA {l:List Nat}{p:Nat}{y:List Nat}{b:Bool}(h:p<l.length):mE l p y b=if hit y b (l.getD p 0)then mE l (p+1) y b else p:=by
 unfold mE
 simp only[List.drop_eq_getElem_cons h,List.takeWhile_cons,sD,mG h]
 simp only[Option.getD_some]
 split
 ·exact ar0
 ·rfl
theorem cD {x:Str}{p:Nat}(h:p<x.length)(hl:x.length<=1000):cC x p=true:=by
 unfold cC
 refine kK (kK (kK pA pA) pA) pA ?_
 exact rzB h hl
theorem xR {l y:List Nat}{p:Nat}(h:p<l.length):inS (Txt.item (mk l) p) (mk y)=decide (l.getD p 0∈y):=by
 rw[xF h]
 exact xP _ _
theorem ujA {g:Gr}{ex:Ex}(G:GX g ex)(n:Nat):SpOK g (n+1) 31 syA:=λvs μ Q hq=>by
 refine jB (lG hq) λx wz1 ez1 hz1=>?_;clear hq
 refine jB (bX hz1) λp wz2 ez2 hz2=>?_;clear hz1
 refine jB (lG hz2) λy wz3 ez3 hz3=>?_;clear hz2
 refine jB (rP hz3) λb wz4 ez4 hz4=>?_;clear hz3
 refine gA (tD hz4) λez5 hz=>?_;clear hz4
 subst ez5 ez4 ez3 ez2 ez1
 have hq:=hz;clear hz
 refine gA (uD hq) λhn hq=>?_
 replace hn:=bmp (bmp bB bB) bB hn
 refine gA hn λo2 h2=>?_;obtain⟨h0,h1⟩:=o2
 obtain⟨p,rfl⟩:∃k:Nat,p=k:=yC p.toNat (laA h0)
 rw[<-bC x,<-bC y]at*
 generalize x.cps.toList=l at*
 generalize y.cps.toList=ys at*
 simp only[mk_list,mk_len,Int.toNat_natCast]at*
 refine mD G.hK wdB rfl λc hc hs=>?_
 have O:=cG G (CTOK.nil (n:=n)) hc hs
 have X:=nD G
 show EB g c iM.2.1 (yH (mk l) (mk ys) b p μ) (dB Q)
 rw[sxA]
 refine rA (pM (λk σ=>∃q:Nat,σ=yH (mk l) (mk ys) b q μ/\q<=l.length/\k=l.length-q/\mE l q ys b=mE l p ys b) _ (lW p rfl (nH ‹_›) rfl rfl) ?_)
 intro k σ o1;refine ziA o1 λq o3 hq1 o4 hq2=>?_;obtain rfl:=o3;obtain rfl:=o4
 refine(nK O 20).2 _ _ _ ?_
 rw[show(ai (xA (eA 4).2.2 []) 20).2=(ai (xA iM.2.2 []) 20).2 from rfl,zkA]
 have leave:mE l q ys b=q->EB g c [lA iM.2.1 1] (yH (mk l) (mk ys) b q μ) (dB Q):=λe=>by
  refine fD O X 12 _ _ _ ?_
  rw[show aiB (aiS (xA (eA 4).2.2 []) 12)=aiB (aiS (xA iM.2.2 []) 12)from rfl,msA]
  show Q (.int q,μ)
  rw[e]at hq2
  rw[hq2];exact hq
 refine T.sat_need.mpr (cF (by refine(vA ..).mpr ?_;exact dA ‹_› (by decide)) (λhlt=>?_) (λhge=>?_))
 ·have hlt:=bB hlt
  have hlt':q<l.length:=by exact nH ‹_›
  have hst:=gbA (y:=ys) (b:=b) hlt'
  refine T.sat_need.mpr (cF (cD ‹_› ‹_›) (λht=>eB (λø=>?_) (λh=>by injection h)) (λhf=>eB (λh=>(nomatch h)) (λø=>?_)))
  ·rw[xR hlt']at ht
   refine fD O X 12 _ _ _ ?_
   rw[show aiB (aiS (xA (eA 4).2.2 []) 12)=aiB (aiS (xA iM.2.2 []) 12)from rfl,alA]
   refine jA (l.length-(q+1)) (qzB hlt) (lW (q+1) rfl ‹_› rfl ?_)
   rw[if_pos (show hit ys b (l.getD q 0)=true from ht)]at hst
   simp only[<-hq2,hst]
  ·rw[xR hlt']at hf
   rw[if_neg (by unfold hit;rw[hf];decide)]at hst
   exact leave hst
 ·have hge:=pF hge
  simp only[mk_len]at hge
  exact eB (λh=>(nof h)) (λø=>leave (igA (pzB hq1 hge)))
noncomputable def better (w e:List Nat)(f:Option (List Nat)):Bool:=decide (e.length<w.length)&&e.isSuffixOf w&&(match f with|none=>true|some f=>decide (f.length<e.length))
noncomputable def yK (w:List Nat):List (List Nat)->Option (List Nat)->Option (List Nat)
 |[],f=>f
 |e::r,f=>yK w r (if better w e f then some e else f)
noncomputable def nJ (w:Str):Option Str->V
 |none=>.none
 |some e=>.tup [.str w,.str (Txt.slice w none (some ((w.length:Int)-e.length))),.str e]
noncomputable def xK (ends:List Str):Bool:=ends.all λe=>decide (e.length<=1000)
noncomputable def qT:Spec:=λvs μ=>aS vs λw vs=>aL vs λends vs=>a0 vs (.need (decide (w.length<=1000)&&xK ends) (.ite (yK w.cps.toList (ends.map λe=>e.cps.toList) none).isSome (.ret (nJ w (some (mk ((yK w.cps.toList (ends.map λe=>e.cps.toList) none).getD []))),μ)) (.ret (.none,μ))))
noncomputable def dLo:Df:=eA 13
theorem ngB:dLo.2.1=[lA dLo.2.1 0,.For (.Name "end" (whX (lA dLo.2.1 1))) (.Name "ends" (match whT (lA dLo.2.1 1)with| .Name ø p=>p|ø=>default)) (whB (lA dLo.2.1 1)) [] (whP (lA dLo.2.1 1)),lA dLo.2.1 2]:=by kernel_rfl
noncomputable def uF (w:Str)(ends:List Str)(f:V)(e:Option Str)(μ:Mu):AS:=⟨("w",.str w)::("ends",.sl ends)::("found",f)::(match e with|none=>[]|some e=>[("end",.str e)]),μ⟩
noncomputable abbrev aLo:=aiB (aiS (xA dLo.2.2 []) 12)
section
variable (w e f1 f:Str)(ends:List Str)(v:V)(o:Option Str)(μ:Mu)
theorem hmA:aiS (xA dLo.2.2 []) 12 (lA dLo.2.1 0) ⟨[("w",.str w),("ends",.sl ends)],μ⟩=.ret (.next,uF w ends .none none μ):=by kernel_rfl
theorem cwA (p:Pos):(ai (xA dLo.2.2 []) 20).1 (.Name "ends" p) (uF w ends .none none μ)=.ret (.sl ends,uF w ends .none none μ):=by kernel_rfl
theorem gmA:aLo [lA dLo.2.1 2] (uF w ends v none μ)=.ret (.ret v,uF w ends v none μ):=by kernel_rfl
theorem fmA:aLo [lA dLo.2.1 2] (uF w ends v (some e) μ)=.ret (.ret v,uF w ends v (some e) μ):=by kernel_rfl
theorem jmA:aLo (whB (lA dLo.2.1 1)) (uF w ends .none (some e) μ)=
  let U:T (Out×AS):=.need (decide (w.length<=big)) (.need (decide (e.length<=big)) (.need (decide (w.length<=big)) (.ret (.next,uF w ends (nJ w (some e)) (some e) μ))))
  let S:T (Out×AS):=.ret (.next,uF w ends .none (some e) μ)
  .need (decide (w.length<=big)) (.need (decide (e.length<=big)) (.ite (decide ((e.length:Int)<w.length)) (.ite (Txt.endswith w e) (.ite true (.ite true (.ite true U S) (.ite false U S)) (.need (decide (e.length<=big)) .fail)) (.ite false U S)) (.ite false U S))):=by kernel_rfl
theorem imA:aLo (whB (lA dLo.2.1 1)) (uF w ends (nJ w (some f)) (some e) μ)=
  let U:T (Out×AS):=.need (decide (w.length<=big)) (.need (decide (e.length<=big)) (.need (decide (w.length<=big)) (.ret (.next,uF w ends (nJ w (some e)) (some e) μ))))
  let S:T (Out×AS):=.ret (.next,uF w ends (nJ w (some f)) (some e) μ)
  .need (decide (w.length<=big)) (.need (decide (e.length<=big)) (.ite (decide ((e.length:Int)<w.length)) (.ite (Txt.endswith w e) (.ite false (.ite true (.ite true U S) (.ite false U S))
   (.need (decide (e.length<=big)) (.need (pE 3 2) (.need (decide (f.length<=big)) (.ite (decide ((f.length:Int)<e.length)) (.ite true (.ite true U S) (.ite false U S)) (.ite false (.ite true U S) (.ite false U S))))))) (.ite false U S)) (.ite false U S))):=by kernel_rfl
end
theorem fhA (w:List Nat)(es:List (List Nat))(i:Nat)(h:i<es.length)(f:Option (List Nat)):yK w (es.drop i) f=yK w (es.drop (i+1)) (if better w (es.getD i []) f then some (es.getD i [])else f):=by
 rw[List.drop_eq_getElem_cons h,sD,mG h]
 rfl
theorem cA {α:Type}{c:Bool}{t e:T α}{Q:α->Prop}(h1:c=true->t.sat Q)(h2:c=false->e.sat Q):(T.ite c t e).sat Q:=⟨h1,h2⟩
theorem bA {α:Type}{c:Bool}{t:T α}{Q:α->Prop}(h1:c=true)(h2:t.sat Q):(T.need c t).sat Q:=T.sat_need.mpr ⟨h1,h2⟩
theorem uB {n:Nat}(h:n<=1000):decide (n<=big)=true:=by refine(vA ..).mpr ?_;exact dA ‹_› (by decide)
theorem vV {g:Gr}{ex:Ex}(G:GX g ex)(n:Nat):SpOK g (n+1) 94 qT:=λvs μ Q hq=>by
 refine jB (lG hq) λw wz1 ez1 hz1=>?_;clear hq
 refine jB (upA hz1) λends wz2 ez2 hz2=>?_;clear hz1
 refine gA (tD hz2) λez3 hz=>?_;clear hz2
 subst ez3 ez2 ez1
 have hq:=hz;clear hz
 refine gA (uD hq) λhn hq=>?_
 simp only[oA,vA]at hn
 refine gA hn λhw hends=>?_
 have hlen:∀i,i<ends.length->(ends.getD i Str.empty).length<=1000:=λi hi=>by
  rw[sD,mG hi]
  exact bB (fC hends _ (List.getElem_mem hi))
 refine mD G.hK ndB rfl λc hc hs=>?_
 have O:=cG G (CTOK.nil (n:=n)) hc hs
 have X:=nD G
 show EB g c dLo.2.1 ⟨[("w",.str w),("ends",.sl ends)],μ⟩ (dB Q)
 rw[ngB]
 refine rA (cJ O X 12 _ _ _ ?_)
 rw[show aiS (xA (eA 13).2.2 []) 12=aiS (xA dLo.2.2 []) 12 from rfl,hmA]
 refine rA (uZ hc.handled (by rw[hs];kernel_rfl) (λ_=>rfl) ends
  (λi σ=>∃f o,σ=uF w ends (nJ w (f.map mk)) o μ/\(∀e,f=some e->e.length<=1000)/\yK w.cps.toList ((ends.map λe=>e.cps.toList).drop i) f=yK w.cps.toList (ends.map λe=>e.cps.toList) none) ?_ ?_ ?_)
 ·refine(nK O 20).1 _ _ _ ?_
  rw[show(ai (xA (eA 13).2.2 []) 20).1=(ai (xA dLo.2.2 []) 20).1 from rfl,cwA]
  exact eB rfl (zI none none rfl (λe h=>by exact no h) rfl)
 ·intro i σ hi o1;refine zP o1 λf o o3 hf hJ=>?_;obtain rfl:=o3
  have hi':i<(ends.map λe=>e.cps.toList).length:=by rw[List.length_map];exact hi
  have he:(ends.map λe=>e.cps.toList).getD i []=(ends.getD i Str.empty).cps.toList:=by
   refine qDzq (sD) ?_;rw[List.getElem?_map,sD,mG hi];rfl
  rw[fhA _ _ i hi',he]at hJ
  have hle:=hlen i hi
  generalize ends.getD i Str.empty=e at*
  have hρ:({(uF w ends (nJ w (f.map mk)) o μ)with ρ:=pH "end" (.str e) (uF w ends (nJ w (f.map mk)) o μ).ρ}:AS)=uF w ends (nJ w (f.map mk)) (some e) μ:=by
   induction o using Option.casesOn<;>rfl
  rw[hρ]
  refine fD O X 12 _ _ _ ?_
  rw[show aiB (aiS (xA (eA 13).2.2 []) 12)=aLo from rfl]
  have upd:better w.cps.toList e.cps.toList f=true->eX (Seq g c [lA dLo.2.1 2] (dB Q)) (λσ=>∃f o,σ=uF w ends (nJ w (f.map mk)) o μ/\(∀e,f=some e->e.length<=1000)/\yK w.cps.toList ((ends.map λe=>e.cps.toList).drop (i+1)) f=yK w.cps.toList (ends.map λe=>e.cps.toList) none) (.next,uF w ends (nJ w (some e)) (some e) μ):=λhb=>by
   rw[if_pos hb]at hJ
   exact zI (some e.cps.toList) (some e) rfl (λe' h=>by have o4:=inj h;clear h;obtain rfl:=o4;exact hle) hJ
  have same:better w.cps.toList e.cps.toList f=false->eX (Seq g c [lA dLo.2.1 2] (dB Q)) (λσ=>∃f o,σ=uF w ends (nJ w (f.map mk)) o μ/\(∀e,f=some e->e.length<=1000)/\yK w.cps.toList ((ends.map λe=>e.cps.toList).drop (i+1)) f=yK w.cps.toList (ends.map λe=>e.cps.toList) none) (.next,uF w ends (nJ w (f.map mk)) (some e) μ):=λhb=>by
   rw[hb]at hJ
   exact zI f (some e) rfl hf hJ
  have hlt:decide ((e.length:Int)<w.length)=decide (e.cps.toList.length<w.cps.toList.length):=by
   refine(decide_eq_decide ..).mpr ?_
   exact kyA
  have hen:Txt.endswith w e=e.cps.toList.isSuffixOf w.cps.toList:=sW w.cps.toList e.cps.toList
  induction f using Option.casesOn with
  |none=>
   rw[show nJ w (Option.map mk (none:Option (List Nat)))=.none from rfl,jmA]
   simp only[hlt,hen]
   unfold better at upd same
   refine bA (uB hw) (bA (uB hle) (cA (λh1=>cA (λh2=>cA (λ_=>cA (λ_=>cA (λ_=>bA (uB hw) (bA (uB hle) (bA (uB hw) (upd (by simp only[h1,h2];rfl))))) (λh=>by exact nomatch h)) (λh=>by exact nomatch h)) (λh=>by exact nomatch h)) λh2=>cA (λh=>by exact nomatch h) λ_=>same (by simp only[h1,h2];rfl)) λh1=>cA (λh=>by exact nomatch h) λ_=>same (by rw[h1];rfl)))
  |some f=>
   rw[show nJ w (Option.map mk (some f))=nJ w (some (mk f))from rfl,imA]
   have hfl:=hf f rfl
   have hl2:decide (((mk f).length:Int)<e.length)=decide (f.length<e.cps.toList.length):=by
    refine(decide_eq_decide ..).mpr ?_
    exact kyA
   simp only[hlt,hen,hl2]
   unfold better at upd same
   refine bA (uB hw) (bA (uB hle) (cA (λh1=>cA (λh2=>cA (λh=>by exact nomatch h) λ_=>bA (uB hle) (bA (by decide) (bA (uB hfl) (cA (λh3=>cA (λ_=>cA (λ_=>bA (uB hw) (bA (uB hle) (bA (uB hw) (upd (by rw[h1,h2];exact h3))))) (λh=>by exact nomatch h)) (λh=>by exact nomatch h))
    λh3=>cA (λh=>by exact nof h) λ_=>cA (λh=>by exact nof h) λ_=>same (by rw[h1,h2];exact h3))))) λh2=>cA (λh=>by exact nof h) λ_=>same (by simp only[h1,h2];rfl)) λh1=>cA (λh=>by exact nof h) λ_=>same (by rw[h1];rfl)))
 ·intro σ o2;refine zP o2 λf o o5 hf hJ=>?_;obtain rfl:=o5
  rw[show ends.length=(ends.map λe=>e.cps.toList).length by rw[List.length_map],List.drop_length]at hJ
  refine fD O X 12 _ _ _ ?_
  rw[show aiB (aiS (xA (eA 13).2.2 []) 12)=aLo from rfl]
  have fin:Q (nJ w (f.map mk),μ):=by
   rw[<-hJ]at hq
   induction f using Option.casesOn with
   |none=>exact hq.2 rfl
   |some f=>exact hq.1 rfl
  induction o using Option.casesOn with
  |none=>rw[gmA];exact fin
  |some e=>rw[fmA];exact fin
set_option tactic.hygienic true
theorem SpOK.mono {g:Gr}{n:Nat}{a:Addr}{k1 k2:Spec}(h:SpOK g n a k1)(k:∀vs μ Q,(k2 vs μ).sat Q->(k1 vs μ).sat Q):SpOK g n a k2:=λvs μ Q hq=>h vs μ Q (k vs μ Q hq)
theorem xN {l:List Nat}{p:Nat}(y:List Nat)(b:Bool)(h:p<=l.length):mE l p y b<=l.length:=by
 have:=(List.takeWhile_sublist (hit y b) (l:=l.drop p)).length_le
 simp only[List.length_drop]at this
 exact ozB h this
noncomputable def vy:List Nat:=[97,101,105,111,117,121]
noncomputable def vv:List Nat:=[97,101,105,111,117]
noncomputable def lr:List (Addr×Spec):=[(31,syA)]
noncomputable def rnT {α:Type}(s:Str)(p:Int)(t:T α):T α:=.need (decide (0<=p)&&decide (p<=s.length)&&decide (s.length<=1000)) t
theorem gG {α:Type}{l:List Nat}{p:Nat}{t:T α}{Q:α->Prop}(hl:l.length<=1000)(hp:p<=l.length)(h:t.sat Q):(rnT (mk l) p t).sat Q:=
 bA (by
  refine(oA ..).mpr ?_;simp only[oA,vA,vA,vA]
  exact⟨⟨gD p,wI hp⟩,hl⟩) h
noncomputable def r1 (l:List Nat):Nat:=mE l 0 vy false
noncomputable def r2 (l:List Nat):Nat:=mE l (r1 l) vv true
noncomputable def r3 (l:List Nat):Nat:=mE l (r2 l) vy false
noncomputable def r4 (l:List Nat):Nat:=mE l (r3 l) vv true
noncomputable def r5 (l:List Nat):Nat:=mE l (r4 l) vy false
theorem ceA (l:List Nat):r1 l<=l.length:=xN _ _ (rC _)
theorem beA (l:List Nat):r2 l<=l.length:=xN _ _ (ceA l)
theorem klA (l:List Nat):r3 l<=l.length:=xN _ _ (beA l)
theorem pjB (l:List Nat):r4 l<=l.length:=xN _ _ (klA l)
noncomputable def spB (f:List Nat->Bool):Spec:=λvs μ=>match vs with
 |[.str x]=>.need (decide (x.length<=1000)) (.ret (.bool (f x.cps.toList),μ))
 |_=>.fail
theorem xQ {f:List Nat->Bool}{k:Spec}(h:∀l μ Q,l.length<=1000->Q (.bool (f l),μ)->(k [.str (mk l)] μ).sat Q):∀vs μ Q,(spB f vs μ).sat Q->(k vs μ).sat Q:=λvs μ Q hq=>by
 unfold spB at hq
 split at hq
 ·rename_i x
  refine gA (uD hq) λhn hq=>?_
  exact h x.cps.toList μ Q (bB hn) hq
 ·exact hq.elim
noncomputable def bI (l:List Nat):Bool:=decide (r1 l<r2 l)&&decide (r2 l<r3 l)
noncomputable def cI (l:List Nat):Bool:=decide (r1 l<r2 l)&&decide (r2 l<r3 l)&&decide (r4 l=l.length)
noncomputable def iE (l:List Nat):Bool:=decide (r1 l<r2 l)&&decide (r2 l<r3 l)&&decide (r3 l<r4 l)&&decide (r4 l<r5 l)
noncomputable def svF (l:List Nat):Bool:=decide (r1 l<l.length)
noncomputable def cvF (l:List Nat):Bool:=decide (0<r1 l)&&decide (r1 l+2=l.length)&&!decide (l.getD (r1 l+1) 0∈([97,101,105,111,117,119,120,121]:List Nat))
section
variable (l:List Nat)(μ:Mu)
noncomputable abbrev bl {α:Type}(b:Bool)(μ:Mu)(k:V×Mu->T α):T α:=k (.bool b,μ)
theorem zgA:qD (eA 5) ["s"] lr [.str (mk l)] μ=
  rnT (mk l) 0 (rnT (mk l) (r1 l) (.ite (decide ((r1 l:Int)<r2 l)) (rnT (mk l) (r2 l) (.ret (.bool (decide ((r2 l:Int)<r3 l)),μ))) (.ret (.bool (decide ((r1 l:Int)<r2 l)),μ)))):=by kernel_rfl
theorem wqA:qD (eA 8) ["s"] lr [.str (mk l)] μ=rnT (mk l) 0 (.need (decide ((mk l).length<=big)) (.ret (.bool (decide ((r1 l:Int)<(mk l).length)),μ))):=by kernel_rfl
theorem bhA:qD (eA 6) ["s"] lr [.str (mk l)] μ=
  rnT (mk l) 0 (rnT (mk l) (r1 l) (rnT (mk l) (r2 l) (.ite (decide ((r1 l:Int)<r2 l)) (.ite (decide ((r2 l:Int)<r3 l)) (rnT (mk l) (r3 l) (.need (decide ((mk l).length<=big)) (.ret (.bool ((r4 l:Int)==(mk l).length),μ)))) (.ret (.bool (decide ((r2 l:Int)<r3 l)),μ)))
   (.ret (.bool (decide ((r1 l:Int)<r2 l)),μ))))):=by kernel_rfl
theorem ygA:qD (eA 7) ["s"] lr [.str (mk l)] μ=
  rnT (mk l) 0 (rnT (mk l) (r1 l) (rnT (mk l) (r2 l) (rnT (mk l) (r3 l) (.ite (decide ((r1 l:Int)<r2 l)) (.ite (decide ((r2 l:Int)<r3 l)) (.ite (decide ((r3 l:Int)<r4 l)) (rnT (mk l) (r4 l) (.ret (.bool (decide ((r4 l:Int)<r5 l)),μ))) (.ret (.bool (decide ((r3 l:Int)<r4 l)),μ))) (.ret (.bool (decide ((r2 l:Int)<r3 l)),μ)))
   (.ret (.bool (decide ((r1 l:Int)<r2 l)),μ)))))):=by kernel_rfl
theorem dyA:qD (eA 9) ["s"] lr [.str (mk l)] μ=
  rnT (mk l) 0 (.ite (decide ((0:Int)<r1 l)) (.need (decide ((mk l).length<=big)) (.ite ((r1 l:Int)+2==(mk l).length) (.need (cC (mk l) ((r1 l:Int)+1)) (.ret (.bool (!inS (Txt.item (mk l) ((r1 l:Int)+1)) (Str.ofString "aeiouwxy")),μ))) (.ret (.bool ((r1 l:Int)+2==(mk l).length),μ)))) (.ret (.bool (decide ((0:Int)<r1 l)),μ))):=by kernel_rfl
end
theorem aC (a b:Nat):decide ((a:Int)<b)=decide (a<b):=by refine(decide_eq_decide ..).mpr ?_;exact kyA
section
variable {g:Gr}{ex:Ex}(G:GX g ex)(n:Nat)
include G
theorem gZ:CTOK g (n+1) lr:=.cons (ujA G n) .nil
theorem kvA:SpOK g (n+2) 38 (spB bI):=(nB G (gZ G n) vdB).mono (xQ λl μ Q hl hq=>by
 unfold bI at hq
 rw[zgA,aC,aC]
 refine gG hl (rC _) (gG hl (ceA l) (cA (λh=>gG hl (beA l) ?_) λh=>?_))
 ·simp only[h,eD,Bool.false_and,Bool.and_true,Bool.and_false]at hq;exact hq
 ·simp only[h,eD,Bool.false_and,Bool.and_true,Bool.and_false]at hq;rw[h];exact hq)
theorem ajB:SpOK g (n+2) 59 (spB svF):=(nB G (gZ G n) sdB).mono (xQ λl μ Q hl hq=>by
 rw[wqA]
 refine gG hl (rC _) (bA (uB hl) ?_)
 rw[aC];exact hq)
theorem lvA:SpOK g (n+2) 45 (spB cI):=(nB G (gZ G n) udB).mono (xQ λl μ Q hl hq=>by
 unfold cI at hq
 rw[bhA,aC,aC]
 refine gG hl (rC _) (gG hl (ceA l) (gG hl (beA l) (cA (λh=>cA (λh2=>gG hl (klA l) (bA (uB hl) ?_)) λh2=>?_) λh=>?_)))
 ·simp only[h,h2,eD]at hq
  have e:((r4 l:Int)==(mk l).length)=decide (r4 l=l.length):=by
   rw[mk_len,Bool.eq_iff_iff,beq_iff_eq,vA];exact nzB
  rw[e];exact hq
 ·simp only[h,h2,eD,Bool.false_and,Bool.and_true,Bool.and_false]at hq;rw[h2];exact hq
 ·simp only[h,eD,Bool.false_and,Bool.and_true,Bool.and_false]at hq;rw[h];exact hq)
theorem jvA:SpOK g (n+2) 52 (spB iE):=(nB G (gZ G n) tdB).mono (xQ λl μ Q hl hq=>by
 unfold iE at hq
 simp only[ygA,aC,aC,aC,aC]
 refine gG hl (rC _) (gG hl (ceA l) (gG hl (beA l) (gG hl (klA l) (cA (λh=>cA (λh2=>cA (λh3=>gG hl (pjB l) ?_) λh3=>?_) λh2=>?_) λh=>?_))))
 ·simp only[h,h2,h3,eD,Bool.false_and,Bool.and_true,Bool.and_false]at hq;exact hq
 ·simp only[h,h2,h3,eD,Bool.false_and,Bool.and_true,Bool.and_false]at hq;rw[h3];exact hq
 ·simp only[h,h2,eD,Bool.false_and,Bool.and_true,Bool.and_false]at hq;rw[h2];exact hq
 ·simp only[h,eD,Bool.false_and,Bool.and_true,Bool.and_false]at hq;rw[h];exact hq)
theorem hlB:SpOK g (n+2) 66 (spB cvF):=(nB G (gZ G n) rdB).mono (xQ λl μ Q hl hq=>by
 unfold cvF at hq
 rw[dyA]
 have e0:decide ((0:Int)<r1 l)=decide (0<r1 l):=aC 0 _
 have e:((r1 l:Int)+2==(mk l).length)=decide (r1 l+2=l.length):=by
  rw[mk_len,Bool.eq_iff_iff,beq_iff_eq,vA];exact mzB
 rw[e0,e]
 refine gG hl (rC _) (cA (λh=>bA (uB hl) (cA (λh2=>?_) λh2=>?_)) λh=>?_)
 ·have hlt:r1 l+1<l.length:=by have:=bB h2;exact jE ‹_›
  refine bA (by have:=cD (x:=mk l) (p:=r1 l+1) hlt hl;exact this) ?_
  have e3:inS (Txt.item (mk l) ((r1 l:Int)+1)) (Str.ofString "aeiouwxy")=decide (l.getD (r1 l+1) 0∈([97,101,105,111,117,119,120,121]:List Nat)):=xR (p:=r1 l+1) hlt
  rw[e3]
  simp only[h,h2,eD]at hq
  exact hq
 ·simp only[h,h2,eD,Bool.false_and,Bool.and_true,Bool.and_false]at hq;rw[h2];exact hq
 ·simp only[h,eD,Bool.false_and,Bool.and_true,Bool.and_false]at hq;rw[h];exact hq)
end
set_option tactic.hygienic false
theorem St.forget {g:Gr}{c:Cx}{ρ ρ':List (Str×V)}{μ:Mu}{ts:List (V×Value)}{P:List (Addr×Obj)}{s:Shared}(S:St g c ⟨ρ,μ⟩ ts P s)(h:∀x v,ρ'.lookup x=some v->ρ.lookup x=some v):St g c ⟨ρ',μ⟩ ts P s:=
 let⟨b,m,mo,rest,K⟩:=S
 ⟨b,m,mo,rest,K.a1,K.a2,λx v e=>K.a3 x v (h x v e),K.a4,K.a5,K.a6⟩
theorem tG {g:Gr}{c:Cx}{ρ ρ':List (Str×V)}{μ:Mu}{b:List Stmt}{Q:Out×AS->Prop}(h:∀x v,ρ'.lookup x=some v->ρ.lookup x=some v)(e:EB g c b ⟨ρ',μ⟩ Q):EB g c b ⟨ρ,μ⟩ Q:=λE ts P s K S=>e E ts P s K (S.forget h)
noncomputable def yqA:List (Str×V)->List (Str×V)->Prop:=λρ' ρ=>∀x v,ρ'.lookup x=some v->ρ.lookup x=some v
noncomputable def lS2:List (Addr×Spec):=[(94,qT)]
noncomputable def lst:List (Addr×Spec):=[(38,spB bI),(45,spB cI),(52,spB iE),(59,spB svF),(66,spB cvF),(73,qD (eA 10) ["w"] []),(80,qD (eA 11) ["w"] []),(87,qD (eA 12) ["w"] []),
 (101,qD (eA 14) ["w"] lS2),(108,qD (eA 15) ["w"] lS2),(115,qD (eA 16) ["w"] lS2),(122,qD (eA 17) ["w"] []),(129,qD (eA 18) ["w"] [])]
theorem oeB {g:Gr}{ex:Ex}(G:GX g ex)(n:Nat):CTOK g (n+2) lst:=by
 have l2:CTOK g (n+1) lS2:=.cons (vV G n) .nil
 have z:CTOK g n []:=.nil
 refine .cons (kvA G n) (.cons (lvA G n) (.cons (jvA G n) (.cons (ajB G n) (.cons (hlB G n) (.cons ?_ (.cons ?_ (.cons ?_ (.cons ?_ (.cons ?_ (.cons ?_ (.cons ?_ (.cons ?_ .nil))))))))))))
 ·exact(nB G z qdB).le kaA
 ·exact(nB G z pdB).le kaA
 ·exact(nB G z odB).le kaA
 ·exact nB G l2 muA
 ·exact nB G l2 luA
 ·exact nB G l2 kuA
 ·exact(nB G z juA).le kaA
 ·exact(nB G z iuA).le kaA
noncomputable def dSt:Df:=eA 19
noncomputable abbrev sS (i:Nat):Stmt:=lA dSt.2.1 i
noncomputable abbrev aSt:=aiS (xA dSt.2.2 lst) 12
theorem ggB:dSt.2.1=[sS 0,sS 1,sS 2,sS 3,sS 4,sS 5,sS 6,sS 7,sS 8,sS 9,sS 10,sS 11,sS 12,sS 13,sS 14,sS 15,sS 16]:=by kernel_rfl
noncomputable def qB (names:List Str)(σ:AS):AS:=⟨names.filterMap λn=>(σ.ρ.lookup n).map λv=>(n,v),σ.μ⟩
theorem tH (names:List Str)(σ:AS):yqA (qB names σ).ρ σ.ρ:=λx v h=>by
 unfold qB at h
 induction names with
 |nil=>exact no h
 |cons n r ih=>
  rw[List.filterMap_cons]at h
  cases e:σ.ρ.lookup n with
  |none=>rw[e]at h;exact ih h
  |some u=>
   rw[e]at h
   simp only[Option.map_some]at h
   rw[pC]at h
   split at h
   ·rename_i q;subst q;have o1:=inj h;clear h;obtain rfl:=o1;exact e
   ·exact ih h
noncomputable def kp (names:List Str)(t:T (Out×AS)):T (Out×AS):=t.bind λx=>.ret (x.1,qB names x.2)
theorem rmA {g:Gr}{c:Cx}{rest:List Stmt}{Q:V×Mu->Prop}{names:List Str}{t:T (Out×AS)}(h:(kp names t).sat (Seq g c rest (dB Q))):t.sat (Seq g c rest (dB Q)):=by
 refine T.sat_mono (λx hx=>?_) (cB h)
 obtain⟨o,σ⟩:=x
 induction o using Mine.Out.casesOn with
 |next=>exact tG (tH names σ) hx
 |_=>exact hx
noncomputable abbrev kS (i:Nat)(σ:AS):T (Out×AS):=kp ["w","first_is_y"] (aSt (sS i) σ)
noncomputable abbrev kM (i:Nat)(σ:AS):T (Out×AS):=kp ["w","first_is_y","m"] (aSt (sS i) σ)
noncomputable def R (w:Str)(b:Bool)(μ:Mu):AS:=⟨[("w",.str w),("first_is_y",.bool b)],μ⟩
noncomputable def RM (w:Str)(b:Bool)(m:V)(μ:Mu):AS:=⟨[("w",.str w),("first_is_y",.bool b),("m",m)],μ⟩
noncomputable def nx (w:Str)(b:Bool)(μ:Mu):T (Out×AS):=.ret (.next,R w b μ)
noncomputable abbrev yI {α:Type}(w:Str)(t:T α):T α:=.need (decide (w.length<=big)) t
noncomputable abbrev l1k {α:Type}(w:Str)(t:T α):T α:=.need (decide (w.length<=1000)) t
noncomputable abbrev gH (w:Str)(k:Int):Str:=Txt.slice w none (some k)
section
variable (w st suf:Str)(b:Bool)(μ:Mu)
theorem lsA:kp ["w"] (aSt (sS 0) ⟨[("w",.str w)],μ⟩)=yI w (.ite (decide ((w.length:Int)<3)) (.ret (.ret (.str w),⟨[("w",.str w)],μ⟩)) (.ret (.next,⟨[("w",.str w)],μ⟩))):=by kernel_rfl
theorem hsA:kS 1 ⟨[("w",.str w)],μ⟩=.need (cC w 0) (nx w (Txt.item w 0=="y") μ):=by kernel_rfl
theorem gsA:kS 2 (R w b μ)=.ite b (yI w (.need (jD "Y" (Txt.slice w (some 1) none)) (nx ("Y"++Txt.slice w (some 1) none) b μ))) (nx w b μ):=by kernel_rfl
theorem fsA:kS 3 (R w b μ)=.ite (Txt.endswith w "s") (.ite (Txt.endswith w "sses") (yI w (nx (gH w (-2)) b μ)) (.ite (Txt.endswith w "ies") (yI w (nx (gH w (-2)) b μ)) (.need (cC w (-2)) (.ite (Txt.item w (-2) !="s") (yI w (nx (gH w (-1)) b μ)) (nx w b μ))))) (nx w b μ):=by kernel_rfl
noncomputable def tA:T (Out×AS):=.need (jD st "e") (nx (st++"e") b μ)
noncomputable def tC:T (Out×AS):=l1k st (.ite (cvF st.cps.toList) (tA st b μ) (nx st b μ))
noncomputable def tZ (c:Bool):T (Out×AS):=.ite c (yI st (nx (gH st (-1)) b μ)) (tC st b μ)
noncomputable def tB:T (Out×AS):=yI st (.ite ((st.length:Int)==2) (.need (cC st 0) (.need (cC st 1) (.ite (Txt.item st 0==Txt.item st 1) (.need (cC st 0) (tZ st b μ (!inS (Txt.item st 0) "aeiouylsz"))) (tZ st b μ (Txt.item st 0==Txt.item st 1))))) (tZ st b μ ((st.length:Int)==2)))
noncomputable def tY:T (Out×AS):=.ite (st=="at") (.ite (st=="at") (tA st b μ) (tB st b μ)) (.ite (st=="bl") (.ite (st=="bl") (tA st b μ) (tB st b μ)) (.ite (st=="iz") (tA st b μ) (tB st b μ)))
noncomputable def tX:T (Out×AS):=.need true (.ite true (.need true (l1k st (.ite (svF st.cps.toList) (tY st b μ) (nx w b μ)))) (nx w b μ))
theorem esA:kS 4 (R w b μ)=.ite (Txt.endswith w "eed") (yI w (l1k (gH w (-3)) (.ite (bI (gH w (-3)).cps.toList) (yI w (nx (gH w (-1)) b μ)) (nx w b μ))))
  (.ite (Txt.endswith w "ed") (yI w (tX w (gH w (-2)) b μ)) (.ite (Txt.endswith w "ing") (yI w (tX w (gH w (-3)) b μ)) (.ite false .fail (nx w b μ)))):=by kernel_rfl
theorem dsA:kS 5 (R w b μ)=.ite (Txt.endswith w "y") (yI w (l1k (gH w (-1)) (.ite (svF (gH w (-1)).cps.toList) (.need (jD (gH w (-1)) "i") (nx (gH w (-1)++"i") b μ)) (nx w b μ)))) (nx w b μ):=by kernel_rfl
noncomputable def vU:List Str:=["ational","tional","enci","anci","izer","bli","alli","entli","eli","ousli","ization","ation","ator","alism","iveness","fulness","ousness","aliti","iviti","biliti","logi"]
noncomputable def uU:List Str:=["icate","ative","alize","iciti","ical","ful","ness"]
noncomputable def rE:List Str:=["al","ance","ence","er","ic","able","ible","ant","ement","ment","ent","ou","ism","ate","iti","ous","ive","ize"]
noncomputable def lg (w:Str)(es:List Str):Option (List Nat):=yK w.cps.toList (es.map λe=>e.cps.toList) none
noncomputable def lgT (es:List Str):T (Out×AS):=.need (decide (w.length<=1000)&&xK es) (.ite (lg w es).isSome (.ret (.next,RM w b (nJ w (some (mk ((lg w es).getD [])))) μ)) (.ret (.next,RM w b .none μ)))
theorem csA:kM 6 (R w b μ)=lgT w b μ vU:=by kernel_rfl
theorem zrA:kM 8 (R w b μ)=lgT w b μ uU:=by kernel_rfl
theorem ykA:kM 10 (R w b μ)=lgT w b μ rE:=by kernel_rfl
noncomputable abbrev lV (st suf:Str):V:=.tup [.str w,.str st,.str suf]
noncomputable def swT (es:List (Str×Str)):T (Out×AS):=.need true (.ite true (.need true (.need true (l1k st (.ite (bI st.cps.toList) (.need (aJ es suf) (.need (jD st (xE es suf)) (nx (st++xE es suf) b μ))) (nx w b μ))))) (nx w b μ))
theorem asA:kS 7 (RM w b (lV w st suf) μ)=swT w st suf b μ s2L:=by kernel_rfl
theorem bsA:kS 7 (RM w b .none μ)=.ite false .fail (nx w b μ):=by kernel_rfl
theorem xrA:kS 9 (RM w b (lV w st suf) μ)=swT w st suf b μ s3L:=by kernel_rfl
theorem yrA:kS 9 (RM w b .none μ)=.ite false .fail (nx w b μ):=by kernel_rfl
end
section
variable (w st suf:Str)(b:Bool)(μ:Mu)
noncomputable abbrev ion (w:Str):Str:=gH w (-4)++Txt.item w (-4)
noncomputable def tI4:T (Out×AS):=yI w (.need (cC w (-4)) (.need true (.ite true (.need true (.need true (.need (jD (gH w (-4)) (Txt.item w (-4))) (l1k (ion w) (.ite (iE (ion w).cps.toList) (nx (ion w) b μ) (nx w b μ)))))) (nx w b μ))))
noncomputable def tN4:T (Out×AS):=.ite false .fail (nx w b μ)
noncomputable def tE4:T (Out×AS):=yI w (.ite (decide ((4:Int)<w.length)) (.ite (Txt.endswith w "sion") (.ite true (.ite true (tI4 w b μ) (tN4 w b μ)) (.ite false (tI4 w b μ) (tN4 w b μ)))
 (.ite (Txt.endswith w "tion") (.ite true (.ite true (tI4 w b μ) (tN4 w b μ)) (.ite false (tI4 w b μ) (tN4 w b μ))) (.ite false (.ite true (tI4 w b μ) (tN4 w b μ)) (.ite false (tI4 w b μ) (tN4 w b μ))))) (.ite false (tI4 w b μ) (tN4 w b μ)))
theorem vkA:kS 11 (RM w b (lV w st suf) μ)=.need true (.ite true (.need true (l1k st (.ite (iE st.cps.toList) (nx st b μ) (nx w b μ)))) (tE4 w b μ)):=by kernel_rfl
theorem xkA:kS 11 (RM w b .none μ)=.ite false .fail (tE4 w b μ):=by kernel_rfl
noncomputable def tR5:T (Out×AS):=yI w (.ret (.next,RM w b (.tup [.str w,.str (gH w (-1))]) μ))
noncomputable def tN5:T (Out×AS):=.ret (.next,RM w b .none μ)
theorem ukA:kM 12 (R w b μ)=yI w (.ite (decide ((1:Int)<w.length)) (.ite (Txt.endswith w "e") (.ite true (tR5 w b μ) (tN5 w b μ)) (.ite false (tR5 w b μ) (tN5 w b μ))) (.ite false (tR5 w b μ) (tN5 w b μ))):=by kernel_rfl
noncomputable def tT:T (Out×AS):=.ite true (nx st b μ) (nx w b μ)
noncomputable def tF:T (Out×AS):=.ite false (nx st b μ) (nx w b μ)
theorem rkA:kS 13 (RM w b (.tup [.str w,.str st]) μ)=.need true (.ite true (.need true (l1k st (.ite (iE st.cps.toList) (tT w st b μ) (l1k st (.ite (cI st.cps.toList) (l1k st (.ite (!cvF st.cps.toList) (.ite true (tT w st b μ) (tF w st b μ)) (.ite false (tT w st b μ) (tF w st b μ)))) (.ite false (tT w st b μ) (tF w st b μ))))))) (nx w b μ)):=by kernel_rfl
theorem tkA:kS 13 (RM w b .none μ)=.ite false .fail (nx w b μ):=by kernel_rfl
theorem qkA:kS 14 (R w b μ)=.ite (Txt.endswith w "ll") (l1k w (.ite (iE w.cps.toList) (.ite true (yI w (nx (gH w (-1)) b μ)) (nx w b μ)) (.ite false (yI w (nx (gH w (-1)) b μ)) (nx w b μ)))) (.ite false (yI w (nx (gH w (-1)) b μ)) (nx w b μ)):=by kernel_rfl
theorem pkA:kS 15 (R w b μ)=.ite b (yI w (.need (jD "y" (Txt.slice w (some 1) none)) (nx ("y"++Txt.slice w (some 1) none) b μ))) (nx w b μ):=by kernel_rfl
theorem nkA:kS 16 (R w b μ)=.ret (.ret (.str w),R w b μ):=by kernel_rfl
end
noncomputable def cp (s:String):List Nat:=(Str.ofString s).cps.toList
noncomputable def cut (l:List Nat)(k:Nat):List Nat:=l.take (l.length-k)
noncomputable abbrev sx (s:String)(l:List Nat):Bool:=(cp s).isSuffixOf l
noncomputable def wA (l:List Nat):List Nat:=if sx "s" l then(if sx "sses" l then cut l 2 else if sx "ies" l then cut l 2 else if[l.getD (l.length-1-1) 0] !=cp "s" then cut l 1 else l)else l
noncomputable def mK (st:List Nat):List Nat:=
 if st==cp "at"||st==cp "bl"||st==cp "iz" then st++cp "e"
 else if decide (st.length=2)&&st.getD 0 0==st.getD 1 0&&!decide (st.getD 0 0∈cp "aeiouylsz")then cut st 1
 else if cvF st then st++cp "e" else st
noncomputable def wB (l:List Nat):List Nat:=if sx "eed" l then(if bI (cut l 3)then cut l 1 else l)else if sx "ed" l then(if svF (cut l 2)then mK (cut l 2)else l)else if sx "ing" l then(if svF (cut l 3)then mK (cut l 3)else l)else l
noncomputable def wC (l:List Nat):List Nat:=if sx "y" l then(if svF (cut l 1)then cut l 1++cp "i" else l)else l
noncomputable def wSw (ends:List Str)(es:List (Str×Str))(l:List Nat):List Nat:=if(lg (mk l) ends).isSome then(let e:=(lg (mk l) ends).getD [];if bI (cut l e.length)then cut l e.length++(xE es (mk e)).cps.toList else l)else l
noncomputable def iP (l:List Nat):List Nat:=cut l 4++[l.getD (l.length-1-3) 0]
noncomputable def wD (l:List Nat):List Nat:=if(lg (mk l) rE).isSome then(let e:=(lg (mk l) rE).getD [];if iE (cut l e.length)then cut l e.length else l)
 else if decide (4<l.length)&&(sx "sion" l||sx "tion" l)then(if iE (iP l)then iP l else l)else l
noncomputable def wE (l:List Nat):List Nat:=if decide (1<l.length)&&sx "e" l then(if iE (cut l 1)||(cI (cut l 1)&&!cvF (cut l 1))then cut l 1 else l)else l
noncomputable def wF (l:List Nat):List Nat:=if sx "ll" l&&iE l then cut l 1 else l
noncomputable def jN (c:String)(b:Bool)(l:List Nat):List Nat:=if b then cp c++l.drop 1 else l
noncomputable def qjA (b:Bool)(l:List Nat):List Nat:=jN "y" b (wF (wE (wD (wSw uU s3L (wSw vU s2L (wC (wB (wA (jN "Y" b l)))))))))
noncomputable def eG (l:List Nat):List Nat:=if l.length<3 then l else qjA ([l.getD 0 0]==cp "y") l
theorem yA (l:List Nat)(k:Nat):(cut l k).length<=l.length:=by unfold cut;rw[gF];exact lzB
theorem tW (l:List Nat)(k:Nat)(hk:0<k):gH (mk l) (-(k:Int))=mk (cut l k):=by
 show Txt.slice (mk l) none (some (-(k:Int)))=_
 refine qDzq (fG ..) ?_
 have e:jC l.length l.length (some (-(k:Int)))=l.length-k:=by
  unfold jC
  simp only
  rw[if_pos (fhB hk)]
  exact ehB hk
 rw[e]
 rfl
theorem eiA (l:List Nat):gH (mk l) (-1)=mk (cut l 1):=tW l 1 (by decide)
theorem jlB (l:List Nat):gH (mk l) (-2)=mk (cut l 2):=tW l 2 (by decide)
theorem oxB (l:List Nat):gH (mk l) (-3)=mk (cut l 3):=tW l 3 (by decide)
theorem ilB (l:List Nat):gH (mk l) (-4)=mk (cut l 4):=tW l 4 (by decide)
theorem pzA (l:List Nat):Txt.slice (mk l) (some 1) none=mk (l.drop 1):=by
 refine qDzq (fG ..) ?_
 show mk ((l.take l.length).drop (jC l.length 0 (some 1)))=_
 rw[List.take_length]
 have e:jC l.length 0 (some 1)=min 1 l.length:=by
  unfold jC
  simp only
  rw[if_neg (by decide)]
  exact kzB
 rw[e]
 induction l using List.casesOn with
 |nil=>rfl
 |cons a r=>simp only[List.length_cons,show min 1 (r.length+1)=1 by rfl]
theorem iH (s:String)(l:List Nat):Txt.endswith (mk l) (Str.ofString s)=sx s l:=sW l (cp s)
theorem kpA (s:String)(l:List Nat):mk l++Str.ofString s=mk (l++cp s):=qF l (cp s)
theorem hfA (s:String)(l:List Nat):Str.ofString s++mk l=mk (cp s++l):=qF (cp s) l
theorem eq_eq (s:String)(l:List Nat):(mk l==Str.ofString s)=(l==cp s):=iG l (cp s)
theorem uE {x y:Str}(h1:x.length<=1000)(h2:y.length<=1000):jD x y=true:=by
 unfold jD big;refine(vA ..).mpr ?_;exact jzB h1 h2
theorem len_T {α:Type}{l:List Nat}{t:T α}{Q:α->Prop}(h:l.length<=1000)(q:t.sat Q):(yI (mk l) t).sat Q:=bA (uB h) q
theorem uR {α:Type}{l:List Nat}{t:T α}{Q:α->Prop}(h:l.length<=1000)(q:t.sat Q):(l1k (mk l) t).sat Q:=bA (by refine(vA ..).mpr ?_;exact h) q
theorem gE {α:Type}{c:Bool}{a e:α}{p:α->Prop}(h:p (if c then a else e)):(c=true->p a)/\(c=false->p e):=by
 cases c
 ·exact⟨λq=>(nof q),λø=>h⟩
 ·exact⟨λø=>h,λq=>(by injection q)⟩
section
variable {Q:Out×AS->Prop}{l:List Nat}{b:Bool}{μ:Mu}
noncomputable abbrev Nx (Q:Out×AS->Prop)(b:Bool)(μ:Mu)(l:List Nat):Prop:=Q (.next,R (mk l) b μ)
theorem edB (hl:l.length<=900)(h:Nx Q b μ (jN "Y" b l)):(kS 2 (R (mk l) b μ)).sat Q:=by
 unfold jN at h
 have h:=gE (p:=Nx Q b μ) h
 rw[gsA,pzA,hfA]
 exact cA (λq=>len_T (dA ‹_› (by decide)) (bA (uE (by decide) (by simp only[mk_len,List.length_drop];exact wlB hl)) (h.1 q))) λq=>h.2 q
theorem isA (hl:l.length<=900)(h:Nx Q b μ (jN "y" b l)):(kS 15 (R (mk l) b μ)).sat Q:=by
 unfold jN at h
 have h:=gE (p:=Nx Q b μ) h
 rw[pkA,pzA,hfA]
 exact cA (λq=>len_T (dA ‹_› (by decide)) (bA (uE (by decide) (by simp only[mk_len,List.length_drop];exact wlB hl)) (h.1 q))) λq=>h.2 q
theorem pkB (h:2<=l.length):Txt.item (mk l) (-2)=mk [l.getD (l.length-1-1) 0]:=mJ (i:=1) ‹_›
theorem bK {x:Str}{k:Nat}(h1:0<k)(h:k<=x.length)(hl:x.length<=1000):cC x (-(k:Int))=true:=by
 unfold cC
 refine kK (kK (kK pA pA) pA) pA ?_
 exact izB h1 h hl
theorem cdB (hl:l.length<=900)(h2:2<=l.length)(h:Nx Q b μ (wA l)):(kS 3 (R (mk l) b μ)).sat Q:=by
 unfold wA at h
 have h:=gE (p:=Nx Q b μ) h
 simp only[fsA,eiA,jlB,pkB h2,iH,iH,iH]
 have e:(mk [l.getD (l.length-1-1) 0] !=Str.ofString "s")=([l.getD (l.length-1-1) 0] !=cp "s"):=congrArg (!·) (eq_eq "s" _)
 rw[e]
 refine cA (λq=>?_) λq=>h.2 q
 have h:=gE (p:=Nx Q b μ) (h.1 q)
 refine cA (λq=>len_T (dA ‹_› (by decide)) (h.1 q)) λq=>?_
 have h:=gE (p:=Nx Q b μ) (h.2 q)
 refine cA (λq=>len_T (dA ‹_› (by decide)) (h.1 q)) λq=>?_
 have h:=gE (p:=Nx Q b μ) (h.2 q)
 exact bA (bK (k:=2) (by decide) h2 (by simp only[mk_len];exact dA ‹_› (by decide))) (cA (λq=>len_T (dA ‹_› (by decide)) (h.1 q)) λq=>h.2 q)
theorem adB (hl:l.length<=900)(h:Nx Q b μ (wC l)):(kS 5 (R (mk l) b μ)).sat Q:=by
 unfold wC at h
 have h:=gE (p:=Nx Q b μ) h
 have hc:=yA l 1
 rw[dsA,eiA,iH,kpA]
 refine cA (λq=>?_) λq=>h.2 q
 have h:=gE (p:=Nx Q b μ) (h.1 q)
 exact len_T (dA ‹_› (by decide)) (uR (jM hl hc) (cA (λq=>bA (uE (by simp only[mk_len];exact jM hl hc) (by decide)) (h.1 q)) λq=>h.2 q))
end
section
variable {Q:Out×AS->Prop}{l st:List Nat}{b:Bool}{μ:Mu}
theorem oV (hl:st.length<=900)(h:Nx Q b μ (st++cp "e")):(tA (mk st) b μ).sat Q:=by
 unfold tA
 rw[kpA]
 exact bA (uE (by simp only[mk_len];exact dA ‹_› (by decide)) (by decide)) h
theorem gcB (hl:st.length<=900)(h:Nx Q b μ (if cvF st then st++cp "e" else st)):(tC (mk st) b μ).sat Q:=by
 have h:=gE (p:=Nx Q b μ) h
 exact uR (dA ‹_› (by decide)) (cA (λq=>oV hl (h.1 q)) λq=>h.2 q)
theorem xaA {c:Bool}(hl:st.length<=900)(h:Nx Q b μ (if c then cut st 1 else if cvF st then st++cp "e" else st)):(tZ (mk st) b μ c).sat Q:=by
 have h:=gE (p:=Nx Q b μ) h
 unfold tZ
 rw[eiA]
 exact cA (λq=>len_T (dA ‹_› (by decide)) (h.1 q)) λq=>gcB hl (h.2 q)
theorem izA (h:0<st.length):Txt.item (mk st) 0=mk [st.getD 0 0]:=xF (i:=0) h
theorem qkB (h:1<st.length):Txt.item (mk st) 1=mk [st.getD 1 0]:=xF (i:=1) h
theorem hcB (hl:st.length<=900)(h:Nx Q b μ (if decide (st.length=2)&&st.getD 0 0==st.getD 1 0&&!decide (st.getD 0 0∈cp "aeiouylsz")then cut st 1 else if cvF st then st++cp "e" else st)):(tB (mk st) b μ).sat Q:=by
 unfold tB
 have e:(((mk st).length:Int)==2)=decide (st.length=2):=by
  rw[mk_len,Bool.eq_iff_iff,beq_iff_eq,vA];exact hzB
 rw[e]
 refine len_T (dA ‹_› (by decide)) (cA (λq=>?_) λq=>xaA hl (by rw[q]at h ⊢;exact h))
 have h2:=bB q
 rw[izA (by lia),qkB (by lia)]
 have e2:(mk [st.getD 0 0]==mk [st.getD 1 0])=(st.getD 0 0==st.getD 1 0):=by
  rw[iG,Bool.eq_iff_iff,beq_iff_eq,beq_iff_eq]
  constructor
  ·intro z;exact(List.cons.inj z).1
  ·intro z;rw[z]
 have e3:inS (mk [st.getD 0 0]) (Str.ofString "aeiouylsz")=decide (st.getD 0 0∈cp "aeiouylsz"):=xP _ (cp "aeiouylsz")
 rw[e2,e3]
 rw[q,eD]at h
 refine bA (cD (p:=0) (by simp only[mk_len];lia) (by rw[mk_len];exact dA ‹_› (by decide))) (bA (cD (p:=1) (by simp only[mk_len];lia) (by rw[mk_len];exact dA ‹_› (by decide))) (cA (λq=>bA (cD (p:=0) (by simp only[mk_len];lia) (by simp only[mk_len];exact dA ‹_› (by decide))) ?_) λq=>?_))
 ·rw[q,eD]at h;exact xaA hl h
 ·rw[q,Bool.false_and]at h;rw[q];exact xaA hl h
theorem ecB (hl:st.length<=900)(h:Nx Q b μ (mK st)):(tY (mk st) b μ).sat Q:=by
 unfold mK at h
 unfold tY
 rw[eq_eq,eq_eq,eq_eq]
 refine cA (λq=>?_) λq=>?_
 ·rw[q]at h ⊢
  exact cA (λø=>oV hl h) λz=>by injection z
 ·rw[q,Bool.false_or]at h
  refine cA (λq=>?_) λq=>?_
  ·rw[q]at h ⊢
   exact cA (λø=>oV hl h) λz=>by injection z
  ·rw[q,Bool.false_or]at h
   refine cA (λq=>?_) λq=>?_
   ·rw[q]at h;exact oV hl h
   ·rw[q]at h;exact hcB hl h
theorem ljA (hl:st.length<=900)(h:Nx Q b μ (if svF st then mK st else l)):(tX (mk l) (mk st) b μ).sat Q:=by
 have h:=gE (p:=Nx Q b μ) h
 exact bA rfl (cA (λø=>bA rfl (uR (dA ‹_› (by decide)) (cA (λq=>ecB hl (h.1 q)) λq=>h.2 q))) λz=>by injection z)
theorem bdB (hl:l.length<=900)(h:Nx Q b μ (wB l)):(kS 4 (R (mk l) b μ)).sat Q:=by
 unfold wB at h
 have h:=gE (p:=Nx Q b μ) h
 have h2:=yA l 2
 have h3:=yA l 3
 simp only[esA,eiA,jlB,oxB,iH,iH,iH]
 refine cA (λq=>?_) λq=>?_
 ·have h:=gE (p:=Nx Q b μ) (h.1 q)
  exact len_T (dA ‹_› (by decide)) (uR (jM hl h3) (cA (λq=>len_T (dA ‹_› (by decide)) (h.1 q)) λq=>h.2 q))
 ·have h:=gE (p:=Nx Q b μ) (h.2 q)
  refine cA (λq=>len_T (dA ‹_› (by decide)) (ljA (dA ‹_› ‹_›) (h.1 q))) λq=>?_
  have h:=gE (p:=Nx Q b μ) (h.2 q)
  exact cA (λq=>len_T (dA ‹_› (by decide)) (ljA (dA ‹_› ‹_›) (h.1 q))) λq=>cA (λz=>by exact nof z) λø=>h.2 q
theorem jsA (hl:l.length<=900)(h:Nx Q b μ (wF l)):(kS 14 (R (mk l) b μ)).sat Q:=by
 unfold wF at h
 rw[qkA,eiA,iH]
 refine cA (λq=>uR (dA ‹_› (by decide)) (cA (λq2=>cA (λø=>len_T (dA ‹_› (by decide)) ?_) λz=>by injection z) λq2=>cA (λz=>by injection z) λø=>?_)) λq=>cA (λz=>by injection z) λø=>?_
 ·rw[q,show iE l=true from q2]at h;exact h
 ·rw[q,show iE l=false from q2]at h;exact h
 ·rw[q]at h;exact h
theorem kmA (w:List Nat):∀(es:List (List Nat)) (f:Option (List Nat)) (e:List Nat),yK w es f=some e->(e∈es/\e.isSuffixOf w=true/\e.length<w.length)\/f=some e:=by
 intro l0
 induction l0 with
 |nil=>
  intro f e h
  exact .inr h
 |cons x r ih=>
  intro f e h
  rcases ih _ e h with⟨h1,h2⟩|h1
  ·exact .inl (eB (.tail _ h1) h2)
  ·split at h1
   ·rename_i hb
    have o1:=inj h1;clear h1;obtain rfl:=o1
    unfold better at hb
    simp only[oA,vA]at hb
    exact .inl (cF (.head _) hb.1.2 hb.1.1)
   ·exact .inr h1
theorem fW {l e:List Nat}{es:List Str}(h:lg (mk l) es=some e):(∃x∈es,x=mk e)/\e.length<l.length:=by
 rcases kmA _ _ _ _ h with⟨h1,ø,h2⟩|h1
 ·refine iA (List.mem_map.mp h1) λx hx o1=>?_;obtain rfl:=o1
  exact⟨jA x hx rfl,h2⟩
 ·exact no h1
theorem bgB (l e:List Nat)(h:e.length<=l.length):nJ (mk l) (some (mk e))=lV (mk l) (mk (cut l e.length)) (mk e):=by
 show V.tup [.str (mk l),.str (Txt.slice (mk l) none (some (((mk l).length:Int)-(mk e).length))),.str (mk e)]=_
 have:Txt.slice (mk l) none (some (((mk l).length:Int)-(mk e).length))=mk (cut l e.length):=by
  refine qDzq (fG ..) ?_
  have q:jC l.length l.length (some ((l.length:Int)-e.length))=l.length-e.length:=by
   unfold jC
   simp only
   rw[if_neg (gzB h)]
   exact fzB h
  show mk ((l.take (jC l.length l.length (some ((l.length:Int)-e.length)))).drop 0)=_
  rw[q]
  rfl
 rw[this]
theorem gW {es:List Str}(hes:xK es=true)(hl:l.length<=900)(h1:∀e,lg (mk l) es=some e->Q (.next,RM (mk l) b (lV (mk l) (mk (cut l e.length)) (mk e)) μ))(h2:lg (mk l) es=none->Q (.next,RM (mk l) b .none μ)):(lgT (mk l) b μ es).sat Q:=by
 refine bA (by rw[hes,Bool.and_true,vA,mk_len];exact dA ‹_› (by decide)) (cA (λq=>?_) λq=>?_)
 ·refine iB (Option.isSome_iff_exists.mp q) λe he=>?_
  rw[he]
  show Q (.next,RM (mk l) b (nJ (mk l) (some (mk e))) μ)
  rw[bgB _ _ (iC (fW he).2)]
  exact h1 e he
 ·exact h2 (Option.isNone_iff_eq_none.mp (by rw[<-Option.not_isSome,q];rfl))
noncomputable def jW (ends:List Str)(es:List (Str×Str)):Bool:=ends.all λx=>aJ es x&&decide ((xE es x).length<=10)
theorem qdA {ends:List Str}{es:List (Str×Str)}{e:List Nat}(hk:jW ends es=true)(hl:l.length<=900)(he:lg (mk l) ends=some e)(h:Nx Q b μ (wSw ends es l)):(swT (mk l) (mk (cut l e.length)) (mk e) b μ es).sat Q:=by
 unfold wSw at h
 rw[he]at h
 have h:=(gE (p:=Nx Q b μ) h).1 rfl
 have h:=gE (p:=Nx Q b μ) h
 refine gA (fW he) λo1 hlt=>?_;refine iA o1 λx hx o3=>?_;obtain rfl:=o3
 have hk:=fC hk _ hx
 replace hk:=bmp id bB hk
 have hc:=yA l e.length
 refine bA rfl (cA (λø=>bA rfl (bA rfl (uR (jM hl hc) (cA (λq=>bA hk.1 (bA (uE (by simp only[mk_len];exact jM hl hc) (by lia)) (by rw[show mk (cut l e.length)++xE es (mk e)=mk (cut l e.length++(xE es (mk e)).cps.toList)from qF _ _];exact h.1 q))) λq=>h.2 q)))) λz=>by injection z)
end
section
variable {Q:Out×AS->Prop}{l st:List Nat}{b:Bool}{μ:Mu}
theorem hzA (h:4<=l.length):Txt.item (mk l) (-4)=mk [l.getD (l.length-1-3) 0]:=mJ (i:=3) ‹_›
theorem pfB (h:4<=l.length):ion (mk l)=mk (iP l):=by
 show gH (mk l) (-4)++Txt.item (mk l) (-4)=_
 simp only[ilB,hzA h,qF]
 rfl
theorem mZ (h:4<=l.length):(iP l).length<=l.length:=by
 unfold iP cut
 simp only[vC,gF]
 exact ezB h
theorem odA (h4:4<=l.length)(hl:l.length<=900)(h:Nx Q b μ (if iE (iP l)then iP l else l)):(tI4 (mk l) b μ).sat Q:=by
 have h:=gE (p:=Nx Q b μ) h
 have hc:=yA l 4
 have hi:=mZ h4
 unfold tI4
 rw[pfB h4]
 refine len_T (dA ‹_› (by decide)) (bA (bK (k:=4) (by decide) h4 (by simp only[mk_len];exact dA ‹_› (by decide))) (bA rfl (cA (λø=>bA rfl (bA rfl (bA ?_ (uR (jM hl hi) (cA (λq=>h.1 q) λq=>h.2 q))))) λz=>by injection z)))
 simp only[ilB,hzA h4]
 exact uE (by simp only[mk_len];exact jM hl hc) (by simp only[mk_len];exact Nat.succ_pos _)
theorem ndA (h:Nx Q b μ l):(tN4 (mk l) b μ).sat Q:=cA (λz=>by exact nof z) λø=>h
theorem uqA (hl:l.length<=900)(h:Nx Q b μ (if decide (4<l.length)&&(sx "sion" l||sx "tion" l)then(if iE (iP l)then iP l else l)else l)):(tE4 (mk l) b μ).sat Q:=by
 unfold tE4
 have e:decide ((4:Int)<(mk l).length)=decide (4<l.length):=aC 4 _
 rw[iH,iH,e]
 refine len_T (dA ‹_› (by decide)) (cA (λq=>?_) λq=>cA (λz=>by exact nof z) λ_=>?_)
 ·have h4:=bB q
  rw[q,eD]at h
  refine cA (λq=>?_) λq=>?_
  ·rw[q,Bool.true_or]at h
   exact cA (λ_=>cA (λ_=>odA (iC ‹_›) hl h) λz=>by cases z) λz=>by cases z
  ·rw[q,Bool.false_or]at h
   refine cA (λq=>?_) λq=>?_
   ·rw[q]at h
    exact cA (λ_=>cA (λ_=>odA (iC ‹_›) hl h) λz=>by cases z) λz=>by injection z
   ·rw[q]at h
    exact cA (λz=>by exact nof z) λ_=>cA (λz=>by exact nof z) λ_=>ndA h
 ·rw[q,Bool.false_and]at h
  exact ndA h
theorem wkA {e:List Nat}(hl:l.length<=900)(he:lg (mk l) rE=some e)(h:Nx Q b μ (wD l)):(kS 11 (RM (mk l) b (lV (mk l) (mk (cut l e.length)) (mk e)) μ)).sat Q:=by
 unfold wD at h
 rw[he]at h
 have h:=(gE (p:=Nx Q b μ) h).1 rfl
 have h:=gE (p:=Nx Q b μ) h
 have hc:=yA l e.length
 rw[vkA]
 exact bA rfl (cA (λø=>bA rfl (uR (jM hl hc) (cA (λq=>h.1 q) λq=>h.2 q))) λz=>by injection z)
theorem gdB (hl:l.length<=900)(he:lg (mk l) rE=none)(h:Nx Q b μ (wD l)):(kS 11 (RM (mk l) b .none μ)).sat Q:=by
 unfold wD at h
 rw[he]at h
 have h:=(gE (p:=Nx Q b μ) h).2 rfl
 rw[xkA]
 exact cA (λz=>by exact nof z) λø=>uqA hl h
theorem ksA (hl:l.length<=900)(h1:(decide (1<l.length)&&sx "e" l)=true->Q (.next,RM (mk l) b (.tup [.str (mk l),.str (mk (cut l 1))]) μ))(h2:(decide (1<l.length)&&sx "e" l)=false->Q (.next,RM (mk l) b .none μ)):(kM 12 (R (mk l) b μ)).sat Q:=by
 have e:decide ((1:Int)<(mk l).length)=decide (1<l.length):=aC 1 _
 simp only[ukA,iH,e]
 have hR:(decide (1<l.length)&&sx "e" l)=true->(tR5 (mk l) b μ).sat Q:=λq=>by
  unfold tR5
  rw[eiA]
  exact len_T (dA ‹_› (by decide)) (h1 q)
 refine len_T (dA ‹_› (by decide)) (cA (λq=>cA (λq2=>cA (λø=>hR (by rw[q,q2];rfl)) λz=>by injection z) λq2=>cA (λz=>by injection z) λø=>h2 (by rw[q,q2];rfl)) λq=>cA (λz=>by injection z) λø=>h2 (by rw[q];rfl))
theorem skA (hl:l.length<=900)(he:(decide (1<l.length)&&sx "e" l)=true)(h:Nx Q b μ (wE l)):(kS 13 (RM (mk l) b (.tup [.str (mk l),.str (mk (cut l 1))]) μ)).sat Q:=by
 unfold wE at h
 rw[he]at h
 have h:Nx Q b μ (if iE (cut l 1)||(cI (cut l 1)&&!cvF (cut l 1))then cut l 1 else l):=h
 have hc:=yA l 1
 rw[rkA]
 refine bA rfl (cA (λø=>bA rfl (uR (jM hl hc) (cA (λq=>cA (λø=>?_) λz=>by injection z) λq=>uR (jM hl hc) (cA (λq2=>uR (jM hl hc) (cA (λq3=>cA (λø=>cA (λø=>?_) λz=>by injection z) λz=>by injection z) λq3=>cA (λz=>by injection z) λø=>cA (λz=>by injection z) λø=>?_)) λq2=>cA (λz=>by injection z) λø=>cA (λz=>by injection z) λø=>?_)))) λz=>by injection z)
 ·rw[show iE (cut l 1)=true from q]at h;exact h
 ·rw[show iE (cut l 1)=false from q,show cI (cut l 1)=true from q2,show(!cvF (cut l 1))=true from q3]at h;exact h
 ·rw[show iE (cut l 1)=false from q,show cI (cut l 1)=true from q2,show(!cvF (cut l 1))=false from q3]at h;exact h
 ·rw[show iE (cut l 1)=false from q,show cI (cut l 1)=false from q2]at h;exact h
theorem fdB (he:(decide (1<l.length)&&sx "e" l)=false)(h:Nx Q b μ (wE l)):(kS 13 (RM (mk l) b .none μ)).sat Q:=by
 unfold wE at h
 rw[he]at h
 rw[tkA]
 exact cA (λz=>by exact nof z) λø=>h
end
theorem roA (s:String)(hs:(cp s).length<=1)(b:Bool)(l:List Nat):(jN s b l).length<=l.length+1:=by
 unfold jN;split
 ·simp only[vC,List.length_drop];exact dzB hs
 ·exact Nat.le_add_right _ _
theorem pbB (l:List Nat):(wA l).length<=l.length:=by
 unfold wA
 have h1:=yA l 1
 have h2:=yA l 2
 repeat' split
 all_goals omega
theorem jT (l:List Nat):(mK l).length<=l.length+1:=by
 unfold mK
 have h1:=yA l 1
 have h2:(cp "e").length=1:=by decide
 repeat' split
 all_goals (try simp only[vC])
 all_goals (first|exact Nat.le_succ_of_le ‹_›|lia)
theorem obB (l:List Nat):(wB l).length<=l.length+1:=by
 unfold wB
 have h1:=yA l 1
 have h2:=yA l 2
 have h3:=yA l 3
 have h4:=jT (cut l 2)
 have h5:=jT (cut l 3)
 repeat' split
 all_goals (first|exact Nat.le_succ_of_le ‹_›|exact aqh ‹_› ‹_›|lia)
theorem mbB (l:List Nat):(wC l).length<=l.length+1:=by
 unfold wC
 have h1:=yA l 1
 have h2:(cp "i").length=1:=by decide
 repeat' split
 all_goals (try simp only[vC])
 all_goals (first|exact Nat.add_le_add_right ‹_› _|lia)
theorem gzA:jW vU s2L=true:=by kernel_rfl
theorem fzA:jW uU s3L=true:=by kernel_rfl
theorem cdA {ends:List Str}{es:List (Str×Str)}(hk:jW ends es=true)(l:List Nat):(wSw ends es l).length<=l.length+10:=by
 unfold wSw
 split
 ·rename_i q
  refine iB (Option.isSome_iff_exists.mp q) λe he=>?_
  rw[he]
  refine gA (fW he) λo1 hlt=>?_;refine iA o1 λx hx o3=>?_;obtain rfl:=o3
  have hk:=fC hk _ hx
  replace hk:=bmp id bB hk
  have hc:=yA l e.length
  show(if bI (cut l e.length)then _ else l).length<=_
  split
  ·simp only[vC]
   have:(xE es (mk e)).cps.toList.length<=10:=hk.2
   exact czB hc this
  ·exact Nat.le_add_right _ _
 ·exact Nat.le_add_right _ _
theorem kbB (l:List Nat):(wD l).length<=l.length:=by
 unfold wD
 split
 ·have h:=yA l ((lg (mk l) rE).getD []).length
  show(if iE (cut l ((lg (mk l) rE).getD []).length)then _ else l).length<=_
  split<;>lia
 ·split
  ·rename_i q
   replace q:=bmp bB id q
   have:=mZ (l:=l) (by lia)
   split<;>omega
  ·exact vD _
theorem ibB (l:List Nat):(wE l).length<=l.length:=by
 unfold wE
 have h1:=yA l 1
 repeat' split
 all_goals omega
theorem fbB (l:List Nat):(wF l).length<=l.length:=by
 unfold wF
 have h1:=yA l 1
 repeat' split
 all_goals omega
noncomputable def sjA:Spec:=λvs μ=>aS vs λx vs=>a0 vs (.need (decide (x.length<=300)) (.ret (.str (mk (eG x.cps.toList)),μ)))
theorem seg {g:Gr}{c:Cx}(O:mB g (xA dSt.2.2 lst) c)(X:fI g)(i:Nat)(names:List Str){rest:List Stmt}{σ:AS}{Q:V×Mu->Prop}(z:(kp names (aSt (sS i) σ)).sat (Seq g c rest (dB Q))):EB g c (sS i::rest) σ (dB Q):=rA (cJ O X 12 _ _ _ (rmA z))
theorem zfA {g:Gr}{ex:Ex}(G:GX g ex)(n:Nat):SpOK g (n+3) 136 sjA:=λvs μ Q hq=>by
 obtain⟨x,wz1,ez1,hz1⟩:=lG hq;clear hq
 obtain⟨ez2,hz⟩:=tD hz1;clear hz1
 subst ez2 ez1
 have hq:=hz;clear hz
 obtain⟨hn,hq⟩:=uD hq
 have hn:=bB hn
 rw[<-bC x]at*
 generalize x.cps.toList=l at*
 simp only[mk_list,mk_len]at hn hq
 have hq:Q (.str (mk (eG l)),μ):=hq
 refine mD G.hK huA rfl λc hc hs=>?_
 have O:mB g (xA dSt.2.2 lst) c:=cG G (oeB G n) hc hs
 have X:=nD G
 show EB g c dSt.2.1 ⟨[("w",.str (mk l))],μ⟩ (dB Q)
 rw[ggB]
 refine seg O X 0 ["w"] ?_
 show(kp ["w"] (aSt (sS 0) ⟨[("w",.str (mk l))],μ⟩)).sat _
 rw[lsA]
 have e3:decide (((mk l).length:Int)<3)=decide (l.length<3):=aC _ 3
 rw[e3]
 refine len_T (dA ‹_› (by decide)) (cA (λq=>?_) λq=>?_)
 ·have q:=bB q
  show Q (.str (mk l),μ)
  unfold eG at hq
  rw[if_pos q]at hq
  exact hq
 have q:=pF q
 unfold eG at hq
 rw[if_neg q]at hq
 have l1:=roA "Y" (by decide) ([l.getD 0 0]==cp "y") l
 refine seg O X 1 ["w","first_is_y"] ?_
 show(kS 1 ⟨[("w",.str (mk l))],μ⟩).sat _
 rw[hsA]
 refine bA (cD (p:=0) (by rw[mk_len];lia) (by rw[mk_len];exact dA ‹_› (by decide))) ?_
 rw[izA (by lia),show(mk [l.getD 0 0]==Str.ofString "y")=([l.getD 0 0]==cp "y")from eq_eq "y" _]
 generalize ([l.getD 0 0]==cp "y")=b at*
 unfold qjA at hq
 have hcap:2<=(jN "Y" b l).length:=by
  unfold jN
  split
  ·rw[vC,List.length_drop];lia
  ·lia
 refine seg O X 2 ["w","first_is_y"] (edB (dA ‹_› (by decide)) ?_)
 generalize jN "Y" b l=w1 at*
 have l2:=pbB w1
 refine seg O X 3 ["w","first_is_y"] (cdB (bzB hn l1) hcap ?_)
 generalize wA w1=w2 at*
 have l3:=obB w2
 refine seg O X 4 ["w","first_is_y"] (bdB (azB hn l1 l2) ?_)
 generalize wB w2=w3 at*
 have l4:=mbB w3
 refine seg O X 5 ["w","first_is_y"] (adB (zyB hn l1 l2 l3) ?_)
 generalize wC w3=w4 at*
 have l5:=cdA gzA w4
 have go2:EB g c [sS 8,sS 9,sS 10,sS 11,sS 12,sS 13,sS 14,sS 15,sS 16] (R (mk (wSw vU s2L w4)) b μ) (dB Q):=by
  generalize wSw vU s2L w4=w5 at*
  have l6:=cdA fzA w5
  have go3:EB g c [sS 10,sS 11,sS 12,sS 13,sS 14,sS 15,sS 16] (R (mk (wSw uU s3L w5)) b μ) (dB Q):=by
   generalize wSw uU s3L w5=w6 at*
   have l7:=kbB w6
   have go4:EB g c [sS 12,sS 13,sS 14,sS 15,sS 16] (R (mk (wD w6)) b μ) (dB Q):=by
    generalize wD w6=w7 at*
    have l8:=ibB w7
    have go5:EB g c [sS 14,sS 15,sS 16] (R (mk (wE w7)) b μ) (dB Q):=by
     generalize wE w7=w8 at*
     have l9:=fbB w8
     refine seg O X 14 ["w","first_is_y"] (jsA (yyB hn l1 l2 l3 l4 l5 l6 l7 l8) ?_)
     generalize wF w8=w9 at*
     refine seg O X 15 ["w","first_is_y"] (isA (xyB hn l1 l2 l3 l4 l5 l6 l7 l8 l9) ?_)
     refine seg O X 16 ["w","first_is_y"] ?_
     show(kS 16 (R (mk (jN "y" b w9)) b μ)).sat _
     rw[nkA]
     exact hq
    refine seg O X 12 ["w","first_is_y","m"] (ksA (vlB hn l1 l2 l3 l4 l5 l6 l7) (λh=>?_) λh=>?_)
    ·exact seg O X 13 ["w","first_is_y"] (skA (l:=w7) (Q:=Seq g c [sS 14,sS 15,sS 16] (dB Q)) (vlB hn l1 l2 l3 l4 l5 l6 l7) h go5)
    ·have z:(kS 13 (RM (mk w7) b .none μ)).sat (Seq g c [sS 14,sS 15,sS 16] (dB Q)):=fdB (l:=w7) h go5
     exact seg O X 13 ["w","first_is_y"] z
   refine seg O X 10 ["w","first_is_y","m"] ?_
   show(kM 10 (R (mk w6) b μ)).sat _
   rw[ykA]
   refine gW (by kernel_rfl) (dhB hn l1 l2 l3 l4 l5 l6) (λe h=>?_) λh=>?_
   ·have z:(kS 11 (RM (mk w6) b (lV (mk w6) (mk (cut w6 e.length)) (mk e)) μ)).sat (Seq g c [sS 12,sS 13,sS 14,sS 15,sS 16] (dB Q)):=wkA (l:=w6) (dhB hn l1 l2 l3 l4 l5 l6) h go4
    exact seg O X 11 ["w","first_is_y"] z
   ·have z:(kS 11 (RM (mk w6) b .none μ)).sat (Seq g c [sS 12,sS 13,sS 14,sS 15,sS 16] (dB Q)):=gdB (l:=w6) (dhB hn l1 l2 l3 l4 l5 l6) h go4
    exact seg O X 11 ["w","first_is_y"] z
  refine seg O X 8 ["w","first_is_y","m"] ?_
  show(kM 8 (R (mk w5) b μ)).sat _
  rw[zrA]
  refine gW (by kernel_rfl) (ulB hn l1 l2 l3 l4 l5) (λe h=>?_) λh=>?_
  ·refine seg O X 9 ["w","first_is_y"] ?_
   show(kS 9 (RM (mk w5) b (lV (mk w5) (mk (cut w5 e.length)) (mk e)) μ)).sat _
   rw[xrA]
   exact qdA fzA (ulB hn l1 l2 l3 l4 l5) h go3
  ·refine seg O X 9 ["w","first_is_y"] ?_
   show(kS 9 (RM (mk w5) b .none μ)).sat _
   rw[yrA]
   unfold wSw at go3
   rw[h]at go3
   exact cA (λz=>by exact nof z) λ_=>go3
 refine seg O X 6 ["w","first_is_y","m"] ?_
 show(kM 6 (R (mk w4) b μ)).sat _
 rw[csA]
 refine gW (by kernel_rfl) (tlB hn l1 l2 l3 l4) (λe h=>?_) λh=>?_
 ·refine seg O X 7 ["w","first_is_y"] ?_
  show(kS 7 (RM (mk w4) b (lV (mk w4) (mk (cut w4 e.length)) (mk e)) μ)).sat _
  rw[asA]
  exact qdA gzA (tlB hn l1 l2 l3 l4) h go2
 ·refine seg O X 7 ["w","first_is_y"] ?_
  show(kS 7 (RM (mk w4) b .none μ)).sat _
  rw[bsA]
  unfold wSw at go2
  rw[h]at go2
  exact cA (λz=>by exact nof z) λ_=>go2
noncomputable def oF (b:Bool)(k:Nat):Bool:=rD b (mk [k])
noncomputable def goB (b:Bool)(w:List Nat):Nat->Nat
 |0=>0
 |c+1=>if oF b (w.getD c 0)then c+1 else goB b w c
noncomputable def okS (s:Sn):Bool:=decide (0<=s.c)&&decide (s.c<=s.cur.length)&&decide (s.cur.length<=900)
noncomputable def uyA:Spec:=mSpec λs r=>vgA s.o (aH r λg r=>a0 r (.need (decide (s.lb=0)&&okS s) (.ret (.bool (decide (0<goB g s.cur.cps.toList s.c.toNat)),{s with c:=goB g s.cur.cps.toList s.c.toNat}))))
noncomputable def mP:Df:=fA 21 11
theorem zxA:mP.2.1=[.While (whT (lA mP.2.1 0)) (whB (lA mP.2.1 0)) [] (whP (lA mP.2.1 0)),lA mP.2.1 1]:=by kernel_rfl
noncomputable def sg (s:Sn)(g:Bool):AS:=⟨[("self",.self),("s",.set g)],muS s⟩
section
variable (cur:Str)(c l lb b k p q:Int)(g:Bool)
theorem nnA:(ai (xA mP.2.2 []) 20).2 (whT (lA mP.2.1 0)) (sg ⟨cur,c,l,lb,b,k,some (p,q)⟩ g)=.ret (decide (lb<c),sg ⟨cur,c,l,lb,b,k,some (p,q)⟩ g):=by kernel_rfl
theorem onA:aiB (aiS (xA mP.2.2 []) 12) (whB (lA mP.2.1 0)) (sg ⟨cur,c,l,lb,b,k,some (p,q)⟩ g)=
  .need (cC cur (c-1)) (.ite (rD g (Txt.item cur (c-1))) (.ret (.ret (.bool true),sg ⟨cur,c,l,lb,b,k,some (p,q)⟩ g)) (.ret (.next,sg ⟨cur,c-1,l,lb,b,k,some (p,q)⟩ g))):=by kernel_rfl
theorem twA:aiB (aiS (xA mP.2.2 []) 12) [lA mP.2.1 1] (sg ⟨cur,c,l,lb,b,k,some (p,q)⟩ g)=.ret (.ret (.bool false),sg ⟨cur,c,l,lb,b,k,some (p,q)⟩ g):=by kernel_rfl
end
theorem ckA {gr:Gr}{ex:Ex}(G:GX gr ex)(n:Nat):SpOK gr (n+1) 227 uyA:=vF λs r Q hq=>by
 obtain⟨cur,c,l,lb,b,k,o⟩:=s
 induction o using Option.casesOn with
 |none=>exact hq.elim
 |some pq=>
 refine jB (zcA hq) λg wz1 ez1 hz1=>?_;clear hq
 refine gA (tD hz1) λez2 hz=>?_;clear hz1
 subst ez2 ez1
 have hq:=hz;clear hz
 dsimp only at hq
 obtain⟨p,q⟩:=pq
 refine gA (uD hq) λhn hq1=>?_
 clear hq
 unfold okS at hn
 simp only[oA,vA]at hn
 refine vH hn λo2 o3 h2=>?_;obtain rfl:=o2;obtain⟨h0,h1⟩:=o3
 obtain⟨c,rfl⟩:∃z:Nat,c=z:=yC c.toNat (laA h0)
 have hq:∀y,goB g cur.cps.toList c=y->Q (.bool (decide (0<y)),muS ⟨cur,y,l,0,b,k,some (p,q)⟩):=λy e=>by
  subst e;exact hq1
 clear hq1
 rw[<-bC cur]at*
 generalize cur.cps.toList=w at*
 have h1:c<=w.length:=by simp only[mk_len]at h1;exact nH ‹_›
 have h2:w.length<=900:=h2
 have hq:∀y,goB g w c=y->Q (.bool (decide (0<y)),muS ⟨mk w,y,l,0,b,k,some (p,q)⟩):=hq
 refine mD G.hK ztA rfl λcx hc hs=>?_
 have O:mB gr (xA mP.2.2 []) cx:=cG G (CTOK.nil (n:=n)) hc hs
 have X:=nD G
 show EB gr cx mP.2.1 (sg ⟨mk w,c,l,0,b,k,some (p,q)⟩ g) (dB Q)
 rw[zxA]
 refine rA (pM (λm σ=>∃z:Nat,σ=sg ⟨mk w,z,l,0,b,k,some (p,q)⟩ g/\z<=w.length/\m=z/\goB g w z=goB g w c) _ (lW c rfl ‹_› rfl rfl) ?_)
 intro m σ o1;refine ziA o1 λz o4 hz1 hm hz2=>?_;obtain rfl:=o4
 refine(nK O 20).2 _ _ _ ?_
 rw[nnA]
 refine eB (λht=>?_) (λhf=>?_)
 ·have ht:=bB ht
  obtain⟨z,rfl⟩:∃y,z=y+1:=yC (z-1) (by lia)
  refine fD O X 12 _ _ _ ?_
  rw[onA]
  have e1:(((z+1:Nat):Int)-1)=(z:Int):=by exact wyB
  rw[e1,xF ‹_›]
  refine bA (cD (by simp only[mk_len];assumption) (by simp only[mk_len];exact dA ‹_› (by decide))) (cA (λh=>?_) λh=>?_)
  ·rw[goB,if_pos (show oF g (w.getD z 0)=true from h)]at hz2
   exact hq (z+1) hz2.symm
  ·rw[goB,if_neg (by rw[show oF g (w.getD z 0)=false from h];decide)]at hz2
   exact jA z (slB hm) (lW z rfl (iC ‹_›) rfl hz2)
 ·have hf:=pF hf
  obtain rfl:z=0:=by lia
  refine fD O X 12 _ _ _ ?_
  rw[twA]
  exact hq 0 hz2.symm
noncomputable def goF (g want:Bool)(w:List Nat)(c:Nat):Nat:=c+((w.drop c).takeWhile λk=>oF g k !=want).length
theorem yL {g want:Bool}{w:List Nat}{c:Nat}(h:w.length<=c):goF g want w c=c:=by
 unfold goF;rw[List.drop_eq_nil_of_le h];rfl
theorem yR {g want:Bool}{w:List Nat}{c:Nat}(h:c<w.length):goF g want w c=if oF g (w.getD c 0) !=want then goF g want w (c+1)else c:=by
 unfold goF
 simp only[List.drop_eq_getElem_cons h,List.takeWhile_cons,sD,mG h]
 simp only[Option.getD_some]
 split
 ·exact ar0
 ·rfl
noncomputable def bkA (want:Bool):Spec:=mSpec λs r=>vgA s.o (aH r λg r=>a0 r (.need (decide (s.l=s.cur.length)&&okS s) (.ret (.bool (decide (goF g want s.cur.cps.toList s.c.toNat<s.cur.length)),{s with c:=goF g want s.cur.cps.toList s.c.toNat}))))
noncomputable def dGI:Df:=fA 21 5
noncomputable def dGO:Df:=fA 21 9
theorem qgB:dGI.2.1=[.While (whT (lA dGI.2.1 0)) (whB (lA dGI.2.1 0)) [] (whP (lA dGI.2.1 0)),lA dGI.2.1 1]:=by kernel_rfl
theorem pgB:dGO.2.1=[.While (whT (lA dGO.2.1 0)) (whB (lA dGO.2.1 0)) [] (whP (lA dGO.2.1 0)),lA dGO.2.1 1]:=by kernel_rfl
section
variable (cur:Str)(c l lb b k p q:Int)(g:Bool)
theorem xwA:(ai (xA dGI.2.2 []) 20).2 (whT (lA dGI.2.1 0)) (sg ⟨cur,c,l,lb,b,k,some (p,q)⟩ g)=.ret (decide (c<l),sg ⟨cur,c,l,lb,b,k,some (p,q)⟩ g):=by kernel_rfl
theorem ywA:aiB (aiS (xA dGI.2.2 []) 12) (whB (lA dGI.2.1 0)) (sg ⟨cur,c,l,lb,b,k,some (p,q)⟩ g)=
  .need (cC cur c) (.ite (!rD g (Txt.item cur c)) (.ret (.ret (.bool true),sg ⟨cur,c,l,lb,b,k,some (p,q)⟩ g)) (.ret (.next,sg ⟨cur,c+1,l,lb,b,k,some (p,q)⟩ g))):=by kernel_rfl
theorem zfB:aiB (aiS (xA dGI.2.2 []) 12) [lA dGI.2.1 1] (sg ⟨cur,c,l,lb,b,k,some (p,q)⟩ g)=.ret (.ret (.bool false),sg ⟨cur,c,l,lb,b,k,some (p,q)⟩ g):=by kernel_rfl
theorem uwA:(ai (xA dGO.2.2 []) 20).2 (whT (lA dGO.2.1 0)) (sg ⟨cur,c,l,lb,b,k,some (p,q)⟩ g)=.ret (decide (c<l),sg ⟨cur,c,l,lb,b,k,some (p,q)⟩ g):=by kernel_rfl
theorem vwA:aiB (aiS (xA dGO.2.2 []) 12) (whB (lA dGO.2.1 0)) (sg ⟨cur,c,l,lb,b,k,some (p,q)⟩ g)=
  .need (cC cur c) (.ite (rD g (Txt.item cur c)) (.ret (.ret (.bool true),sg ⟨cur,c,l,lb,b,k,some (p,q)⟩ g)) (.ret (.next,sg ⟨cur,c+1,l,lb,b,k,some (p,q)⟩ g))):=by kernel_rfl
theorem xfB:aiB (aiS (xA dGO.2.2 []) 12) [lA dGO.2.1 1] (sg ⟨cur,c,l,lb,b,k,some (p,q)⟩ g)=.ret (.ret (.bool false),sg ⟨cur,c,l,lb,b,k,some (p,q)⟩ g):=by kernel_rfl
end
theorem udA {gr:Gr}{ex:Ex}(G:GX gr ex)(n:Nat)(want:Bool)(a:Addr)(d:Df)(R:qA a d ["self","s"])(hd:d.2.1=[.While (whT (lA d.2.1 0)) (whB (lA d.2.1 0)) [] (whP (lA d.2.1 0)),lA d.2.1 1])
  (ht:∀cur c l lb b k p q g,(ai (xA d.2.2 []) 20).2 (whT (lA d.2.1 0)) (sg ⟨cur,c,l,lb,b,k,some (p,q)⟩ g)=.ret (decide (c<l),sg ⟨cur,c,l,lb,b,k,some (p,q)⟩ g))
  (hb:∀cur c l lb b k p q g,aiB (aiS (xA d.2.2 []) 12) (whB (lA d.2.1 0)) (sg ⟨cur,c,l,lb,b,k,some (p,q)⟩ g)=
   .need (cC cur c) (.ite (if want then rD g (Txt.item cur c)else !rD g (Txt.item cur c)) (.ret (.ret (.bool true),sg ⟨cur,c,l,lb,b,k,some (p,q)⟩ g)) (.ret (.next,sg ⟨cur,c+1,l,lb,b,k,some (p,q)⟩ g))))
  (hr:∀cur c l lb b k p q g,aiB (aiS (xA d.2.2 []) 12) [lA d.2.1 1] (sg ⟨cur,c,l,lb,b,k,some (p,q)⟩ g)=.ret (.ret (.bool false),sg ⟨cur,c,l,lb,b,k,some (p,q)⟩ g)):
  SpOK gr (n+1) a (bkA want):=vF λs r Q hq=>by
 obtain⟨cur,c,l,lb,b,k,o⟩:=s
 induction o using Option.casesOn with
 |none=>exact hq.elim
 |some pq=>
 refine jB (zcA hq) λg wz1 ez1 hz1=>?_;clear hq
 refine gA (tD hz1) λez2 hz=>?_;clear hz1
 subst ez2 ez1
 have hq:=hz;clear hz
 dsimp only at hq
 obtain⟨p,q⟩:=pq
 refine gA (uD hq) λhn hq1=>?_
 clear hq
 unfold okS at hn
 simp only[oA,vA]at hn
 obtain⟨rfl,⟨h0,h1⟩,h2⟩:=hn
 obtain⟨c,rfl⟩:∃z:Nat,c=z:=yC c.toNat (laA h0)
 have hq:∀y,goF g want cur.cps.toList c=y->Q (.bool (decide (y<cur.length)),muS ⟨cur,y,cur.length,lb,b,k,some (p,q)⟩):=λy e=>by
  subst e;exact hq1
 clear hq1
 rw[<-bC cur]at*
 generalize cur.cps.toList=w at*
 have h1:c<=w.length:=by simp only[mk_len]at h1;exact nH ‹_›
 have h2:w.length<=900:=h2
 have hq:∀y,goF g want w c=y->Q (.bool (decide (y<w.length)),muS ⟨mk w,y,w.length,lb,b,k,some (p,q)⟩):=hq
 refine mD G.hK R rfl λcx hc hs=>?_
 have O:mB gr (xA d.2.2 []) cx:=cG G (CTOK.nil (n:=n)) hc hs
 have X:=nD G
 show EB gr cx d.2.1 (sg ⟨mk w,c,w.length,lb,b,k,some (p,q)⟩ g) (dB Q)
 rw[hd]
 refine rA (pM (λm σ=>∃z:Nat,σ=sg ⟨mk w,z,w.length,lb,b,k,some (p,q)⟩ g/\z<=w.length/\m=w.length-z/\goF g want w z=goF g want w c) _ (lW c rfl ‹_› rfl rfl) ?_)
 intro m σ o1;obtain⟨z,rfl,hz1,hm,hz2⟩:=o1
 refine(nK O 20).2 _ _ _ ?_
 rw[ht]
 refine eB (λhlt=>?_) (λhf=>?_)
 ·have hlt:(z:Int)<w.length:=bB hlt
  have hz:z<w.length:=by exact nH ‹_›
  refine fD O X 12 _ _ _ ?_
  rw[hb,xF hz]
  have hst:=yR (g:=g) (want:=want) hz
  rw[hst]at hz2
  have hcond:(if want then rD g (mk [w.getD z 0])else !rD g (mk [w.getD z 0]))=!(oF g (w.getD z 0) !=want):=by
   unfold oF
   induction want using Bool.casesOn<;>cases rD g (mk [w.getD z 0])<;>rfl
  rw[hcond]
  refine bA (cD (by simp only[mk_len];assumption) (by simp only[mk_len];exact dA ‹_› (by decide))) (cA (λh=>?_) λh=>?_)
  ·have h':(oF g (w.getD z 0) !=want)=false:=by simpa using h
   rw[h']at hz2
   have:=hq z hz2.symm
   rw[pA hz]at this
   exact this
  ·have h':(oF g (w.getD z 0) !=want)=true:=by simpa using h
   rw[h']at hz2
   exact jA (w.length-(z+1)) (by lia) (lW (z+1) rfl ‹_› rfl hz2)
 ·have hf:¬(z:Int)<w.length:=pF hf
  have hzz:w.length<=z:=by exact nH (Int.not_lt.mp ‹_›)
  refine fD O X 12 _ _ _ ?_
  rw[hr]
  rw[yL hzz]at hz2
  have:=hq z hz2.symm
  rw[rG (Nat.not_lt.mpr ‹_›)]at this
  exact this
theorem grA {gr:Gr}{ex:Ex}(G:GX gr ex)(n:Nat):SpOK gr (n+1) 185 (bkA false):=udA G n false 185 dGI duA qgB xwA ywA zfB
theorem frA {gr:Gr}{ex:Ex}(G:GX gr ex)(n:Nat):SpOK gr (n+1) 213 (bkA true):=udA G n true 213 dGO buA pgB uwA vwA xfB
noncomputable def dFA:Df:=fA 21 15
noncomputable abbrev fS (i:Nat):Stmt:=lA dFA.2.1 i
noncomputable def ob:List Stmt:=whB (fS 7)
noncomputable def ib:List Stmt:=whB (fS 8)
noncomputable abbrev oS (i:Nat):Stmt:=lA ob i
noncomputable def fL:List Str:=["self","v","i","j","c","lb","common_i","common_j","first_key_inspected"]
noncomputable def fK:List Str:=["self","v","i","j","c","lb","common_i","common_j","first_key_inspected","k","diff","common","w"]
theorem rgB:dFA.2.1=[fS 0,fS 1,fS 2,fS 3,fS 4,fS 5,fS 6,.While (.Constant (.bool true) (match whT (fS 7)with| .Constant _ k ø=>k|ø=>0) (match whT (fS 7)with| .Constant _ ø p=>p|ø=>default)) ob [] (whP (fS 7)),
  .While (.Constant (.bool true) (match whT (fS 8)with| .Constant _ k ø=>k|ø=>0) (match whT (fS 8)with| .Constant _ ø p=>p|ø=>default)) ib [] (whP (fS 8)),fS 9]:=by kernel_rfl
structure Fa where
 cur:Str
 L:List AmE
 c:Int
 l:Int
 b:Int
 k:Int
 p:Int
 q:Int
noncomputable abbrev Fa.sn (a:Fa):Sn:=⟨a.cur,a.c,a.l,0,a.b,a.k,some (a.p,a.q)⟩
noncomputable def jgA (a:Fa)(i j ci cj:Int)(f:Bool):List (Str×V):=[("self",.self),("v",.aml a.L),("i",.int i),("j",.int j),("c",.int a.c),("lb",.int 0),("common_i",.int ci),("common_j",.int cj),("first_key_inspected",.bool f)]
noncomputable def stF (a:Fa)(i j ci cj:Int)(f:Bool):AS:=⟨jgA a i j ci cj f,muS a.sn⟩
noncomputable def stK (a:Fa)(i j ci cj:Int)(f:Bool)(k diff common:Int)(w:AmE):AS:=⟨jgA a i j ci cj f++([("k",.int k),("diff",.int diff),("common",.int common),("w",.am w)]:List (Str×V)),muS a.sn⟩
noncomputable abbrev aFA:=aiB (aiS (xA dFA.2.2 []) 12)
section
variable (a:Fa)(i j ci cj k diff common i2:Int)(f:Bool)(w:AmE)
theorem xnA:aFA [fS 0,fS 1,fS 2,fS 3,fS 4,fS 5,fS 6] ⟨[("self",.self),("v",.aml a.L)],muS a.sn⟩=.need (decide (a.L.length<=big)) (.ret (.next,stF a 0 a.L.length 0 0 false)):=by kernel_rfl
theorem dlB:kp fL (aFA ib (stF a i j ci cj f))=.need (pE a.L.length i) (.need (decide ((a.L.getD i.toNat default).s.length<=big)) (.ite (decide (((a.L.getD i.toNat default).s.length:Int)<=ci))
  (.need (decide ((a.L.getD i.toNat default).s.length<=big)) (.ret (.ret (.int (a.L.getD i.toNat default).res),⟨jgA a i j ci cj f,muS {a.sn with c:=a.c-(a.L.getD i.toNat default).s.length}⟩)))
  (.ite (decide ((a.L.getD i.toNat default).sub<0)) (.ret (.ret (.int 0),stF a (a.L.getD i.toNat default).sub j ci cj f)) (.ret (.next,stF a (a.L.getD i.toNat default).sub j ci cj f))))):=by kernel_rfl
noncomputable def nR (x:Str):Int:=x.cps.getD 0 0
noncomputable def deB (x:Str):Bool:=decide (x.length=1)
theorem clB:kp fK (aFA (whB (oS 4)) ⟨(stK a i j ci cj f k diff common w).ρ++([("i2",.int i2)]:List (Str×V)),muS a.sn⟩)=.ite (a.c-common==0) (.ret (.brk,stK a i j ci cj f k (-1) common w))
  (.need (cC a.cur (a.c-1-common)) (.need (deB (Txt.item a.cur (a.c-1-common))) (.need (cC w.s i2) (.need (deB (Txt.item w.s i2))
   (.ite (nR (Txt.item a.cur (a.c-1-common))-nR (Txt.item w.s i2) !=0) (.ret (.brk,stK a i j ci cj f k (nR (Txt.item a.cur (a.c-1-common))-nR (Txt.item w.s i2)) common w))
    (.ret (.next,stK a i j ci cj f k (nR (Txt.item a.cur (a.c-1-common))-nR (Txt.item w.s i2)) (common+1) w))))))):=by kernel_rfl
noncomputable def tFE (a:Fa)(i j ci cj:Int)(f:Bool):T (Out×AS):=.ite (decide (j-i<=1)) (.ite (decide (0<i)) (.ret (.brk,stF a i j ci cj f)) (.ite (j==i) (.ret (.brk,stF a i j ci cj f)) (.ite f (.ret (.brk,stF a i j ci cj f)) (.ret (.next,stF a i j ci cj true))))) (.ret (.next,stF a i j ci cj f))
theorem blB:kp fL (aFA [oS 5,oS 6] (stK a i j ci cj f k diff common w))=.ite (decide (diff<0)) (tFE a i k ci common f) (tFE a k j common cj f):=by kernel_rfl
end
section
variable {g:Gr}{c:Cx}{σ:AS}{Q:Out×AS->Prop}
theorem pI {names:List Str}{b:List Stmt}(e:EB g c b (qB names σ) Q):EB g c b σ Q:=by
 obtain⟨ρ,μ⟩:=σ
 exact tG (tH names ⟨ρ,μ⟩) e
theorem rH (names:List Str){body:List Stmt}{pos kp:Pos}{kk:Nat}(I:Nat->AS->Prop)(n:Nat)(h0:I n (qB names σ))
  (turn:∀n σ,I n σ->EB g c body σ λx=>match x.1 with| .next| .cont=>∃m,m<n/\I m (qB names x.2)| .brk=>Q (.next,x.2)| .ret v=>Q (.ret v,x.2)| .exc a=>Q (.exc a,x.2)):
  ES g c (.While (.Constant (.bool true) kk kp) body [] pos) σ Q:=
 hU (λn σ=>I n (qB names σ)) n h0 λn σ hI=>pI (names:=names) (turn n _ hI)
theorem uL {names:List Str}{t:T (Out×AS)}{P P':Out×AS->Prop}(h:(kp names t).sat P)(k:∀o σ,P (o,qB names σ)->P' (o,σ)):t.sat P':=
 T.sat_mono (λx hx=>k x.1 x.2 hx) (cB h)
end
noncomputable def lcp:List Nat->List Nat->Nat
 |a::r,b::s=>if a=b then lcp r s+1 else 0
 |_,_=>0
noncomputable def ltL:List Nat->List Nat->Bool
 |[],[]=>false
 |[],_::_=>true
 |_::_,[]=>false
 |a::r,b::s=>if a=b then ltL r s else decide (a<b)
theorem nI:∀a b:List Nat,lcp a b<=a.length
 |[],ø=>rC _
 |_::_,[]=>rC _
 |a::r,b::s=>by
  unfold lcp
  split
  ·have:=nI r s;exact Nat.lt_succ_of_le ‹_›
  ·exact rC _
theorem kO:∀a b:List Nat,lcp a b=lcp b a
 |[],[]=>rfl
 |[],_::_=>rfl
 |_::_,[]=>rfl
 |a::r,b::s=>by
  unfold lcp
  by_cases h:a=b
  ·rw[if_pos h,if_pos h.symm,kO r s]
  ·rw[if_neg h,if_neg λq=>h q.symm]
theorem vP:∀{x y t k:List Nat} {n:Nat},n<=lcp t x->n<=lcp t y->ltL k x=false->ltL y k=false->n<=lcp t k
 |_,_,_,_,0,_,_,_,ø=>rC _
 |[],_,t,_,n+1,h,_,_,ø=>by rw[kO]at h;exact absurd h (Nat.not_succ_le_zero _)
 |_::_,[],t,_,n+1,_,h,_,ø=>by rw[kO]at h;exact absurd h (Nat.not_succ_le_zero _)
 |a::x,b::y,[],_,n+1,h,_,_,ø=>absurd h (Nat.not_succ_le_zero _)
 |a::x,b::y,c::t,[],n+1,_,_,h,ø=>by injection h
 |a::x,b::y,c::t,d::k,n+1,h1,h2,h3,h4=>by
  unfold lcp at h1 h2 ⊢
  unfold ltL at h3 h4
  split at h1
  ·rename_i e1
   split at h2
   ·rename_i e2
    subst e1;subst e2
    by_cases q:d=c
    ·subst q
     rw[if_pos rfl]at h3 h4 ⊢
     have:=vP (Nat.le_of_succ_le_succ h1) (Nat.le_of_succ_le_succ h2) h3 h4
     exact Nat.lt_succ_of_le ‹_›
    ·rw[if_neg q]at h3
     rw[if_neg λz=>q z.symm]at h4
     have h3:=pF h3
     have h4:=pF h4
     lia
   ·exact absurd ‹_› (Nat.not_lt_zero _)
  ·exact absurd ‹_› (Nat.not_lt_zero _)
end Mine
namespace Mine
theorem iW (a b:List Nat):lcp a b<=b.length:=by rw[kO];exact nI b a
theorem iU:∀{t k:List Nat} {m:Nat},m<=lcp t k->m<t.length->m<k.length->t.getD m 0≠k.getD m 0->lcp t k=m/\ltL t k=decide (t.getD m 0<k.getD m 0)
 |a::r,b::s,0,_,_,ø,hn=>by
  have hn:a≠b:=hn
  unfold lcp ltL
  rw[if_neg hn,if_neg hn]
  exact⟨rfl,rfl⟩
 |a::r,b::s,m+1,h,h1,h2,hn=>by
  unfold lcp at h ⊢
  unfold ltL
  split at h
  ·rename_i e
   rw[if_pos e,if_pos e]
   have:=iU (Nat.le_of_succ_le_succ h) (Nat.lt_of_succ_lt_succ h1) (Nat.lt_of_succ_lt_succ h2) hn
   exact⟨congrArg (·+1) this.1,this.2⟩
  ·exact absurd ‹_› (Nat.not_lt_zero _)
 |[],_,_,_,h1,_,ø=>absurd h1 (Nat.not_lt_zero _)
 |_::_,[],_,_,_,h2,ø=>absurd h2 (Nat.not_lt_zero _)
theorem jU:∀{t k:List Nat} {m:Nat},m<=lcp t k->m<t.length->m<k.length->t.getD m 0=k.getD m 0->m+1<=lcp t k
 |a::r,b::s,0,_,_,ø,hn=>by
  have hn:a=b:=hn
  unfold lcp
  rw[if_pos hn]
  exact Nat.succ_pos _
 |a::r,b::s,m+1,h,h1,h2,hn=>by
  unfold lcp at h ⊢
  split at h
  ·rename_i e
   rw[if_pos e]
   have:=jU (Nat.le_of_succ_le_succ h) (Nat.lt_of_succ_lt_succ h1) (Nat.lt_of_succ_lt_succ h2) hn
   exact Nat.lt_succ_of_le ‹_›
  ·exact absurd ‹_› (Nat.not_lt_zero _)
 |[],_,_,_,h1,_,ø=>absurd h1 (Nat.not_lt_zero _)
 |_::_,[],_,_,_,h2,ø=>absurd h2 (Nat.not_lt_zero _)
theorem fZ:∀{t k:List Nat},t.length<=lcp t k->t.length<k.length->ltL t k=true
 |[],[],ø,h=>absurd h (Nat.lt_irrefl _)
 |[],_::_,_,ø=>rfl
 |_::_,[],ø,h=>absurd h (Nat.not_lt_zero _)
 |a::r,b::s,h,h2=>by
  unfold lcp at h
  unfold ltL
  split at h
  ·rename_i e
   refine qDzq (if_pos e ..) ?_
   exact fZ (Nat.le_of_succ_le_succ h) (Nat.lt_of_succ_lt_succ h2)
  ·exact absurd h (Nat.not_succ_le_zero _)
theorem leA:∀{t k:List Nat},k.length<=lcp t k->ltL t k=false
 |[],[],ø=>rfl
 |[],_::_,h=>absurd h (Nat.not_succ_le_zero _)
 |_::_,[],ø=>rfl
 |a::r,b::s,h=>by
  unfold lcp at h
  unfold ltL
  split at h
  ·rename_i e
   refine qDzq (if_pos e ..) ?_
   exact leA (Nat.le_of_succ_le_succ h)
  ·exact absurd h (Nat.not_succ_le_zero _)
theorem pre_of:∀{t k m:List Nat},m.isPrefixOf t=true->ltL k m=false->ltL t k=false->m.isPrefixOf k=true
 |_,_,[],_,_,ø=>by rfl
 |[],_,_::_,h,_,ø=>by exact nof h
 |c::t,[],b::m,_,h,ø=>by injection h
 |c::t,a::k,b::m,h1,h2,h3=>by
  have h5:(b==c&&m.isPrefixOf t)=true:=h1
  show(b==a&&m.isPrefixOf k)=true
  replace h5:=bmp eq_of_beq id h5
  obtain⟨rfl,h6⟩:=h5
  unfold ltL at h2 h3
  by_cases q:a=b
  ·subst q
   rw[if_pos rfl]at h2 h3
   rw[beq_self_eq_true,eD]
   exact pre_of h6 h2 h3
  ·rw[if_neg q]at h2
   rw[if_neg λz=>q z.symm]at h3
   have h2:=pF h2
   have h3:=pF h3
   lia
end Mine
namespace Mine
open PySem PySem.W PySem.Calls PyProof.Rows
theorem rev_getD {l:List Nat}{m:Nat}(h:m<l.length):l.reverse.getD m 0=l.getD (l.length-1-m) 0:=by
 refine qDzq (sD) ?_;simp only[sD,List.getElem?_reverse h]
theorem tfA {l:List Nat}{n m:Nat}(h:m<n):(l.take n).getD m 0=l.getD m 0:=by
 refine qDzq (sD) ?_;rw[sD,List.getElem?_take_of_lt h]
noncomputable def txt (w:List Nat)(n:Nat):List Nat:=(w.take n).reverse
theorem nqA {w:List Nat}{n:Nat}(h:n<=w.length):(txt w n).length=n:=by
 unfold txt;refine qDzq (List.length_reverse ..) ?_;refine qDzq (gF ..) ?_;exact jyA h
theorem jjA {w:List Nat}{n m:Nat}(h:n<=w.length)(hm:m<n):(txt w n).getD m 0=w.getD (n-1-m) 0:=by
 unfold txt
 have hl:(w.take n).length=n:=by refine qDzq (gF ..) ?_;exact jyA h
 refine qDzq (rev_getD (uyB hm hl) ..) ?_;rw[hl,tfA (tyB hm)]
noncomputable def keyOf (e:AmE):List Nat:=e.s.cps.toList.reverse
noncomputable abbrev fBody:List Stmt:=whB (oS 4)
noncomputable def mQ:Stmt->List Expr
 | .For _ (.Call _ es _ _) _ _ _=>es
 |_=>[]
noncomputable def zkB:Stmt->Pos
 | .For _ (.Call (.Name _ p) _ _ _) _ _ _=>p
 |_=>default
noncomputable def alB:Stmt->Pos
 | .For _ (.Call _ _ _ p) _ _ _=>p
 |_=>default
theorem heB:oS 4=.For (.Name "i2" (whX (oS 4))) (.Call (.Name "range" (zkB (oS 4))) (mQ (oS 4)) [] (alB (oS 4))) fBody [] (whP (oS 4)):=by kernel_rfl
section
variable (a:Fa)(i j ci cj k diff common i2:Int)(f:Bool)(w:AmE)
theorem exA:dE (ai (xA dFA.2.2 []) 20).1 (mQ (oS 4)) (stK a i j ci cj f k diff common w)=.need (decide (w.s.length<=big)) (.ret ([.int ((w.s.length:Int)-1-common),.int (-1),.int (-1)],stK a i j ci cj f k diff common w)):=by kernel_rfl
end
theorem wY {l:List Nat}{p:Nat}(h:p<l.length):nR (Txt.item (mk l) p)=l.getD p 0/\deB (Txt.item (mk l) p)=true:=by
 rw[xF h];exact⟨rfl,rfl⟩
noncomputable def InK (a:Fa)(i j ci cj:Int)(f:Bool)(k:Int)(e:AmE)(diff common:Int)(σ:AS):Prop:=yqA (stK a i j ci cj f k diff common e).ρ σ.ρ/\σ.μ=muS a.sn
theorem fnA {a:Fa}{i j ci cj k diff common:Int}{f:Bool}{e:AmE}{σ:AS}(h:qB fK σ=stK a i j ci cj f k diff common e):InK a i j ci cj f k e diff common σ:=by
 have:=tH fK σ
 rw[h]at this
 exact⟨this,congrArg AS.μ h⟩
theorem nwA {a:Fa}{i j ci cj k diff common:Int}{f:Bool}{e:AmE}{σ:AS}{v:V}(h:InK a i j ci cj f k e diff common σ):yqA ((stK a i j ci cj f k diff common e).ρ++([("i2",v)]:List (Str×V))) (pH "i2" v σ.ρ):=λx u hx=>by
 refine qDzq (jI ..) ?_
 rw[List.lookup_append]at hx
 by_cases q:x="i2"
 ·subst q
  refine qDzq (if_pos rfl ..) ?_
  have:(stK a i j ci cj f k diff common e).ρ.lookup ("i2":Str)=none:=by
   rfl
  rw[this]at hx
  simpa [List.lookup]using hx
 ·refine qDzq (if_neg q ..) ?_
  refine h.1 x u ?_
  cases z:(stK a i j ci cj f k diff common e).ρ.lookup x with
  |none=>
   rw[z]at hx
   rw[pC,if_neg q]at hx
   exact no hx
  |some y=>rw[z]at hx;exact hx
theorem hcA:yB (mQ (oS 4))=true:=by kernel_rfl
theorem cgB:(mQ (oS 4)).length=3:=by kernel_rfl
theorem unA:scK dFA.2.2 "range"=some .globalImplicit:=by kernel_rfl
theorem elB:scK dFA.2.2 "i2"=some .local:=by kernel_rfl
noncomputable def InQ (a:Fa)(i j ci cj:Int)(f:Bool)(k:Int)(e:AmE)(t:List Nat)(m:Nat)(x:Out×AS):Prop:=∃diff common,x.2=stK a i j ci cj f k diff common e/\match x.1 with
 | .next=>diff=0/\common=((m+1:Nat):Int)/\m+1<=lcp t (keyOf e)
 | .brk=>decide (diff<0)=ltL t (keyOf e)/\common=(lcp t (keyOf e):Nat)
 |_=>False
theorem wnA {gr:Gr}{ex:Ex}(G:GX gr ex){n0:Nat}{cx:Cx}(hc:CxOK cx n0)(O:mB gr (xA dFA.2.2 []) cx){a:Fa}{w:List Nat}{n:Nat}(hw:a.cur=mk w)(hcn:a.c=n)(hn:n<=w.length)(hw9:w.length<=900){e:AmE}(he:e.s.length<=100)
  {cm:Nat} (hcm:cm<=lcp (txt w n) (keyOf e)) {i j ci cj k:Int} {f:Bool} {Q:Out×AS->Prop}
  (hq:∀diff σ,decide (diff<0)=ltL (txt w n) (keyOf e)->InK a i j ci cj f k e diff (lcp (txt w n) (keyOf e):Nat) σ->Q (.next,σ)):ES gr cx (oS 4) (stK a i j ci cj f k 0 cm e) Q:=by
 have hkl:(keyOf e).length=e.s.length:=by unfold keyOf;rw[List.length_reverse];rfl
 have hcr:=iW (txt w n) (keyOf e)
 have htl:=nqA hn
 rw[heB]
 refine qU G hc.handled (nK O 20).1 (by rw[O.sc];exact unA) (by rw[O.sc];exact elB) (λq=>by have:=cgB;rw[q]at this;cases this) hcA ((e.s.length:Int)-1-cm) (-1) (e.s.length-cm)
  (λidx σ=>cm+idx<=lcp (txt w n) (keyOf e)/\InK a i j ci cj f k e 0 ((cm+idx:Nat):Int) σ) ?_ ?_ ?_
 ·rw[exA]
  exact bA (uB (dA ‹_› (by decide))) ⟨⟨hcm,λx v h=>h,rfl⟩,.inr ⟨-1,rfl,rfl,⟨by exact gD _,by exact gD _⟩,⟨by exact syB he,by exact ryB hcm hkl hcr⟩,by exact qyB⟩⟩
 ·intro idx o3 hi o4;obtain⟨ρ,μ⟩:=o3;refine gA o4 λh1 hI=>?_
  have hμ:μ=muS a.sn:=hI.2
  subst hμ
  refine tG (nwA hI) (fD O (nD G) 12 _ _ _ ?_)
  refine uL (names:=fK) (P:=InQ a i j ci cj f k e (txt w n) (cm+idx)) ?_ ?_
  ·refine(congrArg (λt=>T.sat t _) (clB a i j ci cj k 0 ((cm+idx:Nat):Int) ((e.s.length:Int)-1-cm+idx* -1) f e)).mpr ?_
   have hm:cm+idx<e.s.length:=by exact pyB hkl hcr hi h1
   rw[hcn,hw]
   refine cA (λq=>?_) λq=>?_
   ·have q:(n:Int)-((cm+idx:Nat):Int)=0:=beq_iff_eq.mp q
    have hmn:cm+idx=n:=(Int.ofNat.inj (Int.sub_eq_zero.mp q)).symm
    have hl:lcp (txt w n) (keyOf e)=n:=Nat.le_antisymm (dA (nI (txt w n) (keyOf e)) (jE htl)) (dA (jE hmn.symm) h1)
    exact⟨-1,_,rfl,by rw[fZ (rlB htl hl) (by rw[htl,hkl,<-hmn];exact hm)];rfl,by rw[hl,hmn]⟩
   ·have q:¬(n:Int)-((cm+idx:Nat):Int)=0:=λz=>by rw[z]at q;cases q
    have hle:=nI (txt w n) (keyOf e)
    have hmn:cm+idx<n:=Nat.lt_of_le_of_ne (dA h1 (dA hle (jE htl))) (λz=>q (by rw[z];exact Int.sub_self _))
    have hmt:=cE hmn (jE htl.symm)
    have e1:(n:Int)-1-((cm+idx:Nat):Int)=((n-1-(cm+idx):Nat):Int):=aqq hmn
    have e2:(e.s.length:Int)-1-cm+idx* -1=((e.s.length-1-(cm+idx):Nat):Int):=by exact oyB hm
    rw[e1,e2]
    have o1:=wY (l:=w) (p:=n-1-(cm+idx)) (qlB hn e1)
    have o2:=wY (l:=e.s.cps.toList) (p:=e.s.length-1-(cm+idx)) (plB e2)
    rw[bC]at o2
    have t1:(txt w n).getD (cm+idx) 0=w.getD (n-1-(cm+idx)) 0:=jjA hn hmn
    have t2:(keyOf e).getD (cm+idx) 0=e.s.cps.toList.getD (e.s.length-1-(cm+idx)) 0:=rev_getD ‹_›
    rw[o1.1,o2.1,<-t1,<-t2]
    refine bA (cD (by rw[mk_len];exact qlB hn e1) (by rw[mk_len];exact dA ‹_› (by decide))) (bA o1.2 (bA (cD (plB e2) (dA ‹_› (by decide))) (bA o2.2 (cA (λq=>?_) λq=>?_))))
    ·have q:((txt w n).getD (cm+idx) 0:Int)-((keyOf e).getD (cm+idx) 0:Nat)≠0:=bne_iff_ne.mp q
     refine gA (iU h1 hmt (olB hkl hcr h1 hm) (λz=>q (by rw[z];exact Int.sub_self _))) λa1 a2=>?_
     refine⟨_,_,rfl,?_,by rw[a1]⟩
     rw[a2,decide_eq_decide]
     exact⟨λh=>Int.ofNat_lt.mp (Int.lt_of_sub_neg h),λh=>Int.sub_neg_of_lt (kJ h)⟩
    ·have q:((txt w n).getD (cm+idx) 0:Int)-((keyOf e).getD (cm+idx) 0:Nat)=0:=by simpa using q
     have:=jU h1 hmt (olB hkl hcr h1 hm) (Int.ofNat.inj (Int.sub_eq_zero.mp q))
     exact⟨_,_,rfl,q,by rfl,this⟩
  ·intro o σ o5;refine jB o5 λdiff common hk hx=>?_
   induction o using Mine.Out.casesOn with
   |next=>
    obtain⟨rfl,rfl,h3⟩:=hx
    exact⟨by assumption,by have:=fnA hk;rw[show cm+(idx+1)=cm+idx+1 by rfl];exact this⟩
   |brk=>
    obtain⟨h2,rfl⟩:=hx
    exact hq diff σ h2 (fnA hk)
   |_=>exact hx.elim
 ·intro σ o6;refine gA o6 λh1 hI=>?_
  have hl:lcp (txt w n) (keyOf e)=e.s.length:=by exact nyB hcm hkl hcr h1
  refine hq 0 σ ?_ ?_
  ·rw[leA (rlB hkl hl)];rfl
  ·have:cm+(e.s.length-cm)=lcp (txt w n) (keyOf e):=by exact myB h1 hl
   rw[this]at hI
   exact hI
theorem zjB:ob=[oS 0,oS 1,oS 2,oS 3,oS 4,oS 5,oS 6]:=by kernel_rfl
section
variable (a:Fa)(i j ci cj k:Int)(f:Bool)
noncomputable def fa0 (a:Fa)(i j ci cj:Int)(f:Bool)(k:Int):AS:=⟨jgA a i j ci cj f++([("k",.int k)]:List (Str×V)),muS a.sn⟩
noncomputable def fa1 (a:Fa)(i j ci cj:Int)(f:Bool)(k:Int):AS:=⟨jgA a i j ci cj f++([("k",.int k),("diff",.int 0)]:List (Str×V)),muS a.sn⟩
noncomputable def fa2 (a:Fa)(i j ci cj:Int)(f:Bool)(k c:Int):AS:=⟨jgA a i j ci cj f++([("k",.int k),("diff",.int 0),("common",.int c)]:List (Str×V)),muS a.sn⟩
theorem evA:aiS (xA dFA.2.2 []) 12 (oS 0) (stF a i j ci cj f)=.need (decide (0<=j-i)) (.ret (.next,fa0 a i j ci cj f (i+(j-i).fdiv 2))):=by kernel_rfl
theorem dvA:aiS (xA dFA.2.2 []) 12 (oS 1) (fa0 a i j ci cj f k)=.ret (.next,fa1 a i j ci cj f k):=by kernel_rfl
theorem cvA:aiS (xA dFA.2.2 []) 12 (oS 2) (fa1 a i j ci cj f k)=.ret (.next,fa2 a i j ci cj f k (if cj<ci then cj else ci)):=by kernel_rfl
theorem bvA (c:Int):aiS (xA dFA.2.2 []) 12 (oS 3) (fa2 a i j ci cj f k c)=.need (pE a.L.length k) (.ret (.next,stK a i j ci cj f k 0 c (a.L.getD k.toNat default))):=by kernel_rfl
end
theorem dxA {gr:Gr}{ex:Ex}(G:GX gr ex){n0:Nat}{cx:Cx}(hc:CxOK cx n0)(O:mB gr (xA dFA.2.2 []) cx){a:Fa}{w:List Nat}{n:Nat}(hw:a.cur=mk w)(hcn:a.c=n)(hn:n<=w.length)(hw9:w.length<=900)
  (hL:a.L.length<=100) (hS:∀e∈a.L,e.s.length<=100) {i j:Nat} {ci cj:Nat} {f:Bool} (hij:i+(j-i) / 2<a.L.length) (hle:i<=j)
  (hcm:min ci cj<=lcp (txt w n) (keyOf (a.L.getD (i+(j-i) / 2) default))) {Q:Out×AS->Prop}
  (hq:let k:=i+(j-i) / 2;let e:=a.L.getD k default;let m:=lcp (txt w n) (keyOf e);
   if ltL (txt w n) (keyOf e)then(tFE a i k ci m f).sat (λx=>∀σ,qB fL σ=x.2->Q (x.1,σ))else(tFE a k j m cj f).sat (λx=>∀σ,qB fL σ=x.2->Q (x.1,σ))):
  EB gr cx ob (stF a i j ci cj f) Q:=by
 have X:=nD G
 have e1:((j:Int)-i).fdiv 2=((j-i) / 2:Nat):=by
  refine qDzq (Int.fdiv_eq_ediv_of_nonneg _ (by decide) ..) ?_
  exact lyB hle
 have e2:(i:Int)+(((j-i) / 2:Nat):Int)=((i+(j-i) / 2:Nat):Int):=by rfl
 have e3:(if(cj:Int)<ci then(cj:Int)else ci)=((min ci cj:Nat):Int):=by split<;>lia
 have he:(a.L.getD (i+(j-i) / 2) default).s.length<=100:=by
  rw[sD,mG hij]
  exact hS _ (List.getElem_mem hij)
 simp only[zjB]
 refine rA (cJ O X 12 _ _ _ ?_)
 simp only[evA,e1,e2]
 refine bA (by refine(vA ..).mpr ?_;exact kyB hle) ?_
 refine rA (cJ O X 12 _ _ _ ?_)
 simp only[dvA]
 refine rA (cJ O X 12 _ _ _ ?_)
 simp only[cvA,e3]
 refine rA (cJ O X 12 _ _ _ ?_)
 simp only[bvA]
 refine bA (by unfold pE;refine kK (kK pA pA) pA ?_;exact jyB hL hij) ?_
 refine rA (wnA G hc O hw hcn hn hw9 he hcm λdiff σ hd hI=>?_)
 obtain⟨ρ,μ⟩:=σ
 have hμ:μ=muS a.sn:=hI.2
 subst hμ
 refine tG hI.1 (fD O X 12 _ _ _ ?_)
 refine uL (names:=fL) (P:=λx=>∀σ,qB fL σ=x.2->Q (x.1,σ)) ?_ λo σ h=>h σ rfl
 refine(congrArg (λt=>T.sat t _) (blB a i j ci cj _ diff _ f _)).mpr ?_
 rw[hd]
 dsimp only at hq
 cases hlt:ltL (txt w n) (keyOf (a.L.getD (i+(j-i) / 2) default))with
 |true=>rw[hlt]at hq;exact cA (λø=>hq) λz=>by exact nomatch z
 |false=>rw[hlt]at hq;exact cA (λz=>by exact nof z) λø=>hq
noncomputable def wcA (L:List AmE):Bool:=(List.range L.length).all λi=>
 let e:=L.getD i default
 (decide (i+1<L.length)==false||ltL (keyOf e) (keyOf (L.getD (i+1) default)))&&decide (e.sub<i)&&decide (-1<=e.sub)&&decide (e.s.length<=100)&&
 (decide (e.sub<0)||(keyOf (L.getD e.sub.toNat default)).isPrefixOf (keyOf e))&&
 (List.range L.length).all λm=>m==i||!(keyOf (L.getD m default)).isPrefixOf (keyOf e)||(decide (0<=e.sub)&&(keyOf (L.getD m default)).isPrefixOf (keyOf (L.getD e.sub.toNat default)))
noncomputable def oB (L:List AmE)(m:Nat):List Nat:=keyOf (L.getD m default)
noncomputable def hH (L:List AmE):Bool:=(List.range L.length).all λm=>!ltL (oB L m) (oB L m)&&(List.range L.length).all λk=>!decide (m<k)||(ltL (oB L m) (oB L k)&&!ltL (oB L k) (oB L m))
theorem tN {L:List AmE}(h:hH L=true){m k:Nat}(hm:m<=k)(hk:k<L.length):ltL (oB L k) (oB L m)=false:=by
 have h1:=fC h m (List.mem_range.mpr (iD ‹_› ‹_›))
 rw[oA,aF]at h1
 by_cases e:m=k
 ·subst e;exact h1.1
 ·have h2:=fC h1.2 k (List.mem_range.mpr hk)
  rw[pA (iyB hm e:m<k)]at h2
  simp only[Bool.not_true,Bool.false_or,oA,aF]at h2
  exact h2.2
structure FaI (L:List AmE) (t:List Nat) (i j ci cj:Nat):Prop where
 le:i<=j
 lt:j<=L.length
 at_i:(i=0/\ci=0)\/(ltL t (oB L i)=false/\ci=lcp t (oB L i)/\i<L.length)
 at_j:(j=L.length/\cj=0)\/(j<L.length/\ltL t (oB L j)=true/\cj=lcp t (oB L j))
theorem FaI.min {L:List AmE}{t:List Nat}{i j ci cj k:Nat}(x:FaI L t i j ci cj)(hs:hH L=true)(h1:i<=k)(h2:k<=j)(h3:k<L.length):min ci cj<=lcp t (oB L k):=by
 rcases x.at_i with⟨_,rfl⟩|⟨a1,rfl,a2⟩
 ·exact rC _
 ·rcases x.at_j with⟨_,rfl⟩|⟨b1,b2,rfl⟩
  ·exact hyB
  ·exact vP (x:=oB L i) (y:=oB L j) (Nat.min_le_left ..) (Nat.min_le_right ..) (tN hs h1 h3) (tN hs h2 b1)
theorem mbA:∀{m t y:List Nat},m.isPrefixOf t=true->ltL t y=true->ltL m y=true
 |[],_,[],_,h=>by
  rename_i t _
  induction t using List.casesOn<;>cases h
 |[],_,_::_,_,_=>rfl
 |_::_,[],_,h,_=>by exact nof h
 |a::m,b::t,[],_,h=>by exact nof h
 |a::m,b::t,d::y,h,h2=>by
  have h5:(a==b&&m.isPrefixOf t)=true:=h
  rw[oA,beq_iff_eq]at h5
  obtain⟨rfl,h6⟩:=h5
  unfold ltL at h2 ⊢
  by_cases q:a=d
  ·rw[if_pos q]at h2 ⊢;exact mbA h6 h2
  ·rw[if_neg q]at h2 ⊢;exact h2
noncomputable def FaE (L:List AmE)(t:List Nat)(i ci:Nat):Prop:=
 (ltL t (oB L i)=false/\ci=lcp t (oB L i)/\i<L.length/\∀m,m<L.length->(oB L m).isPrefixOf t=true->m<=i)\/(i=0/\ci=0/\ltL t (oB L 0)=true)
theorem FaI.past {L:List AmE}{t:List Nat}{i j ci cj:Nat}(x:FaI L t i j ci cj)(hs:hH L=true){m:Nat}(hm:m<L.length)(hp:(oB L m).isPrefixOf t=true):m<j:=by
 rcases x.at_j with⟨rfl,_⟩|⟨b1,b2,_⟩
 ·exact hm
 ·by_cases q:m<j
  ·exact q
  ·have h1:=mbA hp b2
   have h2:=tN hs (Nat.le_of_not_lt q) hm
   rw[h1]at h2
   cases h2
theorem vnA {gr:Gr}{ex:Ex}(G:GX gr ex){n0:Nat}{cx:Cx}(hc:CxOK cx n0)(O:mB gr (xA dFA.2.2 []) cx){a:Fa}{w:List Nat}{n:Nat}(hw:a.cur=mk w)(hcn:a.c=n)(hn:n<=w.length)(hw9:w.length<=900)
  (hL:a.L.length<=100) (hN:0<a.L.length) (hS:∀e∈a.L,e.s.length<=100) (hs:hH a.L=true) {pos kp:Pos} {kk:Nat} {Q:Out×AS->Prop}
  (hq:∀σ (i j ci cj:Nat) f,qB fL σ=stF a i j ci cj f->FaE a.L (txt w n) i ci->Q (.next,σ)):
  ES gr cx (.While (.Constant (.bool true) kk kp) ob [] pos) (stF a 0 a.L.length 0 0 false) Q:=by
 refine rH fL (λm σ=>∃(i j ci cj:Nat) (f:Bool),σ=stF a i j ci cj f/\FaI a.L (txt w n) i j ci cj/\(2<=j-i\/(i=0/\j=1))/\(f=true->i=0/\j=1)/\m=(j-i)+(if f then 0 else 2)) (a.L.length+2)
  (⟨0,a.L.length,0,0,false,(by kernel_rfl),⟨rC _,vD _,.inl (eB rfl rfl),.inl (eB rfl rfl)⟩,(by exact gyB hN),(λh=>by exact nof h),rfl⟩) ?_
 intro m σ o1;obtain⟨i,j,ci,cj,f,rfl,hI,hij,hf,rfl⟩:=o1
 have hle:=hI.le
 have hlt:=hI.lt
 have hk:i+(j-i) / 2<a.L.length:=by exact fyB hN hij hle hlt
 have md:=aqn hle hij
 refine dxA G hc O hw hcn hn hw9 hL hS hk hle (hI.min hs md.1 md.2.1 hk) ?_
 dsimp only
 generalize i+(j-i) / 2=k at hk md ⊢
 obtain⟨m1,m2,m3⟩:=md
 split
 ·rename_i hltL
  have hI':FaI a.L (txt w n) i k ci (lcp (txt w n) (oB a.L k)):=⟨m1,iC hk,hI.at_i,.inr ⟨hk,hltL,rfl⟩⟩
  refine cA (λq=>?_) λq=>?_
  ·have q:=aqo (bB q)
   refine cA (λq2=>?_) λq2=>cA (λq3=>?_) λq3=>cA (λq4=>?_) λq4=>?_
   ·intro σ hσ
    refine hq σ i _ _ _ _ hσ (hI.at_i.elim (λh=>?_) λh=>?_)
    ·exact absurd (Int.ofNat_lt.mp (bB q2)) (h.1▸Nat.lt_irrefl 0)
    ·exact .inl ⟨h.1,h.2.1,h.2.2,λm hm hp=>oK (cE (hI'.past hs hm hp) q)⟩
   ·have q2:i=0:=Nat.eq_zero_of_not_pos λh=>pF q2 (kJ h)
    have q3:k=i:=Int.ofNat.inj (beq_iff_eq.mp q3)
    intro σ hσ
    refine hq σ i _ _ _ _ hσ ?_
    rw[q3,q2]at hltL
    refine hI.at_i.elim (λh=>.inr ⟨q2,h.2,hltL⟩) λh=>?_
    have h1:=h.1
    rw[q2]at h1
    exact nof (h1.symm.trans hltL)
   ·have q3:¬k=i:=λz=>by rw[z,beq_self_eq_true]at q3;cases q3
    exact m3.elim (λh=>absurd (cE h.1 (oK (cE h.2 (jE (hf q4).2)))) (Nat.not_lt_zero _)) λh=>absurd (h.2.2.trans h.1.symm) q3
   ·have q2:i=0:=Nat.eq_zero_of_not_pos λh=>pF q2 (kJ h)
    have q3:¬k=i:=λz=>by rw[z,beq_self_eq_true]at q3;cases q3
    have hk1:i=0/\k=1:=⟨q2,Nat.le_antisymm (dA q (jE (congrArg (·+1) q2))) (Nat.pos_of_ne_zero λz=>q3 (z.trans q2.symm))⟩
    intro σ hσ
    exact⟨(k-i)+0,by rw[q4];exact iD (Nat.sub_le_sub_right m2 i) (Nat.lt_add_of_pos_right (by decide)),i,_,ci,_,true,hσ,hI',.inr hk1,λ_=>hk1,rfl⟩
  ·have q:=aqp (pF q)
   have hkj:k<j:=m3.elim (λh=>h.2) λh=>absurd (h.2.2▸q) (Nat.not_lt_zero _)
   intro σ hσ
   exact⟨_,Nat.add_lt_add_right (Nat.sub_lt_sub_right m1 hkj) _,i,_,ci,_,f,hσ,hI',.inl (Nat.le_sub_of_add_le (Nat.add_comm 2 i▸q)),λz=>absurd (cE (Nat.lt_trans q hkj) (jE (hf z).2)) (Nat.not_lt.mpr (Nat.le_add_left 1 i)),rfl⟩
 ·rename_i hltL
  have hltL:ltL (txt w n) (oB a.L k)=false:=cH hltL
  have hI':FaI a.L (txt w n) k j (lcp (txt w n) (oB a.L k)) cj:=⟨m2,hlt,.inr ⟨hltL,rfl,hk⟩,hI.at_j⟩
  refine cA (λq=>?_) λq=>?_
  ·have q:=aqo (bB q)
   have fin:FaE a.L (txt w n) k (lcp (txt w n) (oB a.L k)):=.inl ⟨hltL,rfl,hk,λm hm hp=>oK (cE (hI'.past hs hm hp) q)⟩
   refine cA (λq2=>λσ hσ=>hq σ _ _ _ _ _ hσ fin) λq2=>cA (λq3=>λσ hσ=>hq σ _ _ _ _ _ hσ fin) λq3=>cA (λq4=>λσ hσ=>hq σ _ _ _ _ _ hσ fin) λq4=>?_
   have q2:k=0:=Nat.eq_zero_of_not_pos λh=>pF q2 (kJ h)
   have hk1:k=0/\j=1:=⟨q2,m3.elim (λh=>absurd (q2▸h.1) (Nat.not_lt_zero _)) λh=>h.2.1⟩
   intro σ hσ
   exact⟨(j-k)+0,by rw[q4];exact iD (Nat.sub_le_sub_left m1 j) (Nat.lt_add_of_pos_right (by decide)),_,j,_,cj,true,hσ,hI',.inr hk1,λ_=>hk1,rfl⟩
  ·have q:=aqp (pF q)
   have hik:i<k:=m3.elim (λh=>h.1) λh=>absurd (h.2.1▸q) (Nat.not_lt.mpr (Nat.le_add_left 1 k))
   intro σ hσ
   exact⟨_,Nat.add_lt_add_right (Nat.sub_lt_sub_left (cE hik m2) hik) _,_,j,_,cj,f,hσ,hI',.inl (Nat.le_sub_of_add_le (Nat.add_comm 2 k▸q)),λz=>absurd ((hf z).2▸q) (Nat.not_lt.mpr (Nat.le_add_left 1 k)),rfl⟩
theorem kfA {g:Gr}{t:Tb}{c:Cx}(O:mB g t c)(X:fI g)(n:Nat){b2:List Stmt}{Q:Out×AS->Prop}:∀(b:List Stmt) (σ:AS),(aiB (aiS t n) b σ).sat (Seq g c b2 Q)->EB g c (b++b2) σ Q:=by
 intro l0
 induction l0 with
 |nil=>
  intro σ h
  exact h
 |cons st r ih=>
  intro σ h
  exact rA (cJ O X n _ _ _ (T.sat_mono (λ⟨o,σ'⟩ hx=>by
   induction o using Mine.Out.casesOn with
   |next=>exact ih σ' hx
   |_=>exact hx) (cB h)))
noncomputable def tnA (r:Option AmE)(e:AmE):Bool:=match r with|none=>true|some x=>decide (x.s.length<e.s.length)
noncomputable def gK (t:List Nat):List AmE->Option AmE->Option AmE
 |[],r=>r
 |e::L,r=>gK t L (if(keyOf e).isPrefixOf t&&tnA r e then some e else r)
theorem uhA {t:List Nat}{x:AmE}:∀{L:List AmE},(∀e∈L,(keyOf e).isPrefixOf t=true->e.s.length<=x.s.length)->gK t L (some x)=some x:=by
 intro l0
 induction l0 with
 |nil=>
  intro ø
  exact rfl
 |cons e L ih=>
  intro h
  unfold gK
  rw[if_neg]
  ·exact ih λe he=>h e (.tail _ he)
  ·intro q
   replace q:=bmp id id q
   have:=h e (.head _) q.1
   have q2:x.s.length<e.s.length:=bB q.2
   exact absurd ‹_› (Nat.not_lt.mpr ‹_›)
theorem rU {t:List Nat}{x:AmE}(hx:(keyOf x).isPrefixOf t=true):∀{L:List AmE} {r:Option AmE},x∈L->(∀e∈L,(keyOf e).isPrefixOf t=true->e=x\/e.s.length<x.s.length)->(∀y,r=some y->y.s.length<x.s.length)->gK t L r=some x
 |e::L,r,hm,h,hr=>by
  unfold gK
  by_cases q:e=x
  ·subst q
   rw[if_pos]
   ·exact uhA λe he hp=>by
     rcases h e (.tail _ he) hp with rfl|h
     ·exact vD _
     ·exact iC h
   ·refine(oA ..).mpr ?_
    refine⟨hx,?_⟩
    induction r using Option.casesOn with
    |none=>rfl
    |some y=>exact pA (hr y rfl)
  ·refine rU hx (by rcases xB hm with rfl|hm;exact absurd rfl q;exact hm) (λe he=>h e (.tail _ he)) λy hy=>?_
   by_cases z:((keyOf e).isPrefixOf t&&tnA r e)=true
   ·rw[if_pos z]at hy
    obtain rfl:=inj hy
    simp only[oA]at z
    refine Or.elim (h e (.head _) z.1) (λz2=>?_) λz2=>?_
    ·exact absurd z2 q
    ·exact z2
   ·rw[if_neg z]at hy
    exact hr y hy
theorem thA {t:List Nat}:∀{L:List AmE},(∀e∈L,(keyOf e).isPrefixOf t=false)->gK t L none=none:=by
 intro l0
 induction l0 with
 |nil=>
  intro ø
  exact rfl
 |cons e L ih=>
  intro h
  unfold gK
  rw[h e (.head _)]
  exact ih λe he=>h e (.tail _ he)
theorem tgA:∀{a b c:List Nat},a.isPrefixOf b=true->b.isPrefixOf c=true->a.isPrefixOf c=true:=λ{a b c} h1 h2=>by
 rw[List.isPrefixOf_iff_prefix]at*
 exact h1.trans h2
theorem deA {a b:List Nat}(h:a.isPrefixOf b=true):a.length<=b.length:=(List.isPrefixOf_iff_prefix.mp h).length_le
theorem puA {a b t:List Nat}(h1:a.isPrefixOf t=true)(h2:b.isPrefixOf t=true)(h:a.length<=b.length):a.isPrefixOf b=true:=by
 rw[List.isPrefixOf_iff_prefix]at*
 exact List.prefix_of_prefix_length_le h1 h2 h
theorem iQ:∀{a k t:List Nat},a.isPrefixOf k=true->(a.isPrefixOf t=decide (a.length<=lcp t k))
 |[],_,_,ø=>by simp
 |x::a,[],ø,h=>by exact nof h
 |x::a,y::k,[],h=>rfl
 |x::a,y::k,z::t,h=>by
  have h5:(x==y&&a.isPrefixOf k)=true:=h
  replace h5:=bmp eq_of_beq id h5
  obtain⟨rfl,h6⟩:=h5
  show(x==z&&a.isPrefixOf t)=_
  unfold lcp
  by_cases q:z=x
  ·subst q
   rw[if_pos rfl,beq_self_eq_true,eD,iQ h6,decide_eq_decide]
   exact vyB
  ·rw[if_neg q,beq_false_of_ne λw=>q w.symm,Bool.false_and]
   symm
   refine(decide_eq_false_iff_not ..).mpr ?_
   simp
theorem zJ (e:AmE):(keyOf e).length=e.s.length:=by unfold keyOf;refine qDzq (List.length_reverse ..) ?_;rfl
theorem iwA {L:List AmE}(hs:hH L=true){t:List Nat}{m k:Nat}(hm:m<L.length)(hk:k<L.length)(h1:(oB L m).isPrefixOf t=true)(h2:(oB L k).isPrefixOf t=true)(h:(oB L m).length=(oB L k).length):m=k:=by
 have e:oB L m=oB L k:=by
  have:=puA h1 h2 (jE h)
  replace this:=(List.isPrefixOf_iff_prefix ..).mp this
  exact this.eq_of_length h
 have no:∀m k,m<k->k<L.length->oB L m=oB L k->False:=λm k h hk e=>by
  have h1:=fC hs m (List.mem_range.mpr (dA ‹_› (iC ‹_›)))
  replace h1:=(oA ..).mp h1;simp only[aF]at h1
  have h2:=fC h1.2 k (List.mem_range.mpr hk)
  rw[pA h]at h2
  simp only[Bool.not_true,Bool.false_or,oA,aF]at h2
  rw[<-e,h1.1]at h2
  cases h2.1
 refine Or.elim (Nat.lt_trichotomy m k) (λh=>?_) λh=>h.elim (λh=>?_) λh=>?_
 ·exact(no m k h hk e).elim
 ·exact h
 ·exact(no k m h hm e.symm).elim
structure AmF (L:List AmE) (i:Nat):Prop where
 sub:(L.getD i default).sub<i
 low:-1<=(L.getD i default).sub
 len:(L.getD i default).s.length<=100
 pre:0<=(L.getD i default).sub->(oB L (L.getD i default).sub.toNat).isPrefixOf (oB L i)=true
 chain:∀m,m<L.length->m≠i->(oB L m).isPrefixOf (oB L i)=true->0<=(L.getD i default).sub/\(oB L m).isPrefixOf (oB L (L.getD i default).sub.toNat)=true
theorem amF {L:List AmE}(h:wcA L=true){i:Nat}(hi:i<L.length):AmF L i:=by
 have h1:=fC h i (List.mem_range.mpr hi)
 simp only[oA,vA,Bool.or_eq_true]at h1
 obtain⟨⟨⟨⟨⟨ø,h2⟩,h3⟩,h4⟩,h5⟩,h6⟩:=h1
 refine⟨h2,h3,h4,λq=>?_,λm hm hne hp=>?_⟩
 ·refine Or.elim h5 (λh5=>?_) λh5=>?_
  ·lia
  ·exact h5
 ·have:=fC h6 m (List.mem_range.mpr hm)
  simp only[Bool.or_eq_true,beq_iff_eq,aF,oA,vA]at this
  rcases this with(h|h)|h
  ·exact absurd h hne
  ·have hp:(keyOf (L.getD m default)).isPrefixOf (keyOf (L.getD i default))=true:=hp
   rw[h]at hp;exact nof hp
  ·exact h
theorem getD_mem {L:List AmE}{m:Nat}(h:m<L.length):L.getD m default∈L:=by
 rw[sD,mG h]
 exact List.getElem_mem h
theorem mem_getD {L:List AmE}{e:AmE}(h:e∈L):∃m,m<L.length/\L.getD m default=e:=by
 refine iB (List.mem_iff_getElem.mp h) λm o1=>?_;obtain⟨hm,e⟩:=o1
 exact jA m hm (by refine qDzq (sD) ?_;rw[mG hm];exact e)
noncomputable def FaK (L:List AmE)(t:List Nat)(x ci:Nat):Prop:=x<L.length/\
 ((∃i,i<L.length/\ci=lcp t (oB L i)/\(oB L x).isPrefixOf (oB L i)=true/\∀m,m<L.length->(oB L m).isPrefixOf t=true->(oB L m).isPrefixOf (oB L x)=true)\/(x=0/\ci=0/\ltL t (oB L 0)=true))
theorem mlA (a:List Nat):a.isPrefixOf a=true:=List.isPrefixOf_iff_prefix.mpr (List.prefix_refl a)
theorem FaE.toK {L:List AmE}{t:List Nat}{i ci:Nat}(hN:0<L.length)(hs:hH L=true)(h:FaE L t i ci):FaK L t i ci:=by
 rcases h with⟨h1,h2,h3,h4⟩|⟨rfl,h2,h3⟩
 ·refine⟨h3,.inl (lW i h3 h2 (mlA _) (λm hm hp=>?_))⟩
  exact pre_of hp (tN hs (h4 m hm hp) h3) h1
 ·exact⟨hN,.inr (cF rfl h2 h3)⟩
theorem FaK.hit {L:List AmE}{t:List Nat}{x ci:Nat}(hs:hH L=true)(h:FaK L t x ci)(hc:(L.getD x default).s.length<=ci):gK t L none=some (L.getD x default):=by
 obtain⟨hx,h|⟨rfl,rfl,h⟩⟩:=h
 ·refine ziA h λi hi o2 hp hm=>?_;obtain rfl:=o2
  have hxt:(oB L x).isPrefixOf t=true:=by
   refine qDzq (iQ hp ..) ?_;refine(vA ..).mpr ?_
   have:=zJ (L.getD x default)
   exact eyB hc this
  refine rU hxt (getD_mem hx) (λe he hep=>?_) λy hy=>by exact no hy
  refine iA (mem_getD he) λm hml o3=>?_;obtain rfl:=o3
  have hep:(oB L m).isPrefixOf t=true:=hep
  have h1:=deA (hm m hml hep)
  have h2:=zJ (L.getD m default)
  have h3:=zJ (L.getD x default)
  have h1:(keyOf (L.getD m default)).length<=(keyOf (L.getD x default)).length:=h1
  by_cases q:(oB L m).length=(oB L x).length
  ·left
   rw[iwA hs hml hx hep hxt q]
  ·right
   have q:¬(keyOf (L.getD m default)).length=(keyOf (L.getD x default)).length:=q
   exact dyB h2 h3 h1 q
 ·have h3:=zJ (L.getD 0 default)
  have e:oB L 0=[]:=List.eq_nil_of_length_eq_zero (cyB hc h3)
  rw[e]at h
  induction t using List.casesOn<;>injection h
theorem FaK.no {L:List AmE}{t:List Nat}{x ci:Nat}(ha:wcA L=true)(hs:hH L=true)(h:FaK L t x ci)(hc:¬(L.getD x default).s.length<=ci)(hsub:(L.getD x default).sub<0):gK t L none=none:=by
 refine thA λe he=>cH λhep=>?_
 refine iA (mem_getD he) λm hml o1=>?_;obtain rfl:=o1
 have hep:(oB L m).isPrefixOf t=true:=hep
 obtain⟨hx,h|⟨rfl,rfl,h⟩⟩:=h
 ·refine ziA h λi hi o4 hp hm=>?_;obtain rfl:=o4
  by_cases q:m=x
  ·subst q
   rw[iQ hp,vA]at hep
   have:=zJ (L.getD m default)
   have hep:(keyOf (L.getD m default)).length<=_:=hep
   exact byB hc this hep
  ·have:=((amF ha hx).chain m hml q (hm m hml hep)).1
   exact ayB hsub this
 ·have h1:=mbA hep h
  rw[tN hs (rC m) hml]at h1
  exact nof h1
theorem FaK.step {L:List AmE}{t:List Nat}{x ci:Nat}(ha:wcA L=true)(h:FaK L t x ci)(hc:¬(L.getD x default).s.length<=ci)(hsub:¬(L.getD x default).sub<0):FaK L t (L.getD x default).sub.toNat ci:=by
 refine gA h λhx h=>?_
 have F:=amF ha hx
 have hs:=F.sub
 rcases h with h|⟨rfl,rfl,h⟩
 ·refine ziA h λi hi o1 hp hm=>?_;obtain rfl:=o1
  refine⟨by exact zxB hsub hx hs,.inl (lW i hi rfl (tgA (F.pre (Int.not_lt.mp ‹_›)) hp) (λm hml hep=>?_))⟩
  by_cases q:m=x
  ·subst q
   rw[iQ hp,vA]at hep
   have:=zJ (L.getD m default)
   have hep:(keyOf (L.getD m default)).length<=_:=hep
   lia
  ·exact(F.chain m hml q (hm m hml hep)).2
 ·lia
noncomputable def rO (a:Fa)(w:List Nat)(n:Nat):V×Mu:=match gK (txt w n) a.L none with
 |some e=>(.int e.res,muS {a.sn with c:=a.c-e.s.length})
 |none=>(.int 0,muS a.sn)
theorem vhA {gr:Gr}{ex:Ex}(G:GX gr ex){cx:Cx}(O:mB gr (xA dFA.2.2 []) cx){a:Fa}{w:List Nat}{n:Nat}
  (hL:a.L.length<=100) (ha:wcA a.L=true) (hs:hH a.L=true) {pos kp:Pos} {kk:Nat} {Q:Out×AS->Prop} {i j ci cj:Nat} {f:Bool} {σ:AS} (hσ:qB fL σ=stF a i j ci cj f) (hI:FaK a.L (txt w n) i ci)
  (hq:∀v σ,(v,σ.μ)=rO a w n->Q (.ret v,σ)):
  ES gr cx (.While (.Constant (.bool true) kk kp) ib [] pos) σ Q:=by
 refine rH fL (λm σ=>∃x:Nat,σ=stF a x j ci cj f/\FaK a.L (txt w n) x ci/\m=x) i (zG i hσ hI rfl) ?_
 intro m σ o1;obtain⟨x,rfl,hK,rfl⟩:=o1
 have hx:=hK.1
 have F:=amF ha hx
 refine fD O (nD G) 12 _ _ _ (uL (names:=fL) (P:=λy=>match y.1 with
  | .next=>∃x',x'<m/\y.2=stF a (x':Nat) j ci cj f/\FaK a.L (txt w n) x' ci
  | .ret v=>(v,y.2.μ)=rO a w n
  |ø=>False) ?_ ?_)
 ·refine(congrArg (λt=>T.sat t _) (dlB a m j ci cj f)).mpr ?_
  rw[Int.toNat_natCast]
  have hl:=F.len
  refine bA (by unfold pE;refine kK (kK pA pA) pA ?_;exact yxB hL hx) (bA (uB (dA ‹_› (by decide))) (cA (λq=>bA (uB (dA ‹_› (by decide))) ?_) λq=>cA (λq2=>?_) λq2=>?_))
  ·have q:=bB q
   show(_,_)=rO a w n
   unfold rO
   rw[hK.hit hs (nH ‹_›)]
  ·have q:=pF q
   show(_,_)=rO a w n
   unfold rO
   simp only[hK.no ha hs (by lia) (bB q2)]
   rfl
  ·have q:=pF q
   have q2:=pF q2
   have hsub:=F.sub
   refine zG ((a.L.getD m default).sub.toNat) (by lia) ?_ (hK.step ha (by lia) q2)
   rw[Int.toNat_of_nonneg (Int.not_lt.mp ‹_›)]
 ·intro o σ h
  induction o using Mine.Out.casesOn with
  |next=>
   refine oM h λx' h1 h2 h3=>?_
   exact jA x' h1 (zG x' h2 h3 rfl)
  |ret v=>exact hq v σ h
  |_=>exact h.elim
noncomputable def ejB:Spec:=mSpec λs r=>vgA s.o (aA r λL r=>a0 r (.need (decide (s.lb=0)&&okS s&&decide (0<L.length)&&decide (L.length<=100)&&wcA L&&hH L) (.ite (gK (txt s.cur.cps.toList s.c.toNat) L none).isSome
  (.ret (.int ((gK (txt s.cur.cps.toList s.c.toNat) L none).getD default).res,{s with c:=s.c-((gK (txt s.cur.cps.toList s.c.toNat) L none).getD default).s.length}))
  (.ret (.int 0,s)))))
theorem hrA {gr:Gr}{ex:Ex}(G:GX gr ex)(n:Nat):SpOK gr (n+1) 255 ejB:=vF λs r Q hq=>by
 obtain⟨cur,c,l,lb,b,k,o⟩:=s
 induction o using Option.casesOn with
 |none=>exact hq.elim
 |some pq=>
 refine jB (biB hq) λL wz1 ez1 hz1=>?_;clear hq
 refine gA (tD hz1) λez2 hz=>?_;clear hz1
 subst ez2 ez1
 have hq:=hz;clear hz
 dsimp only at hq
 obtain⟨p,q⟩:=pq
 refine gA (uD hq) λhn hq1=>?_
 clear hq
 unfold okS at hn
 simp only[oA,vA]at hn
 obtain⟨⟨⟨⟨⟨rfl,⟨h0,h1⟩,h2⟩,hN⟩,hL⟩,ha⟩,hs⟩:=hn
 obtain⟨c,rfl⟩:∃z:Nat,c=z:=yC c.toNat (laA h0)
 have hq:Q (rO ⟨cur,L,c,l,b,k,p,q⟩ cur.cps.toList c):=by
  unfold rO
  simp only[Int.toNat_natCast]at hq1
  cases hf:gK (txt cur.cps.toList c) L none with
  |none=>rw[hf]at hq1;exact hq1.2 rfl
  |some e=>rw[hf]at hq1;exact hq1.1 rfl
 clear hq1
 rw[<-bC cur]at*
 generalize cur.cps.toList=w at*
 have h1:c<=w.length:=by simp only[mk_len]at h1;exact nH ‹_›
 have h2:w.length<=900:=h2
 have hq:Q (rO ⟨mk w,L,c,l,b,k,p,q⟩ w c):=hq
 refine mD G.hK ytA rfl λcx hc hs'=>?_
 have O:mB gr (xA dFA.2.2 []) cx:=cG G (CTOK.nil (n:=n)) hc hs'
 have X:=nD G
 show EB gr cx dFA.2.1 ⟨[("self",.self),("v",.aml L)],muS (Fa.sn ⟨mk w,L,c,l,b,k,p,q⟩)⟩ (dB Q)
 rw[rgB]
 refine kfA O X 12 [fS 0,fS 1,fS 2,fS 3,fS 4,fS 5,fS 6] _ ?_
 refine(congrArg (λt=>T.sat t _) (xnA ⟨mk w,L,c,l,b,k,p,q⟩)).mpr ?_
 refine bA (uB (dA ‹_› (by decide))) ?_
 refine rA (vnA G hc O rfl rfl h1 h2 hL hN (λe he=>by refine iA (mem_getD he) λm hm o2=>?_;obtain rfl:=o2;exact(amF ha hm).len) hs λσ i j ci cj f hσ hE=>?_)
 refine rA (vhA G O hL ha hs hσ (hE.toK hN hs) λv σ e=>?_)
 show Q (v,σ.μ)
 simp only[e]
 exact hq
noncomputable def dRS:Df:=fA 21 16
noncomputable def dSF:Df:=fA 21 17
noncomputable def dSD:Df:=fA 21 18
noncomputable def lRS:List (Addr×Spec):=[(262,qD dRS ["self","c_bra","c_ket","s"] [])]
noncomputable def iN (s:Sn)(x:Str):Sn:={s with cur:=mk (s.cur.cps.toList.take s.b.toNat++x.cps.toList++s.cur.cps.toList.drop s.k.toNat),c:=if s.k<=s.c then s.c+(x.length-(s.k-s.b))else if s.b<s.c then s.b else s.c,l:=s.l+(x.length-(s.k-s.b)),k:=s.b+x.length}
noncomputable def okC (s:Sn)(x:Str):Bool:=decide (0<=s.b)&&decide (s.b<=s.k)&&decide (s.k<=s.l)&&decide (s.l=s.cur.length)&&decide (s.cur.length<=900)&&decide (x.length<=90)
noncomputable def drA:Spec:=mSpec λs r=>aS r λx r=>a0 r (.need (okC s x) (.ret (.none,iN s x)))
noncomputable def sx1 (s:Sn)(x:Str):AS:=⟨[("self",.self),("s",.str x)],muS s⟩
noncomputable abbrev xD {α:Type}(n:Nat)(t:T α):T α:=.need (decide (n<=big)) t
noncomputable def ulA (cur x:Str)(b k:Int):Str:=Txt.slice cur (some 0) (some b)++x++Txt.slice cur (some k) none
noncomputable def tSF (cur x:Str)(c l b k:Int)(f:Int->T (Out×AS)):T (Out×AS):=
 .need (decide (0<=b)) (.need (decide (b<=k)) (.need (decide (k<=l)) (xD cur.length (.need (decide (l<=cur.length)) (xD x.length (xD cur.length (.need (jD (Txt.slice cur (some 0) (some b)) x) (xD cur.length
 (.need (jD (Txt.slice cur (some 0) (some b)++x) (Txt.slice cur (some k) none)) (.ite (decide (k<=c)) (xD x.length (f (c+(x.length-(k-b))))) (.ite (decide (b<c)) (xD x.length (f b)) (xD x.length (f c)))))))))))))
section
variable (cur x:Str)(c l lb b k p q:Int)
theorem orA:aiB (aiS (xA dSF.2.2 lRS) 12) dSF.2.1 (sx1 ⟨cur,c,l,lb,b,k,some (p,q)⟩ x)=tSF cur x c l b k λc'=>.ret (.next,sx1 ⟨ulA cur x b k,c',l+(x.length-(k-b)),lb,b,b+x.length,some (p,q)⟩ x):=by kernel_rfl
theorem prA:aiB (aiS (xA dSF.2.2 lRS) 12) dSF.2.1 (sx1 ⟨cur,c,l,lb,b,k,none⟩ x)=tSF cur x c l b k λc'=>.ret (.next,sx1 ⟨ulA cur x b k,c',l+(x.length-(k-b)),lb,b,b+x.length,none⟩ x):=by kernel_rfl
end
theorem qmA {gr:Gr}{ex:Ex}(G:GX gr ex)(n:Nat):CTOK gr (n+1) lRS:=.cons (nB G (CTOK.nil (n:=n)) xtA) .nil
theorem rM {w:List Nat}{b:Nat}(hb:b<=w.length):Txt.slice (mk w) (some 0) (some (b:Int))=mk (w.take b):=by
 refine qDzq (fG ..) ?_
 congr 1
 have e1:jC w.length w.length (some (b:Int))=b:=by unfold jC;lia
 have e2:jC w.length 0 (some 0)=0:=by rfl
 simp only[e1,e2]
 rfl
theorem gN {w:List Nat}{k:Nat}(hk:k<=w.length):Txt.slice (mk w) (some (k:Int)) none=mk (w.drop k):=by
 refine qDzq (fG ..) ?_
 congr 1
 have e1:jC w.length w.length none=w.length:=rfl
 have e2:jC w.length 0 (some (k:Int))=k:=by unfold jC;lia
 simp only[e1,e2,List.take_length]
theorem cW {w y:List Nat}{b k:Nat}(hb:b<=w.length)(hk:k<=w.length):ulA (mk w) (mk y) b k=mk (w.take b++y++w.drop k):=by
 unfold ulA
 simp only[rM hb,gN hk,qF,qF]
theorem mdA {w y:List Nat}{c l:Int}{b k:Nat}{f:Int->T (Out×AS)}{Q:Out×AS->Prop}(hbk:b<=k)(hk:k<=w.length)(hl:l=w.length)(hw:w.length<=900)(hy:y.length<=90)
  (h:(f (if(k:Int)<=c then c+(y.length-((k:Int)-b))else if(b:Int)<c then(b:Int)else c)).sat Q):(tSF (mk w) (mk y) c l b k f).sat Q:=by
 subst hl
 have e1:=rM (w:=w) (b:=b) (dA ‹_› ‹_›)
 have e2:=gN (w:=w) (k:=k) ‹_›
 unfold tSF
 simp only[e1,e2]
 refine bA (by refine(vA ..).mpr ?_;exact gD _) (bA (by refine(vA ..).mpr ?_;exact wI ‹_›) (bA (by refine(vA ..).mpr ?_;exact wI ‹_›) (bA (uB (by rw[mk_len];exact dA ‹_› (by decide))) (bA (by rw[mk_len,vA];exact siA) (bA (uB (by rw[mk_len];exact dA ‹_› (by decide))) (bA (uB (by rw[mk_len];exact dA ‹_› (by decide))) (bA ?_ (bA (uB (by rw[mk_len];exact dA ‹_› (by decide))) (bA ?_ ?_)))))))))
 ·exact uE (by simp only[mk_len,gF];exact jvB hbk hk hw) (by rw[mk_len];exact dA ‹_› (by decide))
 ·exact uE (by simp only[qF,mk_len,vC,gF];exact ivB hbk hk hw hy) (by simp only[mk_len,List.length_drop];exact hvB hw)
 ·refine cA (λz=>bA (uB (by rw[mk_len];exact dA ‹_› (by decide))) ?_) λz=>cA (λz2=>bA (uB (by rw[mk_len];exact dA ‹_› (by decide))) ?_) λz2=>bA (uB (by rw[mk_len];exact dA ‹_› (by decide))) ?_
  ·rw[if_pos (bB z)]at h
   exact h
  ·rw[if_neg (pF z),if_pos (bB z2)]at h
   exact h
  ·rw[if_neg (pF z),if_neg (pF z2)]at h
   exact h
theorem uV {gr:Gr}{ex:Ex}(G:GX gr ex)(n:Nat):SpOK gr (n+2) 269 drA:=vF λs r Q hq=>by
 obtain⟨cur,c,l,lb,b,k,o⟩:=s
 refine jB (lG hq) λx wz1 ez1 hz1=>?_;clear hq
 refine gA (tD hz1) λez2 hz=>?_;clear hz1
 subst ez2 ez1
 have hq:=hz;clear hz
 refine gA (uD hq) λhn hq=>?_
 unfold okC at hn
 simp only[oA,vA]at hn
 obtain⟨⟨⟨⟨⟨h0,h1⟩,h2⟩,h3⟩,h4⟩,h5⟩:=hn
 obtain⟨b,rfl⟩:∃z:Nat,b=z:=yC b.toNat (laA h0)
 obtain⟨k,rfl⟩:∃z:Nat,k=z:=yC k.toNat (gvB h1)
 rw[<-bC cur,<-bC x]at*
 generalize cur.cps.toList=w at*
 generalize x.cps.toList=y at*
 simp only[mk_len]at h3 h4 h5
 have hb:b<=w.length:=by exact fvB h2 h1 h3
 have hk:k<=w.length:=by exact dvB h2 h3
 refine mD G.hK wtA rfl λcx hc hs=>?_
 have O:mB gr (xA dSF.2.2 lRS) cx:=cG G (qmA G n) hc hs
 show EB gr cx dSF.2.1 (sx1 ⟨mk w,c,l,lb,b,k,o⟩ (mk y)) (dB Q)
 refine fD O (nD G) 12 _ _ _ ?_
 have hq:Q (.none,muS (iN ⟨mk w,c,l,lb,b,k,o⟩ (mk y))):=hq
 induction o using Option.casesOn with
 |none=>
  rw[prA]
  refine mdA (nH ‹_›) hk h3 h4 h5 ?_
  rw[cW hb hk]
  exact hq
 |some pq=>
  obtain⟨p,q⟩:=pq
  rw[orA]
  refine mdA (nH ‹_›) hk h3 h4 h5 ?_
  rw[cW hb hk]
  exact hq
noncomputable def lSD:List (Addr×Spec):=[(269,drA)]
noncomputable def djB:Spec:=mSpec λs r=>a0 r (.need (okC s "") (.ret (.none,iN s "")))
theorem rrA (cur:Str)(c l lb b k p q:Int):aiB (aiS (xA dSD.2.2 lSD) 12) dSD.2.1 ⟨[("self",.self)],muS ⟨cur,c,l,lb,b,k,some (p,q)⟩⟩=.need (okC ⟨cur,c,l,lb,b,k,some (p,q)⟩ "") (.ret (.ret .none,⟨[("self",.self)],muS (iN ⟨cur,c,l,lb,b,k,some (p,q)⟩ "")⟩)):=by kernel_rfl
theorem srA (cur:Str)(c l lb b k:Int):aiB (aiS (xA dSD.2.2 lSD) 12) dSD.2.1 ⟨[("self",.self)],muS ⟨cur,c,l,lb,b,k,none⟩⟩=.need (okC ⟨cur,c,l,lb,b,k,none⟩ "") (.ret (.ret .none,⟨[("self",.self)],muS (iN ⟨cur,c,l,lb,b,k,none⟩ "")⟩)):=by kernel_rfl
theorem erA {gr:Gr}{ex:Ex}(G:GX gr ex)(n:Nat):SpOK gr (n+3) 276 djB:=vF λs r Q hq=>by
 obtain⟨cur,c,l,lb,b,k,o⟩:=s
 refine gA (tD hq) λez1 hz=>?_;clear hq
 subst ez1
 have hq:=hz;clear hz
 refine mD G.hK vtA rfl λcx hc hs=>?_
 have O:mB gr (xA dSD.2.2 lSD) cx:=cG G (.cons (uV G n) .nil) hc hs
 show EB gr cx dSD.2.1 ⟨[("self",.self)],muS ⟨cur,c,l,lb,b,k,o⟩⟩ (dB Q)
 refine fD O (nD G) 12 _ _ _ ?_
 induction o using Option.casesOn with
 |none=>rw[srA];exact hq
 |some pq=>rw[rrA];exact hq
noncomputable def vxA:Df:=fA 21 19
noncomputable def enA (s:Sn)(x:Str):Sn:={s with cur:=mk (s.cur.cps.toList.take s.c.toNat++x.cps.toList++s.cur.cps.toList.drop s.c.toNat),c:=s.c+x.length,l:=s.l+x.length,b:=if s.c<=s.b then s.b+x.length else s.b,k:=if s.c<=s.k then s.k+x.length else s.k}
noncomputable def tyA:Spec:=mSpec λs r=>vgA s.o (aI r λa r=>aI r λa' r=>aS r λx r=>a0 r (.need (decide (a=s.c)&&decide (a'=s.c)&&okS s&&decide (x.length<=90)) (.ret (.none,enA s x))))
noncomputable def sIn (s:Sn)(a:Int)(x:Str):AS:=⟨[("self",.self),("c_bra",.int a),("c_ket",.int a),("s",.str x)],muS s⟩
noncomputable def sIr (s:Sn)(a:Int)(x:Str):AS:=⟨[("self",.self),("c_bra",.int a),("c_ket",.int a),("s",.str x),("adjustment",.int (x.length-(a-a)))],muS s⟩
noncomputable def tIn (cur x:Str)(c b k a:Int)(f:Int->Int->Int->T (Out×AS)):T (Out×AS):=
 let ad:Int:=x.length-(a-a)
 let g:Int->T (Out×AS):=λc=>.ite (decide (a<=b)) (.ite (decide (a<=k)) (f c (b+ad) (k+ad)) (f c (b+ad) k)) (.ite (decide (a<=k)) (f c b (k+ad)) (f c b k))
 xD x.length (xD cur.length (.need (jD (Txt.slice cur (some 0) (some a)) x) (xD cur.length
  (.need (jD (Txt.slice cur (some 0) (some a)++x) (Txt.slice cur (some a) none)) (.ite (decide (a<=c)) (g (c+ad)) (.ite (decide (a<c)) (g a) (g c)))))))
theorem cnA (cur x:Str)(c l lb b k p q a:Int):aiB (aiS (xA vxA.2.2 lRS) 12) vxA.2.1 (sIn ⟨cur,c,l,lb,b,k,some (p,q)⟩ a x)=
  tIn cur x c b k a λc b k=>.ret (.next,sIr ⟨ulA cur x a a,c,l+(x.length-(a-a)),lb,b,k,some (p,q)⟩ a x):=by kernel_rfl
theorem yjA {gr:Gr}{ex:Ex}(G:GX gr ex)(n:Nat):SpOK gr (n+2) 283 tyA:=vF λs r Q hq=>by
 obtain⟨cur,c,l,lb,b,k,o⟩:=s
 induction o using Option.casesOn with
 |none=>exact hq.elim
 |some pq=>
 obtain⟨p,q⟩:=pq
 refine jB (bX hq) λa wz1 ez1 hz1=>?_;clear hq
 refine jB (bX hz1) λa' wz2 ez2 hz2=>?_;clear hz1
 refine jB (lG hz2) λx wz3 ez3 hz3=>?_;clear hz2
 refine gA (tD hz3) λez4 hz=>?_;clear hz3
 subst ez4 ez3 ez2 ez1
 have hq:=hz;clear hz
 dsimp only at hq
 refine gA (uD hq) λhn hq=>?_
 unfold okS at hn
 simp only[oA,vA]at hn
 refine gA hn λo1 h3=>?_;obtain⟨⟨rfl,rfl⟩,⟨h0,h1⟩,h2⟩:=o1
 obtain⟨c,rfl⟩:∃z:Nat,a'=z:=yC a'.toNat (laA h0)
 rw[<-bC cur,<-bC x]at*
 generalize cur.cps.toList=w at*
 generalize x.cps.toList=y at*
 simp only[mk_len]at h1 h2 h3
 have hcw:c<=w.length:=by exact nH ‹_›
 have hq:Q (.none,muS (enA ⟨mk w,c,l,lb,b,k,some (p,q)⟩ (mk y))):=hq
 unfold enA at hq
 simp only[mk_len,mk_list,Int.toNat_natCast]at hq
 refine mD G.hK utA rfl λcx hc hs=>?_
 have O:mB gr (xA vxA.2.2 lRS) cx:=cG G (qmA G n) hc hs
 show EB gr cx vxA.2.1 (sIn ⟨mk w,c,l,lb,b,k,some (p,q)⟩ c (mk y)) (dB Q)
 refine fD O (nD G) 12 _ _ _ ?_
 rw[cnA]
 unfold tIn
 have e1:=rM (w:=w) (b:=c) hcw
 have e2:=gN (w:=w) (k:=c) hcw
 rw[e1,e2,cW hcw hcw]
 have e3:((mk y).length:Int)-((c:Int)-c)=y.length:=by simp only[mk_len];exact cvB
 rw[e3]
 refine bA (uB (by rw[mk_len];exact dA ‹_› (by decide))) (bA (uB (by rw[mk_len];exact dA ‹_› (by decide))) (bA ?_ (bA (uB (by rw[mk_len];exact dA ‹_› (by decide))) (bA ?_ (cA (λø=>?_) λz=>?_)))))
 ·exact uE (by simp only[mk_len,gF];exact bvB h2 h1 hcw) (by rw[mk_len];exact dA ‹_› (by decide))
 ·exact uE (by simp only[qF,mk_len,vC,gF];exact avB h2 h1 h3 hcw) (by simp only[mk_len,List.length_drop];exact zuB h2 h1)
 ·refine cA (λz=>cA (λz2=>?_) λz2=>?_) λz=>cA (λz2=>?_) λz2=>?_
  ·rw[if_pos (bB z),if_pos (bB z2)]at hq;exact hq
  ·rw[if_pos (bB z),if_neg (pF z2)]at hq;exact hq
  ·rw[if_neg (pF z),if_pos (bB z2)]at hq;exact hq
  ·rw[if_neg (pF z),if_neg (pF z2)]at hq;exact hq
 ·exact absurd (Int.le_refl _) (pF z)
noncomputable def ogB:Df:=fA 21 6
noncomputable def kgB:Df:=fA 21 10
noncomputable def dSh:Df:=fA 25 4
noncomputable def kG (g inn:Bool)(w:List Nat)(c:Nat):Bool:=decide (0<c)&&(oF g (w.getD (c-1) 0)==inn)
noncomputable def dkA (inn:Bool):Spec:=mSpec λs r=>vgA s.o (aH r λg r=>a0 r (.need (decide (s.lb=0)&&okS s) (.ret (.bool (kG g inn s.cur.cps.toList s.c.toNat),{s with c:=s.c-(if kG g inn s.cur.cps.toList s.c.toNat then 1 else 0)}))))
section
variable (cur:Str)(c l lb b k p q:Int)(g:Bool)
theorem hnA:aiB (aiS (xA ogB.2.2 []) 12) ogB.2.1 (sg ⟨cur,c,l,lb,b,k,some (p,q)⟩ g)=.ite (decide (c<=lb)) (.ret (.ret (.bool false),sg ⟨cur,c,l,lb,b,k,some (p,q)⟩ g))
  (.need (cC cur (c-1)) (.ite (!rD g (Txt.item cur (c-1))) (.ret (.ret (.bool false),sg ⟨cur,c,l,lb,b,k,some (p,q)⟩ g)) (.ret (.ret (.bool true),sg ⟨cur,c-1,l,lb,b,k,some (p,q)⟩ g)))):=by kernel_rfl
theorem slA:aiB (aiS (xA kgB.2.2 []) 12) kgB.2.1 (sg ⟨cur,c,l,lb,b,k,some (p,q)⟩ g)=.ite (decide (c<=lb)) (.ret (.ret (.bool false),sg ⟨cur,c,l,lb,b,k,some (p,q)⟩ g))
  (.need (cC cur (c-1)) (.ite (!rD g (Txt.item cur (c-1))) (.ret (.ret (.bool true),sg ⟨cur,c-1,l,lb,b,k,some (p,q)⟩ g)) (.ret (.ret (.bool false),sg ⟨cur,c,l,lb,b,k,some (p,q)⟩ g)))):=by kernel_rfl
end
theorem lzA {gr:Gr}{ex:Ex}(G:GX gr ex)(n:Nat)(inn:Bool)(a:Addr)(d:Df)(R:qA a d ["self","s"])
  (ht:∀cur c l lb b k p q g,aiB (aiS (xA d.2.2 []) 12) d.2.1 (sg ⟨cur,c,l,lb,b,k,some (p,q)⟩ g)=.ite (decide (c<=lb)) (.ret (.ret (.bool false),sg ⟨cur,c,l,lb,b,k,some (p,q)⟩ g))
   (.need (cC cur (c-1)) (.ite (!rD g (Txt.item cur (c-1))) (.ret (.ret (.bool !inn),sg ⟨cur,if inn then c else c-1,l,lb,b,k,some (p,q)⟩ g)) (.ret (.ret (.bool inn),sg ⟨cur,if inn then c-1 else c,l,lb,b,k,some (p,q)⟩ g))))):
  SpOK gr (n+1) a (dkA inn):=vF λs r Q hq=>by
 obtain⟨cur,c,l,lb,b,k,o⟩:=s
 induction o using Option.casesOn with
 |none=>exact hq.elim
 |some pq=>
 obtain⟨p,q⟩:=pq
 refine jB (zcA hq) λg wz1 ez1 hz1=>?_;clear hq
 refine gA (tD hz1) λez2 hz=>?_;clear hz1
 subst ez2 ez1
 have hq:=hz;clear hz
 dsimp only at hq
 refine gA (uD hq) λhn hq1=>?_
 clear hq
 unfold okS at hn
 simp only[oA,vA]at hn
 refine vH hn λo1 o2 h2=>?_;obtain rfl:=o1;obtain⟨h0,h1⟩:=o2
 obtain⟨c,rfl⟩:∃z:Nat,c=z:=yC c.toNat (laA h0)
 rw[<-bC cur]at*
 generalize cur.cps.toList=w at*
 simp only[mk_len]at h1 h2
 have hq:Q (.bool (kG g inn w c),muS ⟨mk w,(c:Int)-(if kG g inn w c then 1 else 0),l,0,b,k,some (p,q)⟩):=hq1
 clear hq1
 refine mD G.hK R rfl λcx hc hs=>?_
 have O:mB gr (xA d.2.2 []) cx:=cG G (CTOK.nil (n:=n)) hc hs
 show EB gr cx d.2.1 (sg ⟨mk w,c,l,0,b,k,some (p,q)⟩ g) (dB Q)
 refine fD O (nD G) 12 _ _ _ ?_
 rw[ht]
 refine cA (λz=>?_) λz=>?_
 ·have z:=bB z
  have e:kG g inn w c=false:=by unfold kG;rw[rG (by lia)];rfl
  rw[e]at hq
  exact hq
 ·have z:=pF z
  have e1:(c:Int)-1=((c-1:Nat):Int):=by exact jpA z
  have e0:decide (0<c)=true:=pA (by exact Int.ofNat_lt.mp (Int.not_le.mp ‹_›))
  unfold kG at hq
  rw[e0,eD]at hq
  rw[e1,xF (vaB h1 z)]
  refine bA (cD (by simp only[mk_len];exact vaB h1 z) (by simp only[mk_len];exact dA ‹_› (by decide))) (cA (λz2=>?_) λz2=>?_)
  ·have z2:oF g (w.getD (c-1) 0)=false:=by simpa [oF]using z2
   rw[z2]at hq
   induction inn using Bool.casesOn with
   |true=>
    have hq:Q (.bool false,muS ⟨mk w,c,l,0,b,k,some (p,q)⟩):=by simpa using hq
    exact hq
   |false=>simp only[beq_self_eq_true,if_true,e1]at hq;exact hq
  ·have z2:oF g (w.getD (c-1) 0)=true:=by simpa [oF]using z2
   rw[z2]at hq
   induction inn using Bool.casesOn with
   |true=>simp only[beq_self_eq_true,if_true,e1]at hq;exact hq
   |false=>
    have hq:Q (.bool false,muS ⟨mk w,c,l,0,b,k,some (p,q)⟩):=by simpa using hq
    exact hq
theorem zjA {gr:Gr}{ex:Ex}(G:GX gr ex)(n:Nat):SpOK gr (n+1) 192 (dkA true):=lzA G n true 192 ogB cuA hnA
theorem wjA {gr:Gr}{ex:Ex}(G:GX gr ex)(n:Nat):SpOK gr (n+1) 220 (dkA false):=lzA G n false 220 kgB auA slA
noncomputable def bE (w:List Nat)(c:Nat):Bool:=kG true false w c&&kG false true w (c-1)&&kG false false w (c-2)
noncomputable def lSh:List (Addr×Spec):=[(192,dkA true),(220,dkA false)]
noncomputable def s1 (s:Sn):AS:=⟨[("self",.self)],muS s⟩
noncomputable def bjB:Spec:=mSpec λs r=>vgA s.o (a0 r (.need (decide (s.lb=0)&&okS s) (.anyI λc'=>.ret (.bool (bE s.cur.cps.toList s.c.toNat),{s with c:=c'}))))
noncomputable def qlA (s:Sn):Bool:=decide (s.lb=0)&&okS s
theorem nrA (cur:Str)(c l lb b k p q:Int):aiB (aiS (xA dSh.2.2 lSh) 12) dSh.2.1 (s1 ⟨cur,c,l,lb,b,k,some (p,q)⟩)=
  (let w:=cur.cps.toList
  let x1:=kG true false w c.toNat
  let c1:Int:=c-(if x1 then 1 else 0)
  let x2:=kG false true w c1.toNat
  let c2:Int:=c1-(if x2 then 1 else 0)
  let x3:=kG false false w c2.toNat
  let c3:Int:=c2-(if x3 then 1 else 0)
  .need (qlA ⟨cur,c,l,lb,b,k,some (p,q)⟩) (.ite (!x1) (.ret (.ret (.bool false),s1 ⟨cur,c1,l,lb,b,k,some (p,q)⟩))
   (.need (qlA ⟨cur,c1,l,lb,b,k,some (p,q)⟩) (.ite (!x2) (.ret (.ret (.bool false),s1 ⟨cur,c2,l,lb,b,k,some (p,q)⟩))
   (.need (qlA ⟨cur,c2,l,lb,b,k,some (p,q)⟩) (.ret (.ret (.bool x3),s1 ⟨cur,c3,l,lb,b,k,some (p,q)⟩))))))):=by kernel_rfl
theorem gaA {g inn:Bool}{w:List Nat}{c:Nat}(h:kG g inn w c=true):0<c:=by
 unfold kG at h
 replace h:=bmp bB bB h
 exact h.1
theorem hfB {gr:Gr}{ex:Ex}(G:GX gr ex)(n:Nat):CTOK gr (n+1) lSh:=.cons (zjA G n) (.cons (wjA G n) .nil)
theorem brA {gr:Gr}{ex:Ex}(G:GX gr ex)(n:Nat):SpOK gr (n+2) 355 bjB:=vF λs r Q hq=>by
 obtain⟨cur,c,l,lb,b,k,o⟩:=s
 induction o using Option.casesOn with
 |none=>exact hq.elim
 |some pq=>
 obtain⟨p,q⟩:=pq
 refine gA (tD hq) λez1 hz=>?_;clear hq
 subst ez1
 have hq:=hz;clear hz
 dsimp only at hq
 refine gA (uD hq) λhn hq1=>?_
 clear hq
 unfold okS at hn
 simp only[oA,vA]at hn
 obtain⟨rfl,⟨h0,h1⟩,h2⟩:=hn
 obtain⟨c,rfl⟩:∃z:Nat,c=z:=yC c.toNat (laA h0)
 rw[<-bC cur]at*
 generalize cur.cps.toList=w at*
 simp only[mk_len]at h1 h2
 have hq:∀(v:Bool) (y:Int),bE w c=v->Q (.bool v,muS ⟨mk w,y,l,0,b,k,some (p,q)⟩):=λv y e=>by subst e;exact hq1 y
 clear hq1
 refine mD G.hK stA rfl λcx hc hs=>?_
 have O:mB gr (xA dSh.2.2 lSh) cx:=cG G (hfB G n) hc hs
 show EB gr cx dSh.2.1 (s1 ⟨mk w,c,l,0,b,k,some (p,q)⟩) (dB Q)
 refine fD O (nD G) 12 _ _ _ ?_
 simp only[nrA]
 have ok:∀y:Int,0<=y->y<=c->qlA ⟨mk w,y,l,0,b,k,some (p,q)⟩=true:=λy a1 a2=>by
  unfold qlA okS
  rw[oA,oA,oA]
  exact cF (pA rfl) ⟨pA a1,pA (by simp only[mk_len];exact xuB h1 a2)⟩ (pA h2)
 refine bA (ok _ ‹_› siA) ?_
 simp only[mk_list,Int.toNat_natCast]
 refine Or.elim (Bool.eq_false_or_eq_true (kG true false w c)) (λe1=>?_) λe1=>?_
 rotate_left
 ·exact⟨λø=>hq _ _ (by unfold bE;rw[e1];rfl),λz=>by rw[e1]at z;exact nomatch z⟩
 have p1:=gaA e1
 refine cA (λz=>by rw[e1]at z;exact nof z) λø=>?_
 simp only[e1,if_true]
 refine bA (ok _ (wuB p1) vuB) ?_
 rw[show((c:Int)-1).toNat=c-1 by exact uuB p1]
 refine Or.elim (Bool.eq_false_or_eq_true (kG false true w (c-1))) (λe2=>?_) λe2=>?_
 rotate_left
 ·exact⟨λø=>hq _ _ (by unfold bE;simp only[e1,e2];rfl),λz=>by rw[e2]at z;exact nomatch z⟩
 have p2:=gaA e2
 refine cA (λz=>by rw[e2]at z;exact nof z) λø=>?_
 simp only[e2,if_true]
 refine bA (ok _ (tuB p1 p2) suB) ?_
 rw[show((c:Int)-1-1).toNat=c-2 by exact ruB p1]
 exact hq _ _ (by unfold bE;simp only[e1,e2];rfl)
noncomputable def lB:List (Addr×Spec):=[(227,uyA),(255,ejB),(269,drA),(276,djB),(283,tyA),(355,bjB),(362,qD (fA 25 5) ["self"] []),(369,qD (fA 25 6) ["self"] [])]
theorem okB {gr:Gr}{ex:Ex}(G:GX gr ex)(n:Nat):CTOK gr (n+3) lB:=
 .cons (ckA G (n+2)) (.cons (hrA G (n+2)) (.cons (uV G (n+1)) (.cons (erA G n) (.cons (yjA G (n+1)) (.cons (brA G (n+1)) (.cons (nB G (CTOK.nil (n:=n+2)) rtA) (.cons (nB G (CTOK.nil (n:=n+2)) qtA) .nil)))))))
noncomputable def dF (f:List Nat->Int->Int->List Nat):Spec:=mSpec λs r=>match s.o with
 |none=>.fail
 |some (p,q)=>a0 r (.need (decide (s.lb=0)&&decide (s.c=s.cur.length)&&decide (s.l=s.cur.length)&&decide (s.cur.length<=800)) (.anyI λt=>.anyI λc=>.anyI λb=>.anyI λk=>
  .ret (.bool (t==0),⟨mk (f s.cur.cps.toList p q),c,((f s.cur.cps.toList p q).length:Nat),0,b,k,some (p,q)⟩)))
noncomputable def Fin (Q:V×Mu->Prop)(p q:Int)(w:List Nat):Prop:=∀(r:Bool) (c b k:Int),Q (.bool r,muS ⟨mk w,c,(w.length:Nat),0,b,k,some (p,q)⟩)
theorem gI {gr:Gr}{ex:Ex}(G:GX gr ex)(n:Nat)(f:List Nat->Int->Int->List Nat)(a:Addr)(d:Df)(R:qA a d ["self"])
  (h:∀(w:List Nat) (b k p q:Int) (Q:V×Mu->Prop),w.length<=800->Fin Q p q (f w p q)->(aiB (aiS (xA d.2.2 lB) 12) d.2.1 (s1 ⟨mk w,(w.length:Nat),(w.length:Nat),0,b,k,some (p,q)⟩)).sat (dB Q)):
  SpOK gr (n+4) a (dF f):=vF λs r Q hq=>by
 obtain⟨cur,c,l,lb,b,k,o⟩:=s
 induction o using Option.casesOn with
 |none=>exact hq.elim
 |some pq=>
 obtain⟨p,q⟩:=pq
 refine gA (tD hq) λez1 hz=>?_;clear hq
 subst ez1
 have hq:=hz;clear hz
 dsimp only at hq
 refine gA (uD hq) λhn hq1=>?_
 clear hq
 replace hn:=bmp (bmp (bmp bB bB) bB) bB hn
 obtain⟨⟨⟨rfl,rfl⟩,rfl⟩,h2⟩:=hn
 refine mD G.hK R rfl λcx hc hs=>?_
 have O:mB gr (xA d.2.2 lB) cx:=cG G (okB G n) hc hs
 refine fD O (nD G) 12 _ _ _ ?_
 exact h cur.cps.toList b k p q Q h2 λr c b k=>by
  have:=hq1 (if r then 0 else 1) c b k
  induction r using Bool.casesOn<;>exact this
noncomputable abbrev RT (v:Bool)(s:Sn):T (Out×AS):=.ret (.ret (.bool v),⟨[],muS s⟩)
noncomputable def okA (s:Sn)(L:List AmE):Bool:=decide (s.lb=0)&&okS s&&decide (0<L.length)&&decide (L.length<=100)&&wcA L&&hH L
noncomputable abbrev faO (s:Sn)(L:List AmE):Option AmE:=gK (txt s.cur.cps.toList s.c.toNat) L none
noncomputable def tFA (s:Sn)(L:List AmE)(K:Int->Sn->T (Out×AS)):T (Out×AS):=.need (okA s L) (.ite (faO s L).isSome (K ((faO s L).getD default).res {s with c:=s.c-((faO s L).getD default).s.length}) (K 0 s))
noncomputable def eJ (s:Sn)(x:Str)(K:Sn->T (Out×AS)):T (Out×AS):=.need (okC s x) (K (iN s x))
noncomputable def tOr (s:Sn)(y:Str)(R C:T (Out×AS)):T (Out×AS):=.ite (decide (s.c<=s.lb)) (.ite true R C) (.need (cC s.cur (s.c-1)) (.ite (Txt.item s.cur (s.c-1) !=y) (.ite true R C) (.ite false R C)))
noncomputable def tGo (s:Sn)(K:Bool->Sn->T (Out×AS)):T (Out×AS):=.need (decide (s.lb=0)&&okS s) (K (decide (0<goB false s.cur.cps.toList s.c.toNat)) {s with c:=goB false s.cur.cps.toList s.c.toNat})
noncomputable def tSh (s:Sn)(K:Bool->Sn->T (Out×AS)):T (Out×AS):=.need (decide (s.lb=0)&&okS s) (.anyI λc'=>K (bE s.cur.cps.toList s.c.toNat) {s with c:=c'})
noncomputable abbrev aM (i:Nat)(s:Sn):T (Out×AS):=kp [] (aiB (aiS (xA (fA 25 i).2.2 lB) 12) (fA 25 i).2.1 (s1 s))
section
variable (cur:Str)(c l lb b k p q:Int)
theorem t1a:aM 7 ⟨cur,c,l,lb,b,k,some (p,q)⟩=tFA ⟨cur,c,l,lb,b,c,some (p,q)⟩ pP λr s=>.ite (r==0) (RT false s) (.ite (decide (0<r)) (.need (pE vcA.length (r-1)) (eJ {s with b:=s.c} (vcA.getD (r-1).toNat Str.empty) (RT true))) (RT true {s with b:=s.c})):=by kernel_rfl
theorem t2:aM 10 ⟨cur,c,l,lb,b,k,some (p,q)⟩=tFA ⟨cur,c,l,lb,b,c,some (p,q)⟩ naA λr s=>.ite (r==0) (RT false s) (.ite (!decide (p<=s.c)) (RT false {s with b:=s.c}) (.need (pE jaA.length (r-1)) (eJ {s with b:=s.c} (jaA.getD (r-1).toNat Str.empty) (RT true)))):=by kernel_rfl
theorem t3:aM 11 ⟨cur,c,l,lb,b,k,some (p,q)⟩=tFA ⟨cur,c,l,lb,b,c,some (p,q)⟩ maA λr s=>.ite (r==0) (RT false s) (.ite (!decide (p<=s.c)) (RT false {s with b:=s.c}) (.need (pE iaA.length (r-1)) (eJ {s with b:=s.c} (iaA.getD (r-1).toNat Str.empty) (RT true)))):=by kernel_rfl
theorem t4:aM 12 ⟨cur,c,l,lb,b,k,some (p,q)⟩=tFA ⟨cur,c,l,lb,b,c,some (p,q)⟩ mS λr s=>.ite (r==0) (RT false s) (.ite (!decide (q<=s.c)) (RT false {s with b:=s.c}) (.ite (r==1) (eJ {s with b:=s.c} "" (RT true))
  (tOr {s with b:=s.c} "s" (tOr {s with b:=s.c} "t" (RT false {s with b:=s.c}) (eJ {s with b:=s.c,c:=s.c-1} "" (RT true))) (eJ {s with b:=s.c,c:=s.c-1} "" (RT true))))):=by kernel_rfl
theorem t5b:aM 14 ⟨cur,c,l,lb,b,k,some (p,q)⟩=tOr ⟨cur,c,l,lb,b,c,some (p,q)⟩ "l" (RT false ⟨cur,c,l,lb,b,c,some (p,q)⟩) (.ite (!decide (q<=c-1)) (RT false ⟨cur,c-1,l,lb,c-1,c,some (p,q)⟩)
  (tOr ⟨cur,c-1,l,lb,c-1,c,some (p,q)⟩ "l" (RT false ⟨cur,c-1,l,lb,c-1,c,some (p,q)⟩) (eJ ⟨cur,c-1-1,l,lb,c-1,c,some (p,q)⟩ "" (RT true)))):=by kernel_rfl
theorem t5a:aM 13 ⟨cur,c,l,lb,b,k,some (p,q)⟩=tOr ⟨cur,c,l,lb,b,c,some (p,q)⟩ "e" (RT false ⟨cur,c,l,lb,b,c,some (p,q)⟩) (.ite (!decide (q<=c-1))
  (.ite (!decide (p<=c-1)) (RT false ⟨cur,c-1,l,lb,c-1,c,some (p,q)⟩) (tSh ⟨cur,c-1,l,lb,c-1,c,some (p,q)⟩ λv s=>.ite (!v) (eJ {s with c:=s.l-(l-(c-1))} "" (RT true)) (RT false s)))
  (eJ ⟨cur,c-1,l,lb,c-1,c,some (p,q)⟩ "" (RT true))):=by kernel_rfl
noncomputable def D1c (s:Sn):T (Out×AS):=tGo {s with b:=s.c} λv s=>.ite (!v) (RT false s) (eJ {s with c:=s.c-1} "i" (RT true))
theorem t1c:aM 9 ⟨cur,c,l,lb,b,k,some (p,q)⟩=tOr ⟨cur,c,l,lb,b,c,some (p,q)⟩ "y" (tOr ⟨cur,c,l,lb,b,c,some (p,q)⟩ "Y" (RT false ⟨cur,c,l,lb,b,c,some (p,q)⟩) (D1c ⟨cur,c-1,l,lb,b,c,some (p,q)⟩)) (D1c ⟨cur,c-1,l,lb,b,c,some (p,q)⟩):=by kernel_rfl
end
noncomputable def wfA (s:Sn)(K:Sn->T (Out×AS)):T (Out×AS):=.need (decide (s.c=s.c)&&decide (s.c=s.c)&&okS s&&decide (Str.length "e"<=90)) (K {enA s "e" with c:=s.c})
noncomputable def mnA (p:Int)(s:Sn):T (Out×AS):=tFA s dQ λr s'=>
 let s2:Sn:={s' with c:=s'.l-(s.l-s.c)}
 .ite (r==1) (wfA s2 (RT true)) (.ite (r==2) (.ite (decide (s2.c<=s2.lb)) (RT false {s2 with k:=s2.c}) (eJ {s2 with k:=s2.c,c:=s2.c-1,b:=s2.c-1} "" (RT true)))
  (.ite (s2.c !=p) (RT false s2) (tSh s2 λv s3=>.ite (!v) (RT false s3) (wfA {s3 with c:=s3.l-(s2.l-s2.c)} (RT true)))))
theorem t1b (cur:Str)(c l lb b k p q:Int):aM 8 ⟨cur,c,l,lb,b,k,some (p,q)⟩=tFA ⟨cur,c,l,lb,b,c,some (p,q)⟩ cQ λr s=>.ite (r==0) (RT false s) (.ite (r==1) (.ite (!decide (p<=s.c)) (RT false {s with b:=s.c}) (eJ {s with b:=s.c} "ee" (RT true)))
  (tGo {s with b:=s.c} λv s2=>.ite (!v) (RT false s2) (eJ {s2 with c:=s2.l-(s.l-s.c)} "" (mnA p)))):=by kernel_rfl
theorem zB {a b:Bool}(h1:a=true)(h2:b=true):(a&&b)=true:=by rw[h1,h2];rfl
theorem yJ {names:List Str}{t:T (Out×AS)}{Q:V×Mu->Prop}(h:(kp names t).sat (dB Q)):t.sat (dB Q):=uL h λo σ x=>by induction o using Mine.Out.casesOn<;>exact x
theorem snA {t:List Nat}:∀{L:List AmE} {r:Option AmE} {e:AmE},gK t L r=some e->r=some e\/(e∈L/\(keyOf e).isPrefixOf t=true):=by
 intro l0
 induction l0 with
 |nil=>
  intro r e h
  exact .inl h
 |cons x L ih=>
  intro r e h
  rcases ih h with h|⟨h1,h2⟩
  ·by_cases z:((keyOf x).isPrefixOf t&&tnA r x)=true
   ·rw[if_pos z]at h
    have o1:=inj h;clear h;obtain rfl:=o1
    simp only[oA]at z
    exact .inr ⟨.head _,z.1⟩
   ·rw[if_neg z]at h
    exact .inl h
  ·exact .inr ⟨.tail _ h1,h2⟩
noncomputable def gL (L:List AmE)(w:List Nat):Option AmE:=gK w.reverse L none
theorem ohA {L:List AmE}{w:List Nat}{e:AmE}(h:gL L w=some e):e∈L/\e.s.length<=w.length:=by
 rcases snA h with h|⟨h1,h2⟩
 ·exact no h
 ·refine⟨h1,?_⟩
  have:=deA h2
  simp only[zJ,List.length_reverse]at this
  exact this
theorem oqA (w:List Nat):txt w w.length=w.reverse:=by unfold txt;rw[List.take_length]
noncomputable def nM (L:List AmE):Bool:=decide (0<L.length)&&decide (L.length<=100)&&wcA L&&hH L
theorem lhB:nM pP=true:=by kernel_rfl
theorem khB:nM dQ=true:=by kernel_rfl
theorem jhB:nM cQ=true:=by kernel_rfl
theorem ihB:nM naA=true:=by kernel_rfl
theorem hhB:nM maA=true:=by kernel_rfl
theorem ghB:nM mS=true:=by kernel_rfl
section
variable {w:List Nat}{p q b k:Int}{Q:V×Mu->Prop}{L:List AmE}
theorem geB (hw:w.length<=900)(h:nM L=true):okA ⟨mk w,(w.length:Nat),(w.length:Nat),0,b,k,some (p,q)⟩ L=true:=by
 unfold nM at h
 simp only[oA,vA]at h
 exact zB (zB (zB (zB (zB (pA rfl) (zB (zB (pA (gD _)) (pA siA)) (pA hw))) (pA h.1.1.1)) (pA h.1.1.2)) h.1.2) h.2
theorem pN (hw:w.length<=900)(h:nM L=true){K:Int->Sn->T (Out×AS)}
  (h1:∀e,gL L w=some e->e∈L->e.s.length<=w.length->(K e.res ⟨mk w,(w.length-e.s.length:Nat),(w.length:Nat),0,b,k,some (p,q)⟩).sat (dB Q))
  (h2:gL L w=none->(K 0 ⟨mk w,(w.length:Nat),(w.length:Nat),0,b,k,some (p,q)⟩).sat (dB Q)):
  (tFA ⟨mk w,(w.length:Nat),(w.length:Nat),0,b,k,some (p,q)⟩ L K).sat (dB Q):=by
 unfold tFA
 have e:faO ⟨mk w,(w.length:Nat),(w.length:Nat),0,b,k,some (p,q)⟩ L=gL L w:=by
  show gK (txt (mk w).cps.toList ((w.length:Nat):Int).toNat) L none=_
  simp only[Int.toNat_natCast,mk_list,oqA]
  rfl
 rw[e]
 refine bA (geB hw h) ?_
 cases hh:gL L w with
 |none=>exact⟨λz=>(nof z),λø=>h2 hh⟩
 |some x=>
  refine gA (ohA hh) λa1 a2=>?_
  refine⟨λø=>?_,λz=>by injection z⟩
  have:=h1 x hh a1 a2
  rw[show((w.length-x.s.length:Nat):Int)=(w.length:Int)-x.s.length by exact quB a2]at this
  exact this
theorem diA {c:Int}{b:Nat}{x:Str}(hb:b<=w.length):iN ⟨mk w,c,(w.length:Nat),0,b,(w.length:Nat),some (p,q)⟩ x=
  ⟨mk (w.take b++x.cps.toList),if((w.length:Nat):Int)<=c then c+(x.length-(((w.length:Nat):Int)-b))else if(b:Int)<c then(b:Int)else c,((w.take b++x.cps.toList).length:Nat),0,b,b+x.length,some (p,q)⟩:=by
 unfold iN
 have e1:(mk w).cps.toList.take (b:Int).toNat++x.cps.toList++(mk w).cps.toList.drop ((w.length:Nat):Int).toNat=w.take b++x.cps.toList:=by
  simp only[Int.toNat_natCast,Int.toNat_natCast,mk_list,List.drop_length,List.append_nil]
 have e2:((w.length:Nat):Int)+(x.length-(((w.length:Nat):Int)-b))=((w.take b++x.cps.toList).length:Nat):=by
  simp only[vC,gF,show x.cps.toList.length=x.length from rfl]
  exact puB hb
 simp only[e1,e2]
theorem qX {c:Int}{b:Nat}{x:Str}(hw:w.length<=900)(hb:b<=w.length)(hx:x.length<=90){K:Sn->T (Out×AS)}
  (h:∀c',((w.length:Int)<=c->c'=c+(x.length-((w.length:Int)-b)))->(c<=b->b<w.length->c'=c)->(K ⟨mk (w.take b++x.cps.toList),c',((w.take b++x.cps.toList).length:Nat),0,b,b+x.length,some (p,q)⟩).sat (dB Q)):
  (eJ ⟨mk w,c,(w.length:Nat),0,b,(w.length:Nat),some (p,q)⟩ x K).sat (dB Q):=by
 unfold eJ
 rw[diA hb]
 refine bA ?_ (h _ (λz=>by exact(if_pos z ..)) λz1 z2=>by refine qDzq (if_neg (ouB hb z1 z2) ..) ?_;exact(if_neg (uaB z1) ..))
 exact zB (zB (zB (zB (zB (pA (gD _)) (pA (wI ‹_›))) (pA siA)) (pA rfl)) (pA hw)) (pA hx)
theorem vG {c:Int}{b:Nat}{x:Str}(hw:w.length<=900)(hb:b<=w.length)(hx:x.length<=90)(h:Fin Q p q (w.take b++x.cps.toList)){v:Bool}:
  (eJ ⟨mk w,c,(w.length:Nat),0,b,(w.length:Nat),some (p,q)⟩ x (RT v)).sat (dB Q):=qX hw hb hx λc' ø ø=>h v c' _ _
noncomputable def isAt (y:String)(w:List Nat)(n:Nat):Bool:=decide (0<n)&&([w.getD (n-1) 0]==cp y)
theorem pJ {l:Int}{n:Nat}{y:String}{R C:T (Out×AS)}(hw:w.length<=900)(hn:n<=w.length)(hR:isAt y w n=false->R.sat (dB Q))(hC:isAt y w n=true->C.sat (dB Q)):
  (tOr ⟨mk w,n,l,0,b,k,some (p,q)⟩ (Str.ofString y) R C).sat (dB Q):=by
 refine cA (λz=>cA (λø=>hR ?_) λz=>by injection z) λz=>?_
 ·have z:(n:Int)<=0:=bB z
  unfold isAt
  rw[rG (by lia)]
  rfl
 ·have z:¬(n:Int)<=0:=pF z
  have e1:(n:Int)-1=((n-1:Nat):Int):=by exact jpA z
  have e2:isAt y w n=([w.getD (n-1) 0]==cp y):=by unfold isAt;rw[pA (by exact Int.ofNat_lt.mp (Int.not_le.mp ‹_›))];rfl
  dsimp only
  rw[e1,xF (taB hn e1)]
  have e3:(mk [w.getD (n-1) 0] !=Str.ofString y)=!([w.getD (n-1) 0]==cp y):=by
   unfold bne
   rw[<-bC (Str.ofString y),iG]
   rfl
  simp only[e3,<-e2]
  refine bA (cD (by simp only[mk_len];exact taB hn e1) (by simp only[mk_len];exact dA ‹_› (by decide))) ?_
  cases hh:isAt y w n with
  |true=>exact⟨λz=>(nof z),λø=>⟨λz=>(nof z),λø=>hC hh⟩⟩
  |false=>exact⟨λø=>⟨λø=>hR hh,λz=>by injection z⟩,λz=>by injection z⟩
theorem pdA {l:Int}{n:Nat}{K:Bool->Sn->T (Out×AS)}(hw:w.length<=900)(hn:n<=w.length)(h:(K (decide (0<goB false w n)) ⟨mk w,(goB false w n:Nat),l,0,b,k,some (p,q)⟩).sat (dB Q)):
  (tGo ⟨mk w,n,l,0,b,k,some (p,q)⟩ K).sat (dB Q):=by
 refine bA ?_ ?_
 ·exact zB (pA rfl) (zB (zB (pA (gD _)) (pA (by simp only[mk_len];exact wI ‹_›))) (pA hw))
 ·exact h
theorem ldA {l:Int}{n:Nat}{K:Bool->Sn->T (Out×AS)}(hw:w.length<=900)(hn:n<=w.length)(h:∀c',(K (bE w n) ⟨mk w,c',l,0,b,k,some (p,q)⟩).sat (dB Q)):
  (tSh ⟨mk w,n,l,0,b,k,some (p,q)⟩ K).sat (dB Q):=by
 refine bA ?_ ?_
 ·exact zB (pA rfl) (zB (zB (pA (gD _)) (pA (by simp only[mk_len];exact wI ‹_›))) (pA hw))
 ·exact λc'=>h c'
end
noncomputable def swF (L:List AmE)(A:List Str)(ok:Nat->Bool)(w:List Nat):List Nat:=match gL L w with
 |some e=>if decide (0<e.res)&&ok (w.length-e.s.length)then w.take (w.length-e.s.length)++(A.getD (e.res-1).toNat Str.empty).cps.toList else w
 |none=>w
noncomputable def p1a (w:List Nat):List Nat:=swF pP vcA (λ_=>true) w
noncomputable def p2 (p:Int)(w:List Nat):List Nat:=swF naA jaA (λc=>decide (p<=c)) w
noncomputable def p3 (p:Int)(w:List Nat):List Nat:=swF maA iaA (λc=>decide (p<=c)) w
noncomputable def p4 (q:Int)(w:List Nat):List Nat:=match gL mS w with
 |some e=>if decide (q<=(w.length-e.s.length:Nat))&&(e.res==1||isAt "s" w (w.length-e.s.length)||isAt "t" w (w.length-e.s.length))then w.take (w.length-e.s.length)else w
 |none=>w
noncomputable def p5a (p q:Int)(w:List Nat):List Nat:=if isAt "e" w w.length&&(decide (q<=(w.length-1:Nat))||(decide (p<=(w.length-1:Nat))&&!bE w (w.length-1)))then w.take (w.length-1)else w
noncomputable def p5b (q:Int)(w:List Nat):List Nat:=if isAt "l" w w.length&&decide (q<=(w.length-1:Nat))&&isAt "l" w (w.length-1)then w.take (w.length-1)else w
noncomputable def p1c (w:List Nat):List Nat:=if(isAt "y" w w.length||isAt "Y" w w.length)&&decide (0<goB false w (w.length-1))then w.take (w.length-1)++cp "i" else w
noncomputable def ufA (L:List AmE)(A:List Str):Bool:=(L.all λe=>decide (e.res<0)||(decide (1<=e.res)&&decide (e.res<=A.length)))&&(decide (A.length<=100)&&A.all λx=>decide (x.length<=90))
theorem viB:ufA pP vcA=true:=by kernel_rfl
theorem uiB:ufA naA jaA=true:=by kernel_rfl
theorem tiB:ufA maA iaA=true:=by kernel_rfl
noncomputable def quA (L:List AmE):Bool:=L.all λe=>decide (0<e.res)
theorem sjB:quA naA=true:=by kernel_rfl
theorem rjB:quA maA=true:=by kernel_rfl
theorem qjB:quA mS=true:=by kernel_rfl
theorem kjA {L:List AmE}{A:List Str}(h:ufA L A=true){e:AmE}(he:e∈L)(hp:0<e.res):pE A.length (e.res-1)=true/\(A.getD (e.res-1).toNat Str.empty).length<=90:=by
 unfold ufA at h
 replace h:=(oA ..).mp h;simp only[oA]at h
 have hl:=bB h.2.1
 have h1:=fC h.1 e he
 simp only[Bool.or_eq_true,oA,vA]at h1
 have h2:1<=e.res/\e.res<=A.length:=by exact nuB hp h1
 have h3:∀x∈A,x.length<=90:=λx hx=>bB (fC h.2.2 x hx)
 refine⟨by unfold pE;lia,?_⟩
 rw[sD,mG (muB hp h2)]
 exact h3 _ (List.getElem_mem _)
section
variable {gr:Gr}{ex:Ex}
theorem ibA {e:AmE}(h:0<e.res):¬(e.res==0)=true:=λz=>by replace z:=(beq_iff_eq ..).mp z;exact luB h z
theorem mrA (G:GX gr ex)(n:Nat):SpOK gr (n+4) 376 (dF λw _ _=>p1a w):=gI G n _ 376 (fA 25 7) ptA λw b k p q Q hw hF=>by
 refine yJ (names:=[]) ((congrArg (λt=>T.sat t _) (t1a (mk w) _ _ _ b k p q)).mpr ?_)
 unfold p1a swF at hF
 refine pN (dA ‹_› (by decide)) lhB (λe he hm hl=>?_) λhe=>?_
 ·rw[he]at hF
  dsimp only at hF
  refine cA (λz=>?_) λø=>cA (λz=>?_) λz=>?_
  ·replace z:=(beq_iff_eq ..).mp z
   rw[rG (kuB z)]at hF
   exact hF false _ _ _
  ·rw[z]at hF
   refine gA (kjA viB hm (bB z)) λh1 h2=>?_
   exact bA h1 (vG (dA ‹_› (by decide)) (fE _ _) h2 hF)
  ·rw[z]at hF
   exact hF true _ _ _
 ·rw[he]at hF
  exact cA (λø=>hF false _ _ _) λz=>by injection z
theorem mjA {w:List Nat}{b p q:Int}{L:List AmE}{A:List Str}{Q:V×Mu->Prop}(hw:w.length<=800)(hf:nM L=true)(ht:ufA L A=true)(hp:quA L=true)(hF:Fin Q p q (swF L A (λc=>decide (p<=c)) w)):
  (tFA ⟨mk w,(w.length:Nat),(w.length:Nat),0,b,(w.length:Nat),some (p,q)⟩ L λr s=>.ite (r==0) (RT false s) (.ite (!decide (p<=s.c)) (RT false {s with b:=s.c}) (.need (pE A.length (r-1)) (eJ {s with b:=s.c} (A.getD (r-1).toNat Str.empty) (RT true))))).sat (dB Q):=by
 unfold swF at hF
 refine pN (dA ‹_› (by decide)) hf (λe he hm hl=>?_) λhe=>?_
 ·rw[he]at hF
  have hr:0<e.res:=bB (fC hp e hm)
  dsimp only at hF
  rw[pA hr,eD]at hF
  refine cA (λz=>absurd z (ibA hr)) λø=>cA (λz=>?_) λz=>?_
  ·replace z:=(aF ..).mp z
   rw[z]at hF
   exact hF false _ _ _
  ·simp only[Bool.not_eq_false']at z
   rw[z]at hF
   refine gA (kjA ht hm hr) λh1 h2=>?_
   exact bA h1 (vG (dA ‹_› (by decide)) (fE _ _) h2 hF)
 ·rw[he]at hF
  exact cA (λø=>hF false _ _ _) λz=>by exact nomatch z
theorem rcB (G:GX gr ex)(n:Nat):SpOK gr (n+4) 397 (dF λw p ø=>p2 p w):=gI G n _ 397 (fA 25 10) mtA λw b k p q Q hw hF=>
 yJ (names:=[]) ((congrArg (λt=>T.sat t _) (t2 (mk w) _ _ _ b k p q)).mpr (mjA hw ihB uiB sjB hF))
theorem qcB (G:GX gr ex)(n:Nat):SpOK gr (n+4) 404 (dF λw p _=>p3 p w):=gI G n _ 404 (fA 25 11) ltA λw b k p q Q hw hF=>
 yJ (names:=[]) ((congrArg (λt=>T.sat t _) (t3 (mk w) _ _ _ b k p q)).mpr (mjA hw hhB tiB rjB hF))
theorem qO {w:List Nat}{b:Nat}{p q:Int}{Q:V×Mu->Prop}(h:Fin Q p q (w.take b)):Fin Q p q (w.take b++(Str.ofString "").cps.toList):=by
 simp only[show(Str.ofString "").cps.toList=[]from rfl,List.append_nil]
 exact h
theorem pcB (G:GX gr ex)(n:Nat):SpOK gr (n+4) 411 (dF λw _ q=>p4 q w):=gI G n _ 411 (fA 25 12) ktA λw b k p q Q hw hF=>by
 refine yJ (names:=[]) ((congrArg (λt=>T.sat t _) (t4 (mk w) _ _ _ b k p q)).mpr ?_)
 unfold p4 at hF
 refine pN (dA ‹_› (by decide)) ghB (λe he hm hl=>?_) λhe=>?_
 ·rw[he]at hF
  have hr:0<e.res:=bB (fC qjB e hm)
  dsimp only at hF
  refine cA (λz=>absurd z (ibA hr)) λ_=>cA (λz=>?_) λz=>?_
  ·simp only[aF]at z
   rw[z]at hF
   exact hF false _ _ _
  ·replace z:=(Bool.not_eq_false' ..).mp z
   rw[z,eD]at hF
   have cutOK:∀c:Int,Fin Q p q (w.take (w.length-e.s.length))->(eJ ⟨mk w,c,(w.length:Nat),0,(w.length-e.s.length:Nat),(w.length:Nat),some (p,q)⟩ (Str.ofString "") (RT true)).sat (dB Q):=λc h=>vG (dA ‹_› (by decide)) (fE _ _) (by decide) (qO h)
   refine cA (λz1=>?_) λz1=>?_
   ·rw[z1]at hF
    exact cutOK _ hF
   ·rw[z1,Bool.false_or]at hF
    refine pJ (y:="s") (dA ‹_› (by decide)) (fE _ _) (λz2=>?_) λz2=>?_
    ·rw[z2,Bool.false_or]at hF
     refine pJ (y:="t") (dA ‹_› (by decide)) (fE _ _) (λz3=>?_) λz3=>?_
     ·rw[z3]at hF
      exact hF false _ _ _
     ·rw[z3]at hF
      exact cutOK _ hF
    ·rw[z2,Bool.true_or]at hF
     exact cutOK _ hF
 ·rw[he]at hF
  exact cA (λ_=>hF false _ _ _) λz=>by exact nomatch z
theorem lO {y:String}{w:List Nat}{n:Nat}(h:isAt y w n=true):0<n:=by
 unfold isAt at h
 replace h:=bmp bB id h
 exact h.1
theorem jrA (G:GX gr ex)(n:Nat):SpOK gr (n+4) 418 (dF λw p q=>p5a p q w):=gI G n _ 418 (fA 25 13) jtA λw b k p q Q hw hF=>by
 refine yJ (names:=[]) ((congrArg (λt=>T.sat t _) (t5a (mk w) _ _ _ b k p q)).mpr ?_)
 unfold p5a at hF
 refine pJ (y:="e") (dA ‹_› (by decide)) (vD _) (λz=>?_) λz=>?_
 ·rw[z]at hF
  exact hF false _ _ _
 ·have h0:=lO z
  rw[z,eD]at hF
  rw[show((w.length:Nat):Int)-1=((w.length-1:Nat):Int) by exact ipA h0]
  have cutOK:∀c:Int,Fin Q p q (w.take (w.length-1))->(eJ ⟨mk w,c,(w.length:Nat),0,(w.length-1:Nat),(w.length:Nat),some (p,q)⟩ (Str.ofString "") (RT true)).sat (dB Q):=λc h=>vG (dA ‹_› (by decide)) (fE _ _) (by decide) (qO h)
  refine cA (λz1=>?_) λz1=>?_
  ·simp only[aF]at z1
   rw[z1,Bool.false_or]at hF
   refine cA (λz2=>?_) λz2=>?_
   ·simp only[aF]at z2
    rw[z2]at hF
    exact hF false _ _ _
   ·simp only[Bool.not_eq_false']at z2
    rw[z2,eD]at hF
    refine ldA (dA ‹_› (by decide)) (fE _ _) λc'=>cA (λz3=>?_) λz3=>?_
    ·rw[z3]at hF
     exact cutOK _ hF
    ·rw[z3]at hF
     exact hF false _ _ _
  ·replace z1:=(Bool.not_eq_false' ..).mp z1
   rw[z1,Bool.true_or]at hF
   exact cutOK _ hF
theorem irA (G:GX gr ex)(n:Nat):SpOK gr (n+4) 425 (dF λw _ q=>p5b q w):=gI G n _ 425 (fA 25 14) itA λw b k p q Q hw hF=>by
 refine yJ (names:=[]) ((congrArg (λt=>T.sat t _) (t5b (mk w) _ _ _ b k p q)).mpr ?_)
 unfold p5b at hF
 refine pJ (y:="l") (dA ‹_› (by decide)) (vD _) (λz=>?_) λz=>?_
 ·rw[z]at hF
  exact hF false _ _ _
 ·have h0:=lO z
  rw[z,eD]at hF
  rw[show((w.length:Nat):Int)-1=((w.length-1:Nat):Int) by exact ipA h0]
  refine cA (λz1=>?_) λz1=>?_
  ·replace z1:=(aF ..).mp z1
   rw[z1]at hF
   exact hF false _ _ _
  ·simp only[Bool.not_eq_false']at z1
   rw[z1,eD]at hF
   refine pJ (y:="l") (dA ‹_› (by decide)) (fE _ _) (λz2=>?_) λz2=>?_
   ·rw[z2]at hF
    exact hF false _ _ _
   ·rw[z2]at hF
    exact vG (dA ‹_› (by decide)) (fE _ _) (by decide) (qO hF)
theorem krA (G:GX gr ex)(n:Nat):SpOK gr (n+4) 390 (dF λw _ _=>p1c w):=gI G n _ 390 (fA 25 9) ntA λw b k p q Q hw hF=>by
 refine yJ (names:=[]) ?_
 show(aM 9 ⟨mk w,(w.length:Nat),(w.length:Nat),0,b,k,some (p,q)⟩).sat (dB Q)
 rw[t1c]
 unfold p1c at hF
 have D:0<w.length->Fin Q p q (if decide (0<goB false w (w.length-1))then w.take (w.length-1)++cp "i" else w)->(D1c ⟨mk w,((w.length:Nat):Int)-1,(w.length:Nat),0,b,(w.length:Nat),some (p,q)⟩).sat (dB Q):=λh0 h=>by
  unfold D1c
  dsimp only
  rw[show((w.length:Nat):Int)-1=((w.length-1:Nat):Int) by exact ipA h0]
  refine pdA (dA ‹_› (by decide)) (fE _ _) (cA (λz=>?_) λz=>?_)
  ·rw[aF]at z
   rw[z]at h
   exact h false _ _ _
  ·rw[Bool.not_eq_false']at z
   rw[z]at h
   exact vG (dA ‹_› (by decide)) (fE _ _) (by decide) h
 refine pJ (y:="y") (dA ‹_› (by decide)) (vD _) (λz=>?_) λz=>?_
 ·rw[z,Bool.false_or]at hF
  refine pJ (y:="Y") (dA ‹_› (by decide)) (vD _) (λz2=>?_) λz2=>?_
  ·rw[z2]at hF
   exact hF false _ _ _
  ·rw[z2,eD]at hF
   exact D (lO z2) hF
 ·rw[z,Bool.true_or,eD]at hF
  exact D (lO z) hF
end
noncomputable def mM (p:Int)(u:List Nat):List Nat:=if((u.length:Nat):Int)==p&&bE u u.length then u++cp "e" else u
noncomputable def mO (p:Int)(u:List Nat):List Nat:=match gL dQ u with
 |some e=>if e.res==1 then u++cp "e" else if e.res==2 then u.take (u.length-1)else mM p u
 |none=>mM p u
noncomputable def p1b (p:Int)(w:List Nat):List Nat:=match gL cQ w with
 |some e=>if e.res==1 then(if decide (p<=(w.length-e.s.length:Nat))then w.take (w.length-e.s.length)++cp "ee" else w)
  else if decide (0<goB false w (w.length-e.s.length))then mO p (w.take (w.length-e.s.length))else w
 |none=>w
theorem ekB:(cQ.all λe=>decide (0<e.res)&&decide (0<e.s.length))=true:=by kernel_rfl
section
variable {u:List Nat}{b k p q:Int}{Q:V×Mu->Prop}
theorem pX (hu:u.length<=900){v:Bool}(h:Fin Q p q (u++cp "e")):(wfA ⟨mk u,(u.length:Nat),(u.length:Nat),0,b,k,some (p,q)⟩ (RT v)).sat (dB Q):=by
 unfold wfA enA
 refine bA ?_ ?_
 ·exact zB (zB (zB (pA rfl) (pA rfl)) (zB (zB (pA (gD _)) (pA siA)) (pA hu))) (by decide)
 ·have e1:(mk u).cps.toList.take ((u.length:Nat):Int).toNat++(Str.ofString "e").cps.toList++(mk u).cps.toList.drop ((u.length:Nat):Int).toNat=u++cp "e":=by
   simp only[Int.toNat_natCast,mk_list,List.drop_length,List.append_nil,List.take_length]
   rfl
  have e2:((u.length:Nat):Int)+((Str.ofString "e").length:Nat)=((u++cp "e").length:Nat):=by
   simp only[vC,show(cp "e").length=1 by decide,show(Str.ofString "e").length=1 by decide]
   rfl
  dsimp only
  rw[e1,e2]
  exact h v _ _ _
theorem vfA {l:Int}{K:Bool->Sn->T (Out×AS)}(hw:u.length<=900)(h:∀c',(K (bE u u.length) ⟨mk u,c',l,0,b,k,some (p,q)⟩).sat (dB Q)):
  (tSh ⟨mk u,(u.length:Nat),l,0,b,k,some (p,q)⟩ K).sat (dB Q):=ldA hw (vD _) h
theorem knA (hu:u.length<=850)(hF:Fin Q p q (mO p u)):(mnA p ⟨mk u,(u.length:Nat),(u.length:Nat),0,b,k,some (p,q)⟩).sat (dB Q):=by
 unfold mO at hF
 have e0:((u.length:Nat):Int)-(((u.length:Nat):Int)-((u.length:Nat):Int))=((u.length:Nat):Int):=by exact juB
 have S:∀r:Int,(r==1)=false->(r==2)=false->Fin Q p q (mM p u)->(T.ite (r==1) (wfA ⟨mk u,(u.length:Nat),(u.length:Nat),0,b,k,some (p,q)⟩ (RT true)) (.ite (r==2) (.ite (decide (((u.length:Nat):Int)<=0)) (RT false ⟨mk u,(u.length:Nat),(u.length:Nat),0,b,(u.length:Nat),some (p,q)⟩)
   (eJ ⟨mk u,(u.length:Nat)-1,(u.length:Nat),0,(u.length:Nat)-1,(u.length:Nat),some (p,q)⟩ (Str.ofString "") (RT true)))
   (.ite (((u.length:Nat):Int) !=p) (RT false ⟨mk u,(u.length:Nat),(u.length:Nat),0,b,k,some (p,q)⟩) (tSh ⟨mk u,(u.length:Nat),(u.length:Nat),0,b,k,some (p,q)⟩ λv s3=>.ite (!v) (RT false s3) (wfA {s3 with c:=s3.l-(((u.length:Nat):Int)-((u.length:Nat):Int))} (RT true)))))).sat (dB Q):=λr h1 h2 h=>by
  unfold mM at h
  refine cA (λz=>by rw[h1]at z;exact nof z) λø=>cA (λz=>by rw[h2]at z;exact nof z) λø=>cA (λz=>?_) λz=>?_
  ·have z:(((u.length:Nat):Int)==p)=false:=by simpa [bne]using z
   rw[z]at h
   exact h false _ _ _
  ·have z:(((u.length:Nat):Int)==p)=true:=by simpa [bne]using z
   rw[z,eD]at h
   refine vfA (dA ‹_› (by decide)) λc'=>cA (λz2=>?_) λz2=>?_
   ·simp only[aF]at z2
    rw[z2]at h
    exact h false _ _ _
   ·simp only[Bool.not_eq_false']at z2
    rw[z2]at h
    dsimp only
    rw[e0]
    exact pX (dA ‹_› (by decide)) h
 refine pN (dA ‹_› (by decide)) khB (λe he hm hl=>?_) λhe=>?_
 ·rw[he]at hF
  dsimp only at hF ⊢
  rw[e0]
  by_cases r1:(e.res==1)=true
  ·rw[r1]at hF ⊢
   exact cA (λø=>pX (dA ‹_› (by decide)) hF) λz=>by exact nomatch z
  ·by_cases r2:(e.res==2)=true
   ·rw[cH r1,r2]at hF ⊢
    refine cA (λz=>by injection z) λø=>cA (λø=>cA (λz=>?_) λz=>?_) λz=>by injection z
    ·have z:((u.length:Nat):Int)<=0:=bB z
     have hn:u=[]:=List.eq_nil_of_length_eq_zero (by lia)
     subst hn
     exact hF false _ _ _
    ·have z:¬((u.length:Nat):Int)<=0:=pF z
     rw[show((u.length:Nat):Int)-1=((u.length-1:Nat):Int) by exact jpA z]
     exact vG (dA ‹_› (by decide)) (fE _ _) (by decide) (qO hF)
   ·rw[cH r1,cH r2]at hF
    exact S e.res (cH r1) (cH r2) hF
 ·rw[he]at hF
  rw[e0]
  exact S 0 (by decide) (by decide) hF
end
theorem lrA {gr:Gr}{ex:Ex}(G:GX gr ex)(n:Nat):SpOK gr (n+4) 383 (dF λw p ø=>p1b p w):=gI G n _ 383 (fA 25 8) otA λw b k p q Q hw hF=>by
 refine yJ (names:=[]) ?_
 show(aM 8 ⟨mk w,(w.length:Nat),(w.length:Nat),0,b,k,some (p,q)⟩).sat (dB Q)
 simp only[t1b]
 unfold p1b at hF
 refine pN (dA ‹_› (by decide)) jhB (λe he hm hl=>?_) λhe=>?_
 ·rw[he]at hF
  have hr:=fC ekB e hm
  replace hr:=(oA ..).mp hr;simp only[vA,vA]at hr
  dsimp only at hF
  refine cA (λz=>absurd z (ibA hr.1)) λø=>cA (λz=>?_) λz=>?_
  ·rw[z]at hF
   refine cA (λz2=>?_) λz2=>?_
   ·simp only[aF]at z2
    have z2:decide (p<=((w.length-e.s.length:Nat):Int))=false:=z2
    rw[z2]at hF
    exact hF false _ _ _
   ·simp only[Bool.not_eq_false']at z2
    have z2:decide (p<=((w.length-e.s.length:Nat):Int))=true:=z2
    rw[z2]at hF
    exact vG (x:=Str.ofString "ee") (dA ‹_› (by decide)) (fE _ _) (by decide) hF
  ·rw[z]at hF
   refine pdA (dA ‹_› (by decide)) (fE _ _) (cA (λz2=>?_) λz2=>?_)
   ·replace z2:=(aF ..).mp z2
    rw[z2]at hF
    exact hF false _ _ _
   ·simp only[Bool.not_eq_false']at z2
    rw[z2]at hF
    dsimp only
    rw[show((w.length:Nat):Int)-(((w.length:Nat):Int)-((w.length-e.s.length:Nat):Int))=((w.length-e.s.length:Nat):Int) by exact iuB]
    refine qX (x:=Str.ofString "") (dA ‹_› (by decide)) (fE _ _) (by decide) λc' ø h2=>?_
    have hc:=h2 (Int.le_refl _) (huB hl hr)
    have hu:(w.take (w.length-e.s.length)).length=w.length-e.s.length:=by refine qDzq (gF ..) ?_;exact guB hl hr ‹_› hc
    simp only[hc,show(Str.ofString "").cps.toList=[]from rfl,List.append_nil]
    generalize w.take (w.length-e.s.length)=U at*
    rw[<-hu]
    exact knA (fuB hw ‹_› hc hu) hF
 ·simp only[he]at hF
  exact cA (λø=>hF false _ _ _) λz=>by exact nomatch z
noncomputable def dS:Df:=fA 25 15
noncomputable abbrev zS (i:Nat):Stmt:=lA dS.2.1 i
noncomputable def lT:List (Addr×Spec):=[(178,qD (fA 21 4) ["self","s"] []),(269,drA),(185,bkA false),(213,bkA true),(376,dF λw _ _=>p1a w),(383,dF λw p _=>p1b p w),(390,dF λw _ _=>p1c w),(397,dF λw p _=>p2 p w),
 (404,dF λw p _=>p3 p w),(411,dF λw _ q=>p4 q w),(418,dF λw p q=>p5a p q w),(425,dF λw _ q=>p5b q w)]
theorem mkB {gr:Gr}{ex:Ex}(G:GX gr ex)(n:Nat):CTOK gr (n+4) lT:=
 .cons (nB G (CTOK.nil (n:=n+3)) euA) (.cons (uV G (n+2)) (.cons (grA G (n+3)) (.cons (frA G (n+3)) (.cons (mrA G n) (.cons (lrA G n) (.cons (krA G n) (.cons (rcB G n) (.cons (qcB G n) (.cons (pcB G n) (.cons (jrA G n) (.cons (irA G n) .nil)))))))))))
noncomputable def whK:Stmt->Nat
 | .While (.Constant _ k _) _ _ _=>k
 |_=>0
noncomputable def whC:Stmt->Pos
 | .While (.Constant _ _ p) _ _ _=>p
 |_=>default
noncomputable def trN:Stmt->Pos
 | .Try _ [.ExceptHandler (some (.Name _ p)) _ _ _] _ _ _=>p
 |_=>default
noncomputable def trH:Stmt->Pos
 | .Try _ [.ExceptHandler _ _ _ p] _ _ _=>p
 |_=>default
noncomputable def trP:Stmt->Pos
 | .Try _ [.ExceptHandler _ _ [.Pass p] _] _ _ _=>p
 |_=>default
noncomputable abbrev nN (s:Stmt)(b:List Stmt):Stmt:=.While (.Constant (.bool true) (whK s) (whC s)) b [] (whP s)
noncomputable abbrev sfA (s:Stmt)(n:Str)(b:List Stmt):Stmt:=.Try b [.ExceptHandler (some (.Name n (trN s))) none [.Pass (trP s)] (trH s)] [] [] (whP s)
noncomputable def dmA:Stmt:=lA (whB (zS 5)) 0
noncomputable def mOB:List Stmt:=whB dmA
noncomputable def leB:Stmt:=lA mOB 1
noncomputable def mTB:List Stmt:=whB leB
noncomputable def mIn:Stmt:=lA mTB 0
noncomputable def mIB:List Stmt:=whB mIn
theorem fiB:zS 5=sfA (zS 5) "lab0" [nN dmA mOB]:=by kernel_rfl
theorem neB:mOB=[lA mOB 0,sfA leB "lab1" mTB,lA mOB 2,lA mOB 3]:=by kernel_rfl
theorem meB:mTB=[nN mIn mIB,lA mTB 1,lA mTB 2,lA mTB 3]:=by kernel_rfl
noncomputable def idA:Stmt:=lA (whB (zS 40)) 1
noncomputable def uOB:List Stmt:=whB idA
noncomputable def ubB:Stmt:=lA uOB 1
noncomputable def uTB:List Stmt:=whB ubB
noncomputable def uIn:Stmt:=lA uTB 0
noncomputable def uIB:List Stmt:=whB uIn
theorem zaB:zS 40=sfA (zS 40) "lab0" [lA (whB (zS 40)) 0,nN idA uOB]:=by kernel_rfl
theorem wbB:uOB=[lA uOB 0,sfA ubB "lab1" uTB,lA uOB 2,lA uOB 3]:=by kernel_rfl
theorem vbB:uTB=[nN uIn uIB,lA uTB 1,lA uTB 2]:=by kernel_rfl
theorem glB:dS.2.1=[zS 0,zS 1,zS 2,zS 3,zS 4]++(zS 5::([zS 6,zS 7,zS 8,zS 9,zS 10,zS 11,zS 12,zS 13]++([zS 14,zS 15,zS 16,zS 17,zS 18,zS 19,zS 20,zS 21,zS 22,zS 23,zS 24,zS 25,zS 26,zS 27,zS 28,zS 29,zS 30,zS 31,zS 32,zS 33,zS 34,zS 35,zS 36,zS 37,zS 38,zS 39]++[zS 40,zS 41,zS 42]))):=by kernel_rfl
theorem lU:scK dS.2.2 "lab0"=some .globalImplicit:=by kernel_rfl
theorem kU:scK dS.2.2 "lab1"=some .globalImplicit:=by kernel_rfl
noncomputable abbrev TO:=T (Out×AS)
noncomputable def sqA (s:Sn)(y:Str)(R C:TO):TO:=.ite (s.c==s.l) (.ite true R C) (.need (cC s.cur s.c) (.ite (Txt.item s.cur s.c !=y) (.ite true R C) (.ite false R C)))
noncomputable def aBY (f:Bool)(s:Sn):AS:=⟨[("self",.self),("B_Y_found",.bool f)],muS s⟩
noncomputable def aV2 (f:Bool)(v2:Int)(s:Sn):AS:=⟨[("self",.self),("B_Y_found",.bool f),("v_2",.int v2)],muS s⟩
noncomputable def aV3 (f:Bool)(v2 v3:Int)(s:Sn):AS:=⟨[("self",.self),("B_Y_found",.bool f),("v_2",.int v2),("v_3",.int v3)],muS s⟩
noncomputable def nBY:List Str:=["self","B_Y_found"]
noncomputable def nV2:List Str:=["self","B_Y_found","v_2"]
noncomputable def nV3:List Str:=["self","B_Y_found","v_2","v_3"]
noncomputable abbrev aZ:=aiB (aiS (xA dS.2.2 lT) 12)
noncomputable def tqA (A:Sn->AS)(s:Sn):TO:=.ite (decide (s.l<=s.c)) (.ret (.exc 667,A s)) (.ret (.next,A {s with c:=s.c+1}))
theorem zs0 (cur:Str)(c l lb b k:Int):kp nBY (aZ [zS 0,zS 1,zS 2,zS 3] (s1 ⟨cur,c,l,lb,b,k,none⟩))=sqA ⟨cur,c,l,lb,c,k,none⟩ "y" (.ret (.next,aBY false ⟨cur,c,l,lb,c,k,none⟩))
  (.need (okC ⟨cur,c+1,l,lb,c,c+1,none⟩ "Y") (.ret (.next,aBY true {iN ⟨cur,c+1,l,lb,c,c+1,none⟩ "Y" with c:=c}))):=by kernel_rfl
theorem zs4 (cur:Str)(c l lb b k:Int)(f:Bool):kp nV2 (aZ [zS 4] (aBY f ⟨cur,c,l,lb,b,k,none⟩))=.ret (.next,aV2 f c ⟨cur,c,l,lb,b,k,none⟩):=by kernel_rfl
section
variable (cur:Str)(c l lb b k v2 v3:Int)(f:Bool)
theorem xwB:kp nV3 (aZ [lA mOB 0] (aV2 f v2 ⟨cur,c,l,lb,b,k,none⟩))=.ret (.next,aV3 f v2 c ⟨cur,c,l,lb,b,k,none⟩):=by kernel_rfl
theorem wwB:kp nV2 (aZ [lA mOB 2,lA mOB 3] (aV3 f v2 v3 ⟨cur,c,l,lb,b,k,none⟩))=.ret (.brk,aV2 f v2 ⟨cur,v3,l,lb,b,k,none⟩):=by kernel_rfl
theorem vwB:kp nV3 (aZ [lA mTB 1,lA mTB 2,lA mTB 3] (aV3 f v2 v3 ⟨cur,c,l,lb,b,k,none⟩))=.need (okC ⟨cur,c,l,lb,b,k,none⟩ "Y") (.ret (.cont,aV3 true v2 v3 (iN ⟨cur,c,l,lb,b,k,none⟩ "Y"))):=by kernel_rfl
noncomputable def tM2 (c:Int)(A:Sn->AS)(s:Sn):TO:=sqA s "y" (tqA A {s with c:=c}) (.ret (.brk,A {s with c:=c,k:=s.c+1}))
noncomputable def tMK (c:Int)(A:Sn->AS)(v:Bool)(s:Sn):TO:=.ite (!v) (tqA A {s with c:=c}) (tM2 c A {s with b:=s.c})
noncomputable def tMI (A:Sn->AS)(s:Sn):TO:=.ite (decide (s.l<=s.c)) (tMK s.c A false s) (.need (cC s.cur s.c) (.ite (!rD false (Txt.item s.cur s.c)) (tMK s.c A false s) (tMK s.c A true {s with c:=s.c+1})))
theorem mib:kp nV3 (aZ mIB (aV3 f v2 v3 ⟨cur,c,l,lb,b,k,none⟩))=tMI (aV3 f v2 v3) ⟨cur,c,l,lb,b,k,none⟩:=by kernel_rfl
end
noncomputable def aV5 (f:Bool)(v5:Int)(s:Sn):AS:=⟨[("self",.self),("B_Y_found",.bool f),("v_5",.int v5)],muS s⟩
noncomputable def nV5:List Str:=["self","B_Y_found","v_5"]
theorem zs6 (cur:Str)(c l lb b k v2:Int)(f:Bool):kp nV5 (aZ [zS 6,zS 7,zS 8,zS 9] (aV2 f v2 ⟨cur,c,l,lb,b,k,none⟩))=.ret (.next,aV5 f v2 ⟨cur,v2,l,lb,b,k,some (l,l)⟩):=by kernel_rfl
noncomputable def oX (want:Bool)(s:Sn)(K:Bool->Sn->TO):TO:=.need (decide (s.l=s.cur.length)&&okS s) (K (decide (goF false want s.cur.cps.toList s.c.toNat<s.cur.length)) {s with c:=goF false want s.cur.cps.toList s.c.toNat})
theorem zvB (cur:Str)(c l lb b k p q v5:Int)(f:Bool):kp nV5 (aZ [zS 10] (aV5 f v5 ⟨cur,c,l,lb,b,k,some (p,q)⟩))=
  (let E:Sn->TO:=λs=>.ret (.next,aV5 f v5 s)
  oX true ⟨cur,c,l,lb,b,k,some (p,q)⟩ λv s=>.ite (!v) (E s) (oX false {s with c:=s.c+1} λv s=>.ite (!v) (E s) (oX true {s with c:=s.c+1,o:=some (s.c+1,q)} λv s=>.ite (!v) (E s)
   (oX false {s with c:=s.c+1} λv s=>.ite (!v) (E s) (E {s with c:=s.c+1,o:=(match s.o with|some (p,ø)=>some (p,s.c+1)|none=>none)}))))):=by kernel_rfl
theorem yvB (cur:Str)(c l lb b k p q v5:Int)(f:Bool):kp nBY (aZ [zS 11,zS 12,zS 13] (aV5 f v5 ⟨cur,c,l,lb,b,k,some (p,q)⟩))=.ret (.next,aBY f ⟨cur,l,l,v5,b,k,some (p,q)⟩):=by kernel_rfl
noncomputable def oN (f:Bool)(F:List Nat->Int->Int->List Nat)(cur:Str)(c l lb:Int)(p q:Int):TO:=.need (decide (lb=0)&&decide (c=cur.length)&&decide (l=cur.length)&&decide (cur.length<=800)) (.anyI λ_=>.anyI λ_=>.anyI λb=>.anyI λk=>
 .ret (.next,aBY f ⟨mk (F cur.cps.toList p q),((F cur.cps.toList p q).length:Nat)-(l-c),((F cur.cps.toList p q).length:Nat),0,b,k,some (p,q)⟩))
section
variable (cur:Str)(c l lb b k p q v2 v3:Int)(f:Bool)
theorem xvB:kp nBY (aZ [zS 14,zS 15,zS 16] (aBY f ⟨cur,c,l,lb,b,k,some (p,q)⟩))=oN f (λw ø ø=>p1a w) cur c l lb p q:=by kernel_rfl
theorem wvB:kp nBY (aZ [zS 17,zS 18,zS 19] (aBY f ⟨cur,c,l,lb,b,k,some (p,q)⟩))=oN f (λw p ø=>p1b p w) cur c l lb p q:=by kernel_rfl
theorem vvB:kp nBY (aZ [zS 20,zS 21,zS 22] (aBY f ⟨cur,c,l,lb,b,k,some (p,q)⟩))=oN f (λw ø ø=>p1c w) cur c l lb p q:=by kernel_rfl
theorem uvB:kp nBY (aZ [zS 23,zS 24,zS 25] (aBY f ⟨cur,c,l,lb,b,k,some (p,q)⟩))=oN f (λw p ø=>p2 p w) cur c l lb p q:=by kernel_rfl
theorem tvB:kp nBY (aZ [zS 26,zS 27,zS 28] (aBY f ⟨cur,c,l,lb,b,k,some (p,q)⟩))=oN f (λw p ø=>p3 p w) cur c l lb p q:=by kernel_rfl
theorem svB:kp nBY (aZ [zS 29,zS 30,zS 31] (aBY f ⟨cur,c,l,lb,b,k,some (p,q)⟩))=oN f (λw ø q=>p4 q w) cur c l lb p q:=by kernel_rfl
theorem rvB:kp nBY (aZ [zS 32,zS 33,zS 34] (aBY f ⟨cur,c,l,lb,b,k,some (p,q)⟩))=oN f (λw p q=>p5a p q w) cur c l lb p q:=by kernel_rfl
theorem qvB:kp nBY (aZ [zS 35,zS 36,zS 37] (aBY f ⟨cur,c,l,lb,b,k,some (p,q)⟩))=oN f (λw ø q=>p5b q w) cur c l lb p q:=by kernel_rfl
end
noncomputable def lN (f:Bool)(v14:Int)(s:Sn):AS:=⟨[("self",.self),("B_Y_found",.bool f),("v_14",.int v14)],muS s⟩
noncomputable def qP (f:Bool)(v14 v15:Int)(s:Sn):AS:=⟨[("self",.self),("B_Y_found",.bool f),("v_14",.int v14),("v_15",.int v15)],muS s⟩
noncomputable def fM:List Str:=["self","B_Y_found","v_14"]
noncomputable def dP:List Str:=["self","B_Y_found","v_14","v_15"]
section
variable (cur:Str)(c l lb b k p q v2 v3:Int)(f:Bool)
theorem pvB:kp fM (aZ [zS 38,zS 39] (aBY f ⟨cur,c,l,lb,b,k,some (p,q)⟩))=.ret (.next,lN f lb ⟨cur,lb,l,lb,b,k,some (p,q)⟩):=by kernel_rfl
theorem ovB:kp nBY (aZ [zS 41,zS 42] (lN f v2 ⟨cur,c,l,lb,b,k,some (p,q)⟩))=.ret (.ret (.bool true),aBY f ⟨cur,v2,l,lb,b,k,some (p,q)⟩):=by kernel_rfl
theorem giB:kp fM (aZ [lA (whB (zS 40)) 0] (lN f v2 ⟨cur,c,l,lb,b,k,some (p,q)⟩))=.ite (!f) (.ret (.exc 654,lN f v2 ⟨cur,c,l,lb,b,k,some (p,q)⟩)) (.ret (.next,lN f v2 ⟨cur,c,l,lb,b,k,some (p,q)⟩)):=by kernel_rfl
theorem dwB:kp dP (aZ [lA uOB 0] (lN f v2 ⟨cur,c,l,lb,b,k,some (p,q)⟩))=.ret (.next,qP f v2 c ⟨cur,c,l,lb,b,k,some (p,q)⟩):=by kernel_rfl
theorem cwB:kp fM (aZ [lA uOB 2,lA uOB 3] (qP f v2 v3 ⟨cur,c,l,lb,b,k,some (p,q)⟩))=.ret (.brk,lN f v2 ⟨cur,v3,l,lb,b,k,some (p,q)⟩):=by kernel_rfl
theorem bwB:kp dP (aZ [lA uTB 1,lA uTB 2] (qP f v2 v3 ⟨cur,c,l,lb,b,k,some (p,q)⟩))=.need (okC ⟨cur,c,l,lb,b,k,some (p,q)⟩ "y") (.ret (.cont,qP f v2 v3 (iN ⟨cur,c,l,lb,b,k,some (p,q)⟩ "y"))):=by kernel_rfl
theorem uib:kp dP (aZ uIB (qP f v2 v3 ⟨cur,c,l,lb,b,k,some (p,q)⟩))=sqA ⟨cur,c,l,lb,c,k,some (p,q)⟩ "Y" (tqA (qP f v2 v3) ⟨cur,c,l,lb,c,k,some (p,q)⟩) (.ret (.brk,qP f v2 v3 ⟨cur,c,l,lb,c,c+1,some (p,q)⟩)):=by kernel_rfl
end
noncomputable def uP:Nat->List Nat->List Nat
 |_,[]=>[]
 |a,x::r=>(if oF false a&&x==121 then 89 else x)::uP (if oF false a&&x==121 then 89 else x) r
noncomputable def markFrom (u:List Nat)(c:Nat):List Nat:=u.take (c+1)++uP (u.getD c 0) (u.drop (c+1))
theorem xM (a x:Nat)(r:List Nat):uP a (x::r)=(if oF false a&&x==121 then 89 else x)::uP (if oF false a&&x==121 then 89 else x) r:=rfl
theorem fU:∀(a:Nat) (l:List Nat),(uP a l).length=l.length
 |ø,[]=>rfl
 |a,x::r=>by
  unfold uP
  refine qDzq (List.length_cons ..) ?_;simp only[List.length_cons,fU]
theorem iO (u:List Nat)(c:Nat):(markFrom u c).length=u.length:=by
 unfold markFrom
 refine qDzq (vC ..) ?_;simp only[fU,gF,List.length_drop]
 exact euB
theorem wJ {u:List Nat}{c:Nat}(h:u.length<=c+1):markFrom u c=u:=by
 unfold markFrom
 simp only[List.take_of_length_le h,List.drop_eq_nil_of_le h]
 exact List.append_nil u
theorem getD_at {u:List Nat}{c:Nat}(h:c<u.length):u[c]=u.getD c 0:=by
 simp only[sD,mG h]
 rfl
theorem zL {u:List Nat}{c:Nat}(h:c<u.length):u.drop c=u.getD c 0::u.drop (c+1):=by
 rw[List.drop_eq_getElem_cons h,getD_at h]
theorem jdA {u:List Nat}{c:Nat}(h:c<u.length):u.take (c+1)=u.take c++[u.getD c 0]:=by
 rw[List.take_succ_eq_append_getElem h,getD_at h]
theorem cT {u:List Nat}{c:Nat}(h:(oF false (u.getD c 0)&&u.getD (c+1) 0==121)=false\/u.length<=c+1):markFrom u c=markFrom u (c+1):=by
 by_cases hl:u.length<=c+1
 ·refine qDzq (wJ hl ..) ?_;simp only[wJ (Nat.le_succ_of_le ‹_›)]
 ·refine Or.elim h (λh=>?_) λh=>?_
  ·unfold markFrom
   simp only[zL (c:=c+1) (kF ‹_›),jdA (c:=c+1) (kF ‹_›),xM,h]
   simp only[Bool.false_eq_true,if_false,List.append_assoc,List.singleton_append]
  ·exact absurd h hl
noncomputable def xG (u:List Nat)(c k:Nat):List Nat:=u.take c++[k]++u.drop (c+1)
theorem wK {u:List Nat}{c k:Nat}(h:c<u.length):(xG u c k).length=u.length:=by
 unfold xG
 simp only[vC,gF,List.length_drop,List.length_cons,List.length_nil]
 exact duB h
theorem eW {u:List Nat}{c:Nat}(hl:c+1<u.length)(h:(oF false (u.getD c 0)&&u.getD (c+1) 0==121)=true):markFrom (xG u (c+1) 89) c=markFrom u c:=by
 have ht:(u.take (c+1)).length=c+1:=by refine qDzq (gF ..) ?_;exact cuB hl
 have e1:(xG u (c+1) 89).take (c+1)=u.take (c+1):=by
  unfold xG
  simp only[List.append_assoc,List.take_append_of_le_length (saB ht),List.take_take,Nat.min_self]
 have e2:(xG u (c+1) 89).drop (c+1)=89::u.drop (c+2):=by
  unfold xG
  simp only[List.append_assoc,List.drop_append_of_le_length (saB ht),List.drop_eq_nil_of_le (buB ht)]
  rfl
 have e3:(xG u (c+1) 89).getD c 0=u.getD c 0:=by
  unfold xG
  simp only[List.append_assoc,sD,List.getElem?_append_left (slB ht),List.getElem?_take_of_lt (vD _),sD]
 unfold markFrom
 simp only[e1,e2,e3,zL (c:=c+1) hl,xM,xM,h]
 have:(oF false (u.getD c 0)&&(89:Nat)==121)=false:=by
  rw[show((89:Nat)==121)=false from rfl,Bool.and_false]
 rw[this]
 rfl
theorem fiA {u:List Nat}{c:Nat}(hl:c<u.length)(h:u.getD c 0=121):(xG u c 89).count 121<u.count 121:=by
 have e:u=u.take c++121::u.drop (c+1):=by
  conv=>lhs;rw[<-List.take_append_drop c u,zL hl,h]
 conv=>rhs;rw[e]
 unfold xG
 simp
section
variable {gr:Gr}{cx:Cx}{t:Tb}
noncomputable def maC (g:Gr)(c:Cx)(names:List Str)(b2:List Stmt)(Q:Out×AS->Prop)(x:Out×AS):Prop:=match x.1 with
 | .next=>EB g c b2 x.2 Q
 |o=>∀σ,qB names σ=x.2->Q (o,σ)
theorem rF (O:mB gr t cx)(X:fI gr)(n:Nat)(names:List Str){b b2:List Stmt}{σ:AS}{Q:Out×AS->Prop}(h:(kp names (aiB (aiS t n) b σ)).sat (maC gr cx names b2 Q)):EB gr cx (b++b2) σ Q:=
 kfA O X n b σ (uL h λo σ' hx=>by
  induction o using Mine.Out.casesOn with
  |next=>exact pI (names:=names) hx
  |_=>exact hx σ' rfl)
theorem xH (O:mB gr t cx)(X:fI gr)(n:Nat)(names:List Str){b:List Stmt}{σ:AS}{Q:Out×AS->Prop}(h:(kp names (aiB (aiS t n) b σ)).sat (λx=>∀σ,qB names σ=x.2->Q (x.1,σ))):EB gr cx b σ Q:=
 fD O X n b σ Q (uL h λo σ' hx=>hx σ' rfl)
end
theorem uQ {w:List Nat}{n:Nat}{lb b k:Int}{o:Option (Int×Int)}{y:String}{y0:Nat}{R C:TO}{Q:Out×AS->Prop}(hy:cp y=[y0])(hw:w.length<=900)(hn:n<=w.length)
  (hR:(n=w.length\/w.getD n 0≠y0)->R.sat Q) (hC:n<w.length->w.getD n 0=y0->C.sat Q):
  (sqA ⟨mk w,(n:Nat),(w.length:Nat),lb,b,k,o⟩ (Str.ofString y) R C).sat Q:=by
 refine cA (λz=>cA (λø=>hR (.inl ?_)) λz=>by exact nomatch z) λz=>?_
 ·have z:((n:Nat):Int)=(w.length:Nat):=beq_iff_eq.mp z
  exact Int.ofNat.inj ‹_›
 ·have z:¬((n:Nat):Int)=(w.length:Nat):=λq=>by
   have:(((n:Nat):Int)==((w.length:Nat):Int))=true:=beq_iff_eq.mpr q
   rw[this]at z
   exact nomatch z
  have hlt:n<w.length:=by lia
  rw[xF hlt]
  have e3:(mk [w.getD n 0] !=Str.ofString y)=!decide (w.getD n 0=y0):=by
   unfold bne
   rw[<-bC (Str.ofString y),iG,show(Str.ofString y).cps.toList=[y0]from hy]
   congr 1
   by_cases q:w.getD n 0=y0
   ·rw[q,beq_self_eq_true,pA rfl]
   ·rw[rG q,beq_false_of_ne λz=>q (List.cons.inj z).1]
  rw[e3]
  refine bA (cD (by simp only[mk_len];assumption) (by simp only[mk_len];exact dA ‹_› (by decide))) ?_
  by_cases q:w.getD n 0=y0
  ·rw[pA q]
   exact⟨λz=>(nof z),λø=>⟨λz=>(nof z),λø=>hC hlt q⟩⟩
  ·rw[rG q]
   exact⟨λø=>⟨λø=>hR (.inr q),λz=>(by injection z)⟩,λz=>(by injection z)⟩
theorem ybA (σ:AS)(x:Str):∀B:List Str,(qB B σ).ρ.lookup x=if x∈B then σ.ρ.lookup x else none:=by
 intro l0
 induction l0 with
 |nil=>
  exact rfl
 |cons n B ih=>
  have ih:=ih
  unfold qB at ih ⊢
  dsimp only at ih ⊢
  rw[List.filterMap_cons]
  cases hn:σ.ρ.lookup n with
  |none=>
   refine qDzq (ih ..) ?_
   by_cases q:x=n
   ·subst q
    rw[hn]
    simp
   ·by_cases z:x∈B
    ·rw[if_pos z,if_pos (List.mem_cons_of_mem _ z)]
    ·rw[if_neg z,if_neg]
     intro y
     refine Or.elim (xB y) (λy=>?_) λy=>?_
     ·exact q y
     ·exact z y
  |some v=>
   refine qDzq (pC ..) ?_
   by_cases q:x=n
   ·subst q
    rw[if_pos rfl,if_pos (List.mem_cons_self),hn]
   ·refine qDzq (if_neg q ..) ?_;refine qDzq (ih ..) ?_
    by_cases z:x∈B
    ·rw[if_pos z,if_pos (List.mem_cons_of_mem _ z)]
    ·rw[if_neg z,if_neg]
     intro y
     refine Or.elim (xB y) (λy=>?_) λy=>?_
     ·exact q y
     ·exact z y
theorem filterMap_eq {α β:Type}{f g:α->Option β}:∀{l:List α},(∀x∈l,f x=g x)->l.filterMap f=l.filterMap g:=by
 intro l0
 induction l0 with
 |nil=>
  intro ø
  exact rfl
 |cons x l ih=>
  intro h
  rw[List.filterMap_cons,List.filterMap_cons,h x (.head _),ih λy hy=>h y (.tail _ hy)]
theorem wP {A B:List Str}(h:∀x∈A,x∈B)(σ:AS):qB A (qB B σ)=qB A σ:=by
 have e:(qB A (qB B σ)).ρ=(qB A σ).ρ:=by
  refine filterMap_eq λx hx=>?_
  rw[ybA,if_pos (h x hx)]
 exact congrArg (λr=>(⟨r,σ.μ⟩:AS)) e
section
variable {gr:Gr}{ex:Ex}{cx:Cx}{w0 M:List Nat}{v2 v3:Int}{f:Bool}
theorem qvA (G:GX gr ex)(O:mB gr (xA dS.2.2 lT) cx){u:List Nat}{c0:Nat}{b0 k0:Int}(hu:u.length<=900)(hc:c0<=u.length)(hM:markFrom u c0=M){Q:Out×AS->Prop}
  (h1:∀σ (c:Nat),c+1<u.length->(oF false (u.getD c 0)&&u.getD (c+1) 0==121)=true->markFrom u c=M->qB nV3 σ=aV3 f v2 v3 ⟨mk u,(c:Nat),(u.length:Nat),0,(c:Int)+1,(c:Int)+1+1,none⟩->Q (.next,σ))
  (h2:∀σ c b k,u=M->qB nV3 σ=aV3 f v2 v3 ⟨mk u,c,(u.length:Nat),0,b,k,none⟩->Q (.exc 667,σ)):
  ES gr cx (nN mIn mIB) (aV3 f v2 v3 ⟨mk u,(c0:Nat),(u.length:Nat),0,b0,k0,none⟩) Q:=by
 refine rH nV3 (λm σ=>∃(c:Nat) (b k:Int),σ=aV3 f v2 v3 ⟨mk u,(c:Nat),(u.length:Nat),0,b,k,none⟩/\c<=u.length/\markFrom u c=M/\m=u.length-c) (u.length-c0) (oZ c0 b0 k0 rfl hc hM rfl) ?_
 intro m σ o1;obtain⟨c,b,k,rfl,hcl,hmf,rfl⟩:=o1
 refine xH O (nD G) 12 nV3 ?_
 rw[mib]
 have fin:∀b k,((oF false (u.getD c 0)&&u.getD (c+1) 0==121)=false\/u.length<=c+1)->(tqA (aV3 f v2 v3) ⟨mk u,(c:Nat),(u.length:Nat),0,b,k,none⟩).sat (λx=>∀σ,qB nV3 σ=x.2->match(x.1,σ).1 with
   | .next| .cont=>∃m,m<u.length-c/\∃(c:Nat) (b k:Int),qB nV3 (x.1,σ).2=aV3 f v2 v3 ⟨mk u,(c:Nat),(u.length:Nat),0,b,k,none⟩/\c<=u.length/\markFrom u c=M/\m=u.length-c
   | .brk=>Q (.next,(x.1,σ).2)| .ret v=>Q (.ret v,(x.1,σ).2)| .exc a=>Q (.exc a,(x.1,σ).2)):=λb k hno=>by
  refine cA (λz=>?_) λz=>?_
  ·have z:((u.length:Nat):Int)<=(c:Nat):=bB z
   intro σ hσ
   exact h2 σ _ _ _ (by rw[wJ (by lia)]at hmf;exact hmf) hσ
  ·have z:¬((u.length:Nat):Int)<=(c:Nat):=pF z
   intro σ hσ
   exact jA (u.length-(c+1)) (by lia) (oZ (c+1) b k hσ (by exact Int.ofNat_lt.mp (Int.not_le.mp ‹_›)) (by refine qDzq (cT hno ..).symm ?_;exact hmf) rfl)
 refine cA (λz=>?_) λz=>?_
 ·have z:((u.length:Nat):Int)<=(c:Nat):=bB z
  exact cA (λ_=>fin _ _ (.inr (by lia))) λz=>by exact nomatch z
 ·have z:¬((u.length:Nat):Int)<=(c:Nat):=pF z
  have hlt:c<u.length:=by exact Int.ofNat_lt.mp (Int.not_le.mp ‹_›)
  rw[xF hlt]
  refine bA (cD (by rw[mk_len];assumption) (by rw[mk_len];exact dA ‹_› (by decide))) (cA (λq=>?_) λq=>?_)
  ·have q:oF false (u.getD c 0)=false:=by simpa [oF]using q
   exact cA (λ_=>fin _ _ (.inl (by rw[q];rfl))) λz=>by exact nomatch z
  ·have q:oF false (u.getD c 0)=true:=by simpa [oF]using q
   refine cA (λz=>by exact nof z) λ_=>?_
   dsimp only
   rw[show((c:Nat):Int)+1=((c+1:Nat):Int) by rfl]
   refine uQ (y:="y") (y0:=121) (by decide) hu ‹_› (λz2=>fin _ _ ?_) λz2 z3=>?_
   ·rcases z2 with z2|z2
    ·exact .inr (auB z2)
    ·exact .inl (by simp only[q,eD];exact beq_false_of_ne z2)
   ·intro σ hσ
    refine h1 σ c z2 (by rw[q,z3];rfl) hmf ?_
    refine qDzq (hσ ..) ?_;rw[show((c:Nat):Int)+1=((c+1:Nat):Int) by rfl]
end
noncomputable def mfA (w0 M:List Nat)(v2:Int)(σ:AS):Prop:=∃(f:Bool) (c b k:Int),qB nV2 σ=aV2 f v2 ⟨mk M,c,(M.length:Nat),0,b,k,none⟩/\(f=false->M=w0)
theorem daA {u:List Nat}{c:Nat}{cc:Int}{x:Nat}{o:Option (Int×Int)}{s:String}(hs:(Str.ofString s).cps.toList=[x])(hc:c<u.length)(hcc:cc<=c):iN ⟨mk u,cc,(u.length:Nat),0,(c:Nat),((c:Nat):Int)+1,o⟩ (Str.ofString s)=
  ⟨mk (xG u c x),cc,((xG u c x).length:Nat),0,(c:Nat),((c:Nat):Int)+1,o⟩:=by
 have h1:(Str.ofString s).length=1:=by show(Str.ofString s).cps.toList.length=1;rw[hs];rfl
 unfold iN
 rw[hs,h1,wK hc,if_neg (by exact ztB hcc),if_neg (by exact uaB hcc)]
 simp only[show(((c:Nat):Int)+1).toNat=c+1 by rfl,Int.toNat_natCast,mk_list]
 rw[show((u.length:Nat):Int)+(((1:Nat):Int)-(((c:Nat):Int)+1-(c:Nat)))=(u.length:Nat) by exact ytB]
 rfl
theorem bW {u:List Nat}{c:Nat}{cc:Int}{x:Nat}{o:Option (Int×Int)}{s:String}(hs:(Str.ofString s).cps.toList=[x])(hc:c<u.length)(hu:u.length<=900):okC ⟨mk u,cc,(u.length:Nat),0,(c:Nat),((c:Nat):Int)+1,o⟩ (Str.ofString s)=true:=by
 have h1:(Str.ofString s).length=1:=by show(Str.ofString s).cps.toList.length=1;rw[hs];rfl
 exact zB (zB (zB (zB (zB (pA (gD _)) (pA xtB)) (pA (wI ‹_›))) (pA rfl)) (pA hu)) (pA (by rw[h1];exact Nat.succ_pos _))
section
variable {gr:Gr}{ex:Ex}{cx:Cx}{w0 M:List Nat}{v2:Int}
noncomputable def xaB (w0 M:List Nat)(v2:Int)(m:Nat)(σ:AS):Prop:=∃(u:List Nat) (c:Nat) (b k:Int) (f:Bool),σ=aV2 f v2 ⟨mk u,(c:Nat),(u.length:Nat),0,b,k,none⟩/\u.length<=900/\c<=u.length/\markFrom u c=M/\(f=false->u=w0)/\m=u.count 121
theorem pvA (G:GX gr ex)(O:mB gr (xA dS.2.2 lT) cx){u:List Nat}{c0:Nat}{b0 k0:Int}{f:Bool}(hu:u.length<=900)(hc:c0<=u.length)(hM:markFrom u c0=M)(hf:f=false->u=w0){Q:Out×AS->Prop}
  (hq:∀σ,mfA w0 M v2 σ->Q (.next,σ)):
  ES gr cx (nN dmA mOB) (aV2 f v2 ⟨mk u,(c0:Nat),(u.length:Nat),0,b0,k0,none⟩) Q:=by
 refine rH nV2 (xaB w0 M v2) (u.count 121) (⟨u,c0,b0,k0,f,rfl,hu,hc,hM,hf,rfl⟩) ?_
 intro m σ o1;obtain⟨u,c,b,k,f,o2,hu,hc,hM,hf,o3⟩:=o1;obtain rfl:=o2;obtain rfl:=o3
 rw[neB]
 refine rF O (nD G) 12 nV3 (b:=[lA mOB 0]) ?_
 rw[xwB]
 show EB gr cx [sfA leB "lab1" mTB,lA mOB 2,lA mOB 3] (aV3 f v2 (c:Nat) ⟨mk u,(c:Nat),(u.length:Nat),0,b,k,none⟩) _
 refine rA (tK O (nD G) (fb:=λ_ _=>.fail) (λ_ _ _ h=>h.elim) kU (a:=667) rfl (QB:=λx=>match x.1 with
  | .exc a=>a=667/\∃c' b k,u=M/\qB nV3 x.2=aV3 f v2 (c:Nat) ⟨mk u,c',(u.length:Nat),0,b,k,none⟩
  | .cont=>∃m,m<u.count 121/\xaB w0 M v2 m (qB nV2 x.2)
  |_=>False) ?_ ?_)
 ·rw[meB]
  refine rA (qvA G O hu hc hM (λσ c' h1 h2 h3 h4=>?_) λσ c' b k h1 h2=>eB rfl (qwA c' b k h1 h2))
  refine pI (names:=nV3) ?_
  rw[h4]
  refine xH O (nD G) 12 nV3 ?_
  rw[vwB]
  rw[show((c':Nat):Int)+1=((c'+1:Nat):Int) by rfl]
  refine bA (bW (s:="Y") (x:=89) (by decide) h1 hu) ?_
  rw[daA (s:="Y") (x:=89) (by decide) h1 wtB]
  intro σ' hσ'
  have hk:qB nV2 σ'=aV2 true v2 ⟨mk (xG u (c'+1) 89),(c':Nat),((xG u (c'+1) 89).length:Nat),0,((c'+1:Nat):Int),((c'+1:Nat):Int)+1,none⟩:=by
   have e:qB nV2 σ'=qB nV2 (qB nV3 σ'):=(wP (by decide) σ').symm
   refine qDzq (e ..) ?_;simp only[hσ']
   kernel_rfl
  have h2b:u.getD (c'+1) 0=121:=by
   replace h2:=bmp id eq_of_beq h2
   exact h2.2
  exact jA _ (fiA h1 h2b) (⟨_,c',_,_,true,hk,(by rw[wK h1];exact hu),(by rw[wK h1];exact vtB h1),(by refine qDzq (eW h1 h2 ..) ?_;exact h3),(λz=>(by injection z)),rfl⟩)
 ·intro o σ hx
  induction o using Mine.Out.casesOn with
  |exc a=>
   refine gA hx λo4 o5=>?_;obtain rfl:=o4;refine ofA o5 λc' b k h1 h2=>?_
   refine eB rfl ?_
   refine pI (names:=nV3) ?_
   rw[h2]
   refine xH O (nD G) 12 nV2 ?_
   rw[wwB]
   intro σ' hσ'
   refine hq σ' (⟨f,_,_,_,(by rw[hσ',h1]),(λz=>by refine qDzq (h1 ..).symm ?_;exact hf z)⟩)
  |cont=>exact hx
  |_=>exact hx.elim
end
noncomputable def unY (l:List Nat):List Nat:=l.map λk=>if k=89 then 121 else k
noncomputable def qG (u:List Nat)(c:Nat):List Nat:=u.take c++unY (u.drop c)
theorem qM {u:List Nat}{c:Nat}(h:u.length<=c):qG u c=u:=by
 unfold qG
 rw[List.take_of_length_le h,List.drop_eq_nil_of_le h]
 exact List.append_nil u
theorem nX {u:List Nat}{c:Nat}(h:c=u.length\/u.getD c 0≠89)(hc:c<=u.length):qG u c=qG u (c+1):=by
 by_cases hl:u.length<=c
 ·refine qDzq (qM hl ..) ?_;simp only[qM (Nat.le_succ_of_le ‹_›)]
 ·refine Or.elim h (λh=>?_) λh=>?_
  ·lia
  ·unfold qG
   rw[zL (c:=c) (kF ‹_›),jdA (c:=c) (kF ‹_›)]
   unfold unY
   rw[List.map_cons,if_neg h]
   simp only[List.append_assoc,List.singleton_append]
theorem lbA {u:List Nat}{c k:Nat}(hl:c<u.length):(xG u c k).take c=u.take c/\(xG u c k).drop c=k::u.drop (c+1):=by
 have ht:(u.take c).length=c:=by refine qDzq (gF ..) ?_;exact raB hl
 constructor
 ·unfold xG
  rw[List.append_assoc,List.take_append_of_le_length (qaB ht),List.take_take,Nat.min_self]
 ·unfold xG
  rw[List.append_assoc,List.drop_append_of_le_length (qaB ht),List.drop_eq_nil_of_le (utB ht)]
  rfl
theorem taA {u:List Nat}{c:Nat}(hl:c<u.length)(h:u.getD c 0=89):qG (xG u c 121) c=qG u c:=by
 refine gA (lbA (k:=121) hl) λe1 e2=>?_
 unfold qG
 simp only[e1,e2,zL hl,h]
 rfl
theorem mcA {u:List Nat}{c:Nat}(hl:c<u.length)(h:u.getD c 0=89):(xG u c 121).count 89<u.count 89:=by
 have e:u=u.take c++89::u.drop (c+1):=by
  conv=>lhs;rw[<-List.take_append_drop c u,zL hl,h]
 conv=>rhs;rw[e]
 unfold xG
 simp
section
variable {gr:Gr}{ex:Ex}{cx:Cx}{M:List Nat}{v14 v15 p q:Int}{f:Bool}
theorem mqA (G:GX gr ex)(O:mB gr (xA dS.2.2 lT) cx){u:List Nat}{c0:Nat}{b0 k0:Int}(hu:u.length<=900)(hc:c0<=u.length)(hM:qG u c0=M){Q:Out×AS->Prop}
  (h1:∀σ (c:Nat),c<u.length->u.getD c 0=89->qG u c=M->qB dP σ=qP f v14 v15 ⟨mk u,(c:Nat),(u.length:Nat),0,(c:Nat),((c:Nat):Int)+1,some (p,q)⟩->Q (.next,σ))
  (h2:∀σ c b k,u=M->qB dP σ=qP f v14 v15 ⟨mk u,c,(u.length:Nat),0,b,k,some (p,q)⟩->Q (.exc 667,σ)):
  ES gr cx (nN uIn uIB) (qP f v14 v15 ⟨mk u,(c0:Nat),(u.length:Nat),0,b0,k0,some (p,q)⟩) Q:=by
 refine rH dP (λm σ=>∃(c:Nat) (b k:Int),σ=qP f v14 v15 ⟨mk u,(c:Nat),(u.length:Nat),0,b,k,some (p,q)⟩/\c<=u.length/\qG u c=M/\m=u.length-c) (u.length-c0) (oZ c0 b0 k0 rfl hc hM rfl) ?_
 intro m σ o1;obtain⟨c,b,k,rfl,hcl,hmf,rfl⟩:=o1
 refine xH O (nD G) 12 dP ?_
 rw[uib]
 refine uQ (y:="Y") (y0:=89) (by decide) hu hcl (λz2=>?_) λz2 z3=>?_
 ·refine cA (λz=>?_) λz=>?_
  ·have z:((u.length:Nat):Int)<=(c:Nat):=bB z
   intro σ hσ
   exact h2 σ _ _ _ (by rw[qM (nH ‹_›)]at hmf;exact hmf) hσ
  ·have z:¬((u.length:Nat):Int)<=(c:Nat):=pF z
   intro σ hσ
   exact jA (u.length-(c+1)) (by lia) (oZ (c+1) _ _ hσ (by exact Int.ofNat_lt.mp (Int.not_le.mp ‹_›)) (by refine qDzq (nX z2 hcl ..).symm ?_;exact hmf) rfl)
 ·intro σ hσ
  exact h1 σ c z2 z3 hmf hσ
noncomputable def lvB (M:List Nat)(v14 p q:Int)(σ:AS):Prop:=∃(f:Bool) (c b k:Int),qB fM σ=lN f v14 ⟨mk M,c,(M.length:Nat),0,b,k,some (p,q)⟩
noncomputable def UnI (M:List Nat)(v14 p q:Int)(f:Bool)(m:Nat)(σ:AS):Prop:=∃(u:List Nat) (c:Nat) (b k:Int),σ=lN f v14 ⟨mk u,(c:Nat),(u.length:Nat),0,b,k,some (p,q)⟩/\u.length<=900/\c<=u.length/\qG u c=M/\m=u.count 89
theorem lqA (G:GX gr ex)(O:mB gr (xA dS.2.2 lT) cx){u:List Nat}{c0:Nat}{b0 k0:Int}(hu:u.length<=900)(hc:c0<=u.length)(hM:qG u c0=M){Q:Out×AS->Prop}
  (hq:∀σ,lvB M v14 p q σ->Q (.next,σ)):
  ES gr cx (nN idA uOB) (lN f v14 ⟨mk u,(c0:Nat),(u.length:Nat),0,b0,k0,some (p,q)⟩) Q:=by
 refine rH fM (UnI M v14 p q f) (u.count 89) (sfB u c0 b0 k0 rfl hu hc hM rfl) ?_
 intro m σ o1;obtain⟨u,c,b,k,o2,hu,hc,hM,o3⟩:=o1;obtain rfl:=o2;obtain rfl:=o3
 rw[wbB]
 refine rF O (nD G) 12 dP (b:=[lA uOB 0]) ?_
 rw[dwB]
 show EB gr cx [sfA ubB "lab1" uTB,lA uOB 2,lA uOB 3] (qP f v14 (c:Nat) ⟨mk u,(c:Nat),(u.length:Nat),0,b,k,some (p,q)⟩) _
 refine rA (tK O (nD G) (fb:=λø ø=>.fail) (λø ø ø h=>h.elim) kU (a:=667) rfl (QB:=λx=>match x.1 with
  | .exc a=>a=667/\∃c' b k,u=M/\qB dP x.2=qP f v14 (c:Nat) ⟨mk u,c',(u.length:Nat),0,b,k,some (p,q)⟩
  | .cont=>∃m,m<u.count 89/\UnI M v14 p q f m (qB fM x.2)
  |ø=>False) ?_ ?_)
 ·rw[vbB]
  refine rA (mqA G O hu hc hM (λσ c' h1 h2 h3 h4=>?_) λσ c' b k h1 h2=>eB rfl (qwA c' b k h1 h2))
  refine pI (names:=dP) ?_
  rw[h4]
  refine xH O (nD G) 12 dP ?_
  rw[bwB]
  refine bA (bW (s:="y") (x:=121) (by decide) h1 hu) ?_
  rw[daA (s:="y") (x:=121) (by decide) h1 siA]
  intro σ' hσ'
  have hk:qB fM σ'=lN f v14 ⟨mk (xG u c' 121),(c':Nat),((xG u c' 121).length:Nat),0,((c':Nat):Int),((c':Nat):Int)+1,some (p,q)⟩:=by
   have e:qB fM σ'=qB fM (qB dP σ'):=(wP (by decide) σ').symm
   refine qDzq (e ..) ?_;rw[hσ']
   kernel_rfl
  exact jA _ (mcA h1 h2) (sfB _ c' _ _ hk (by rw[wK h1];exact hu) (by rw[wK h1];exact iC ‹_›) (by refine qDzq (taA h1 h2 ..) ?_;exact h3) rfl)
 ·intro o σ hx
  induction o using Mine.Out.casesOn with
  |exc a=>
   refine gA hx λo4 o5=>?_;obtain rfl:=o4;refine ofA o5 λc' b k h1 h2=>?_
   refine eB rfl ?_
   refine pI (names:=dP) ?_
   rw[h2]
   refine xH O (nD G) 12 fM ?_
   rw[cwB]
   intro σ' hσ'
   refine hq σ' (lD f _ _ _ (by rw[hσ',h1]))
  |cont=>exact hx
  |_=>exact hx.elim
end
noncomputable def zN (M:List Nat):Int×Int:=
 let n:=M.length
 let g1:=goF false true M 0
 if n<=g1 then((n:Nat),(n:Nat))else
 let g2:=goF false false M (g1+1)
 if n<=g2 then((n:Nat),(n:Nat))else
 let g3:=goF false true M (g2+1)
 if n<=g3 then((g2:Int)+1,(n:Nat))else
 let g4:=goF false false M (g3+1)
 if n<=g4 then((g2:Int)+1,(n:Nat))else((g2:Int)+1,(g4:Int)+1)
theorem pL {M:List Nat}{want:Bool}{n:Nat}{lb b k:Int}{o:Option (Int×Int)}{K:Bool->Sn->TO}{Q:Out×AS->Prop}(hM:M.length<=900)(hn:n<=M.length)
  (h:(K (decide (goF false want M n<M.length)) ⟨mk M,(goF false want M n:Nat),(M.length:Nat),lb,b,k,o⟩).sat Q):(oX want ⟨mk M,(n:Nat),(M.length:Nat),lb,b,k,o⟩ K).sat Q:=by
 refine bA ?_ h
 exact zB (pA rfl) (zB (zB (pA (gD _)) (pA (by simp only[mk_len];exact wI ‹_›))) (pA hM))
section
variable {gr:Gr}{ex:Ex}{cx:Cx}{M:List Nat}{f:Bool}
theorem rsA (G:GX gr ex)(O:mB gr (xA dS.2.2 lT) cx)(hM:M.length<=900){b k:Int}{rest:List Stmt}{Q:Out×AS->Prop}
  (hq:∀c b k,EB gr cx rest (aV5 f 0 ⟨mk M,c,(M.length:Nat),0,b,k,some (zN M)⟩) Q):
  EB gr cx ([zS 10]++rest) (aV5 f 0 ⟨mk M,0,(M.length:Nat),0,b,k,some ((M.length:Nat),(M.length:Nat))⟩) Q:=by
 refine rF O (nD G) 12 nV5 ?_
 rw[zvB]
 have hq:∀r c b k,zN M=r->EB gr cx rest (aV5 f 0 ⟨mk M,c,(M.length:Nat),0,b,k,some r⟩) Q:=λr c b k e=>e▸hq c b k
 refine pL (n:=0) hM (rC _) (cA (λz=>?_) λz=>?_)
 ·have z:¬goF false true M 0<M.length:=by simpa using z
  exact hq _ _ _ _ (if_pos (Nat.not_lt.mp ‹_›))
 have z:goF false true M 0<M.length:=by simpa using z
 have hq:∀r c b k,_->_:=λr c b k e=>hq r c b k ((if_neg (Nat.not_le.mpr ‹_›)).trans e)
 refine pL (n:=goF false true M 0+1) hM z (cA (λz2=>?_) λz2=>?_)
 ·have z2:¬goF false false M (goF false true M 0+1)<M.length:=by simpa using z2
  exact hq _ _ _ _ (if_pos (Nat.not_lt.mp ‹_›))
 have z2:goF false false M (goF false true M 0+1)<M.length:=by simpa using z2
 have hq:∀r c b k,_->_:=λr c b k e=>hq r c b k ((if_neg (Nat.not_le.mpr ‹_›)).trans e)
 generalize goF false false M (goF false true M 0+1)=g2 at*
 refine pL (n:=g2+1) hM z2 (cA (λz3=>?_) λz3=>?_)
 ·have z3:¬goF false true M (g2+1)<M.length:=by simpa using z3
  exact hq _ _ _ _ (if_pos (Nat.not_lt.mp ‹_›))
 have z3:goF false true M (g2+1)<M.length:=by simpa using z3
 have hq:∀r c b k,_->_:=λr c b k e=>hq r c b k ((if_neg (Nat.not_le.mpr ‹_›)).trans e)
 refine pL (n:=goF false true M (g2+1)+1) hM z3 (cA (λz4=>?_) λz4=>?_)
 ·have z4:¬goF false false M (goF false true M (g2+1)+1)<M.length:=by simpa using z4
  exact hq _ _ _ _ (if_pos (Nat.not_lt.mp ‹_›))
 have z4:goF false false M (goF false true M (g2+1)+1)<M.length:=by simpa using z4
 exact hq _ _ _ _ (if_neg (Nat.not_le.mpr ‹_›))
theorem iI (G:GX gr ex)(O:mB gr (xA dS.2.2 lT) cx){F:List Nat->Int->Int->List Nat}{bl rest:List Stmt}{u:List Nat}{b k p q:Int}(hu:u.length<=800){Q:Out×AS->Prop}
  (ht:kp nBY (aZ bl (aBY f ⟨mk u,(u.length:Nat),(u.length:Nat),0,b,k,some (p,q)⟩))=oN f F (mk u) (u.length:Nat) (u.length:Nat) 0 p q)
  (hq:∀b k,EB gr cx rest (aBY f ⟨mk (F u p q),((F u p q).length:Nat),((F u p q).length:Nat),0,b,k,some (p,q)⟩) Q):
  EB gr cx (bl++rest) (aBY f ⟨mk u,(u.length:Nat),(u.length:Nat),0,b,k,some (p,q)⟩) Q:=by
 refine rF O (nD G) 12 nBY ?_
 rw[ht]
 refine bA (zB (zB (zB (pA rfl) (pA rfl)) (pA rfl)) (pA hu)) λø ø b k=>?_
 have:=hq b k
 show EB gr cx rest (aBY f ⟨mk (F u p q),((F u p q).length:Nat)-(((u.length:Nat):Int)-(u.length:Nat)),((F u p q).length:Nat),0,b,k,some (p,q)⟩) Q
 rw[Int.sub_self,Int.sub_zero]
 exact this
theorem gwA (G:GX gr ex)(O:mB gr (xA dS.2.2 lT) cx){u:List Nat}{b k p q:Int}(hu:u.length<=900)(hf:f=false->89∉u){Q:V×Mu->Prop}
  (hq:∀c l b k,Q (.bool true,muS ⟨mk (unY u),c,l,0,b,k,some (p,q)⟩)):
  EB gr cx [zS 40,zS 41,zS 42] (lN f 0 ⟨mk u,0,(u.length:Nat),0,b,k,some (p,q)⟩) (dB Q):=by
 have fin:∀(f:Bool) (c b k:Int) σ,qB fM σ=lN f 0 ⟨mk (unY u),c,((unY u).length:Nat),0,b,k,some (p,q)⟩->EB gr cx [zS 41,zS 42] σ (dB Q):=λf c b k σ hσ=>by
  refine pI (names:=fM) ?_
  rw[hσ]
  refine xH O (nD G) 12 nBY ?_
  rw[ovB]
  intro σ' hσ'
  have:σ'.μ=(qB nBY σ').μ:=rfl
  show Q (.bool true,σ'.μ)
  simp only[this,hσ']
  exact hq _ _ _ _
 rw[zaB]
 refine rA (tK O (nD G) (fb:=λø ø=>.fail) (λø ø ø h=>h.elim) lU (a:=654) rfl (QB:=λx=>match x.1 with
  | .exc a=>a=654/\∃(f:Bool) (c b k:Int),qB fM x.2=lN f 0 ⟨mk (unY u),c,((unY u).length:Nat),0,b,k,some (p,q)⟩
  | .next=>∃(f:Bool) (c b k:Int),qB fM x.2=lN f 0 ⟨mk (unY u),c,((unY u).length:Nat),0,b,k,some (p,q)⟩
  |ø=>False) ?_ ?_)
 ·refine rF O (nD G) 12 fM (b:=[lA (whB (zS 40)) 0]) (b2:=[nN idA uOB]) ?_
  rw[giB]
  refine cA (λz=>?_) λz=>?_
  ·replace z:=(aF ..).mp z
   have hn:=hf z
   have e:unY u=u:=by
    conv=>rhs;rw[<-List.map_id u]
    refine List.map_congr_left λx hx=>?_
    refine qDzq (if_neg (show ¬x=89 from λe=>hn (e▸hx)) ..) ?_
    rfl
   intro σ hσ
   exact eB rfl (lD f _ _ _ (by rw[e];exact hσ))
  ·refine rA (lqA G O (M:=unY u) (c0:=0) hu (rC _) ?_ λσ o1=>by refine nfA o1 λf c b k h=>?_;exact bJ (lD f c b k h))
   rfl
 ·intro o σ hx
  induction o using Mine.Out.casesOn with
  |exc a=>
   refine gA hx λo2 o3=>?_;obtain rfl:=o2;refine nfA o3 λf c b k h=>?_
   exact eB rfl (fin f c b k σ h)
  |next=>
   refine nfA hx λf c b k h=>?_
   exact fin f c b k σ h
  |_=>exact hx.elim
end
set_option tactic.hygienic true
noncomputable def zQ (A:List Str):Bool:=A.all λx=>decide (x.length<=10)&&!x.cps.toList.contains 89
theorem ucB:zQ vcA=true:=by kernel_rfl
theorem tcB:zQ jaA=true:=by kernel_rfl
theorem scB:zQ iaA=true:=by kernel_rfl
theorem dY {A:List Str}(h:zQ A=true)(i:Nat):(A.getD i Str.empty).cps.toList.length<=10/\89∉(A.getD i Str.empty).cps.toList:=by
 rw[sD]
 cases hi:A[i]? with
 |none=>exact⟨by decide,by decide⟩
 |some x=>
  have hx:=fC h x (eH hi)
  simp only[oA,vA,aF]at hx
  refine⟨hx.1,λz=>?_⟩
  have hx2:=hx.2
  rw[List.contains_eq_mem,decide_eq_false_iff_not]at hx2
  exact hx2 z
noncomputable def Tame (F:List Nat->List Nat):Prop:=∀w,(F w).length<=w.length+10/\(89∉w->89∉F w)
theorem mH {w:List Nat}:w.length<=w.length+10/\(89∉w->89∉w):=⟨by exact Nat.le_add_right _ _,λh=>h⟩
theorem tQ {w x:List Nat}{n:Nat}(h1:x.length<=10)(h2:89∉x):(w.take n++x).length<=w.length+10/\(89∉w->89∉w.take n++x):=by
 refine⟨by rw[vC,gF];exact ttB h1,λh z=>?_⟩
 refine Or.elim (dI z) (λz=>?_) λz=>?_
 ·exact h (List.mem_of_mem_take z)
 ·exact h2 z
theorem yO {w:List Nat}{n:Nat}:(w.take n).length<=w.length+10/\(89∉w->89∉w.take n):=⟨by rw[gF];exact stB,λh z=>h (List.mem_of_mem_take z)⟩
theorem nV {L:List AmE}{A:List Str}(h:zQ A=true)(ok:Nat->Bool):Tame (swF L A ok):=λw=>by
 unfold swF
 split
 ·rename_i e _
  split
  ·exact tQ (dY h _).1 (dY h _).2
  ·exact mH
 ·exact mH
theorem dcB:Tame p1a:=nV ucB _
theorem riB (p:Int):Tame (p2 p):=nV tcB _
theorem qiB (p:Int):Tame (p3 p):=nV scB _
theorem piB (q:Int):Tame (p4 q):=λw=>by
 unfold p4
 repeat' split
 all_goals first|exact mH|exact yO
theorem acB (p q:Int):Tame (p5a p q):=λw=>by
 unfold p5a
 split<;>first|exact mH|exact yO
theorem zbB (q:Int):Tame (p5b q):=λw=>by
 unfold p5b
 split<;>first|exact mH|exact yO
theorem bcB:Tame p1c:=λw=>by
 unfold p1c
 split
 ·exact tQ (by decide) (by decide)
 ·exact mH
theorem phA (p:Int)(u:List Nat):(mO p u).length<=u.length+1/\(89∉u->89∉mO p u):=by
 have a1:∀u:List Nat,(u++cp "e").length<=u.length+1/\(89∉u->89∉u++cp "e"):=λu=>by
  refine⟨by simp only[vC,show(cp "e").length=1 by decide];exact vD _,λh z=>?_⟩
  refine Or.elim (dI z) (λz=>?_) λz=>?_
  ·exact h z
  ·revert z;decide
 have a2:u.length<=u.length+1/\(89∉u->89∉u):=⟨by exact Nat.le_add_right _ _,λh=>h⟩
 have a3:(mM p u).length<=u.length+1/\(89∉u->89∉mM p u):=by
  unfold mM
  split
  ·exact a1 u
  ·exact a2
 unfold mO
 split
 ·split
  ·exact a1 u
  ·split
   ·exact⟨by simp only[gF];exact qtB,λh z=>h (List.mem_of_mem_take z)⟩
   ·exact a3
 ·exact a3
theorem ccB (p:Int):Tame (p1b p):=λw=>by
 unfold p1b
 split
 ·split
  ·split
   ·exact tQ (by decide) (by decide)
   ·exact mH
  ·split
   ·rename_i e _ _ _
    have h:=phA p (w.take (w.length-e.s.length))
    exact⟨by have:=h.1;rw[gF]at this;exact ptB this,λz=>h.2 λy=>z (List.mem_of_mem_take y)⟩
   ·exact mH
 ·exact mH
noncomputable def mI (w:List Nat):List Nat:=if w.getD 0 0=121 then 89::w.drop 1 else w
theorem gU {w:List Nat}(h:0<w.length):(mI w).length=w.length:=by
 unfold mI
 split
 ·rw[List.length_cons,List.length_drop];exact Nat.sub_add_cancel ‹_›
 ·rfl
noncomputable def jG (w:List Nat):List Nat:=markFrom (mI w) 0
noncomputable def sV (p q:Int)(M:List Nat):List Nat:=p5b q (p5a p q (p4 q (p3 p (p2 p (p1c (p1b p (p1a M)))))))
noncomputable def oG (w:List Nat):List Nat:=unY (sV (zN (jG w)).1 (zN (jG w)).2 (jG w))
noncomputable def cjB:Spec:=mSpec λs r=>a0 r ((match s.o with
  |none=>.need (decide (s.lb=0)&&decide (s.c=0)&&decide (s.l=s.cur.length)&&decide (s.cur.length<=300)&&!s.cur.cps.toList.contains 89) (.anyI λc=>.anyI λl=>.anyI λb=>.anyI λk=>
   .ret (.bool true,⟨mk (oG s.cur.cps.toList),c,l,0,b,k,some (zN (jG s.cur.cps.toList))⟩))
  |some _=>.fail))
section
variable {gr:Gr}{ex:Ex}
theorem rqA (G:GX gr ex){cx:Cx}(O:mB gr (xA dS.2.2 lT) cx){f:Bool}{M:List Nat}{b k p q:Int}(hM:M.length<=310)(hf:f=false->89∉M){Q:V×Mu->Prop}
  (hq:∀c l b k,Q (.bool true,muS ⟨mk (unY (sV p q M)),c,l,0,b,k,some (p,q)⟩)):
  EB gr cx ([zS 14,zS 15,zS 16]++([zS 17,zS 18,zS 19]++([zS 20,zS 21,zS 22]++([zS 23,zS 24,zS 25]++([zS 26,zS 27,zS 28]++([zS 29,zS 30,zS 31]++([zS 32,zS 33,zS 34]++([zS 35,zS 36,zS 37]++([zS 38,zS 39]++[zS 40,zS 41,zS 42]))))))))) (aBY f ⟨mk M,(M.length:Nat),(M.length:Nat),0,b,k,some (p,q)⟩) (dB Q):=by
 unfold sV at hq
 have t1:=dcB M
 refine iI G O (F:=λw _ _=>p1a w) (dA ‹_› (by decide)) (xvB ..) λb k=>?_
 try dsimp only
 generalize p1a M=M1 at*
 have t2:=ccB p M1
 refine iI G O (F:=λw p _=>p1b p w) (by lia) (wvB ..) λb k=>?_
 try dsimp only
 generalize p1b p M1=M2 at*
 have t3:=bcB M2
 refine iI G O (F:=λw _ _=>p1c w) (by lia) (vvB ..) λb k=>?_
 try dsimp only
 generalize p1c M2=M3 at*
 have t4:=riB p M3
 refine iI G O (F:=λw p _=>p2 p w) (by lia) (uvB ..) λb k=>?_
 try dsimp only
 generalize p2 p M3=M4 at*
 have t5:=qiB p M4
 refine iI G O (F:=λw p _=>p3 p w) (by lia) (tvB ..) λb k=>?_
 try dsimp only
 generalize p3 p M4=M5 at*
 have t6:=piB q M5
 refine iI G O (F:=λw _ q=>p4 q w) (by lia) (svB ..) λb k=>?_
 try dsimp only
 generalize p4 q M5=M6 at*
 have t7:=acB p q M6
 refine iI G O (F:=λw p q=>p5a p q w) (by lia) (rvB ..) λb k=>?_
 try dsimp only
 generalize p5a p q M6=M7 at*
 have t8:=zbB q M7
 refine iI G O (F:=λw _ q=>p5b q w) (by lia) (qvB ..) λb k=>?_
 try dsimp only
 generalize p5b q M7=M8 at*
 refine rF O (nD G) 12 fM ?_
 rw[pvB]
 exact gwA G O (by lia) (λz=>t8.2 (t7.2 (t6.2 (t5.2 (t4.2 (t3.2 (t2.2 (t1.2 (hf z))))))))) hq
end
set_option tactic.hygienic false
section
variable {gr:Gr}{ex:Ex}
theorem dhA (w:List Nat):(jG w).length=w.length:=by
 unfold jG
 refine qDzq (iO ..) ?_
 induction w using List.casesOn with
 |nil=>rfl
 |cons a r=>exact gU (by simp only[List.length_cons];exact Nat.succ_pos _)
theorem arA (G:GX gr ex){cx:Cx}(O:mB gr (xA dS.2.2 lT) cx){w:List Nat}(hw:w.length<=300)(hY:89∉w){b k:Int}{Q:V×Mu->Prop}
  (hq:∀c l b k,Q (.bool true,muS ⟨mk (oG w),c,l,0,b,k,some (zN (jG w))⟩)):
  EB gr cx dS.2.1 (s1 ⟨mk w,0,(w.length:Nat),0,b,k,none⟩) (dB Q):=by
 have hml:=dhA w
 rw[glB]
 show EB gr cx ([zS 0,zS 1,zS 2,zS 3]++([zS 4]++(zS 5::([zS 6,zS 7,zS 8,zS 9]++([zS 10]++([zS 11,zS 12,zS 13]++([zS 14,zS 15,zS 16]++([zS 17,zS 18,zS 19]++([zS 20,zS 21,zS 22]++([zS 23,zS 24,zS 25]++([zS 26,zS 27,zS 28]++([zS 29,zS 30,zS 31]++([zS 32,zS 33,zS 34]++([zS 35,zS 36,zS 37]++([zS 38,zS 39]++[zS 40,zS 41,zS 42]))))))))))))))) (s1 ⟨mk w,0,(w.length:Nat),0,b,k,none⟩) (dB Q)
 have go:∀(f:Bool) (b k:Int),(f=false->mI w=w)->EB gr cx ([zS 4]++(zS 5::([zS 6,zS 7,zS 8,zS 9]++([zS 10]++([zS 11,zS 12,zS 13]++([zS 14,zS 15,zS 16]++([zS 17,zS 18,zS 19]++([zS 20,zS 21,zS 22]++([zS 23,zS 24,zS 25]++([zS 26,zS 27,zS 28]++([zS 29,zS 30,zS 31]++([zS 32,zS 33,zS 34]++([zS 35,zS 36,zS 37]++([zS 38,zS 39]++[zS 40,zS 41,zS 42])))))))))))))) (aBY f ⟨mk (mI w),0,((mI w).length:Nat),0,b,k,none⟩) (dB Q):=λf b k hf=>by
  refine rF O (nD G) 12 nV2 ?_
  rw[zs4]
  have h0:(mI w).length=w.length:=by rw[<-hml];unfold jG;rw[iO]
  refine rA ?_
  rw[fiB]
  refine tK O (nD G) (fb:=λ_ _=>.fail) (λ_ _ _ h=>h.elim) lU (a:=654) rfl (QB:=λx=>match x.1 with| .next=>mfA w (jG w) 0 x.2|_=>False) ?_ ?_
  ·exact rA (pvA G O (M:=jG w) (w0:=w) (c0:=0) (paB hw h0) (rC _) rfl hf λσ hσ=>bJ hσ)
  ·rintro o σ hx
   induction o using Mine.Out.casesOn with
   |next=>
    obtain⟨f,c,b,k,h,hf⟩:=hx
    refine pI (names:=nV2) ?_
    rw[h]
    refine rF O (nD G) 12 nV5 ?_
    rw[zs6]
    refine rsA G O (paB hw hml) λc b k=>?_
    refine rF O (nD G) 12 nBY ?_
    rcases hr:zN (jG w)with⟨p,q⟩
    rw[yvB]
    refine rqA G O (otB hw hml) (λz=>by rw[hf z];exact hY) λc l b k=>?_
    have:=hq c l b k
    unfold oG at this
    rw[hr]at this
    exact this
   |_=>exact hx.elim
 refine rF O (nD G) 12 nBY ?_
 rw[zs0]
 refine uQ (n:=0) (y:="y") (y0:=121) (by decide) (dA ‹_› (by decide)) (rC _) (λz=>?_) λz1 z2=>?_
 ·have e:mI w=w:=by
   unfold mI
   rcases z with z|z
   ·rw[List.eq_nil_of_length_eq_zero z.symm];rfl
   ·rw[if_neg z]
  have:=go false 0 k λ_=>e
  rw[e]at this
  exact this
 ·have e:mI w=xG w 0 89:=by
   unfold mI xG
   rw[if_pos z2]
   rfl
  have h1:=bW (u:=w) (c:=0) (cc:=0+1) (o:=none) (s:="Y") (x:=89) (by decide) z1 (dA ‹_› (by decide))
  refine bA h1 ?_
  have h2:({iN ⟨mk w,0+1,(w.length:Nat),0,0,0+1,none⟩ (Str.ofString "Y")with c:=0}:Sn)=⟨mk (mI w),0,((mI w).length:Nat),0,0,0+1,none⟩:=by
   have h1:(Str.ofString "Y").length=1:=by decide
   unfold iN
   rw[h1,gU z1,e]
   rw[show(Str.ofString "Y").cps.toList=[89] by decide,mk_list]
   congr 1
  rw[h2]
  exact go true 0 _ λz=>by cases z
theorem crA (G:GX gr ex)(n:Nat):SpOK gr (n+5) 432 cjB:=vF λs r Q hq=>by
 obtain⟨cur,c,l,lb,b,k,o⟩:=s
 refine gA (tD hq) λez1 hz=>?_;clear hq
 subst ez1
 have hq:=hz;clear hz
 dsimp only at hq
 induction o using Option.casesOn with
 |some pq=>exact hq.elim
 |none=>
  obtain⟨hn,hq1⟩:=uD hq
  clear hq
  simp only[oA,vA,aF]at hn
  obtain⟨⟨⟨⟨rfl,rfl⟩,rfl⟩,h4⟩,h5⟩:=hn
  rw[<-bC cur]at*
  generalize cur.cps.toList=w at*
  refine mD G.hK htA rfl λcx hc hs=>?_
  have O:mB gr (xA dS.2.2 lT) cx:=cG G (mkB G n) hc hs
  refine arA G O h4 ?_ λc l b k=>hq1 c l b k
  intro z
  rw[mk_list,List.contains_eq_mem,decide_eq_false_iff_not]at h5
  exact h5 z
end
section
variable {g:Gr}{n:Nat}{f:Addr}{vs:List V}{μ:Mu}{Q:V×Mu->Prop}{name qual:Str}{params:Arguments}{body:List Stmt}{scope:Scope}{dV kV doc pm cdv ct oc:Value}{an od:Option Addr}{osl:Array (Option Value)}
theorem hiA (ps:List Str)(hf:g.K.lookup f=some ⟨oc,od,.func (fnOf name qual params body scope dV kV doc pm an cdv ct),osl⟩)(hcd:codeIn g.K cdv qual=true)(hlen:vs.length=ps.length)
  (hbind:∀vals:List Value,vals.length=ps.length->bindArgs (fnOf name qual params body scope dV kV doc pm an cdv ct) ⟨vals,[]⟩=pure (ps.zip vals)) (hn:ps.Nodup) (hloc:∀y∈ps,scope.names.lookup y=some .local)
  (hco:scope.isCoroutine=false) (hgen:scope.isGenerator=false) (hk:scope.kind=.function) (hcell:∀x∈scope.names,x.2≠.cell)
  (hb:∀c,CxOK c n->c.sc=scope->EB g c body ⟨ps.zip vs,μ⟩ (dB Q)) {A:Around} {c:Cx} {σ:AS} (hA:A.frames=some (c.env::c.outer)) (hdep:A.depth+(n+1)<900) (hhan:A.handled=none) (huni:A.units+3*(n+1)<3000) (hμ:σ.μ=μ)
  (E:Value->Shared->Prop) (ts:List (V×Value)) (P:List (Addr×Obj)) (s:Shared) (vals:List Value) (hl:vs.length=vals.length) (S:St g c σ (vs.zip vals++ts) P s):
  codeAny g.M A (.call (.ref f) ⟨vals,[]⟩) (λr s'=>match r with| .ok (.ret v)=>∃w μ',Q (w,μ')/\St g c {σ with μ:=μ'} ((w,v)::ts) P s'| .ok ø=>False| .error e=>E e s') s:=by
 refine St.el S λb m mo rest a1 a2 a3 a4 a5 a6 a7=>?_
 have hvl:vals.length=ps.length:=hl.symm.trans hlen
 refine(code_defS (A₀:=c.A₀) (base:=g.base) (outer:=c.outer) (K:=g.K) (g₀:=c.g₀) (cn:=c.nm) (cs:=c.sc) (a:=c.a) (ccd:=c.cd) (binds:=ps.zip vals) a1.B a1.F a1.X a1.N a1.T g.X g.T a1.D a1.turn hA hf hcd
  (ar6 hdep) (.of_eq (hbind vals hvl)) (λy hy=>hloc _ (List.of_mem_zip hy).1) (λG L' h₁ F0 F1 N1 B1 X1 T1 D1=>?_) c.hk hco hgen hk hcell)
 let c':Cx:=⟨A,c.env::c.outer,qual,scope,L',f,cdv,G,hk⟩
 have hc':CxOK c' n:=⟨by exact ar7 hdep,hhan,by exact ar8 huni⟩
 have S':St g c' ⟨ps.zip vs,μ⟩ [] rest {s with heap:=h₁,toks:=s.toks+(ps.zip vals).length}:=by
  refine lD G _ mo rest ⟨⟨B1,.refl,D1,F1,N1⟩,by simp only[<-hμ];exact a2,λx v hx=>?_,λt ht=>(nomatch ht),λp hp=>hp,a6,a7⟩
  refine iA (rK hl hx) λval e hm=>?_
  refine jA val ?_ (a4 _ (zH _ hm))
  refine qDzq (qK hn ..) ?_
  exact e
 have fin:∀(v:V) (val:Value) (σ':AS) (s':Shared),Q (v,σ'.μ)->St g c' σ' [(v,val)] rest s'->LeaveS ((c.env::c.outer).filterMap (·.frame)) c.A₀ g.base c.outer g.K g.p g.loose g.mean g.mg g.mb c.g₀ b c.L m G
   (λr s'=>match r with| .ok (.ret v)=>∃w μ',Q (w,μ')/\St g c {σ with μ:=μ'} ((w,v)::ts) P s'| .ok ø=>False| .error e=>E e s') val s':=λv val σ' s' hq hS=>by
  refine St.el hS λb' m' mo' rest' b1 b2 b3 b4 b5 b6 b7=>?_
  refine leaveS_r b1.F b1.N b1.turn λh₀' k1 k2 k3 k4 k5 k6 k7=>zA v σ'.μ hq (lD h₀' m mo' rest' ⟨⟨k4,k1,k7,k2,k3⟩,b2,λx u hx=>?_,λt ht=>?_,λp hp=>b5 p (a5 p hp),b6,b7⟩)
  ·refine iA (a3 x u hx) λw hw hr=>?_
   exact jA w hw (hr.mono b5)
  ·rcases xB ht with rfl|ht
   ·exact b4 _ (.head _)
   ·exact(a4 t (eE _ ht)).mono b5
 have hE:EOK g c' (dB Q) [] rest (λe s'=>wpAny g.M c'.A («leaving» c'.env e) (λø s''=>(match(Except.error e:Result)with| .ok (.ret v)=>∃w μ',Q (w,μ')/\St g c {σ with μ:=μ'} ((w,v)::ts) P s''| .ok ø=>False| .error e=>E e s''))
   (λe' s''=>(match(Except.error e':Result)with| .ok (.ret v)=>∃w μ',Q (w,μ')/\St g c {σ with μ:=μ'} ((w,v)::ts) P s''| .ok ø=>False| .error e=>E e s'')) s'):=by
  refine⟨PassesOwn.leaving (Q₁:=λe s''=>E e s''),λa σ' e s' hq ø=>hq.elim⟩
 refine wpAny_mono (hb c' hc' rfl _ [] rest _ hE S') (λfl s' ⟨o,σ',hq,hr⟩=>?_) λø ø x=>x
 induction o using Mine.Out.casesOn with
 |next=>refine gA hr λo4 S''=>?_;obtain rfl:=o4;exact fin .none .none σ' s' hq (S''.imm λø=>.none)
 |ret v=>refine iA hr λval o5 S''=>?_;obtain rfl:=o5;exact fin v val σ' s' hq S''
 |brk=>exact hq.elim
 |cont=>exact hq.elim
 |exc a=>exact hr.elim
theorem bxA {ex:Ex}(hK:g.K=KX g.w.params ex){a:Addr}{d:Arguments×List Stmt×Scope}{ps:List Str}(R:qA a d ps)(hlen:vs.length=ps.length)
  (hb:∀c,CxOK c n->c.sc=d.2.2->EB g c d.2.1 ⟨ps.zip vs,μ⟩ (dB Q)) {A:Around} {c:Cx} {σ:AS} (hA:A.frames=some (c.env::c.outer)) (hdep:A.depth+(n+1)<900) (hhan:A.handled=none) (huni:A.units+3*(n+1)<3000) (hμ:σ.μ=μ)
  (E:Value->Shared->Prop) (ts:List (V×Value)) (P:List (Addr×Obj)) (s:Shared) (vals:List Value) (hl:vs.length=vals.length) (S:St g c σ (vs.zip vals++ts) P s):
  codeAny g.M A (.call (.ref a) ⟨vals,[]⟩) (λr s'=>match r with| .ok (.ret v)=>∃w μ',Q (w,μ')/\St g c {σ with μ:=μ'} ((w,v)::ts) P s'| .ok ø=>False| .error e=>E e s') s:=by
 refine paA (R.lk g.w.params ex) λnm q mod code e1 e2=>?_
 have sc:=R.sc
 simp only[oA,aF,beq_iff_eq,List.all_eq_true,bne_iff_ne,ne_eq]at sc
 exact hiA ps (by simp only[hK];exact e1) (by rw[hK];exact e2) hlen (R.bind nm q mod code) R.nd (λy hy=>beq_iff_eq.mp (fC R.loc y hy)) sc.1.1.1 sc.1.1.2 sc.1.2 (λx hx=>sc.2 x hx) hb hA hdep hhan huni hμ E ts P s vals hl S
end
noncomputable def wxA:Df:=fA 21 0
noncomputable def nkB:List (Addr×Spec):=[(157,qD (fA 21 1) ["self","value"] [])]
theorem gnA:aiB (aiS (xA wxA.2.2 nkB) 12) wxA.2.1 ⟨[("self",.self)],⟨some [],none⟩⟩=.need (decide (Str.length ""<=big)) (.ret (.next,⟨[("self",.self)],muS ⟨"",0,0,0,0,0,none⟩⟩)):=by kernel_rfl
noncomputable def dSW:Df:=fA 21 22
noncomputable def lSW:List (Addr×Spec):=[(157,qD (fA 21 1) ["self","value"] []),(164,qD (fA 21 2) ["self"] []),(432,cjB)]
noncomputable def okW (x:Str):Bool:=decide (x.length<=300)&&!x.cps.toList.contains 89
theorem vqA (x:Str):aiB (aiS (xA dSW.2.2 lSW) 12) dSW.2.1 ⟨[("self",.self),("word",.str x)],muS ⟨"",0,0,0,0,0,none⟩⟩=.need (decide (x.length<=big)) (.need (decide ((0:Int)=0)&&decide ((0:Int)=0)&&decide ((x.length:Int)=x.length)&&decide (x.length<=300)&&!x.cps.toList.contains 89)
  (.anyI λc=>.anyI λl=>.anyI λb=>.anyI λk=>.ret (.ret (.str (mk (oG x.cps.toList))),⟨[("self",.self),("word",.str x)],muS ⟨mk (oG x.cps.toList),c,l,0,b,k,some ((zN (jG x.cps.toList)).1,(zN (jG x.cps.toList)).2)⟩⟩))):=by kernel_rfl
theorem lcB {gr:Gr}{ex:Ex}(G:GX gr ex)(n:Nat){x:Str}(hx:okW x=true){Q:V×Mu->Prop}(hq:∀μ,Q (.str (mk (oG x.cps.toList)),μ)):xS gr (n+6) 304 [.self,.str x] (muS ⟨"",0,0,0,0,0,none⟩) Q:=by
 unfold okW at hx
 replace hx:=bmp bB id hx
 refine mD G.hK ttA rfl λcx hc hs=>?_
 have O:mB gr (xA dSW.2.2 lSW) cx:=cG G (.cons (nB G (CTOK.nil (n:=n+4)) aeA) (.cons (nB G (CTOK.nil (n:=n+4)) fuA) (.cons (crA G n) .nil))) hc hs
 show EB gr cx dSW.2.1 ⟨[("self",.self),("word",.str x)],muS ⟨"",0,0,0,0,0,none⟩⟩ (dB Q)
 refine fD O (nD G) 12 _ _ _ ?_
 rw[vqA]
 refine bA (uB (by lia)) (bA ?_ λc l b k=>hq _)
 exact zB (zB (zB (zB (pA rfl) (pA rfl)) (pA rfl)) (pA hx.1)) hx.2
section
variable (P:Params)(ex:Ex)
theorem rbA:(makesIn (KX P ex) 642&&(findIn (KX P ex) (.ref 642) "__init__"==some (some (.ref 150)))&&isFn (KX P ex) (.ref 150)&&keepIn (KX P ex) (.ref 642))=true:=by kernel_rfl
end
noncomputable abbrev Gr.at_ (g:Gr)(x dx:Addr):Gr:={g with st:=x,dd:=dx}
section
variable {g:Gr}{ex:Ex}{c:Cx}
theorem ryA {x dx:Addr}{rest:List (Addr×Obj)}{y:Str}{val:Value}(h:VR (g.at_ x dx) rest (.str y) val):VR g rest (.str y) val:=by cases h;exact .str _ _
theorem iiB {x dx:Addr}{rest:List (Addr×Obj)}{y:Str}{val:Value}(h:VR g rest (.str y) val):VR (g.at_ x dx) rest (.str y) val:=by cases h;exact .str _ _
theorem bzA {g g':Gr}{rest rest':List (Addr×Obj)}{m:Str->Option Value}{y:Str}(k:∀val,VR g rest (.str y) val->VR g' rest' (.str y) val)(h:LR g rest m [("word",.str y)]):LR g' rest' m [("word",.str y)]:=λz v hz=>by
 refine iA (h z v hz) λval h1 h2=>?_
 rw[pC]at hz
 split at hz
 ·cases hz;exact jA val h1 (k _ h2)
 ·injection hz
theorem plA (G:GX g ex){n:Nat}(hc:CxOK c (n+10)){sc:Scope}(hs:c.sc=sc){x:Str}(hx:okW x=true){np cp apos wp pos:Pos}(hline:(apos.endLine==pos.line)=true)(hl1:scK sc "PorterStemmer"=some .globalImplicit)(hl2:scK sc "word"=some .local)
  {Q:V×AS->Prop} (hq:Q (.str (mk (oG x.cps.toList)),⟨[("word",.str x)],⟨none,none⟩⟩)):
  EV g c (.Call (.Attribute (.Call (.Name "PorterStemmer" np) [] [] cp) "stemWord" apos) [.Name "word" wp] [] pos) ⟨[("word",.str x)],⟨none,none⟩⟩ Q:=λE ts P s S=>by
 have hm:=rbA g.w.params ex
 rw[<-G.hK]at hm
 simp only[oA,beq_iff_eq]at hm
 refine gA hm λo2 m4=>?_;refine gA o2 λo9 m3=>?_;refine gA o9 λm1 m2=>?_
 have gl:=(wfB G).globs "PorterStemmer" (.top 642) rfl
 refine iA gl λpv gl1 gl2=>?_
 cases gl2
 have hn1:CxOK c (n+6):=hc.le ntB
 have O:=cG G (l:=[]) (CTOK.nil (n:=n+10)) hc hs
 refine vJ rfl rfl (by show 1<=10;decide) hline ?_
 refine wpAny_Call_ofName ?_
 refine St.el (id S) λb m mo rest a1 a2 a3 a4 a5 a6 a7=>?_
 obtain rfl:mo=[]:=a2.inv
 refine name_K a1.F a1.X (topRead_of a1.T) gl1 ?_ c.hk (by show scK c.sc _=_;rw[hs];exact hl1) rfl
 refine tE (first:=[]) (es:=[]) (Q:=λy=>y.1=[]/\y.2=⟨[("word",.str x)],⟨none,none⟩⟩) (nK O 20).1 (.inr m4) rfl (eB rfl rfl) S λvals vs σ' s' hq' hlen S'=>?_
 refine gA hq' λhq1 hq2=>?_
 have hq1:vs=[]:=hq1
 have hq2:σ'=_:=hq2
 subst hq1 hq2
 clear a1 a3 a4 a5 a6 a7
 obtain rfl:vals=[]:=List.eq_nil_of_length_eq_zero hlen.symm
 refine St.el S' λb m mo rest a1 a2 a3 a4 a5 a6 a7=>?_
 obtain rfl:mo=[]:=a2.inv
 have a1:StN g c m rest s'.heap b:=a1
 refine call_cls a1.F a1.X a1.N m1 m2 m3 λy dy h' F' N' l1 l2=>?_
 have G':GX (g.at_ y dy) ex:=⟨G.hK,G.cls⟩
 have hdy:∀p∈rest,p.1≠dy:=λp hp=>Nat.ne_of_lt (l1 p hp)
 have hy:∀p∈rest,p.1≠y:=λp hp=>Nat.ne_of_lt (Nat.lt_trans (l1 p hp) l2)
 have S1:St (g.at_ y dy) c ⟨[("word",.str x)],⟨some [],none⟩⟩ [(.self,.ref y)] rest {s' with heap:=h'}:=by
  refine lD b m ([(dy,dictOf [] 0),(y,instObj g.cls dy)]) rest ⟨⟨a1.B,a1.turn,a1.D,F',λp hp=>?_⟩,.self .nil hdy hy (Nat.ne_of_gt l2),bzA (λval r=>iiB r) a3,λt ht=>?_,λp hp=>hp,a6,a7⟩
  ·rw[G.cls]at hp
   rcases xB hp with rfl|hp
   ·exact N' _ (.tail _ (.head _))
   ·rcases xB hp with rfl|hp
    ·exact N' _ (.head _)
    ·exact N' _ (.tail _ (.tail _ hp))
  ·rcases oH ht with rfl
   exact .self
 have hA:(c.A.under (.builtin "type.__call__" ⟨[.ref 642],[]⟩)).frames=some (c.env::c.outer):=Around.frames_deeper a1.B.stack
 have hd:(c.A.under (.builtin "type.__call__" ⟨[.ref 642],[]⟩)).depth=c.A.depth+1:=by kernel_rfl
 have hu:(c.A.under (.builtin "type.__call__" ⟨[.ref 642],[]⟩)).units=c.A.units+1:=by kernel_rfl
 have hini:=bxA (g:=g.at_ y dy) (n:=n+1) G'.hK guA (vs:=[.self]) (μ:=⟨some [],none⟩) (Q:=λz=>z.1=.none/\z.2=muS ⟨"",0,0,0,0,0,none⟩) rfl (λcx hc' hs'=>by
  have O':mB (g.at_ y dy) (xA wxA.2.2 nkB) cx:=cG G' (.cons (nB G' (CTOK.nil (n:=n)) aeA) .nil) hc' hs'
  show EB (g.at_ y dy) cx wxA.2.1 ⟨[("self",.self)],⟨some [],none⟩⟩ _
  refine fD O' (nD G') 12 _ _ _ ?_
  rw[gnA]
  exact bA (by decide) (eB rfl rfl)) hA (by rw[hd];have:=hc.depth;exact mtB this) hc.handled (by rw[hu];have:=hc.units;exact ltB this) rfl E [] rest _ [.ref y] rfl S1
 refine codeAny_mono hini λr s2 hr=>?_
 induction r using Except.casesOn with
 |error e=>exact hr
 |ok fl=>
  induction fl using PySem.Flow.casesOn with
  |ret v=>
   refine jB hr λw μ' o5 S2=>?_;refine gA o5 λhw1 hw2=>?_
   dsimp only at hw1 hw2
   subst hw1 hw2
   refine eB (S2.getNone (.head _)) ?_
   have S3:St (g.at_ y dy) c ⟨[("word",.str x)],muS ⟨"",0,0,0,0,0,none⟩⟩ [(.self,.ref y)] rest s2:=S2.of (λ_ _=>.self)|>.one|>.sub λt ht=>by
    rcases oH ht with rfl
    exact .head _
   show wpAny g.M c.A (getMethod (.ref y) "stemWord" _) _ E s2
   refine vH ((wfB G').meths "stemWord" 304 rfl) λq1 q2 q3=>?_
   have S3':=S3
   refine St.el S3 λb3 m3' mo3 rest3 c1 c2 c3 c4 c5 c6 c7=>?_
   refine gA c2.inv λø o7=>?_;refine xiA o7 λes' n' o10 hd' hs' hn' r=>?_;obtain rfl:=o10
   refine method_inst (n:=n') c1.F c1.X (InstAt.of_news c1.N (.tail _ (.head _)) (.head _)) q1 q2 q3 (r.getNone rfl) ?_
   have O3:mB (g.at_ y dy) (xA sc []) c:=cG G' (CTOK.nil (n:=n+10)) hc hs
   refine tE (g:=g.at_ y dy) (f:=(ai (xA sc []) 20).1) (Q:=λz=>z.1=[.str x]/\z.2=⟨[("word",.str x)],muS ⟨"",0,0,0,0,0,none⟩⟩) (nK O3 20).1 (.inr (O3.meth "stemWord" 304 rfl)) rfl ?_ S3' λvals vs σ' s4 hq' hlen S4=>?_
   ·have e:(ai (xA sc []) 20).1 (.Name "word" wp) ⟨[("word",.str x)],muS ⟨"",0,0,0,0,0,none⟩⟩=.ret (.str x,⟨[("word",.str x)],muS ⟨"",0,0,0,0,0,none⟩⟩):=by
     show mL (xA sc []) "word" ⟨[("word",.str x)],muS ⟨"",0,0,0,0,0,none⟩⟩=_
     unfold mL
     rw[hl2]
     rfl
    unfold dE
    simp only[e]
    exact⟨rfl,rfl⟩
   ·refine gA hq' λhq1 hq2=>?_
    have hq1:vs=[.str x]:=hq1
    have hq2:σ'=_:=hq2
    subst hq1 hq2
    obtain⟨val,rfl⟩:=vyA hlen
    have S5:St (g.at_ y dy) c ⟨[("word",.str x)],muS ⟨"",0,0,0,0,0,none⟩⟩ ([V.self,V.str x].zip [Value.ref y,val]++[]) rest s4:=S4.sub λt ht=>by
     rcases xB ht with rfl|ht
     ·exact .tail _ (.head _)
     ·rcases xB ht with rfl|ht
      ·exact .head _
      ·cases ht
    refine wpAny_mono (lcB G' n hx (Q:=λz=>z.1=.str (mk (oG x.cps.toList))) (λ_=>rfl) c _ hn1 rfl E [] rest s4 [.ref y,val] rfl S5) (λrv s6 ⟨w,μ6,hw,S6⟩=>?_) λ_ _ z=>z
    have hw:w=_:=hw
    subst hw
    refine zA _ _ hq ?_
    refine St.el S6 λb6 m6 mo6 jH d1 d2 d3 d4 d5 d6 d7=>?_
    refine lD b6 m6 ([]) jH ⟨⟨d1.B,d1.turn,d1.D,d1.F,λp hp=>d1.N p (eE _ hp)⟩,.none,bzA (λval r=>ryA r) d3,λt ht=>?_,λp hp=>d5 p (a5 p hp),d6,d7⟩
    rcases xB ht with rfl|ht
    ·exact ryA (d4 _ (.head _))
    ·exact(a4 t ht).mono d5
  |_=>exact hr.elim
end
set_option tactic.hygienic true
theorem lY (s:Shared)(g:Nat)(st:GenState):(s.setGen g st).toks=s.toks:=rfl
theorem zO {M:Model}{Γ:Ctx}{p:Pos}{t:Sem PySem.Fin}{fs:List Frame}{s:Shared}{e:End}{s':Shared}(h:Runs M Γ p t fs s e s'):s.toks<=s'.toks:=by
 induction h
 all_goals first
  |exact vD _
  |assumption
  |decide
  |(simp only[lY]at*;exact ktB ‹_› ‹_›)
  |(dsimp only at*;exact iC ‹_›)
  |(rename_i a b;exact dA a b)
  |skip
theorem saA {M:Model}{Γ:Ctx}{p:Pos}{g:Nat}{r:Resume}{s:Shared}{res:GenResult}{s':Shared}(h:Wakes M Γ p g r s res s'):s.toks<=s'.toks:=by
 unfold Wakes at h
 split at h
 ·exact h.elim
 ·split at h
  ·obtain⟨e1,s1,h1,_,_,o1⟩:=h;obtain rfl:=o1
   have:=zO h1
   exact this
  ·rw[h.2];exact vD _
  ·rw[h.2];exact vD _
 ·obtain⟨e1,s1,h1,_,_,o2⟩:=h;obtain rfl:=o2
  have:=zO h1
  exact this
 ·rw[h.2];exact vD _
 ·rw[h.2];exact vD _
theorem wp_toks {α:Type}{M:Model}{Γ:Ctx}(t:Sem α):∀{Q:α->Pos->Shared->Prop} {E:Value->Pos->Shared->Prop} {p:Pos} {s:Shared} {n:Nat},n<=s.toks->Sem.wp M Γ t Q E p s->Sem.wp M Γ t (λa p s'=>Q a p s'/\n<=s'.toks) (λe p s'=>E e p s'/\n<=s'.toks) p s:=by
 induction t with
 |pure a=>intro Q E p s n hn h;simp only[Sem.wp_pure]at h ⊢;exact eB h hn
 |raise e=>intro Q E p s n hn h;simp only[Sem.wp_raise]at h ⊢;exact eB h hn
 |call c hd g l k ih=>
  intro Q E p s n hn h
  simp only[Sem.wp_call]at h ⊢
  refine jB h λr s1 h1 h2=>?_
  exact zA r s1 h1 (ih r (dA hn (zO h1)) h2)
 |resume g r l k ih=>
  intro Q E p s n hn h
  simp only[Sem.wp_resume]at h ⊢
  refine jB h λres s1 h1 h2=>?_
  exact zA res s1 h1 (ih res (dA hn (saA h1)) h2)
 |load a part k ih=>
  intro Q E p s n hn h
  simp only[Sem.wp_load]at h ⊢
  refine iA h λo h1 h2=>?_
  exact jA o h1 (ih o hn h2)
 |update a part f k ih=>
  intro Q E p s n hn h
  simp only[Sem.wp_update]at h ⊢
  exact eB h.1 (ih () hn h.2)
 |choose src m k ih=>
  intro Q E p s n hn h
  simp only[Sem.wp_choose]at h ⊢
  exact eB h.1 (ih _ hn h.2)
 |genState g k ih=>
  intro Q E p s n hn h
  simp only[Sem.wp_genState]at h ⊢
  refine iA h λst h1 h2=>?_
  exact jA st h1 (ih _ hn h2)
 |fresh k ih=>
  intro Q E p s n hn h
  simp only[Sem.wp_fresh]at h ⊢
  exact ih _ (Nat.le_succ_of_le hn) h
 |unsupported ø=>intro Q E p s n hn h;rw[Sem.wp_unsupported]at h;exact h.elim
 |finish ø=>intro Q E p s n hn h;rw[Sem.wp_finish]at h;exact h.elim
 |register ø ø ø=>intro Q E p s n hn h;rw[Sem.wp_register]at h;exact h.elim
 |yield ø ø ø ø ø=>intro Q E p s n hn h;rw[Sem.wp_yield]at h;exact h.elim
 |fork ø ø ø=>intro Q E p s n hn h;rw[Sem.wp_fork]at h;exact h.elim
 |await ø ø ø ø ø ø=>intro Q E p s n hn h;rw[Sem.wp_await]at h;exact h.elim
 |_=>
  rename_i ih
  intro Q E p s n hn h
  exact ih _ hn h
theorem wpAny_toks {α:Type}{M:Model}{A:Around}{t:Sem α}{Q:α->Shared->Prop}{E:Value->Shared->Prop}{s:Shared}{n:Nat}(hn:n<=s.toks)(h:wpAny M A t Q E s):wpAny M A t (λa s'=>Q a s'/\n<=s'.toks) (λe s'=>E e s'/\n<=s'.toks) s:=
 λΓ p hΓ=>wp_toks t hn (h Γ p hΓ)
set_option tactic.hygienic false
end Mine
namespace Mine
open PySem PySem.W PySem.Calls PyProof.Rows Sem
section
variable {prog:Program}{w:World}{K:Type}[DecidableEq K]{knd:KeyKind prog w K}{A:Around}{E:Value->Shared->Prop}{s:Shared}
theorem fT {d:Addr}{kvs:List (K×Value)}{k:K}{key v:Value}{Q:Unit->Shared->Prop}(hkey:knd.is k key=true)(hm:s.heap.DictOf knd d kvs)
  (hQ:∀h',h'.DictOf knd d (stored kvs k v)->Heap.SameBut d s.heap h'->Q () {s with heap:=h'})
  (hsz:kvs.length<=sizeLine):
  wpAny (model prog w) A (dictPut d (knd.hash k) key v) Q E s:=by
 refine cqA hm λo es ep ho hc hd hk hp hn=>?_
 have hes:es.size<=sizeLine:=by
  have e1:=hp.length
  have e2:es.toList.length=es.size:=by simp
  exact jtB hsz e1 e2
 refine wpAny_bind (wpAny_dictFind_of hkey ho hd hk ?_)
 have hidx:(es.findIdx? λe=>knd.is k e.key)=kvs.findIdx? λkv=>decide (kv.1=k):=by
  simp only[<-hp.findIdx k];obtain⟨l⟩:=es;simp
 cases hi:es.findIdx? λe=>knd.is k e.key with
 |some i=>
  refine(wpAny_updateDict ho hd (hQ _ (ufB _ _ ep (Heap.get?_update_self _ ho (Obj.isFreed_of_dict (Obj.data_mapDict hd _))) (hc.mapDict _) (Obj.data_mapDict hd _) (hk.modify _ _) ?_ ?_) (Heap.SameBut.update ..)))
  ·rw[stored,if_pos (any_of_findIdx_some (hidx▸hi))]
   have hl:(es.toList.findIdx? λe=>knd.is k e.key)=some i:=by simp only[<-hi];obtain⟨l⟩:=es;simp
   have:=hp.modify hn hl v
   obtain⟨l⟩:=es
   simpa using this
  ·rw[stored,if_pos (any_of_findIdx_some (hidx▸hi)),keys_map_store];exact hn
 |none=>
  have hnot:k∉kvs.map (·.1):=not_mem_of_findIdx_none (hidx▸hi)
  have hany:¬(kvs.any λkv=>decide (kv.1=k))=true:=by
   rw[List.any_eq_true];intro o1;refine iA o1 λkv hkv he=>?_
   exact hnot (List.mem_map.mpr (jA kv hkv (bB he)))
  refine(wpAny_updateDictKeys (hz:=hes) ho hd (hQ _ (ufB _ _ (ep+1) (Heap.get?_update_self _ ho (Obj.isFreed_of_dict (Obj.data_mapDictKeys hd _))) (hc.mapDictKeys _) (Obj.data_mapDictKeys hd _) (hk.push hkey _) ?_ ?_) (Heap.SameBut.update ..)))
  ·rw[stored,if_neg hany]
   have:=hp.append hkey (knd.hash k) v
   obtain⟨l⟩:=es
   simpa using this
  ·rw[stored,if_neg hany,List.map_append,List.nodup_append]
   refine cF hn (by simp) ?_
   intro a ha b hb
   rw[List.map_cons,List.map_nil,List.mem_singleton]at hb
   subst hb
   exact λe=>hnot (e▸ha)
theorem qR {d o:Addr}{kvs more:List (K×Value)}{Q:Unit->Shared->Prop}(hdo:d≠o)(hoS:(o==sysModules)=false)(hne:kvs≠[])
  (hd:s.heap.DictOf knd d kvs) (ho:s.heap.DictOf knd o more)
  (hQ:∀h',h'.DictOf knd d (merged kvs more)->Heap.SameBut d s.heap h'->Q () {s with heap:=h'})
  (hsz:kvs.length+more.length<=sizeLine):
  wpAny (model prog w) A (mergeMapping d (.ref o) false) Q E s:=by
 refine cqA (id hd) λod esd epd hod hcd hdd hkd hpd hnd=>?_
 refine cqA (id ho) λoo eso epo hoo hco hdo' hko hpo hno=>?_
 have hlen:more.length=eso.size:=by refine qDzq (hpo.length ..).symm ?_;simp
 refine wpAny_bind (wpAny_isInstance ho.typeIs isSubtype_dict_dict ?_)
 rw[if_pos rfl]
 refine wpAny_bind (wpAny_specialOf ho.typeIs F.slot_dict_iter.lookup (wpAny_bind (wpAny_pure ?_)))
 rw[beq_self_eq_true]
 dsimp only
 rw[if_neg (by rw[hoS];exact Bool.false_ne_true)]
 refine(wpAny_bind (wpAny_dictEntries hod hdd ?_))
 have he:esd.isEmpty=false:=by
  cases q:esd.isEmpty with
  |false=>rfl
  |true=>
   have h0:=Array.isEmpty_iff.mp q
   have:=hpd.length
   rw[h0]at this
   exact absurd (List.length_eq_zero_iff.mp (by simpa using this.symm)) hne
 rw[he]
 rw[if_neg (by decide)]
 refine wpAny_bind (wpAny_dictEntries hoo hdo' (wpAny_bind (wpAny_dictEpoch hoo hdo' ?_)))
 refine wpAny_bind ?_
 refine wpAny_forIn_list _
   (λrest ø s'=>∃h' i,s'={s with heap:=h'}/\rest=List.range' i (eso.size-i)/\i<=eso.size/\h'.DictOf knd d (merged kvs (more.take i))/\h'.get? o=some oo/\Heap.SameBut d s.heap h')
   _ ?_ ?_ (List.range eso.size) _ (⟨s.heap,0,rfl,(by refine qDzq (List.range_eq_range' ..) ?_;simp only[Nat.sub_zero]),rC _,(by simpa [merged]using hd),hoo,Heap.SameBut.refl _ _⟩)
 ·intro x rest b s' o1;obtain⟨h',i,o3,hr,hi,hd',hoo',hs'⟩:=o1;obtain rfl:=o3
  have hlt:i<eso.size:=by
   refine Or.elim (Nat.lt_or_ge i eso.size) (λh=>?_) λh=>?_
   ·exact h
   ·rw[Nat.sub_eq_zero_of_le h]at hr;simp at hr
  obtain⟨rfl,hrest⟩:x=i/\rest=List.range' (i+1) (eso.size-(i+1)):=by
   have e:eso.size-i=(eso.size-(i+1))+1:=by exact oaB hlen hlt
   rw[e,List.range'_succ]at hr
   injection hr with h1 h2
   exact eB h1 h2
  refine wpAny_bind (wpAny_dictEntries hoo' hdo' ?_)
  rw[Array.getElem?_eq_getElem hlt]
  obtain⟨kv,hkv⟩:∃kv,more[x]?=some kv:=yC (more[x]'(by simp only[hlen];exact hlt)) (mG _)
  obtain⟨k,v⟩:=kv
  refine gA (hpo.get? (e:=eso[x]) (by simp[hlt]) hkv) λhkey hval=>?_
  refine iA (hko eso[x] (Array.getElem_mem hlt)) λk' hkey' hhash=>?_
  obtain rfl:k'=k:=knd.inj _ _ _ hkey' hkey
  have hmx:(merged kvs (more.take x)).length<=sizeLine:=by
   have e1:=merged_length_le kvs (more.take x)
   have e2:(more.take x).length<=more.length:=by rw[gF];exact htB hlen hi hlt
   exact gtB hsz e1 e2
  dsimp only
  rw[hhash,hval]
  rw[if_neg (by decide)]
  refine wpAny_bind (wpAny_holding ?_)
  refine(fT (hsz:=hmx) hkey hd' λh'' hd'' hs''=>?_)
  have hoo'':h''.get? o=some oo:=(hs''.2 o (Ne.symm hdo)).trans hoo'
  refine wpAny_bind (wpAny_dictEpoch hoo'' hdo' ?_)
  rw[if_neg (by simp)]
  exact wpAny_pure (⟨h'',x+1,rfl,hrest,hlt,(by simp only[merged_take_succ kvs more x (k',v) hkv];exact hd''),hoo'',hs'.trans hs''⟩)
 ·intro b s' o2;obtain⟨h',i,o4,hr,hi,hd',hoo',hs'⟩:=o2;obtain rfl:=o4
  have hin:i=eso.size:=by
   refine Or.elim (Nat.lt_or_ge i eso.size) (λh=>?_) λh=>?_
   ·have e:eso.size-i=(eso.size-(i+1))+1:=by exact oaB hlen h
    rw[e,List.range'_succ]at hr;exact nomatch hr
   ·exact Nat.le_antisymm hi h
  refine wpAny_pure (hQ h' ?_ hs')
  rw[hin,<-hlen,List.take_length]at hd';exact hd'
end
end Mine
namespace Mine
open PySem PySem.W PySem.Calls PyProof.Rows
theorem pU (f:(Option (Sem Value)×Sem Value)->(Option Addr×List (Sem Value×Sem Value))->Sem (ForInStep (Option Addr×List (Sem Value×Sem Value))))
  (hf:∀(p:Sem Value×Sem Value) (m:Option Addr) (run:List (Sem Value×Sem Value)),run.length+1<17->f (some p.1,p.2) (m,run)=pure (.yield (m,run++[p]))) (m:Option Addr) (rest:List (Option (Sem Value)×Sem Value)):
  ∀(items run:List (Sem Value×Sem Value)),run.length+items.length<17->forIn ((items.map λp=>(some p.1,p.2))++rest) (m,run) f=forIn rest (m,run++items) f:=by
 intro l0
 induction l0 with
 |nil=>
  intro run ø
  simp
 |cons p r ih=>
  intro run h
  rw[List.map_cons,List.cons_append,List.forIn_cons,hf p m run (by simp at h;exact ftB h),pure_bind]
  have:=ih (run++[p]) (by simp at h ⊢;exact etB h)
  simpa using this
theorem zZ (p1 p2:List (Sem Value×Sem Value))(p:Sem Value×Sem Value)(h1:p1.length=16)(h2:p2≠[])(h3:p2.length<17):
  dictDisplay ((p1.map λp=>(some p.1,p.2))++(some p.1,p.2)::(p2.map λp=>(some p.1,p.2)))=(do
   let d <-subDict (p1++[p])
   let sub <-holding [.ref d] (subDict p2)
   (holding [.ref d,.ref sub] (mergeMapping d (.ref sub) false)).onRaise λx=>do let _ <-holding [.ref d,x] (runValue (.builtin "proto.let_go" {}))
   pure (.ref d)):=by
 unfold dictDisplay
 dsimp only
 rw[pU _ (λp m run h=>by
  have hne:((run++[(p.1,p.2)]).length==17)=false:=by simp;exact naB h
  simp only[hne,Bool.false_eq_true,if_false]) none _ p1 [] (by rw[h1];decide)]
 rw[List.forIn_cons]
 have e17:(([]++p1++[(p.1,p.2)]).length==17)=true:=by simp[h1]
 have ne:([]++p1++[(p.1,p.2)]).isEmpty=false:=by simp
 simp only[e17,ne,if_true,Bool.false_eq_true,if_false,bind_assoc,pure_bind]
 have tail:∀d:Addr,∀f:(Option (Sem Value)×Sem Value)->(Option Addr×List (Sem Value×Sem Value))->Sem (ForInStep (Option Addr×List (Sem Value×Sem Value))),
   (∀(p:Sem Value×Sem Value) (m:Option Addr) (run:List (Sem Value×Sem Value)),run.length+1<17->f (some p.1,p.2) (m,run)=pure (.yield (m,run++[p])))->
   forIn (p2.map λp=>(some p.1,p.2)) (some d,[]) f=pure (some d,p2):=λd f hf=>by
  have:=pU f hf (some d) [] p2 [] (by simpa using h3)
  simpa using this
 congr 1
 ·funext d
  rw[tail d _ (λp m run h=>by
   have hne:((run++[(p.1,p.2)]).length==17)=false:=by simp;exact naB h
   simp only[hne,Bool.false_eq_true,if_false])]
  have hp2:p2.isEmpty=false:=by induction p2 using List.casesOn with|nil=>exact absurd rfl h2|cons ø ø=>rfl
  simp only[pure_bind,hp2,Bool.false_eq_true,if_false,bind_assoc]
inductive KvR:List (Str×Str)->List (Str×Value)->Prop
 |nil:KvR [] []
 |cons {k v:Str} {t:Tok} {es:List (Str×Str)} {kvs:List (Str×Value)} (r:KvR es kvs):KvR ((k,v)::es) ((k,.str v t)::kvs)
theorem KvR.keys {es:List (Str×Str)}{kvs:List (Str×Value)}(h:KvR es kvs):kvs.map (·.1)=es.map (·.1):=by
 induction h with
 |nil=>rfl
 |cons r ih=>exact congrArg (List.cons _) ih
theorem KvR.flat {es:List (Str×Str)}{kvs:List (Str×Value)}(h:KvR es kvs):PyProof.V.FlatPairs PyData.str kvs (sdD es):=by
 induction h with
 |nil=>exact .nil
 |cons r ih=>exact .cons (λh=>PyProof.V.Flat.str _ _ h) ih
theorem KvR.app {es es':List (Str×Str)}{kvs kvs':List (Str×Value)}(h:KvR es kvs)(h':KvR es' kvs'):KvR (es++es') (kvs++kvs'):=by
 induction h with
 |nil=>exact h'
 |cons r ih=>exact .cons ih
theorem KvR.length {es:List (Str×Str)}{kvs:List (Str×Value)}(h:KvR es kvs):kvs.length=es.length:=by
 induction h with
 |nil=>rfl
 |cons r ih=>exact congrArg (·+1) ih
structure eiB (p:Sem Value×Sem Value) (e:Str×Str):Prop where
 key:∀{M:Model} {A:Around} {E:Value->Shared->Prop} {s:Shared} {Q:Value->Shared->Prop},Q (.str e.1 s.toks) {s with toks:=s.toks+1}->wpAny M A p.1 Q E s
 val:∀{M:Model} {A:Around} {E:Value->Shared->Prop} {s:Shared} {Q:Value->Shared->Prop},Q (.str e.2 s.toks) {s with toks:=s.toks+1}->wpAny M A p.2 Q E s
inductive ConstPs:List (Sem Value×Sem Value)->List (Str×Str)->Prop
 |nil:ConstPs [] []
 |cons {p:Sem Value×Sem Value} {e:Str×Str} {ps:List (Sem Value×Sem Value)} {es:List (Str×Str)} (h:eiB p e) (r:ConstPs ps es):ConstPs (p::ps) (e::es)
theorem ConstPs.length {ps:List (Sem Value×Sem Value)}{es:List (Str×Str)}(h:ConstPs ps es):ps.length=es.length:=by
 induction h with
 |nil=>rfl
 |cons h r ih=>exact congrArg (·+1) ih
section
variable {prog:Program}{w:World}{A:Around}{E:Value->Shared->Prop}{s:Shared}
noncomputable abbrev sk (prog:Program)(w:World):=PySem.strKind prog w
theorem gJ (x:Str)(t:Tok):(sk prog w).is x (.str x t)=true:=by exact beq_self_eq_true _
theorem stored_new {kvs:List (Str×Value)}{k:Str}{v:Value}(h:k∉kvs.map (·.1)):stored kvs k v=kvs++[(k,v)]:=by
 rw[stored,if_neg]
 rw[List.any_eq_true]
 intro o1;refine iA o1 λkv hkv he=>?_
 exact h (List.mem_map.mpr (jA kv hkv (bB he)))
theorem sbA {d:Addr}{ps:List (Sem Value×Sem Value)}{es es0:List (Str×Str)}{acc:List (Str×Value)}{s:Shared}{Q:PUnit->Shared->Prop}(hc:ConstPs ps es)(hk:KvR es0 acc)(hn:((es0++es).map (·.1)).Nodup)(hl:(es0++es).length<=1000)(hd:s.heap.DictOf (sk prog w) d acc)
  (hq:∀h' tk kvs,KvR (es0++es) kvs->h'.DictOf (sk prog w) d kvs->Heap.SameBut d s.heap h'->Q PUnit.unit {s with heap:=h',toks:=tk}):
  wpAny (model prog w) A (forIn ps PUnit.unit λ(x:Sem Value×Sem Value) (_:PUnit)=>(do
   let kv <-x.1
   let vv <-holding [kv] x.2
   holding [kv,vv] (dictSet d kv vv)
   pure (ForInStep.yield PUnit.unit):Sem (ForInStep PUnit))) Q E s:=by
 induction hc generalizing es0 acc s with
 |nil=>
  rw[List.forIn_nil]
  exact wpAny_pure (hq s.heap s.toks acc (by rw[List.append_nil];exact hk) hd (Heap.SameBut.refl _ _))
 |@cons p e ps es hp r ih=>
  rw[List.forIn_cons]
  have hfresh:e.1∉acc.map (·.1):=by
   rw[hk.keys]
   rw[List.map_append,List.map_cons,List.nodup_append]at hn
   intro z
   exact hn.2.2 _ z _ (.head _) rfl
  have hal:acc.length<=sizeLine:=by
   rw[hk.length,sizeLine_eq]
   rw[vC]at hl
   exact dtB hl
  refine wpAny_bind (wpAny_bind (hp.key (wpAny_bind (wpAny_holding (hp.val (wpAny_bind (wpAny_holding (wpAny_dictSet_pairs (hsz:=hal) (gJ e.1 _) hd λh1 hd1 hs1=>wpAny_pure ?_))))))))
  rw[stored_new hfresh]at hd1
  refine ih (es0:=es0++[e]) (hk.app (.cons .nil)) (by rw[List.append_assoc];exact hn) (by rw[List.append_assoc];exact hl) hd1 λh' tk kvs a1 a2 a3=>?_
  exact hq h' tk kvs (by rw[List.append_assoc]at a1;exact a1) a2 (hs1.trans a3)
theorem jcA {ps:List (Sem Value×Sem Value)}{es:List (Str×Str)}{s:Shared}{Q:List (Value×Value)->Shared->Prop}(hc:ConstPs ps es)
  (hq:∀vs kvs tk,Carries (sk prog w) vs kvs->KvR es kvs->Q vs {s with toks:=tk}):wpAny (model prog w) A (evalPairs ps) Q E s:=by
 induction hc generalizing s Q with
 |nil=>exact evalPairs_nil (hq [] [] s.toks trivial .nil)
 |@cons p e ps es hp r ih=>exact evalPairs_cons (hp.key (hp.val (ih λvs kvs tk a1 a2=>hq _ ((e.1,.str e.2 (s.toks+1))::kvs) tk ⟨gJ _ _,rfl,a1⟩ (.cons a2))))
theorem uI {ps:List (Sem Value×Sem Value)}{es:List (Str×Str)}{Q:Addr->Shared->Prop}(hc:ConstPs ps es)(hn:(es.map (·.1)).Nodup)(hl:es.length<=1000)
  (hq:∀h' tk kvs,KvR es kvs->h'.DictOf (sk prog w) s.heap.objs.size kvs->Heap.SameBut s.heap.objs.size (s.heap.push {cls:=.type "dict",data:=.dict #[]}) h'->Q s.heap.objs.size {s with heap:=h',toks:=tk}):
  wpAny (model prog w) A (subDict ps) Q E s:=by
 by_cases h15:ps.length<=15
 ·refine wpAny_subDict (knd:=sk prog w) h15 (jcA hc λvs kvs tk a1 a2=>zG kvs a1 (Heap.DictOf.new _) (λh' b1 b2=>?_))
  simp only[merged_nil_of_nodup kvs (by simp only[a2.keys];exact hn)]at b1
  exact hq h' _ kvs a2 b1 b2
 ·refine wpAny_bind (wpAny_alloc (wpAny_bind (wpAny_holding ?_)))
  rw[if_neg h15]
  refine wpAny_bind (wpAny_rule (wpAny_bind ?_))
  exact sbA hc .nil (by simpa using hn) (by simpa using hl) (Heap.DictOf.new _) λh' tk kvs a1 a2 a3=>wpAny_pure (wpAny_pure (hq h' tk kvs a1 a2 a3))
theorem dT {p1 p2:List (Sem Value×Sem Value)}{p:Sem Value×Sem Value}{es1 es2:List (Str×Str)}{Q:Value->Shared->Prop}(h1:p1.length=16)(h2:p2≠[])(h3:p2.length<17)(hc1:ConstPs (p1++[p]) es1)(hc2:ConstPs p2 es2)(hn:((es1++es2).map (·.1)).Nodup)(hlo:∀a:Nat,s.heap.objs.size<=a->((a:Addr)==sysModules)=false)
  (hq:∀h' tk kvs,KvR (es1++es2) kvs->h'.DictOf (sk prog w) s.heap.objs.size kvs->(∀a o,s.heap.get? a=some o->h'.get? a=some o)->Q (.ref s.heap.objs.size) {s with heap:=h',toks:=tk}):
  wpAny (model prog w) A (dictDisplay ((p1.map λp=>(some p.1,p.2))++(some p.1,p.2)::(p2.map λp=>(some p.1,p.2)))) Q E s:=by
 rw[zZ p1 p2 p h1 h2 h3]
 have l1:=hc1.length
 have l2:=hc2.length
 rw[vC,h1]at l1
 simp only[List.length_cons,List.length_nil]at l1
 rw[List.map_append,List.nodup_append]at hn
 refine wpAny_bind (uI hc1 hn.1 (ctB l1) λha tk kvs1 a1 a2 a3=>?_)
 have hsz:ha.objs.size=s.heap.objs.size+1:=by have:=a3.1;simp only[Heap.size_push]at this;exact this
 refine wpAny_bind (wpAny_holding (uI hc2 hn.2.1 (btB h3 l2) λhb tk2 kvs2 b1 b2 b3=>?_))
 dsimp only at b2 b3 ⊢
 have hne:s.heap.objs.size≠ha.objs.size:=by exact atB hsz
 have a2':hb.DictOf (sk prog w) s.heap.objs.size kvs1:=(a2.push _).sameBut b3 hne
 have hk1:kvs1≠[]:=by
  intro z
  have:=a1.length
  rw[z]at this
  simp only[List.length_nil]at this
  exact zsB l1 this
 refine wpAny_bind (wpAny_onRaise (wpAny_holding (qR (knd:=sk prog w) hne (hlo _ (by simp only[hsz];exact Nat.le_succ _)) hk1 a2' b2 (λhc c1 c2=>wpAny_pure ?_) (by simp only[a1.length,b1.length,sizeLine_eq];exact ysB h3 l1 l2))))
 have hm:merged kvs1 kvs2=kvs1++kvs2:=merged_append_of_fresh _ _ (by
  rw[List.map_append,a1.keys,b1.keys,List.nodup_append]
  exact hn)
 simp only[hm]at c1
 refine hq hc tk2 _ (a1.app b1) c1 λa o ho=>?_
 have hlt:=Heap.lt_size ho
 refine qDzq (c2.2 a (Nat.ne_of_lt hlt) ..) ?_;refine qDzq (b3.2 a (Nat.ne_of_lt (by simp only[hsz];exact Nat.lt_succ_of_lt hlt)) ..) ?_
 refine Heap.get?_push_of_some _ ?_
 refine qDzq (a3.2 a (Nat.ne_of_lt hlt) ..) ?_
 exact Heap.get?_push_of_some _ ho
end
noncomputable def valOf:Flow->Value
 | .ret v=>v
 |_=>.none
noncomputable abbrev EBR (g:Gr)(c:Cx)(k:Nat)(b:List Stmt)(σ:AS)(R:List (Addr×Obj)->V->Value->Mu->Prop):Prop:=
 ∀(E:Value->Shared->Prop) (P:List (Addr×Obj)) (s:Shared),k<=s.toks->PassesOwn g.M c.A c.env E->St g c σ [] P s->
  wpAny g.M c.A (execs b c.env) (λfl s'=>∃v σ',R P v (valOf fl) σ'.μ/\(fl=.next\/∃val,fl=.ret val)/\St g c σ' [(v,valOf fl)] P s') E s
section
variable {g:Gr}{n:Nat}{f:Addr}{vs:List V}{μ:Mu}{name qual:Str}{params:Arguments}{body:List Stmt}{scope:Scope}{dV kV doc pm cdv ct oc:Value}{an od:Option Addr}{osl:Array (Option Value)}
theorem rcA (ps:List Str)(hf:g.K.lookup f=some ⟨oc,od,.func (fnOf name qual params body scope dV kV doc pm an cdv ct),osl⟩)(hcd:codeIn g.K cdv qual=true)(hlen:vs.length=ps.length)
  (hbind:∀vals:List Value,vals.length=ps.length->bindArgs (fnOf name qual params body scope dV kV doc pm an cdv ct) ⟨vals,[]⟩=pure (ps.zip vals)) (hn:ps.Nodup) (hloc:∀y∈ps,scope.names.lookup y=some .local)
  (hco:scope.isCoroutine=false) (hgen:scope.isGenerator=false) (hk:scope.kind=.function) (hcell:∀x∈scope.names,x.2≠.cell)
  {k:Nat} {R:List (Addr×Obj)->V->Value->Mu->Prop} (hR:∀P P' v val μ,(∀p∈P',p∈P)->R P v val μ->R P' v val μ) (hb:∀c,CxOK c n->c.sc=scope->EBR g c k body ⟨ps.zip vs,μ⟩ R) {c:Cx} {σ:AS} (hc:CxOK c (n+1)) (hμ:σ.μ=μ)
  (E:Value->Shared->Prop) (ts:List (V×Value)) (P:List (Addr×Obj)) (s:Shared) (vals:List Value) (htk:k<=s.toks+ps.length) (hl:vs.length=vals.length) (S:St g c σ (vs.zip vals++ts) P s):
  wpAny g.M c.A (call (.ref f) vals) (λval s'=>∃v μ',R P v val μ'/\St g c {σ with μ:=μ'} ((v,val)::ts) P s') E s:=by
 refine St.el S λb m mo rest a1 a2 a3 a4 a5 a6 a7=>?_
 have hvl:vals.length=ps.length:=hl.symm.trans hlen
 refine wpAny_call (code_defS (A₀:=c.A₀) (base:=g.base) (outer:=c.outer) (K:=g.K) (g₀:=c.g₀) (cn:=c.nm) (cs:=c.sc) (a:=c.a) (ccd:=c.cd) (binds:=ps.zip vals) a1.B a1.F a1.X a1.N a1.T g.X g.T a1.D a1.turn (Around.frames_deeper a1.B.stack) hf hcd
  (by have:=hc.depth;exact ar6 this) (.of_eq (hbind vals hvl)) (λy hy=>hloc _ (List.of_mem_zip hy).1) (λG L' h₁ F0 F1 N1 B1 X1 T1 D1=>?_) c.hk hco hgen hk hcell)
 let c':Cx:=⟨c.A,c.env::c.outer,qual,scope,L',f,cdv,G,hk⟩
 have hc':CxOK c' n:=⟨by have:=hc.depth;exact ar7 this,hc.handled,by have:=hc.units;exact ar8 this⟩
 have S':St g c' ⟨ps.zip vs,μ⟩ [] rest {s with heap:=h₁,toks:=s.toks+(ps.zip vals).length}:=by
  refine lD G _ mo rest ⟨⟨B1,.refl,D1,F1,N1⟩,by simp only[<-hμ];exact a2,λx v hx=>?_,λt ht=>(nomatch ht),λp hp=>hp,a6,a7⟩
  refine iA (rK hl hx) λval e hm=>?_
  refine jA val ?_ (a4 _ (zH _ hm))
  refine qDzq (qK hn ..) ?_
  exact e
 have fin:∀(v:V) (val:Value) (σ':AS) (s':Shared),R rest v val σ'.μ->St g c' σ' [(v,val)] rest s'->LeaveS ((c.env::c.outer).filterMap (·.frame)) c.A₀ g.base c.outer g.K g.p g.loose g.mean g.mg g.mb c.g₀ b c.L m G
   (λr s'=>match r with| .ok (.ret v)=>∃w μ',R P w v μ'/\St g c {σ with μ:=μ'} ((w,v)::ts) P s'| .ok ø=>False| .error e=>E e s') val s':=λv val σ' s' hq hS=>by
  refine St.el hS λb' m' mo' rest' b1 b2 b3 b4 b5 b6 b7=>?_
  refine leaveS_r b1.F b1.N b1.turn λh₀' k1 k2 k3 k4 k5 k6 k7=>zA v σ'.μ (hR _ _ _ _ _ a5 hq) (lD h₀' m mo' rest' ⟨⟨k4,k1,k7,k2,k3⟩,b2,λx u hx=>?_,λt ht=>?_,λp hp=>b5 p (a5 p hp),b6,b7⟩)
  ·refine iA (a3 x u hx) λw hw hr=>?_
   exact jA w hw (hr.mono b5)
  ·rcases xB ht with rfl|ht
   ·exact b4 _ (.head _)
   ·exact(a4 t (eE _ ht)).mono b5
 have hE:PassesOwn g.M c'.A c'.env (λe s'=>wpAny g.M c'.A («leaving» c'.env e) (λø s''=>(match(Except.error e:Result)with| .ok (.ret v)=>∃w μ',R P w v μ'/\St g c {σ with μ:=μ'} ((w,v)::ts) P s''| .ok ø=>False| .error e=>E e s''))
   (λe' s''=>(match(Except.error e':Result)with| .ok (.ret v)=>∃w μ',R P w v μ'/\St g c {σ with μ:=μ'} ((w,v)::ts) P s''| .ok ø=>False| .error e=>E e s'')) s'):=PassesOwn.leaving (Q₁:=λe s''=>E e s'')
 refine wpAny_mono (hb c' hc' rfl _ rest _ (by simp only[List.length_zip,hvl,Nat.min_self];exact htk) hE S') (λfl s' ⟨v,σ',hq,hfl,hr⟩=>?_) λø ø x=>x
 rcases hfl with rfl|⟨val,rfl⟩
 ·exact fin v .none σ' s' hq hr
 ·exact fin v val σ' s' hq hr
theorem qW {ex:Ex}(hK:g.K=KX g.w.params ex){a:Addr}{d:Arguments×List Stmt×Scope}{ps:List Str}(Rc:qA a d ps)(hlen:vs.length=ps.length){k:Nat}{R:List (Addr×Obj)->V->Value->Mu->Prop}(hR:∀P P' v val μ,(∀p∈P',p∈P)->R P v val μ->R P' v val μ)
  (hb:∀c,CxOK c n->c.sc=d.2.2->EBR g c k d.2.1 ⟨ps.zip vs,μ⟩ R) {c:Cx} {σ:AS} (hc:CxOK c (n+1)) (hμ:σ.μ=μ)
  (E:Value->Shared->Prop) (ts:List (V×Value)) (P:List (Addr×Obj)) (s:Shared) (vals:List Value) (htk:k<=s.toks+ps.length) (hl:vs.length=vals.length) (S:St g c σ (vs.zip vals++ts) P s):
  wpAny g.M c.A (call (.ref a) vals) (λval s'=>∃v μ',R P v val μ'/\St g c {σ with μ:=μ'} ((v,val)::ts) P s') E s:=by
 refine paA (Rc.lk g.w.params ex) λnm q mod code e1 e2=>?_
 have sc:=Rc.sc
 simp only[oA,aF,beq_iff_eq,List.all_eq_true,bne_iff_ne,ne_eq]at sc
 exact rcA ps (by simp only[hK];exact e1) (by rw[hK];exact e2) hlen (Rc.bind nm q mod code) Rc.nd (λy hy=>beq_iff_eq.mp (fC Rc.loc y hy)) sc.1.1.1 sc.1.1.2 sc.1.2 (λx hx=>sc.2 x hx) hR hb hc hμ E ts P s vals htk hl S
theorem axA {ex:Ex}(hK:g.K=KX g.w.params ex){a:Addr}{d:Arguments×List Stmt×Scope}{ps:List Str}(Rc:qA a d ps)(hlen:vs.length=ps.length)(hne:0<ps.length){Q:V×Mu->Prop}
  (hb:∀c,CxOK c n->c.sc=d.2.2->EBR g c 1 d.2.1 ⟨ps.zip vs,μ⟩ λø v ø μ=>Q (v,μ)):xS g (n+1) a vs μ Q:=λc σ hc hμ E ts P s vals hl S=>
 qW hK Rc hlen (λø ø ø ø ø ø h=>h) hb hc hμ E ts P s vals (xsB hne) hl S
end
section
variable {g:Gr}{c:Cx}{t:Tb}{k:Nat}{R:List (Addr×Obj)->V->Value->Mu->Prop}
theorem goA {b:List Stmt}{σ:AS}{Q:V×Mu->Prop}(h:EB g c b σ (dB Q)):EBR g c k b σ λø v ø μ=>Q (v,μ):=λE P s ø hE S=>by
 refine wpAny_mono (h E [] P s ⟨hE,λa σ' e s' hq ø=>hq.elim⟩ S) (λfl s' ⟨o,σ',hq,hr⟩=>?_) λø ø x=>x
 induction o using Mine.Out.casesOn with
 |next=>obtain⟨rfl,S'⟩:=hr;exact zI .none σ' hq (.inl rfl) (S'.imm λø=>.none)
 |ret v=>refine iA hr λval o3 S'=>?_;obtain rfl:=o3;exact zI v σ' hq (.inr (yC val rfl)) S'
 |brk=>exact hq.elim
 |cont=>exact hq.elim
 |exc a=>exact hr.elim
noncomputable def ciB (g:Gr)(c:Cx)(k:Nat)(r:List Stmt)(R:List (Addr×Obj)->V->Value->Mu->Prop):Out×AS->Prop
 |(.next,σ)=>EBR g c k r σ R
 |(.ret v,σ)=>∀P val,R P v val σ.μ
 |_=>False
theorem jL {st:Stmt}{r:List Stmt}{σ:AS}(h:ES g c st σ (ciB g c k r R)):EBR g c k (st::r) σ R:=λE P s hk hE S=>by
 refine wpAny_execs_cons (wpAny_mono (wpAny_toks hk (h E [] P s ⟨hE,λa σ' e s' hq ø=>hq.elim⟩ S)) (λfl s' ⟨⟨o,σ',hq,hr⟩,hk'⟩=>?_) λø ø x=>x.1)
 induction o using Mine.Out.casesOn with
 |next=>obtain⟨rfl,S'⟩:=hr;exact hq E P s' hk' hE S'
 |ret v=>refine iA hr λval o3 S'=>?_;obtain rfl:=o3;exact zI v σ' (hq _ _) (.inr ⟨val,rfl⟩) S'
 |brk=>exact hq.elim
 |cont=>exact hq.elim
 |exc a=>exact hr.elim
end
section
variable {g:Gr}{c:Cx}{σ:AS}{ts:List (V×Value)}{P:List (Addr×Obj)}{s:Shared}
theorem St.grown (S:St g c σ ts P s){h':Heap}{tk:Nat}{d:Addr}{o:Obj}(hd:s.heap.objs.size<=d)(k:∀a o,s.heap.get? a=some o->h'.get? a=some o)(hn:h'.get? d=some o){v:V}
  (r:∀rest,(∀t∈ts,VR g rest t.1 t.2)->VR g ((d,o)::rest) v (.ref d)):St g c σ ((v,.ref d)::ts) P {s with heap:=h',toks:=tk}/\∀p∈P,p.1≠d:=by
 refine St.el S λb m mo rest a1 a2 a3 a4 a5 o1 o2=>?_;have a6:=And.intro o1 o2
 have hlt:∀p∈mo++rest,p.1≠d:=λp hp=>Nat.ne_of_lt (cE (Heap.lt_size (a1.N p hp).1) hd)
 have hbd:b.get? d=none:=by
  cases q:b.get? d with
  |none=>rfl
  |some o'=>
   have:=Heap.lt_size (a1.F.keep d o' q)
   exact absurd this (Nat.not_lt.mpr hd)
 have hL:d≠c.L:=Nat.ne_of_gt (cE a1.F.ns.lt hd)
 refine⟨lD b m mo ((d,o)::rest) ⟨⟨a1.B,a1.turn,a1.D,⟨a1.F.ns.at' λo e=>k _ o e,λa o e=>k a o (a1.F.keep a o e),a1.F.above⟩,λp hp=>?_⟩,?_,λx v hx=>?_,λt ht=>?_,λp hp=>.tail _ (a5 p hp),a6⟩,λp hp=>hlt p (eE _ (a5 p hp))⟩
 ·have old:p∈mo++rest\/p=(d,o):=by
   refine Or.elim (dI hp) (λh=>?_) λh=>?_
   ·exact .inl (zH _ h)
   ·rcases xB h with rfl|h
    ·exact .inr rfl
    ·exact .inl (eE _ h)
  rcases old with h|rfl
  ·have:=a1.N p h
   exact eB (k _ _ this.1) this.2
  ·exact cF hn hL hbd
 ·exact a2.cons λq hq=>hlt q (zH _ hq)
 ·refine iA (a3 x v hx) λval h1 h2=>?_
  exact jA val h1 (h2.mono λp hp=>.tail _ hp)
 ·rcases xB ht with rfl|ht
  ·exact r rest a4
  ·exact(a4 t ht).mono λp hp=>.tail _ hp
end
noncomputable def ocB:Expr->Option Str
 | .Constant (.str k) _ _=>some k
 |_=>none
theorem rdA {e:Expr}{k:Str}(h:ocB e=some k):∃n p,e=.Constant (.str k) n p:=by
 induction e using PySem.Expr.casesOn with
 |Constant c n p=>induction c using PySem.Const.casesOn with
  |str x=>have o1:=inj h;clear h;obtain rfl:=o1;exact inA _ _ rfl
  |_=>exact no h
 |_=>exact no h
noncomputable def qI:List (Option Expr)->List Expr->Option (List (Str×Str))
 |[],vs=>if vs.isEmpty then some []else none
 |k::ks,vs=>(k.bind ocB).bind λk=>(vs.head?.bind ocB).bind λv=>(qI ks (vs.drop 1)).map λr=>(k,v)::r
theorem jS {env:Env}{pos:Pos}:∀{keys:List (Option Expr)} {values:List Expr} {es:List (Str×Str)},qI keys values=some es->keys.all (·.isSome)=true/\keys.length=values.length/\keys.length=es.length/\ConstPs (pairTrees keys values env pos) es
 |[],vs,es,h=>by
  induction vs using List.casesOn with
  |nil=>have o1:=inj h;clear h;obtain rfl:=o1;exact gM rfl rfl rfl .nil
  |cons ø ø=>exact no h
 |ky::ks,vs,es,h=>by
  refine iA (dH h) λk hk h=>?_
  refine iA (dH h) λv hv h=>?_
  refine iA (Option.map_eq_some_iff.mp h) λr hr o2=>?_;obtain rfl:=o2
  refine iA (dH hk) λe1 o4 hk=>?_;obtain rfl:=o4
  refine yiA (rdA hk) λk1 q1 o6=>?_;obtain rfl:=o6
  induction vs using List.casesOn with
  |nil=>exact no hv
  |cons e2 vs=>
   refine yiA (rdA (e:=e2) hv) λk2 q2 o8=>?_;obtain rfl:=o8
   refine raA (jS (env:=env) (pos:=pos) (values:=vs) hr) λa1 a2 a3 a4=>?_
   refine gM (by refine qDzq (List.all_cons ..) ?_;refine qDzq (a1 ..) ?_;rfl) (by refine qDzq (List.length_cons ..) ?_;rw[List.length_cons,a2]) (by refine qDzq (List.length_cons ..) ?_;rw[List.length_cons,a3]) ?_
   refine .cons ⟨?_,?_⟩ a4
   ·intro M A E s Q h
    show wpAny M A (eval (.Constant (.str k) k1 q1) env) Q E s
    exact wpAny_Constant_str h
   ·intro M A E s Q h
    exact wpAny_bind (wpAny_Constant_str (wpAny_bind (wpAny_standAt (wpAny_pure h))))
theorem ConstPs.take {ps:List (Sem Value×Sem Value)}{es:List (Str×Str)}(n:Nat)(h:ConstPs ps es):ConstPs (ps.take n) (es.take n):=by
 induction h generalizing n with
 |nil=>rw[List.take_nil,List.take_nil];exact .nil
 |cons h r ih=>induction n using Nat.casesOn with
  |zero=>exact .nil
  |succ n=>exact .cons h (ih n)
theorem ConstPs.drop {ps:List (Sem Value×Sem Value)}{es:List (Str×Str)}(n:Nat)(h:ConstPs ps es):ConstPs (ps.drop n) (es.drop n):=by
 induction h generalizing n with
 |nil=>rw[List.drop_nil,List.drop_nil];exact .nil
 |cons h r ih=>induction n using Nat.casesOn with
  |zero=>exact .cons h r
  |succ n=>exact ih n
section
variable {prog:Program}{w:World}{A:Around}{E:Value->Shared->Prop}{s:Shared}{env:Env}
theorem ciA {keys:List (Option Expr)}{values:List Expr}{pos:Pos}{es:List (Str×Str)}{Q:Value->Shared->Prop}(hl:qI keys values=some es)(hn:(es.map (·.1)).Nodup)(h0:0<es.length)(h1:es.length<34)(h17:es.length≠17)
  (hlo:∀a:Nat,s.heap.objs.size<=a->((a:Addr)==sysModules)=false)
  (hq:∀h' tk kvs,KvR es kvs->h'.DictOf (sk prog w) s.heap.objs.size kvs->(∀a o,s.heap.get? a=some o->h'.get? a=some o)->Q (.ref s.heap.objs.size) {s with heap:=h',toks:=tk}):
  wpAny (model prog w) A (eval (.Dict keys values pos) env) Q E s:=by
 refine raA (jS (env:=env) (pos:=pos) hl) λa1 a2 a3 a4=>?_
 have hlen:=a4.length
 simp only[arm_eval_Dict,zip_pairTrees keys values env pos a1 a2]
 generalize pairTrees keys values env pos=L at a4 hlen
 refine wpAny_bind (wpAny_standAt ?_)
 by_cases hs:es.length<17
 ·rw[dictDisplay_pairs L (λz=>by rw[z]at hlen;simp only[List.length_nil]at hlen;exact wsB h0 hlen) (vsB h17 hlen hs)]
  refine wpAny_bind (uI a4 hn (usB hs) λh' tk kvs b1 b2 b3=>wpAny_pure (hq h' tk kvs b1 b2 λa o ho=>?_))
  refine qDzq (b3.2 a (Nat.ne_of_lt (Heap.lt_size ho)) ..) ?_
  exact Heap.get?_push_of_some _ ho
 ·have e16:L.drop 16=L[16]'(lS h17 hlen hs)::L.drop 17:=List.drop_eq_getElem_cons (lS h17 hlen hs)
  have eL:L=L.take 16++L[16]'(lS h17 hlen hs)::L.drop 17:=by simp only[<-e16,List.take_append_drop]
  have e17:L.take 16++[L[16]'(lS h17 hlen hs)]=L.take 17:=(List.take_succ_eq_append_getElem (lS h17 hlen hs)).symm
  have eM:L.map (λp=>(some p.1,p.2))=(L.take 16).map (λp=>(some p.1,p.2))++(some (L[16]'(lS h17 hlen hs)).1,(L[16]'(lS h17 hlen hs)).2)::(L.drop 17).map (λp=>(some p.1,p.2)):=by
   conv=>lhs;rw[eL]
   rw[List.map_append,List.map_cons]
  rw[eM]
  refine dT (es1:=es.take 17) (es2:=es.drop 17) (by refine qDzq (gF ..) ?_;exact tsB h17 hlen hs) (λz=>?_) (by rw[List.length_drop];exact ssB h1 hlen) (by rw[e17];exact a4.take 17) (a4.drop 17) (by rw[List.take_append_drop];exact hn) hlo λh' tk kvs b1 b2 b3=>?_
  ·have:=congrArg List.length z
   simp only[List.length_drop,List.length_nil]at this
   exact rsB h17 hlen hs this
  ·rw[List.take_append_drop]at b1
   exact hq h' tk kvs b1 b2 b3
end
noncomputable def dX (es:List (Str×Str))(μ:Mu)(P:List (Addr×Obj))(v:V)(val:Value)(μ':Mu):Prop:=v=.sd es/\μ'=μ/\∃a,val=.ref a/\∀p∈P,p.1≠a
theorem St.low {g:Gr}{c:Cx}{σ:AS}{ts:List (V×Value)}{P:List (Addr×Obj)}{s:Shared}(S:St g c σ ts P s):∀a:Nat,s.heap.objs.size<=a->((a:Addr)==sysModules)=false:=λa ha=>by
 refine St.el S λb m mo rest a1 ø ø ø ø ø ø=>?_
 have h1:=modules_low a1.T.nolimit
 have h2:sysModules<s.heap.objs.size:=Nat.lt_trans h1 (iD a1.F.above a1.F.ns.lt)
 exact beq_false_of_ne (Nat.ne_of_gt (cE h2 ha))
theorem glA {g:Gr}{c:Cx}{σ:AS}{k:Nat}{keys:List (Option Expr)}{values:List Expr}{pos rp:Pos}{es:List (Str×Str)}(hl:qI keys values=some es)(hn:(es.map (·.1)).Nodup)(h0:0<es.length)(h1:es.length<34)(h17:es.length≠17):
  EBR g c k [.Return (some (.Dict keys values pos)) rp] σ (dX es σ.μ):=λE P s ø hE S=>by
 refine wpAny_execs_cons (wpAny_Return_some (ciA hl hn h0 h1 h17 S.low λh' tk kvs b1 b2 b3=>?_))
 refine iA (Heap.dictOf_iff.mp b2) λo ho hd=>?_
 refine gA (S.grown (h':=h') (tk:=tk) (v:=.sd es) (vD _) b3 ho (λrest ø=>.sd (.head _) (S.low _ (vD _)) (jA kvs hd b1.flat))) λS' hf=>?_
 exact zI (.sd es) σ (cF rfl rfl (jA _ rfl hf)) (.inr (yC _ rfl)) S'
theorem lgA {g:Gr}{c:Cx}{ρ:List (Str×V)}{μ:Mu}{k:Nat}{b:List Stmt}{keys:List (Option Expr)}{values:List Expr}{pos rp:Pos}{es:List (Str×Str)}(hb:b=[.Return (some (.Dict keys values pos)) rp])(hl:qI keys values=some es)(hn:(es.map (·.1)).Nodup)(h0:0<es.length/\es.length<34/\es.length≠17):
  EBR g c k b ⟨ρ,μ⟩ (dX es μ):=by
 subst hb
 exact glA (σ:=⟨ρ,μ⟩) hl hn h0.1 h0.2.1 h0.2.2
noncomputable def lE:List (Str×Str):=[("anci","ance"),("enci","ence"),("eli","e"),("alli","al"),("ousli","ous"),("entli","ent"),("aliti","al"),("biliti","ble"),("iviti","ive"),("tional","tion"),("ational","ate"),("alism","al"),("ation","ate"),("ization","ize"),("izer","ize"),("ator","ate"),("iveness","ive"),("fulness","ful"),("ousness","ous")]
noncomputable def yN:List Stmt->List (Option Expr)×List Expr×Pos×Pos
 |[.Return (some (.Dict ks vs p)) rp]=>(ks,vs,p,rp)
 |_=>([],[],default,default)
theorem rxA:(eA 32).2.1=[.Return (some (.Dict (yN (eA 32).2.1).1 (yN (eA 32).2.1).2.1 (yN (eA 32).2.1).2.2.1)) (yN (eA 32).2.1).2.2.2]:=by kernel_rfl
theorem pxA:(eA 33).2.1=[.Return (some (.Dict (yN (eA 33).2.1).1 (yN (eA 33).2.1).2.1 (yN (eA 33).2.1).2.2.1)) (yN (eA 33).2.1).2.2.2]:=by kernel_rfl
theorem koA:qI (yN (eA 32).2.1).1 (yN (eA 32).2.1).2.1=some lE:=by kernel_rfl
theorem joA:qI (yN (eA 33).2.1).1 (yN (eA 33).2.1).2.1=some s3L:=by kernel_rfl
theorem yT {g:Gr}{c:Cx}{ρ:List (Str×V)}{μ:Mu}{k:Nat}{b:List Stmt}{es:List (Str×Str)}{x:List (Option Expr)×List Expr×Pos×Pos}(e:b=[.Return (some (.Dict x.1 x.2.1 x.2.2.1)) x.2.2.2])(h:qI x.1 x.2.1=some es)(a1:(es.map (·.1)).Nodup)(a2:0<es.length/\es.length<34/\es.length≠17):EBR g c k b ⟨ρ,μ⟩ (dX es μ):=lgA e h a1 a2
theorem lxA:(lE.map (·.1)).Nodup:=by decide+kernel
theorem ddB:(s3L.map (·.1)).Nodup:=by decide+kernel
theorem qrA {g:Gr}{c:Cx}{ρ:List (Str×V)}{μ:Mu}:EBR g c 0 (eA 32).2.1 ⟨ρ,μ⟩ (dX lE μ):=by
 have h:=koA
 have e:=rxA
 generalize hx:yN (eA 32).2.1=x at h
 rw[hx]at e
 generalize (eA 32).2.1=b at*
 exact @yT g c ρ μ 0 b lE x e h lxA (by decide)
theorem qqA {g:Gr}{c:Cx}{ρ:List (Str×V)}{μ:Mu}:EBR g c 0 (eA 33).2.1 ⟨ρ,μ⟩ (dX s3L μ):=by
 have h:=joA
 have e:=pxA
 generalize hx:yN (eA 33).2.1=x at h
 rw[hx]at e
 generalize (eA 33).2.1=b at*
 exact @yT g c ρ μ 0 b s3L x e h ddB (by decide)
section
variable {gr:Gr}{ex:Ex}
theorem bU {es:List (Str×Str)}{μ:Mu}:∀P P' v val μ',(∀p∈P',p∈P)->dX es μ P v val μ'->dX es μ P' v val μ':=λP P' v val μ' h o1=>by refine vH o1 λh1 h2 o2=>?_;refine iA o2 λa h3 h4=>?_;exact cF h1 h2 (jA a h3 (λp hp=>h4 p (h p hp)))
theorem tP (G:GX gr ex){n:Nat}{c:Cx}{σ:AS}(hc:CxOK c (n+1))(E:Value->Shared->Prop)(ts:List (V×Value))(P:List (Addr×Obj))(s:Shared)(S:St gr c σ ts P s):
  wpAny gr.M c.A (call (.ref 702) []) (λval s'=>∃a,val=.ref a/\(∀p∈P,p.1≠a)/\St gr c σ ((.sd lE,val)::ts) P s') E s:=by
 have h:=qW (R:=dX lE σ.μ) G.hK etA (vs:=[]) (n:=n) (k:=0) rfl bU (λcx ø ø=>@qrA gr cx _ _) hc rfl E ts P s [] (rC _) rfl S
 refine wpAny_mono h (λval s' x=>?_) λø ø x=>x
 refine jB x λv μ' o1 S'=>?_;refine vH o1 λh1 h2 o2=>?_;refine iA o2 λa h3 h4=>?_
 subst h1 h2
 exact zG a h3 h4 S'
theorem waA (G:GX gr ex){n:Nat}{c:Cx}{σ:AS}(hc:CxOK c (n+1))(E:Value->Shared->Prop)(ts:List (V×Value))(P:List (Addr×Obj))(s:Shared)(S:St gr c σ ts P s):
  wpAny gr.M c.A (call (.ref 709) []) (λval s'=>∃a,val=.ref a/\(∀p∈P,p.1≠a)/\St gr c σ ((.sd s3L,val)::ts) P s') E s:=by
 have h:=qW (R:=dX s3L σ.μ) G.hK dtA (vs:=[]) (n:=n) (k:=0) rfl bU (λcx ø ø=>@qqA gr cx _ _) hc rfl E ts P s [] (rC _) rfl S
 refine wpAny_mono h (λval s' x=>?_) λø ø x=>x
 refine jB x λv μ' o1 S'=>?_;refine vH o1 λh1 h2 o2=>?_;refine iA o2 λa h3 h4=>?_
 subst h1 h2
 exact zG a h3 h4 S'
noncomputable def spD (es:List (Str×Str)):Spec:=λvs μ=>match vs with
 |[]=>.ret (.sd es,μ)
 |_=>.fail
theorem tjA (G:GX gr ex)(n:Nat):SpOK gr (n+1) 702 (spD lE):=λvs μ Q hq=>by
 unfold spD at hq
 split at hq
 ·intro c σ hc hμ E ts P s vals hl S
  obtain rfl:vals=[]:=List.eq_nil_of_length_eq_zero hl.symm
  exact wpAny_mono (tP G hc E ts P s S) (λval s' o1=>by refine oM o1 λa ø ø S'=>?_;exact zA _ σ.μ (by rw[hμ];exact hq) S') λø ø x=>x
 ·exact hq.elim
theorem zX (G:GX gr ex)(n:Nat):SpOK gr (n+1) 709 (spD s3L):=λvs μ Q hq=>by
 unfold spD at hq
 split at hq
 ·intro c σ hc hμ E ts P s vals hl S
  obtain rfl:vals=[]:=List.eq_nil_of_length_eq_zero hl.symm
  exact wpAny_mono (waA G hc E ts P s S) (λval s' o1=>by refine oM o1 λa ø ø S'=>?_;exact zA _ σ.μ (by rw[hμ];exact hq) S') λø ø x=>x
 ·exact hq.elim
end
set_option tactic.hygienic true
noncomputable def ujB (k:Str):List (Str×V)->Option (List Int×List (Str×V))
 |(x,.il v)::r=>if x=k then some (v,r)else none
 |_=>none
theorem suA {k:Str}{F:List (Str×V)}{x:List Int×List (Str×V)}(h:ujB k F=some x):F=(k,.il x.1)::x.2:=by
 induction F using List.casesOn with
 |nil=>exact no h
 |cons p r=>
  obtain⟨y,v⟩:=p
  induction v using Mine.V.casesOn with
  |il v=>
   replace h:(if y=k then some (v,r)else none)=some x:=h
   split at h
   ·rename_i e
    have o1:=inj h;clear h;obtain rfl:=o1
    rw[e]
   ·exact no h
  |_=>exact no h
noncomputable def sgA (μ:Mu):Option (List Int×Int):=if μ.F.isNone then μ.R.bind λR=>(ujB "row" R).bind λa=>(kR "at" a.2).bind λb=>if b.2.isEmpty then some (a.1,b.1)else none else none
noncomputable def muR (xs:List Int)(n:Int):Mu:=⟨none,some [("row",.il xs),("at",.int n)]⟩
theorem yV {μ:Mu}{xs:List Int}{n:Int}(h:sgA μ=some (xs,n)):μ=muR xs n:=by
 unfold sgA at h
 split at h
 ·rename_i h0
  obtain⟨F,R⟩:=μ
  refine iA (dH h) λR' h1 h=>?_
  refine iA (dH h) λa h2 h=>?_
  refine iA (dH h) λb h3 h=>?_
  split at h
  ·rename_i h4
   cases h
   obtain rfl:F=none:=Option.isNone_iff_eq_none.mp h0
   obtain rfl:R=some R':=h1
   simp only[suA h2,kI h3,List.isEmpty_iff.mp h4]
   rfl
  ·exact no h
 ·exact no h
noncomputable def ppA (a b:V):T V:=match a.s? with
 |some x=>(match b.i? with|some n=>.need (decide (-1000<=n)&&decide (n<=1000)&&decide (x.length<=1000)) (.ret (.str (Txt.mul x n)))|none=>.fail)
 |none=>gV .Mult a b
noncomputable def oyA (a b:V):T V:=match b.sl? with
 |some xs=>(match a.s? with|some y=>.ret (.bool (xs.any (·==y)))|none=>.fail)
 |none=>tS .In a b
noncomputable def qhB (v:V)(k:Str)(μ:Mu):T V:=if v.isRd then(match sgA μ with|some (xs,n)=>if k="row" then .ret (.il xs)else if k="at" then .ret (.int n)else .fail|none=>.fail)else cV v (.str k)
noncomputable def liB:Expr->Option (Expr×Expr×Pos)
 | .BinOp l .Mult r p=>some (l,r,p)
 |_=>none
noncomputable def vIn:Expr->Option (Expr×Expr×Pos)
 | .Compare l [.In] [.List es lp] p=>some (l,.List es lp,p)
 |_=>none
noncomputable def jX:Expr->Option (Str×Pos)
 | .Name n p=>some (n,p)
 |_=>none
noncomputable def vStr:Expr->Option (Str×Nat×Pos)
 | .Constant (.str k) n p=>some (k,n,p)
 |_=>none
noncomputable def fqA:Expr->Option (Expr×Expr×Pos)
 | .Subscript a b p=>some (a,b,p)
 |_=>none
theorem hqA {e:Expr}{x:Expr×Expr×Pos}(h:liB e=some x):e=.BinOp x.1 .Mult x.2.1 x.2.2:=by
 induction e using PySem.Expr.casesOn with
 |BinOp l op r p=>induction op using PySem.Operator.casesOn with
  |Mult=>obtain rfl:=inj h;rfl
  |_=>exact no h
 |_=>exact no h
theorem hjA {e:Expr}{x:Expr×Expr×Pos}(h:vIn e=some x):e=.Compare x.1 [.In] [x.2.1] x.2.2/\∃es p,x.2.1=.List es p:=by
 induction e using PySem.Expr.casesOn with
 |Compare l ops rs p=>induction ops using List.casesOn with
  |nil=>exact no h
  |cons op ops=>induction op using PySem.CmpOp.casesOn with
   |In=>induction ops using List.casesOn with
    |cons ø ø=>exact no h
    |nil=>induction rs using List.casesOn with
     |nil=>exact no h
     |cons r rs=>induction r using PySem.Expr.casesOn with
      |List es lp=>induction rs using List.casesOn with
       |nil=>obtain rfl:=inj h;exact⟨rfl,_,_,rfl⟩
       |cons ø ø=>exact no h
      |_=>exact no h
   |_=>exact no h
 |_=>exact no h
theorem gjA {e:Expr}{x:Str×Pos}(h:jX e=some x):e=.Name x.1 x.2:=by
 induction e using PySem.Expr.casesOn with
 |Name l r=>obtain rfl:=inj h;rfl
 |_=>exact no h
theorem gdA {e:Expr}{x:Str×Nat×Pos}(h:vStr e=some x):e=.Constant (.str x.1) x.2.1 x.2.2:=by
 induction e using PySem.Expr.casesOn with
 |Constant c n p=>induction c using PySem.Const.casesOn with
  |str ø=>obtain rfl:=inj h;rfl
  |_=>exact no h
 |_=>exact no h
theorem fdA {e:Expr}{x:Expr×Expr×Pos}(h:fqA e=some x):e=.Subscript x.1 x.2.1 x.2.2:=by
 induction e using PySem.Expr.casesOn with
 |Subscript l r p=>obtain rfl:=inj h;rfl
 |_=>exact no h
noncomputable def kwB (f:Expr->AS->T (V×AS))(e:Expr)(σ:AS):Option (T (V×AS)):=(fqA e).bind λx=>(jX x.1).bind λ_=>(vStr x.2.1).map λk=>(f x.1 σ).bind λo=>(qhB o.1 k.1 o.2.μ).bind λv=>.ret (v,o.2)
noncomputable def jwB (f:Expr->AS->T (V×AS))(e:Expr)(σ:AS):Option (T (V×AS)):=(fqA e).bind λx=>(jX x.2.1).bind λ_=>(fqA x.1).bind λy=>(jX y.1).bind λ_=>(vStr y.2.1).map λ_=>(f x.1 σ).bind λo=>(f x.2.1 o.2).bind λi=>(cV o.1 i.1).bind λv=>.ret (v,i.2)
noncomputable def rhB (t:Tb)(f:Expr->AS->T (V×AS))(fc:Expr->AS->T (Bool×AS))(e:Expr)(σ:AS):T (V×AS):=match liB e with
 |some x=>(f x.1 σ).bind λa=>(f x.2.1 a.2).bind λy=>(ppA a.1 y.1).bind λv=>.ret (v,y.2)
 |none=>match vIn e with
  |some x=>(f x.1 σ).bind λa=>(f x.2.1 a.2).bind λy=>(oyA a.1 y.1).bind λv=>.ret (v,y.2)
  |none=>match kwB f e σ with
   |some x=>x
   |none=>match jwB f e σ with
    |some x=>x
    |none=>rpA t f fc e σ
noncomputable def shB (t:Tb)(f:Expr->AS->T (V×AS))(fc:Expr->AS->T (Bool×AS))(e:Expr)(σ:AS):T (Bool×AS):=match vIn e with
 |some x=>(f x.1 σ).bind λa=>(f x.2.1 a.2).bind λy=>(oyA a.1 y.1).bind λv=>(qH v).bind λb=>.ret (b,y.2)
 |none=>thB t f fc e σ
noncomputable def ai2 (t:Tb):Nat->(Expr->AS->T (V×AS))×(Expr->AS->T (Bool×AS))
 |0=>(λ_ _=>.fail,λ_ _=>.fail)
 |n+1=>(rhB t (ai2 t n).1 (ai2 t n).2,shB t (ai2 t n).1 (ai2 t n).2)
noncomputable def aeB (o v:V)(k:Str)(σ:AS):T (Out×AS):=if o.isRd then(match v.i? with
  |some m=>(match sgA σ.μ with|some x=>if k="at" then .ret (.next,{σ with μ:=muR x.1 m})else .fail|none=>.fail)
  |none=>.fail)else .fail
theorem llA {o v:V}{k:Str}{σ:AS}{Q:Out×AS->Prop}(h:(aeB o v k σ).sat Q):∃m xs n,o=.rd/\v=.int m/\sgA σ.μ=some (xs,n)/\k="at"/\Q (.next,{σ with μ:=muR xs m}):=by
 unfold aeB at h
 split at h
 ·rename_i ho
  split at h
  ·rename_i m hm
   split at h
   ·rename_i x hr
    split at h
    ·rename_i e
     exact pwA m x.1 x.2 (V.isRd_eq ho) (V.i?_eq hm) hr e h
    ·exact h.elim
   ·exact h.elim
  ·exact h.elim
 ·exact h.elim
noncomputable def kiB:Stmt->Option (Expr×Expr×Pos×Expr×Pos)
 | .Assign [.Subscript a b p] e q=>some (a,b,p,e,q)
 |_=>none
theorem gqA {st:Stmt}{x:Expr×Expr×Pos×Expr×Pos}(h:kiB st=some x):st=.Assign [.Subscript x.1 x.2.1 x.2.2.1] x.2.2.2.1 x.2.2.2.2:=by
 induction st using PySem.Stmt.casesOn with
 |Assign l e p=>induction l using List.casesOn with
  |nil=>exact no h
  |cons a r=>cases a with
   |Subscript a b q=>cases r with
    |nil=>cases h;rfl
    |cons ø ø=>exact no h
   |_=>exact no h
 |_=>exact no h
noncomputable def nwB (fe:Expr->AS->T (V×AS))(st:Stmt)(σ:AS):Option (T (Out×AS)):=(kiB st).bind λx=>(jX x.1).bind λ_=>(vStr x.2.1).map λk=>if qN x.2.2.2.1 then .fail else(fe x.2.2.2.1 σ).bind λv=>(fe x.1 v.2).bind λo=>aeB o.1 v.1 k.1 o.2
noncomputable def opA (t:Tb)(fe:Expr->AS->T (V×AS))(fc:Expr->AS->T (Bool×AS))(fb:List Stmt->AS->T (Out×AS))(st:Stmt)(σ:AS):T (Out×AS):=match nwB fe st σ with
 |some x=>x
 |none=>phB t fe fc fb st σ
noncomputable def iF (t:Tb):Nat->Stmt->AS->T (Out×AS)
 |0=>λ_ _=>.fail
 |n+1=>opA t (ai2 t 20).1 (ai2 t 20).2 (aiB (iF t n))
section
variable {g:Gr}{t:Tb}{c:Cx}{f fe:Expr->AS->T (V×AS)}{fc:Expr->AS->T (Bool×AS)}{σ:AS}{ts:List (V×Value)}{P:List (Addr×Obj)}{s:Shared}{v1 v2:V}{val1 val2:Value}{Q:V->Prop}
theorem bkB {x:Str}{n:Int}(h1:-1000<=n)(h2:n<=1000)(h3:x.length<=1000):MulOk x n:=by
 refine cF ?_ (λh4 ø=>?_) (λh4 ø=>?_)
 ·rw[rG (by lia),rG (by lia)];rfl
 ·have:(1000:Int)<=(2 ^ 63-1) / n:=by
   refine(Int.le_ediv_iff_mul_le (Int.not_lt.mp ‹_›) ..).mpr ?_
   have:(1000:Int)*n<=1000*1000:=by exact qsB h2
   exact nG ‹_› (by decide)
  exact psB h3 this
 ·unfold Builtin.Str.tooLong
  refine(decide_eq_false_iff_not ..).mpr ?_;rw[sizeLine_eq]
  have h5:n.toNat<=1000:=by exact osB h2
  have:x.length*n.toNat<=1000*1000:=Nat.mul_le_mul h3 h5
  exact nsB this
theorem jeB (S:St g c σ ts P s)(h1:(v1,val1)∈ts)(h2:(v2,val2)∈ts)(hq:(ppA v1 v2).sat Q):K1 g c (binaryOp .Mult val1 val2) σ ts P Q s:=by
 unfold ppA at hq
 split at hq
 ·rename_i hx
  split at hq
  ·rename_i hn
   intro E
   refine iB (S.getStr (V.s?_eq hx▸h1)) λt o1=>?_;obtain rfl:=o1
   obtain⟨u,rfl⟩:=S.getInt (V.i?_eq hn▸h2)
   obtain⟨hn,hq⟩:=uD hq
   replace hn:=bmp (bmp bB bB) bB hn
   exact SB.mul (bkB hn.1.1 hn.1.2 hn.2) λt' tk=>jA _ hq (S.str _ _ _)
  ·exact hq.elim
 ·exact tcA S h1 h2 hq
theorem kzA (S:St g c σ ts P s)(h1:(v1,val1)∈ts)(h2:(v2,val2)∈ts)(hq:(oyA v1 v2).sat Q):K1 g c (compareOp .In val1 val2) σ ts P Q s:=by
 unfold oyA at hq
 split at hq
 ·rename_i hx
  split at hq
  ·rename_i hy
   intro E
   refine iB (S.getStr (V.s?_eq hy▸h1)) λt o1=>?_;obtain rfl:=o1
   refine iA (S.getNews (V.sl?_eq hx▸h2)) λrest r k=>?_
   obtain⟨ø,ø,ø,rfl,h,r⟩:=r.inv
   exact in_list_strs (zG _ (k _ h) rfl (yC _ rfl)) r (jA _ hq (S.bool _))
  ·exact hq.elim
 ·exact ocA S h1 h2 hq
theorem pY {xs:List Int}{n:Int}(S:St g c σ ts P s)(hμ:σ.μ=muR xs n):∃b m mo rest v1 v2,StN g c m (mo++rest) s.heap b/\MutR g rest (muR xs n) mo/\(∀p∈rest,p.1≠g.rd)/\(∀p∈mo,p.1=g.rd)/\LR g rest m σ.ρ/\(∀t∈ts,VR g rest t.1 t.2)/\(∀p∈P,p∈rest)/\s.gens=g.gens/\s.os=g.os/\
  VR g rest (.il xs) v1/\VR g rest (.int n) v2/\s.heap.DictOf (sk g.prog g.w) g.rd [("row",v1),("at",v2)]:=by
 refine St.el S λb m mo rest a1 a2 a3 a4 a5 a6 a7=>?_
 rw[hμ]at a2
 have a2':=a2
 refine zP a2.inv λes k o2 hd r=>?_;obtain rfl:=o2
 obtain⟨t1,w1,es1,rfl,h1,r⟩:=r.inv
 obtain⟨t2,w2,es2,rfl,h2,r⟩:=r.inv
 obtain rfl:=r.inv
 refine⟨b,m,_,rest,w1,w2,a1,a2',hd,(λp hp=>by rw[oH hp]),a3,a4,a5,a6,a7,h1,h2,?_⟩
 have hg:=(a1.N _ (.head _)).1
 refine ufB _ _ k hg (cF rfl rfl rfl) rfl ?_ ?_ (by show(["row","at"]:List Str).Nodup;decide)
 ·intro e he
  simp only[List.mem_toArray,List.mem_cons,List.not_mem_nil,or_false]at he
  rcases he with rfl|rfl
  ·exact jA ("row") (gJ _ _) rfl
  ·exact jA ("at") (gJ _ _) rfl
 ·exact .cons (gJ _ _) rfl (.cons (gJ _ _) rfl .nil)
theorem njB {k:Str}{tk:Tok}(S:St g c σ ts P s)(h1:(v1,val1)∈ts)(hk:(.str k,.str k tk)∈ts)(hq:(qhB v1 k σ.μ).sat Q){value slice:Expr}(hsl:ymA slice=false):K1 g c (subscriptTail value slice val1 (.str k tk)) σ ts P Q s:=by
 unfold qhB at hq
 split at hq
 ·rename_i hv
  intro E
  refine iB (S.get (V.isRd_eq hv▸h1)) λrest0 r0=>?_
  obtain rfl:=r0.inv
  split at hq
  ·rename_i xs n hr
   have hμ:=yV hr
   obtain⟨b,m,mo,rest,w1,w2,a1,a2,hd,hmo,a3,a4,a5,a6,a7,r1,r2,hD⟩:=pY S hμ
   have base:∀{v:V} {val:Value} (tk':Nat),VR g rest v val->St g c σ ((v,val)::ts) P {s with toks:=tk'}:=λ{v val} tk' r=>by
    refine lD b m mo rest ⟨a1,by rw[hμ];exact a2,a3,λt ht=>?_,a5,a6,a7⟩
    rcases xB ht with rfl|ht
    ·exact r
    ·exact a4 t ht
   split at hq
   ·rename_i e1
    subst e1
    exact tail_any hD.typeIs slot_dict_getitem.lookup (wpAny_getItem_of (knd:=sk g.prog g.w) (k:="row") (gJ _ _) hD.mapOf rfl (jA _ hq (base _ r1))) (jF hsl _ _)
   ·split at hq
    ·rename_i e1
     subst e1
     exact tail_any hD.typeIs slot_dict_getitem.lookup (wpAny_getItem_of (knd:=sk g.prog g.w) (k:="at") (gJ _ _) hD.mapOf rfl (jA _ hq (base _ r2))) (jF hsl _ _)
    ·exact hq.elim
  ·exact hq.elim
 ·exact zaA hsl S h1 hk hq
end
section
variable {g:Gr}{t:Tb}{c:Cx}{f fe:Expr->AS->T (V×AS)}{fc:Expr->AS->T (Bool×AS)}{fb:List Stmt->AS->T (Out×AS)}{σ:AS}{ts:List (V×Value)}{P:List (Addr×Obj)}{s:Shared}
theorem flB (O:mB g t c)(IH:∀e σ Q,(f e σ).sat Q->EV g c e σ Q)(IC:∀e σ Q,(fc e σ).sat Q->EC g c e σ Q)(e:Expr)(σ:AS)(Q:V×AS->Prop)(h:(rhB t f fc e σ).sat Q):EV g c e σ Q:=by
 unfold rhB at h
 split at h
 ·rename_i hv
  rw[hqA hv]
  exact λE ts P s S=>wpAny_BinOp (wpAny_mono (IH _ _ _ (cB h) E ts P s S) (λø ø o19=>by refine jB o19 λø ø h1 S1=>?_;exact wpAny_mono (IH _ _ _ (cB h1) E _ P _ S1) (λø ø o13=>by refine jB o13 λø ø h2 S2=>?_;exact wpAny_mono (jeB S2 (.tail _ (.head _)) (.head _) (cB h2) E) (λø ø o3=>by refine iA o3 λv h3 S3=>?_;exact zA v _ h3 S3.two) λø ø x=>x) λø ø x=>x) λø ø x=>x)
 ·split at h
  ·rename_i x hv
   refine gA (hjA hv) λe1 o24=>?_;obtain⟨es,lp,e2⟩:=o24
   obtain⟨l,r,p⟩:=x
   dsimp only at e1 e2 h
   subst e1 e2
   exact λE ts P s S=>wpAny_Compare1 (wpAny_mono (IH _ _ _ (cB h) E ts P s S) (λø ø o20=>by refine jB o20 λø ø h1 S1=>?_;exact wpAny_mono (IH _ _ _ (cB h1) E _ P _ S1) (λø ø o15=>by refine jB o15 λø ø h2 S2=>?_;exact wpAny_mono (kzA S2 (.tail _ (.head _)) (.head _) (cB h2) E) (λø ø o6=>by refine iA o6 λv h3 S3=>?_;exact zA v _ h3 S3.two) λø ø x=>x) λø ø x=>x) λø ø x=>x) rfl
  ·split at h
   ·rename_i hv
    refine iA (dH hv) λx h1 hv=>?_
    refine iA (dH hv) λy h2 hv=>?_
    refine iA (Option.map_eq_some_iff.mp hv) λk h3 o25=>?_;obtain rfl:=o25
    rw[fdA h1,gdA h3]
    refine λE ts P s S=>Subscript_ (wpAny_mono (IH _ _ _ (cB h) E ts P s S) (λov s1 ⟨o,σ1,h1,S1⟩=>?_) λø ø x=>x)
    refine wpAny_Constant_str ?_
    exact wpAny_mono (njB (S1.str k.1 s1.toks (s1.toks+1)) (.tail _ (.head _)) (.head _) (cB h1) rfl E) (λø ø o8=>by refine iA o8 λv h3 S3=>?_;exact zA v _ h3 S3.two) λø ø x=>x
   ·split at h
    ·rename_i hv
     refine iA (dH hv) λx h1 hv=>?_
     refine iA (dH hv) λy h2 hv=>?_
     refine iA (dH hv) λz h3 hv=>?_
     refine iA (dH hv) λz' h4 hv=>?_
     refine iA (Option.map_eq_some_iff.mp hv) λk h5 o27=>?_;obtain rfl:=o27
     rw[fdA h1,gjA h2]at*
     exact λE ts P s S=>Subscript_ (wpAny_mono (IH _ _ _ (cB h) E ts P s S) (λø ø o22=>by refine jB o22 λø ø h1 S1=>?_;exact wpAny_mono (IH _ _ _ (cB h1) E _ P _ S1) (λø ø o18=>by refine jB o18 λø ø h2 S2=>?_;exact wpAny_mono (zaA rfl S2 (.tail _ (.head _)) (.head _) (cB h2) E) (λø ø o11=>by refine iA o11 λv h3 S3=>?_;exact zA v _ h3 S3.two) λø ø x=>x) λø ø x=>x) λø ø x=>x)
    ·exact yeA O IH IC e σ Q h
theorem llB (O:mB g t c)(IH:∀e σ Q,(f e σ).sat Q->EV g c e σ Q)(IC:∀e σ Q,(fc e σ).sat Q->EC g c e σ Q)(e:Expr)(σ:AS)(Q:Bool×AS->Prop)(h:(shB t f fc e σ).sat Q):EC g c e σ Q:=by
 unfold shB at h
 split at h
 ·rename_i x hv
  refine gA (hjA hv) λe1 o11=>?_;obtain⟨es,lp,e2⟩:=o11
  obtain⟨l,r,p⟩:=x
  dsimp only at e1 e2 h
  subst e1 e2
  exact λE ts P s S=>wpAny_isTrue_Compare1 (wpAny_mono (IH _ _ _ (cB h) E ts P s S) (λø ø o10=>by refine jB o10 λø ø h1 S1=>?_;exact wpAny_mono (IH _ ø _ (cB h1) E _ P _ S1) (λø ø o9=>by refine jB o9 λø ø h2 S2=>?_;exact wpAny_mono (kzA S2 (.tail _ (.head _)) (.head _) (cB h2) E) (λ_ _ o7=>by refine iA o7 λv h3 S3=>?_;exact wpAny_mono (uK S3 (.head _) (cB h3) E) (λb _ o4=>by refine gA o4 λh4 S4=>?_;exact jA ø h4 S4.drop.drop.drop) λø ø x=>x) λø ø x=>x) λø ø x=>x) λø ø x=>x) rfl
 ·exact rzA IH IC e σ Q h
theorem dJ (O:mB g t c):∀n,(∀e σ Q,((ai2 t n).1 e σ).sat Q->EV g c e σ Q)/\(∀e σ Q,((ai2 t n).2 e σ).sat Q->EC g c e σ Q):=by
 intro l0
 induction l0 with
 |zero=>
  exact⟨λø ø ø h=>h.elim,λø ø ø h=>h.elim⟩
 |succ n ih=>
  exact⟨λe σ Q h=>flB O (ih).1 (ih).2 e σ Q h,λe σ Q h=>llB O (ih).1 (ih).2 e σ Q h⟩
theorem ydB {xs:List Int}{n m:Int}{tk:Tok}{ov val:Value}{Q:Unit->Shared->Prop}{E:Value->Shared->Prop}(S:St g c σ ts P s)(hμ:σ.μ=muR xs n)(ho:(.rd,ov)∈ts)(hv:(.int m,val)∈ts)
  (k:∀s',St g c {σ with μ:=muR xs m} ts P s'->Q () s'):wpAny g.M c.A (setItem ov (.str "at" tk) val) Q E s:=by
 refine iB (S.get ho) λrest0 r0=>?_
 obtain rfl:=r0.inv
 obtain⟨b,mm,mo,rest,w1,w2,a1,a2,hd,hmo,a3,a4,a5,a6,a7,r1,r2,hD⟩:=pY S hμ
 have hrd:=a2
 refine zP hrd.inv λes kk o1 ø ø=>?_;obtain rfl:=o1
 have N0:=a1.N (g.rd,dictOf es kk) (.head _)
 refine wpAny_setItem_pairs (knd:=sk g.prog g.w) (k:="at") (gJ _ _) hD (λh' hD' hs'=>k _ ?_) (by simp only[sizeLine_eq];exact Nat.le_add_left _ _)
 have e1:stored ([(("row":Str),w1),(("at":Str),w2)]:List (Str×Value)) ("at":Str) val=([(("row":Str),w1),(("at":Str),val)]:List (Str×Value)):=by
  have q:(([(("row":Str),w1),(("at":Str),w2)]:List (Str×Value)).any λkv=>decide (kv.1=("at":Str)))=true:=by
   simp only[List.any_cons,decide_true,Bool.true_or,Bool.or_true]
  rw[stored,if_pos q,List.map_cons,List.map_cons,List.map_nil,if_neg (show ¬("row":Str)=("at":Str) by decide),if_pos rfl]
 simp only[e1]at hD'
 refine cqA hD' λo es' ep' ho' hc' hd' hk' hp' hn'=>?_
 obtain⟨oc,od,odt,osl⟩:=o
 refine vH hc' λhc1 hc2 hc3=>?_
 dsimp only at hc1 hc2 hc3 hd'
 subst hc1 hc2 hc3 hd'
 obtain⟨l⟩:=es'
 cases hp'
 rename_i e1' l1 q1 q2 hp'
 cases hp'
 rename_i e2' l2 q3 q4 hp'
 cases hp'
 obtain⟨hh1,key1,val1⟩:=e1'
 obtain⟨hh2,key2,val2⟩:=e2'
 dsimp only at q1 q2 q3 q4
 subst q2 q4
 refine iB (Value.isStrOf_shape q1) λt1 o2=>?_;obtain rfl:=o2
 refine iB (Value.isStrOf_shape q3) λt2 o4=>?_;obtain rfl:=o4
 refine iA (hk' _ (by simp:(⟨hh1,.str "row" t1,val1⟩:DictEntry)∈_)) λk1 z1 z2=>?_
 refine iA (hk' _ (by simp:(⟨hh2,.str "at" t2,val2⟩:DictEntry)∈_)) λk2 z3 z4=>?_
 dsimp only at z1 z2 z3 z4
 obtain rfl:k1=("row":Str):=(sk g.prog g.w).inj _ _ _ z1 (gJ _ _)
 obtain rfl:k2=("at":Str):=(sk g.prog g.w).inj _ _ _ z3 (gJ _ _)
 subst z2 z4
 refine lD b mm ([(g.rd,dictOf [⟨PyData.keyHash g.w.params "row",.str "row" t1,val1⟩,⟨PyData.keyHash g.w.params "at",.str "at" t2,val2⟩] ep')]) rest ⟨⟨a1.B,a1.turn,a1.D,a1.F.change hs' N0.2.1 N0.2.2,λp hp=>?_⟩,.rd (.cons r1 (.cons (a4 _ hv) .nil)) hd,a3,a4,a5,a6,a7⟩
 rcases xB hp with rfl|hp
 ·exact eB ho' N0.2
 ·have:=a1.N p (List.mem_cons_of_mem _ hp)
  exact eB ((hs'.2 p.1 (hd p hp)).trans this.1) this.2
theorem jjB (O:mB g t c)(X:fI g)(IH:∀e σ Q,(fe e σ).sat Q->EV g c e σ Q)(IC:∀e σ Q,(fc e σ).sat Q->EC g c e σ Q)(IB:∀b σ Q,(fb b σ).sat Q->EB g c b σ Q)(st:Stmt)(σ:AS)(Q:Out×AS->Prop)
  (h:(opA t fe fc fb st σ).sat Q):ES g c st σ Q:=by
 unfold opA at h
 split at h
 ·rename_i hv
  refine iA (dH hv) λx h1 hv=>?_
  refine iA (dH hv) λy h2 hv=>?_
  refine iA (Option.map_eq_some_iff.mp hv) λkk h3 o3=>?_;obtain rfl:=o3
  split at h
  ·exact h.elim
  ·rename_i hs
   rw[gqA h1,gdA h3]
   refine λE ts P s K S=>wpAny_Assign_Subscript (wpAny_mono (IH _ _ _ (cB h) E ts P s S) (λval s1 ⟨v,σ1,h1,S1⟩=>?_) λø ø x=>x) (wG (cH hs) _ _ _)
   refine wpAny_mono (IH _ _ _ (cB h1) E _ P s1 S1) (λov s2 ⟨o,σ2,h2,S2⟩=>?_) λø ø x=>x
   refine wpAny_Constant_str ?_
   obtain⟨m,xs,n',ho,hv,hr,hk,h3⟩:=llA h2
   have ho:o=.rd:=ho
   have hv:v=.int m:=hv
   subst ho hv
   rw[hk]
   exact ydB (S2.toks _) (yV hr) (.head _) (.tail _ (.head _)) λs' S'=>zA .next _ h3 ⟨rfl,S'.drop.drop⟩
 ·exact yyA O X IH IC IB st σ Q h
theorem rI (O:mB g t c)(X:fI g):∀n st σ Q,(iF t n st σ).sat Q->ES g c st σ Q:=by
 intro l0
 induction l0 with
 |zero=>
  intro ø ø ø h
  exact h.elim
 |succ n ih=>
  intro st σ Q h
  exact jjB O X (dJ O 20).1 (dJ O 20).2 (uO (ih)) st σ Q h
theorem ifA (O:mB g t c)(X:fI g)(n:Nat)(b:List Stmt)(σ:AS)(Q:Out×AS->Prop)(h:(aiB (iF t n) b σ).sat Q):EB g c b σ Q:=uO (rI O X n) b σ Q h
end
set_option tactic.hygienic false
noncomputable def yW (d:Arguments×List Stmt×Scope)(ps:List Str)(l:List (Addr×Spec)):Spec:=λvs μ=>
 if vs.length=ps.length then(aiB (iF (xA d.2.2 l) 12) d.2.1 ⟨ps.zip vs,μ⟩).bind zyA else .fail
theorem xcA {g:Gr}{ex:Ex}(h:GX g ex){n:Nat}{l:List (Addr×Spec)}(hl:CTOK g n l){a:Addr}{d:Arguments×List Stmt×Scope}{ps:List Str}(R:qA a d ps):SpOK g (n+1) a (yW d ps l):=λvs μ Q hq=>by
 unfold yW at hq
 split at hq
 ·rename_i hlen
  refine mD h.hK R hlen λc hc hs=>ifA (cG h hl hc hs) (nD h) 12 _ _ _ (T.sat_mono (λx hx=>?_) (cB hq))
  obtain⟨o,σ⟩:=x
  induction o using Mine.Out.casesOn<;>first|exact hx|exact hx.elim
 ·exact hq.elim
noncomputable def gB (k:Nat):Bool:=decide (k∈vy)
noncomputable def fF (l:List Nat):List Nat:=l.map λk=>if gB k then 118 else 99
noncomputable def vcs:List Bool->Nat
 |true::false::r=>vcs (false::r)+1
 |_::r=>vcs r
 |[]=>0
noncomputable def mA (l:List Nat):Nat:=vcs (l.map gB)
noncomputable def wQ:Spec:=λvs μ=>aS vs λx vs=>a0 vs (.need (decide (x.length<=1000)) (.ret (.str (mk (fF x.cps.toList)),μ)))
noncomputable def sM:Spec:=λvs μ=>aS vs λx vs=>a0 vs (.need (decide (x.length<=1000)) (.ret (.int (mA x.cps.toList),μ)))
noncomputable def mC (ours:Bool)(w:List Nat):List (List Nat)->List Nat->List Nat
 |[],f=>f
 |e::r,f=>mC ours w r (if e.isSuffixOf w&&(decide (f.length<e.length)&&(!ours||decide (e.length<w.length)))then e else f)
noncomputable def dEn:Df:=eA 43
theorem sgB:dEn.2.1=[lA dEn.2.1 0,.For (.Name "end" (whX (lA dEn.2.1 1))) (.Name "ends" (match whT (lA dEn.2.1 1)with| .Name ø p=>p|ø=>default)) (whB (lA dEn.2.1 1)) [] (whP (lA dEn.2.1 1)),lA dEn.2.1 2]:=by kernel_rfl
noncomputable def aG (w:Str)(ends:List Str)(ours:Bool)(f:Str)(e:Option Str)(μ:Mu):AS:=⟨("word",.str w)::("ends",.sl ends)::("ours",.bool ours)::("found",.str f)::(match e with|none=>[]|some e=>[("end",.str e)]),μ⟩
noncomputable abbrev aEn:=aiB (aiS (xA dEn.2.2 []) 12)
section
variable (w e f:Str)(ends:List Str)(ours:Bool)(o:Option Str)(μ:Mu)
theorem foA:aiS (xA dEn.2.2 []) 12 (lA dEn.2.1 0) ⟨[("word",.str w),("ends",.sl ends),("ours",.bool ours)],μ⟩=.ret (.next,aG w ends ours "" none μ):=by kernel_rfl
theorem mxA (p:Pos):(ai (xA dEn.2.2 []) 20).1 (.Name "ends" p) (aG w ends ours f none μ)=.ret (.sl ends,aG w ends ours f none μ):=by kernel_rfl
theorem eoA:aEn [lA dEn.2.1 2] (aG w ends ours f none μ)=.ret (.ret (.str f),aG w ends ours f none μ):=by kernel_rfl
theorem doA:aEn [lA dEn.2.1 2] (aG w ends ours f (some e) μ)=.ret (.ret (.str f),aG w ends ours f (some e) μ):=by kernel_rfl
theorem nxA:aEn (whB (lA dEn.2.1 1)) (aG w ends ours f (some e) μ)=
  (let U:T (Out×AS):=.ret (.next,aG w ends ours e (some e) μ)
  let S:T (Out×AS):=.ret (.next,aG w ends ours f (some e) μ)
  .ite (Txt.endswith w e) (.need (decide (e.length<=big)) (.need (decide (f.length<=big)) (.ite (decide ((f.length:Int)<e.length))
   (.ite (!ours) (.ite true (.ite true U S) (.ite false U S)) (.need (decide (w.length<=big)) (.need (decide (e.length<=big)) (.ite (decide ((e.length:Int)<w.length)) (.ite true (.ite true U S) (.ite false U S)) (.ite false (.ite true U S) (.ite false U S)))))) (.ite false U S)))) (.ite false U S)):=by kernel_rfl
end
theorem zD {α:Type}{t e:T α}{Q:α->Prop}(h:t.sat Q):(T.ite true t e).sat Q:=⟨λø=>h,λz=>(by injection z)⟩
theorem dC {α:Type}{t e:T α}{Q:α->Prop}(h:e.sat Q):(T.ite false t e).sat Q:=⟨λz=>(nof z),λø=>h⟩
theorem aiA (ours:Bool)(w:List Nat)(es:List (List Nat))(i:Nat)(h:i<es.length)(f:List Nat):mC ours w (es.drop i) f=mC ours w (es.drop (i+1)) (if(es.getD i []).isSuffixOf w&&(decide (f.length<(es.getD i []).length)&&(!ours||decide ((es.getD i []).length<w.length)))then es.getD i []else f):=by
 rw[List.drop_eq_getElem_cons h,sD,mG h]
 rfl
noncomputable def fkA:Spec:=λvs μ=>aS vs λw vs=>aL vs λends vs=>aB vs λours vs=>a0 vs (.need (decide (w.length<=1000)&&xK ends) (.ret (.str (mk (mC ours w.cps.toList (ends.map λe=>e.cps.toList) [])),μ)))
theorem pjA (a b:Str):decide ((a.length:Int)<b.length)=decide (a.cps.toList.length<b.cps.toList.length):=by
 refine(decide_eq_decide ..).mpr ?_
 exact kyA
theorem bY {g:Gr}{ex:Ex}(G:GX g ex)(n:Nat):SpOK g (n+1) 775 fkA:=λvs μ Q hq=>by
 refine jB (lG hq) λw wz1 ez1 hz1=>?_;clear hq
 refine jB (upA hz1) λends wz2 ez2 hz2=>?_;clear hz1
 refine jB (rP hz2) λours wz3 ez3 hz3=>?_;clear hz2
 refine gA (tD hz3) λez4 hz=>?_;clear hz3
 subst ez4 ez3 ez2 ez1
 have hq:=hz;clear hz
 refine gA (uD hq) λhn hq=>?_
 simp only[oA,vA]at hn
 refine gA hn λhw hends=>?_
 have hlen:∀i,i<ends.length->(ends.getD i Str.empty).length<=1000:=λi hi=>by
  rw[sD,mG hi]
  exact bB (fC hends _ (List.getElem_mem hi))
 refine mD G.hK vsA rfl λc hc hs=>?_
 have O:mB g (xA dEn.2.2 []) c:=cG G (CTOK.nil (n:=n)) hc hs
 have X:=nD G
 show EB g c dEn.2.1 ⟨[("word",.str w),("ends",.sl ends),("ours",.bool ours)],μ⟩ (dB Q)
 rw[sgB]
 refine rA (cJ O X 12 _ _ _ ?_)
 rw[foA]
 refine rA (uZ hc.handled (by rw[hs];kernel_rfl) (λ_=>rfl) ends
  (λi σ=>∃f o,σ=aG w ends ours (mk f) o μ/\f.length<=1000/\mC ours w.cps.toList ((ends.map λe=>e.cps.toList).drop i) f=mC ours w.cps.toList (ends.map λe=>e.cps.toList) []) ?_ ?_ ?_)
 ·refine(nK O 20).1 _ _ _ ?_
  rw[mxA]
  exact eB rfl (zI ([]) none rfl (by decide) rfl)
 ·intro i σ hi o1;refine zP o1 λf o o3 hf hJ=>?_;obtain rfl:=o3
  have hi':i<(ends.map λe=>e.cps.toList).length:=by simp only[List.length_map];exact hi
  have he:(ends.map λe=>e.cps.toList).getD i []=(ends.getD i Str.empty).cps.toList:=by
   refine qDzq (sD) ?_;rw[List.getElem?_map,sD,mG hi];rfl
  rw[aiA _ _ _ i hi',he]at hJ
  have hle:=hlen i hi
  generalize ends.getD i Str.empty=e at*
  have hρ:({(aG w ends ours (mk f) o μ)with ρ:=pH "end" (.str e) (aG w ends ours (mk f) o μ).ρ}:AS)=aG w ends ours (mk f) (some e) μ:=by
   induction o using Option.casesOn<;>rfl
  simp only[hρ]
  refine fD O X 12 _ _ _ ?_
  show(aEn (whB (lA dEn.2.1 1)) (aG w ends ours (mk f) (some e) μ)).sat _
  simp only[nxA]
  have hen:Txt.endswith w e=e.cps.toList.isSuffixOf w.cps.toList:=sW w.cps.toList e.cps.toList
  simp only[hen,pjA,pjA]
  rw[mk_list]
  have upd:(e.cps.toList.isSuffixOf w.cps.toList&&(decide (f.length<e.cps.toList.length)&&(!ours||decide (e.cps.toList.length<w.cps.toList.length))))=true->eX (Seq g c [lA dEn.2.1 2] (dB Q)) (λσ=>∃f o,σ=aG w ends ours (mk f) o μ/\f.length<=1000/\mC ours w.cps.toList ((ends.map λe=>e.cps.toList).drop (i+1)) f=mC ours w.cps.toList (ends.map λe=>e.cps.toList) []) (.next,aG w ends ours e (some e) μ):=λhb=>by
   rw[if_pos hb]at hJ
   exact zI e.cps.toList (some e) rfl hle hJ
  have same:(e.cps.toList.isSuffixOf w.cps.toList&&(decide (f.length<e.cps.toList.length)&&(!ours||decide (e.cps.toList.length<w.cps.toList.length))))=false->eX (Seq g c [lA dEn.2.1 2] (dB Q)) (λσ=>∃f o,σ=aG w ends ours (mk f) o μ/\f.length<=1000/\mC ours w.cps.toList ((ends.map λe=>e.cps.toList).drop (i+1)) f=mC ours w.cps.toList (ends.map λe=>e.cps.toList) []) (.next,aG w ends ours (mk f) (some e) μ):=λhb=>by
   rw[hb]at hJ
   exact zI f (some e) rfl hf hJ
  refine cA (λh1=>bA (uB hle) (bA (uB hf) (cA (λh2=>cA (λh3=>zD (zD (upd (by simp only[h1,h2,h3];rfl)))) λh3=>bA (uB hw) (bA (uB hle) (cA (λh4=>zD (zD (upd (by rw[h1,h2,h3,h4];rfl)))) λh4=>dC (dC (same (by rw[h1,h2,h3,h4];rfl))))))
   λh2=>dC (same (by rw[h1,h2];rfl))))) λh1=>dC (same (by rw[h1];rfl))
 ·intro σ o2;refine zP o2 λf o o4 hf hJ=>?_;obtain rfl:=o4
  rw[show ends.length=(ends.map λe=>e.cps.toList).length by simp only[List.length_map],List.drop_length]at hJ
  refine fD O X 12 _ _ _ ?_
  show(aEn [lA dEn.2.1 2] (aG w ends ours (mk f) o μ)).sat _
  have fin:Q (.str (mk f),μ):=by
   rw[<-hJ]at hq
   exact hq
  induction o using Option.casesOn with
  |none=>simp only[eoA];exact fin
  |some e=>simp only[doA];exact fin
noncomputable def xC (ours:Bool):List Nat->List Nat->List Nat
 |[],out=>out
 |x::r,out=>xC ours r (out++[if x==121&&(out.isEmpty||(!ours&&gB (out.getLast?.getD 0)))then 89 else x])
noncomputable def dMa:Df:=eA 40
theorem mgB:dMa.2.1=[lA dMa.2.1 0,.For (.Name "sign" (whX (lA dMa.2.1 1))) (.Name "word" (match whT (lA dMa.2.1 1)with| .Name ø p=>p|ø=>default)) (whB (lA dMa.2.1 1)) [] (whP (lA dMa.2.1 1)),lA dMa.2.1 2]:=by kernel_rfl
noncomputable def pG (w:Str)(ours:Bool)(out:Str)(x:Option Str)(μ:Mu):AS:=⟨("word",.str w)::("ours",.bool ours)::("out",.str out)::(match x with|none=>[]|some e=>[("sign",.str e)]),μ⟩
noncomputable abbrev aMa:=aiB (aiS (xA dMa.2.2 []) 12)
section
variable (w x out:Str)(ours:Bool)(o:Option Str)(μ:Mu)
theorem cmA:aiS (xA dMa.2.2 []) 12 (lA dMa.2.1 0) ⟨[("word",.str w),("ours",.bool ours)],μ⟩=.ret (.next,pG w ours "" none μ):=by kernel_rfl
theorem nvA (p:Pos):(ai (xA dMa.2.2 []) 20).1 (.Name "word" p) (pG w ours out none μ)=.ret (.str w,pG w ours out none μ):=by kernel_rfl
theorem bmA:aMa [lA dMa.2.1 2] (pG w ours out none μ)=.ret (.ret (.str out),pG w ours out none μ):=by kernel_rfl
theorem amA:aMa [lA dMa.2.1 2] (pG w ours out (some x) μ)=.ret (.ret (.str out),pG w ours out (some x) μ):=by kernel_rfl
theorem ovA:aMa (whB (lA dMa.2.1 1)) (pG w ours out (some x) μ)=
  (let A:Str->T (Out×AS):=λy=>.need (jD out y) (.ret (.next,pG w ours (out++y) (some y) μ))
  let U:=A "Y"
  let S:=A x
  let B3:Bool->T (Out×AS):=λb=>.ite b (.ite true U S) (.ite false U S)
  let B2:Bool->T (Out×AS):=λb=>.ite b (B3 true) (B3 false)
  .ite (x=="y") (.ite (out=="") (B3 true) (.ite (!ours) (.need (cC out (-1)) (.ite (inS (Txt.item out (-1)) "aeiouy") (B2 true) (B2 false))) (B2 false))) (.ite false U S)):=by kernel_rfl
end
theorem wbA (ours:Bool)(w:List Nat)(i:Nat)(h:i<w.length)(out:List Nat):xC ours (w.drop i) out=xC ours (w.drop (i+1)) (out++[if w.getD i 0==121&&(out.isEmpty||(!ours&&gB (out.getLast?.getD 0)))then 89 else w.getD i 0]):=by
 simp only[List.drop_eq_getElem_cons h,getD_at h]
 rfl
noncomputable def xjA:Spec:=λvs μ=>aS vs λw vs=>aB vs λours vs=>a0 vs (.need (decide (w.length<=500)) (.ret (.str (mk (xC ours w.cps.toList [])),μ)))
theorem ghA {l:List Nat}(h:l≠[]):l.getLast?.getD 0=l.getD (l.length-1-0) 0:=by
 simp only[List.getLast?_eq_getElem?,sD]
 rfl
theorem cgA {g:Gr}{ex:Ex}(G:GX g ex)(n:Nat):SpOK g (n+1) 754 xjA:=λvs μ Q hq=>by
 refine jB (lG hq) λw wz1 ez1 hz1=>?_;clear hq
 refine jB (rP hz1) λours wz2 ez2 hz2=>?_;clear hz1
 refine gA (tD hz2) λez3 hz=>?_;clear hz2
 subst ez3 ez2 ez1
 have hq:=hz;clear hz
 refine gA (uD hq) λhn hq=>?_
 have hw:=bB hn
 rw[<-bC w]at*
 generalize w.cps.toList=l at*
 simp only[mk_list,mk_len]at*
 refine mD G.hK ysA rfl λc hc hs=>?_
 have O:mB g (xA dMa.2.2 []) c:=cG G (CTOK.nil (n:=n)) hc hs
 have X:=nD G
 show EB g c dMa.2.1 ⟨[("word",.str (mk l)),("ours",.bool ours)],μ⟩ (dB Q)
 rw[mgB]
 refine rA (cJ O X 12 _ _ _ ?_)
 rw[cmA]
 refine rA (zwA hc.handled (by rw[hs];kernel_rfl) (λ_=>rfl) (mk l)
  (λi σ=>∃out o,σ=pG (mk l) ours (mk out) o μ/\out.length=i/\xC ours (l.drop i) out=xC ours l []) ?_ ?_ ?_)
 ·refine(nK O 20).1 _ _ _ ?_
  rw[nvA]
  exact eB rfl (zI ([]) none rfl rfl rfl)
 ·intro i σ hi o1;refine zP o1 λout o o3 hol hJ=>?_;obtain rfl:=o3
  have hi:i<l.length:=hi
  rw[wbA _ _ i hi]at hJ
  have hx:(⟨#[(mk l).cps.getD i 0]⟩:Str)=mk [l.getD i 0]:=by rw[ivA];rfl
  rw[hx]
  generalize l.getD i 0=x at*
  have hρ:({(pG (mk l) ours (mk out) o μ)with ρ:=pH "sign" (.str (mk [x])) (pG (mk l) ours (mk out) o μ).ρ}:AS)=pG (mk l) ours (mk out) (some (mk [x])) μ:=by
   induction o using Option.casesOn<;>rfl
  rw[hρ]
  refine fD O X 12 _ _ _ ?_
  show(aMa (whB (lA dMa.2.1 1)) (pG (mk l) ours (mk out) (some (mk [x])) μ)).sat _
  rw[ovA]
  dsimp only
  generalize hQ:eX (Seq g c [lA dMa.2.1 2] (dB Q)) (λσ=>∃out o,σ=pG (mk l) ours (mk out) o μ/\out.length=i+1/\xC ours (l.drop (i+1)) out=xC ours l [])=N
  have upd:(x==121&&(out.isEmpty||(!ours&&gB (out.getLast?.getD 0))))=true->(T.need (jD (mk out) "Y") (.ret (.next,pG (mk l) ours (mk out++"Y") (some "Y") μ)):T (Out×AS)).sat N:=λhb=>by
   rw[if_pos hb]at hJ
   refine bA (uE (by rw[mk_len];lia) (by decide)) ?_
   subst hQ
   refine zI (out++[89]) (some "Y") ?_ (by rw[vC,hol];rfl) hJ
   rw[show mk out++("Y":Str)=mk (out++[89])from qF out [89]]
  have same:(x==121&&(out.isEmpty||(!ours&&gB (out.getLast?.getD 0))))=false->(T.need (jD (mk out) (mk [x])) (.ret (.next,pG (mk l) ours (mk out++mk [x]) (some (mk [x])) μ)):T (Out×AS)).sat N:=λhb=>by
   rw[hb]at hJ
   refine bA (uE (by rw[mk_len];lia) (by rw[mk_len];exact Nat.succ_pos _)) ?_
   subst hQ
   refine zI (out++[x]) (some (mk [x])) ?_ (by rw[vC,hol];rfl) hJ
   rw[qF]
  have ey:(mk [x]==("y":Str))=(x==121):=by
   simp only[show("y":Str)=mk [121] by decide,iG]
   by_cases q:x=121
   ·rw[q];rfl
   ·rw[beq_false_of_ne q,beq_false_of_ne λz=>q (List.cons.inj z).1]
  have eo:(mk out==("":Str))=out.isEmpty:=by
   simp only[show("":Str)=mk [] by decide,iG]
   induction out using List.casesOn<;>rfl
  rw[ey,eo]
  refine cA (λh1=>cA (λh2=>zD (zD (upd (by simp only[h1,h2];rfl)))) λh2=>cA (λh3=>?_) λh3=>dC (dC (dC (same (by simp only[h1,h2,h3];rfl))))) λh1=>dC (same (by rw[h1];rfl))
  have hne:out≠[]:=by intro z;rw[z]at h2;injection h2
  have hpos:0<out.length:=List.length_pos_iff.mpr hne
  have ei:Txt.item (mk out) (-1)=mk [out.getD (out.length-1-0) 0]:=mJ (i:=0) hpos
  have ev:inS (Txt.item (mk out) (-1)) ("aeiouy":Str)=gB (out.getLast?.getD 0):=by
   simp only[ei,ghA hne,show("aeiouy":Str)=mk vy by decide]
   exact xP _ _
  rw[ev]
  refine bA (bK (k:=1) (by decide) hpos (by rw[mk_len];lia)) (cA (λh4=>zD (zD (zD (upd (by rw[h1,h2,h3,h4];rfl))))) λh4=>dC (dC (dC (same (by rw[h1,h2,h3,h4];rfl)))))
 ·intro σ o2;refine zP o2 λout o o4 hol hJ=>?_;obtain rfl:=o4
  rw[show(mk l).length=l.length from rfl,List.drop_length]at hJ
  refine fD O X 12 _ _ _ ?_
  show(aMa [lA dMa.2.1 2] (pG (mk l) ours (mk out) o μ)).sat _
  have fin:Q (.str (mk out),μ):=by
   rw[<-hJ]at hq
   exact hq
  induction o using Option.casesOn with
  |none=>rw[bmA];exact fin
  |some e=>rw[amA];exact fin
noncomputable def qxA:Df:=eA 39
noncomputable def yxA:Df:=eA 41
noncomputable def byA:Df:=eA 42
noncomputable def l39:List (Addr×Spec):=[(735,wQ)]
noncomputable def aE (l:List Nat):Bool:=decide (2<l.length)&&(fF l==List.replicate (l.length-2) 99++[118,99])&&!decide (l.getD (l.length-1-0) 0∈([119,120,121,89]:List Nat))
theorem kkA (w:Str)(μ:Mu):kp [] (aiB (iF (xA qxA.2.2 l39) 12) qxA.2.1 ⟨[("word",.str w)],μ⟩)=(let R:Bool->T (Out×AS):=λb=>.ret (.ret (.bool b),⟨[],μ⟩)
  let q:Str:=Txt.mul "c" (w.length-2)
  xD w.length (.ite (decide (2<(w.length:Int))) (.need (decide (w.length<=1000)) (xD w.length (.need (decide (-1000<=(w.length:Int)-2)&&decide ((w.length:Int)-2<=1000)&&decide (Str.length "c"<=1000)) (.need (jD q "vc")
   (.ite (mk (fF w.cps.toList)==q++"vc") (.need (cC w (-1)) (R (!inS (Txt.item w (-1)) "wxyY"))) (R (mk (fF w.cps.toList)==q++"vc"))))))) (R (decide (2<(w.length:Int)))))):=by kernel_rfl
theorem akB (k:Nat):Txt.mul ("c":Str) (k:Int)=mk (List.replicate k 99):=by
 have hf:∀n (a:Array Nat),(List.replicate n (#[99]:Array Nat)).foldl (·++·) a=(a.toList++List.replicate n 99).toArray:=λn=>by
  induction n with
  |zero=>intro a;simp
  |succ n ih=>intro a;simp only[List.replicate_succ,List.foldl_cons,ih];simp[List.replicate_succ]
 unfold Txt.mul
 by_cases h1:(k:Int)<1
 ·refine qDzq (if_pos h1 ..) ?_;rw[show k=0 by exact msB h1];rfl
 ·refine qDzq (if_neg h1 ..) ?_
  by_cases h2:((k:Int)==1||Str.length ("c":Str)==0)=true
  ·refine qDzq (if_pos h2 ..) ?_
   have:k=1:=by
    simp only[Bool.or_eq_true]at h2
    refine Or.elim h2 (λh2=>?_) λh2=>?_
    ·have:=eq_of_beq h2;exact Int.ofNat.inj ‹_›
    ·exact absurd h2 (by decide)
   rw[this];decide
  ·refine qDzq (if_neg h2 ..) ?_;simp only[Int.toNat_natCast,show(Str.ofString "c").cps=#[99] by decide,hf]
   show(⟨_⟩:Str)=⟨_⟩
   simp
noncomputable def tV:Spec:=λvs μ=>aS vs λx vs=>a0 vs (.need (decide (x.length<=900)) (.ret (.bool (aE x.cps.toList),μ)))
theorem vQ {g:Gr}{ex:Ex}(G:GX g ex)(n:Nat)(hr:SpOK g n 735 wQ):SpOK g (n+1) 747 tV:=λvs μ Q hq=>by
 refine jB (lG hq) λw wz1 ez1 hz1=>?_;clear hq
 refine gA (tD hz1) λez2 hz=>?_;clear hz1
 subst ez2 ez1
 have hq:=hz;clear hz
 refine gA (uD hq) λhn hq=>?_
 have hw:=bB hn
 rw[<-bC w]at*
 generalize w.cps.toList=l at*
 simp only[mk_list,mk_len]at*
 refine mD G.hK zsA rfl λc hc hs=>?_
 have O:mB g (xA qxA.2.2 l39) c:=cG G (.cons hr .nil) hc hs
 show EB g c qxA.2.1 ⟨[("word",.str (mk l))],μ⟩ (dB Q)
 refine ifA O (nD G) 12 _ _ _ (yJ (names:=[]) ?_)
 rw[kkA]
 have hq:∀b,aE l=b->Q (.bool b,μ):=λb e=>e▸hq
 rw[mk_len,mk_list]
 have e0:decide (2<((l.length:Nat):Int))=decide (2<l.length):=aC 2 _
 rw[e0]
 refine bA (uB (dA ‹_› (by decide))) (cA (λh1=>?_) λh1=>hq _ (by unfold aE;rw[h1];rfl))
 have h2:=bB h1
 rw[show((l.length:Nat):Int)-2=((l.length-2:Nat):Int) by lia,akB]
 refine bA (by refine(vA ..).mpr ?_;exact dA ‹_› (by decide)) (bA (uB (dA ‹_› (by decide))) (bA ?_ (bA ?_ ?_)))
 ·exact zB (zB (pA (gD _)) (pA (by lia))) (by decide)
 ·exact uE (by simp only[mk_len,List.length_replicate];lia) (by decide)
 rw[show(mk (List.replicate (l.length-2) 99)++("vc":Str))=mk (List.replicate (l.length-2) 99++[118,99])from qF _ [118,99],iG]
 refine cA (λh3=>bA (bK (k:=1) (by decide) (by simp only[mk_len];lia) (by simp only[mk_len];exact dA ‹_› (by decide))) ?_) λh3=>?_
 ·refine hq _ ?_
  unfold aE
  rw[h1,h3]
  have ei:Txt.item (mk l) (-1)=mk [l.getD (l.length-1-0) 0]:=mJ (i:=0) (by lia)
  simp only[ei,show("wxyY":Str)=mk [119,120,121,89] by decide]
  unfold inS
  simp only[xP]
  rfl
 ·refine hq _ ?_
  unfold aE
  rw[h1,h3]
  rfl
noncomputable def l41:List (Addr×Spec):=[(747,tV)]
section
variable {g:Gr}{t:Tb}{c:Cx}{σ:AS}{Q:Out×AS->Prop}
theorem cS (O:mB g t c){test:Expr}{a b:List Stmt}{pos:Pos}(B:Bool)(h:((ai2 t 20).2 test σ).sat λx=>x.1=B/\x.2=σ)(ha:B=true->EB g c a σ Q)(hb:B=false->EB g c b σ Q):ES g c (.If test a b pos) σ Q:=λE ts P s K S=>by
 refine wpAny_If (wpAny_mono ((dJ O 20).2 _ _ _ h E ts P s S) (λb' s₁ ⟨σ₁,⟨h1,h2⟩,S₁⟩=>?_) λø ø x=>x)
 have h1:b'=B:=h1
 have h2:σ₁=σ:=h2
 subst h1 h2
 induction b' using Bool.casesOn with
 |true=>exact ha rfl E ts P s₁ K S₁
 |false=>exact hb rfl E ts P s₁ K S₁
theorem bS (O:mB g t c){e:Expr}{pos:Pos}(h:((ai2 t 20).1 e σ).sat λx=>Q (.ret x.1,x.2)):ES g c (.Return (some e) pos) σ Q:=jR (dJ O 20).1 (T.sat_bind.mpr (T.sat_mono (λø hx=>hx) h))
end
noncomputable def rJ:Stmt->Expr
 | .Return (some e) _=>e
 |_=>.Constant .none 0 default
noncomputable def hbA:Stmt->Pos
 | .Return _ p=>p
 |_=>default
noncomputable def iyA:Stmt->Expr
 | .Assign _ e _=>e
 |_=>.Constant .none 0 default
noncomputable def bD (k:Nat)(l:List Nat):List Nat:=l.drop (l.length-k)
theorem zK {l:List Nat}{k:Nat}(h:0<k):Txt.slice (mk l) (some (-(k:Int))) none=mk (bD k l):=by
 refine qDzq (fG ..) ?_
 congr 1
 have e1:jC l.length l.length none=l.length:=rfl
 have e2:jC l.length 0 (some (-(k:Int)))=l.length-k:=by
  unfold jC
  simp only
  rw[if_pos (fhB h)]
  exact ehB h
 simp only[e1,e2,List.take_length]
 rfl
theorem dD {l:List Nat}{k:Nat}(h:0<k):Txt.slice (mk l) none (some (-(k:Int)))=mk (cut l k):=by
 refine qDzq (fG ..) ?_
 congr 1
 have e1:jC l.length l.length (some (-(k:Int)))=l.length-k:=by
  unfold jC
  simp only
  rw[if_pos (fhB h)]
  exact ehB h
 have e2:jC l.length 0 none=0:=rfl
 simp only[e1,e2]
 rfl
theorem bhB (l:List Nat)(s:String):(mk l==Str.ofString s)=(l==cp s):=by rw[<-bC (Str.ofString s),iG];rfl
theorem uW (l:List Nat)(s:String):(Str.ofString s==mk l)=(l==cp s):=by
 rw[<-bhB]
 by_cases h:mk l=Str.ofString s
 ·rw[h]
 ·rw[beq_false_of_ne h,beq_false_of_ne λz=>h z.symm]
theorem tkB (k:Nat)(s:String):inS (mk [k]) (Str.ofString s)=decide (k∈cp s):=by
 rw[<-bC (Str.ofString s)]
 exact xP _ _
noncomputable def dbl (l:List Nat):Bool:=l.getD (l.length-1-0) 0==l.getD (l.length-1-1) 0
noncomputable def eK (ours:Bool)(l:List Nat):Bool:=(ours&&(l==cp "at"||l==cp "iz"))||(!ours&&(bD 2 l==cp "at"||bD 2 l==cp "bl"||bD 2 l==cp "iz"))
noncomputable def dK (ours:Bool)(l:List Nat):Bool:=!ours&&(decide (1<l.length)&&(dbl l&&decide (l.getD (l.length-1-0) 0∈cp "bdfgmnprt")))
noncomputable def zE (ours:Bool)(l:List Nat):List Nat:=if eK ours l then l++cp "e" else if dK ours l then cut l 1 else if aE l then l++cp "e" else l
noncomputable abbrev tHe:Tb:=xA yxA.2.2 l41
noncomputable abbrev hS (i:Nat):Stmt:=lA yxA.2.1 i
theorem xxA:yxA.2.1=[.If (whT (hS 0)) [.Return (some (rJ (lA (whB (hS 0)) 0))) (hbA (lA (whB (hS 0)) 0))] [] (whP (hS 0)),.If (whT (hS 1)) [.Return (some (rJ (lA (whB (hS 1)) 0))) (hbA (lA (whB (hS 1)) 0))] [] (whP (hS 1)),.Return (some (rJ (hS 2))) (hbA (hS 2))]:=by kernel_rfl
noncomputable def vE (w:Str)(ours:Bool)(μ:Mu):AS:=⟨[("word",.str w),("ours",.bool ours)],μ⟩
section
variable (w:Str)(ours:Bool)(μ:Mu)
noncomputable def bH (b:Bool):T (Bool×AS):=.ret (b,vE w ours μ)
theorem vkB:(ai2 tHe 20).2 (whT (hS 0)) (vE w ours μ)=(let K:Bool->T (Bool×AS):=λb=>.ite b (bH w ours μ true) (bH w ours μ false)
  let N:T (Bool×AS):=.ite (!ours) (.need (decide (w.length<=big)) (.ite (([("at":Str),"bl","iz"]:List Str).any (·==Txt.slice w (some (-2)) none)) (K true) (K false))) (K false)
  .ite ours (.ite (([("at":Str),"iz"]:List Str).any (·==w)) (.ite true (bH w ours μ true) N) (.ite false (bH w ours μ true) N)) (.ite false (bH w ours μ true) N)):=by kernel_rfl
theorem ukB:(ai2 tHe 20).2 (whT (hS 1)) (vE w ours μ)=.ite (!ours) (xD w.length (.ite (decide (1<(w.length:Int))) (.need (cC w (-1)) (.need (cC w (-2)) (.ite (Txt.item w (-1)==Txt.item w (-2)) (.need (cC w (-1)) (.ite (inS (Txt.item w (-1)) "bdfgmnprt") (bH w ours μ true) (bH w ours μ false))) (bH w ours μ false))))
  (bH w ours μ false))) (bH w ours μ false):=by kernel_rfl
theorem ykB:(ai2 tHe 20).1 (rJ (lA (whB (hS 0)) 0)) (vE w ours μ)=.need (jD w "e") (.ret (.str (w++"e"),vE w ours μ)):=by kernel_rfl
theorem xkB:(ai2 tHe 20).1 (rJ (lA (whB (hS 1)) 0)) (vE w ours μ)=xD w.length (.ret (.str (Txt.slice w none (some (-1))),vE w ours μ)):=by kernel_rfl
theorem wkB:(ai2 tHe 20).1 (rJ (hS 2)) (vE w ours μ)=.need (decide (w.length<=900)) (.ite (aE w.cps.toList) (.need (jD w "e") (.ret (.str (w++"e"),vE w ours μ))) (.ret (.str w,vE w ours μ))):=by kernel_rfl
end
theorem lK {w:Str}{ours:Bool}{μ:Mu}{b B:Bool}(h:B=b):(bH w ours μ b).sat λx=>x.1=B/\x.2=vE w ours μ:=⟨h.symm,rfl⟩
theorem ozA (l:List Nat):mk l++("e":Str)=mk (l++cp "e"):=qF l (cp "e")
noncomputable def akA:Spec:=λvs μ=>aS vs λx vs=>aB vs λours vs=>a0 vs (.need (decide (x.length<=800)) (.ret (.str (mk (zE ours x.cps.toList)),μ)))
theorem dgA {g:Gr}{ex:Ex}(G:GX g ex)(n:Nat)(hr:SpOK g n 735 wQ):SpOK g (n+2) 761 akA:=λvs μ Q hq=>by
 refine jB (lG hq) λw wz1 ez1 hz1=>?_;clear hq
 refine jB (rP hz1) λours wz2 ez2 hz2=>?_;clear hz1
 refine gA (tD hz2) λez3 hz=>?_;clear hz2
 subst ez3 ez2 ez1
 have hq:=hz;clear hz
 refine gA (uD hq) λhn hq=>?_
 have hw:=bB hn
 rw[<-bC w]at*
 generalize w.cps.toList=l at*
 simp only[mk_list,mk_len]at*
 have hq:∀b,zE ours l=b->Q (.str (mk b),μ):=λb e=>e▸hq
 refine mD G.hK xsA rfl λc hc hs=>?_
 have O:mB g tHe c:=cG G (.cons (vQ G n hr) .nil) hc hs
 show EB g c yxA.2.1 (vE (mk l) ours μ) (dB Q)
 rw[xxA]
 have b2:∀x:Str,(x==Txt.slice (mk l) (some (-2)) none)=(x==mk (bD 2 l)):=λx=>by rw[show(-2:Int)= -((2:Nat):Int) by rfl,zK (by decide)]
 refine rA (cS O (eK ours l) ?_ (λh1=>?_) λh1=>?_)
 ·rw[vkB]
  unfold eK
  simp only[List.any_cons,List.any_nil,Bool.or_false,b2,uW]
  generalize (l==cp "at"||l==cp "iz")=x
  generalize h2:(bD 2 l==cp "at"||(bD 2 l==cp "bl"||bD 2 l==cp "iz"))=y
  have h2':(bD 2 l==cp "at"||bD 2 l==cp "bl"||bD 2 l==cp "iz")=y:=by rw[<-h2,Bool.or_assoc]
  rw[h2']
  have N:∀(B:Bool),(!ours&&y)=B->(T.ite (!ours) (T.need (decide ((mk l).length<=big)) (T.ite y (T.ite true (bH (mk l) ours μ true) (bH (mk l) ours μ false)) (T.ite false (bH (mk l) ours μ true) (bH (mk l) ours μ false)))) (T.ite false (bH (mk l) ours μ true) (bH (mk l) ours μ false))).sat λx=>x.1=B/\x.2=vE (mk l) ours μ:=λB e=>by
   subst e
   refine cA (λh=>bA (uB (by rw[mk_len];exact dA ‹_› (by decide))) (cA (λh'=>zD (lK (by rw[h,h'];rfl))) λh'=>dC (lK (by rw[h,h'];rfl)))) λh=>dC (lK (by rw[h];rfl))
  refine cA (λh=>cA (λh'=>zD (lK (by rw[h,h'];rfl))) λh'=>dC (N _ (by rw[h,h'];rfl))) λh=>dC (N _ (by rw[h];rfl))
 ·refine rA (bS O ?_)
  rw[ykB]
  refine bA (uE (by rw[mk_len];exact dA ‹_› (by decide)) (by decide)) ?_
  rw[ozA]
  exact hq _ (by unfold zE;exact(if_pos h1 ..))
 ·refine bJ ?_
  refine rA (cS O (dK ours l) ?_ (λh2=>?_) λh2=>?_)
  ·rw[ukB]
   unfold dK
   rw[mk_len]
   have e0:decide (1<((l.length:Nat):Int))=decide (1<l.length):=aC 1 _
   rw[e0]
   refine cA (λh=>bA (uB (dA ‹_› (by decide))) (cA (λh3=>?_) λh3=>lK (by rw[h,h3];rfl))) λh=>lK (by rw[h];rfl)
   have h4:=bB h3
   have e1:Txt.item (mk l) (-1)=mk [l.getD (l.length-1-0) 0]:=mJ (i:=0) (iC ‹_›)
   have e2:Txt.item (mk l) (-2)=mk [l.getD (l.length-1-1) 0]:=mJ (i:=1) ‹_›
   have e3:(mk [l.getD (l.length-1-0) 0]==mk [l.getD (l.length-1-1) 0])=dbl l:=by
    unfold dbl
    rw[iG]
    by_cases q:l.getD (l.length-1-0) 0=l.getD (l.length-1-1) 0
    ·rw[q,beq_self_eq_true,beq_self_eq_true]
    ·rw[beq_false_of_ne q,beq_false_of_ne λz=>q (List.cons.inj z).1]
   rw[e1,e2,e3,tkB]
   refine bA (bK (k:=1) (by decide) (by rw[mk_len];exact iC ‹_›) (by rw[mk_len];exact dA ‹_› (by decide))) (bA (bK (k:=2) (by decide) (by rw[mk_len];assumption) (by rw[mk_len];exact dA ‹_› (by decide))) (cA (λh5=>bA (bK (k:=1) (by decide) (by rw[mk_len];exact iC ‹_›) (by rw[mk_len];exact dA ‹_› (by decide))) (cA (λh6=>lK (by rw[h,h3,h5,h6];rfl)) λh6=>lK (by rw[h,h3,h5,h6];rfl))) λh5=>lK (by rw[h,h3,h5];rfl)))
  ·refine rA (bS O ?_)
   rw[xkB]
   refine bA (uB (by rw[mk_len];exact dA ‹_› (by decide))) ?_
   rw[show(-1:Int)= -((1:Nat):Int) by rfl,dD (by decide)]
   exact hq _ (by unfold zE;rw[h1,if_neg (by decide),if_pos h2])
  ·refine bJ ?_
   refine rA (bS O ?_)
   rw[wkB]
   refine bA (by rw[mk_len,vA];exact dA ‹_› (by decide)) (cA (λh3=>bA (uE (by rw[mk_len];exact dA ‹_› (by decide)) (by decide)) ?_) λh3=>?_)
   ·rw[ozA]
    exact hq _ (by unfold zE;rw[h1,h2,if_neg (by decide),if_neg (by decide),if_pos (show aE l=true from h3)])
   ·exact hq _ (by unfold zE;rw[h1,h2,if_neg (by decide),if_neg (by decide),if_neg (by rw[show aE l=false from h3];decide)])
noncomputable def gxB:List (Addr×Spec):=[(754,xjA),(735,wQ),(740,sM),(761,akA)]
noncomputable abbrev fr (i:Nat):Stmt:=lA byA.2.1 i
noncomputable abbrev tFi:Tb:=xA byA.2.2 gxB
theorem ayA:byA.2.1=[fr 0,fr 1,fr 2,fr 3,fr 4,fr 5]:=by kernel_rfl
noncomputable def nWO:List Str:=["word","ours"]
noncomputable def nWC:List Str:=["word","ours","cut"]
noncomputable def flA (w:Str)(ours:Bool)(k:Int)(μ:Mu):AS:=⟨[("word",.str w),("ours",.bool ours),("cut",.int k)],μ⟩
noncomputable def fF1 (l:List Nat):List Nat:=if sx "sses" l||sx "ies" l then cut l 2 else if sx "s" l&&!sx "ss" l then cut l 1 else l
noncomputable def pK (l:List Nat):Nat:=if sx "ed" l then 2 else if sx "ing" l then 3 else 0
noncomputable def eI (l:List Nat):Bool:=decide (118∈fF l)
noncomputable def fF2 (ours:Bool)(l:List Nat):List Nat:=if sx "eed" l then(if decide (0<mA (cut l 3))then cut l 1 else l)else if decide (0<pK l)&&eI (cut l (pK l))then zE ours (cut l (pK l))else l
noncomputable def fF3 (l:List Nat):List Nat:=if(bD 1 l==cp "y"||bD 1 l==cp "Y")&&eI (cut l 1)then cut l 1++cp "i" else l
noncomputable def pB (ours:Bool)(l:List Nat):List Nat:=fF3 (fF2 ours (fF1 (xC ours l [])))
section
variable (w:Str)(ours:Bool)(k:Int)(μ:Mu)
noncomputable def wT (x:Str):T (Out×AS):=.ret (.next,vE x ours μ)
theorem fr0:kp nWO (iF tFi 12 (fr 0) (vE w ours μ))=.need (decide (w.length<=500)) (wT ours μ (mk (xC ours w.cps.toList []))):=by kernel_rfl
theorem fr1:kp nWO (iF tFi 12 (fr 1) (vE w ours μ))=(let A:=xD w.length (wT ours μ (Txt.slice w none (some (-2))))
  let D:=xD w.length (wT ours μ (Txt.slice w none (some (-1))))
  let S:=wT ours μ w
  let C:=T.ite (Txt.endswith w "s") (T.ite (!Txt.endswith w "ss") (T.ite true D S) (T.ite false D S)) (T.ite false D S)
  T.ite (Txt.endswith w "sses") (T.ite true A C) (T.ite (Txt.endswith w "ies") (T.ite true A C) (T.ite false A C))):=by kernel_rfl
theorem fr2:kp nWC (iF tFi 12 (fr 2) (vE w ours μ))=(T.ite (Txt.endswith w "ed") (.ret (.next,flA w ours 2 μ)) (T.ite (Txt.endswith w "ing") (.ret (.next,flA w ours 3 μ)) (.ret (.next,flA w ours 0 μ))):T (Out×AS)):=by kernel_rfl
theorem fr3:kp nWO (iF tFi 12 (fr 3) (flA w ours k μ))=(let y:=Txt.slice w none (some (-k))
  let H:=xD w.length (T.need (decide (y.length<=800)) (wT ours μ (mk (zE ours y.cps.toList))))
  let N:=wT ours μ w
  T.ite (Txt.endswith w "eed") (xD w.length (T.need (decide ((Txt.slice w none (some (-3))).length<=1000)) (T.ite (decide ((0:Int)<(mA (Txt.slice w none (some (-3))).cps.toList:Nat))) (xD w.length (wT ours μ (Txt.slice w none (some (-1))))) N)))
   (T.ite (decide (0<k)) (xD w.length (T.need (decide (y.length<=1000)) (T.ite (inS "v" (mk (fF y.cps.toList))) (T.ite true H N) (T.ite false H N)))) (T.ite false H N))):=by kernel_rfl
theorem fr4:kp nWO (iF tFi 12 (fr 4) (vE w ours μ))=(let y:=Txt.slice w none (some (-1))
  let Z:=xD w.length (T.need (jD y "i") (wT ours μ (y++"i")))
  let N:=wT ours μ w
  xD w.length (T.ite (([("y":Str),"Y"]:List Str).any (·==Txt.slice w (some (-1)) none)) (xD w.length (T.need (decide (y.length<=1000)) (T.ite (inS "v" (mk (fF y.cps.toList))) (T.ite true Z N) (T.ite false Z N)))) (T.ite false Z N))):=by kernel_rfl
theorem fr5:iF tFi 12 (fr 5) (vE w ours μ)=.ret (.ret (.str w),vE w ours μ):=by kernel_rfl
end
theorem jiB (l:List Nat):inS ("v":Str) (mk (fF l))=eI l:=by
 rw[show("v":Str)=mk [118] by decide]
 exact xP _ _
theorem nY (l:List Nat):(fF l).length=l.length:=by unfold fF;exact(List.length_map ..)
theorem nU (ours:Bool):∀(l out:List Nat),(xC ours l out).length=out.length+l.length:=by
 intro l0
 induction l0 with
 |nil=>
  intro out
  exact rfl
 |cons x r ih=>
  intro out
  refine qDzq (ih ..) ?_;simp only[vC,List.length_cons]
  exact lsB
theorem weA (l:List Nat):(fF1 l).length<=l.length:=by
 unfold fF1
 have h1:=yA l 1
 have h2:=yA l 2
 repeat' split
 all_goals omega
theorem rhA (ours:Bool)(l:List Nat):(zE ours l).length<=l.length+1:=by
 unfold zE
 have h1:=yA l 1
 have h2:(cp "e").length=1:=by decide
 repeat' split
 all_goals (try simp only[vC])
 all_goals (first|exact Nat.le_succ_of_le ‹_›|lia)
theorem veA (ours:Bool)(l:List Nat):(fF2 ours l).length<=l.length+1:=by
 unfold fF2
 have h1:=yA l 1
 have h2:=yA l (pK l)
 have h3:=rhA ours (cut l (pK l))
 repeat' split
 all_goals (first|exact Nat.le_succ_of_le ‹_›|exact aqh ‹_› ‹_›|lia)
theorem fxA (l:List Nat):(fF3 l).length<=l.length+1:=by
 unfold fF3
 have h1:=yA l 1
 have h2:(cp "i").length=1:=by decide
 split
 ·simp only[vC];exact Nat.lt_succ_of_le ‹_›
 ·exact Nat.le_add_right _ _
theorem bT {g:Gr}{t:Tb}{c:Cx}(O:mB g t c)(X:fI g)(st:Stmt)(names:List Str){rest:List Stmt}{σ:AS}{Q:V×Mu->Prop}(z:(kp names (iF t 12 st σ)).sat (Seq g c rest (dB Q))):EB g c (st::rest) σ (dB Q):=rA (rI O X 12 _ _ _ (rmA z))
noncomputable def tdA:Spec:=λvs μ=>aS vs λx vs=>aB vs λours vs=>a0 vs (.need (decide (x.length<=400)) (.ret (.str (mk (pB ours x.cps.toList)),μ)))
theorem cbA {g:Gr}{ex:Ex}(G:GX g ex)(n:Nat)(hr:SpOK g n 735 wQ)(hm:SpOK g (n+2) 740 sM):SpOK g (n+3) 768 tdA:=λvs μ Q hq=>by
 obtain⟨w,wz1,ez1,hz1⟩:=lG hq;clear hq
 obtain⟨ours,wz2,ez2,hz2⟩:=rP hz1;clear hz1
 obtain⟨ez3,hz⟩:=tD hz2;clear hz2
 subst ez3 ez2 ez1
 have hq:=hz;clear hz
 obtain⟨hn,hq⟩:=uD hq
 have hw:=bB hn
 rw[<-bC w]at*
 generalize w.cps.toList=l at*
 simp only[mk_list,mk_len]at*
 have hq:Q (.str (mk (pB ours l)),μ):=hq
 unfold pB at hq
 refine mD G.hK wsA rfl λc hc hs=>?_
 have O:mB g tFi c:=cG G (.cons ((cgA G n).le kaA) (.cons (hr.le (Nat.le_add_right _ _)) (.cons hm (.cons (dgA G n hr) .nil)))) hc hs
 have X:=nD G
 show EB g c byA.2.1 (vE (mk l) ours μ) (dB Q)
 rw[ayA]
 refine bT O X _ nWO ?_
 rw[fr0]
 refine bA (by rw[mk_len,vA];exact dA ‹_› (by decide)) ?_
 rw[mk_list]
 have l1:=nU ours l []
 generalize xC ours l []=w1 at*
 simp only[List.length_nil]at l1
 have go1:EB g c [fr 2,fr 3,fr 4,fr 5] (vE (mk (fF1 w1)) ours μ) (dB Q):=by
  have l2:=weA w1
  generalize fF1 w1=w2 at*
  have go2:EB g c [fr 4,fr 5] (vE (mk (fF2 ours w2)) ours μ) (dB Q):=by
   have l3:=veA ours w2
   generalize fF2 ours w2=w3 at*
   have go3:EB g c [fr 5] (vE (mk (fF3 w3)) ours μ) (dB Q):=by
    refine rA (rI O X 12 _ _ _ ?_)
    rw[fr5]
    exact hq
   have hc1:=yA w3 1
   refine bT O X _ nWO ?_
   rw[fr4]
   dsimp only
   rw[show(-1:Int)= -((1:Nat):Int) by rfl,dD (by decide),zK (by decide),mk_list,jiB]
   have ea:([("y":Str),"Y"]:List Str).any (·==mk (bD 1 w3))=(bD 1 w3==cp "y"||bD 1 w3==cp "Y"):=by
    simp only[List.any_cons,List.any_nil,Bool.or_false,uW]
   rw[ea]
   unfold fF3 at go3
   refine bA (uB (by rw[mk_len];lia)) (cA (λh=>bA (uB (by rw[mk_len];lia)) (bA (by rw[mk_len,vA];lia) (cA (λh'=>zD (bA (uB (by rw[mk_len];lia)) (bA (uE (by rw[mk_len];lia) (by decide)) ?_))) λh'=>dC ?_))) λh=>dC ?_)
   ·rw[h,h']at go3
    rw[show mk (cut w3 1)++("i":Str)=mk (cut w3 1++cp "i")from qF _ _]
    exact go3
   ·rw[h,h']at go3
    exact go3
   ·rw[h]at go3
    exact go3
  refine bT O X _ nWC ?_
  rw[fr2]
  have e1:∀s:String,Txt.endswith (mk w2) (Str.ofString s)=sx s w2:=λs=>iH ..
  rw[e1,e1]
  have go:∀k:Nat,k=pK w2->EB g c [fr 3,fr 4,fr 5] (flA (mk w2) ours (k:Int) μ) (dB Q):=λk hk=>by
   have hc1:=yA w2 1
   have hc3:=yA w2 3
   have hck:=yA w2 k
   refine bT O X _ nWO ?_
   rw[fr3]
   dsimp only
   rw[e1,show(-1:Int)= -((1:Nat):Int) by rfl,show(-3:Int)= -((3:Nat):Int) by rfl,dD (by decide),dD (by decide),mk_list]
   have e0:decide ((0:Int)<(k:Nat))=decide (0<k):=aC 0 _
   have e2:decide ((0:Int)<(mA (cut w2 3):Nat))=decide (0<mA (cut w2 3)):=aC 0 _
   rw[e0,e2]
   unfold fF2 at go2
   rw[<-hk]at go2
   refine cA (λh=>bA (uB (by rw[mk_len];lia)) (bA (by rw[mk_len,vA];lia) (cA (λh'=>bA (uB (by rw[mk_len];lia)) ?_) λh'=>?_))) λh=>cA (λh'=>?_) λh'=>dC ?_
   ·rw[h,h']at go2;exact go2
   ·rw[h,h']at go2;exact go2
   ·rw[dD (bB h'),mk_list,jiB]
    rw[h,h']at go2
    refine bA (uB (by rw[mk_len];lia)) (bA (by rw[mk_len,vA];lia) (cA (λh2=>zD (bA (uB (by rw[mk_len];lia)) (bA (by rw[mk_len,vA];lia) ?_))) λh2=>dC ?_))
    ·rw[h2]at go2;exact go2
    ·rw[h2]at go2;exact go2
   ·rw[h,h']at go2;exact go2
  refine cA (λh=>go 2 (by unfold pK;rw[h];rfl)) λh=>cA (λh'=>go 3 (by unfold pK;rw[h,h'];rfl)) λh'=>go 0 (by unfold pK;rw[h,h'];rfl)
 have hc1:=yA w1 1
 have hc2:=yA w1 2
 refine bT O X _ nWO ?_
 rw[fr1]
 have e1:∀s:String,Txt.endswith (mk w1) (Str.ofString s)=sx s w1:=λs=>iH ..
 rw[e1,e1,e1,e1,show(-1:Int)= -((1:Nat):Int) by rfl,show(-2:Int)= -((2:Nat):Int) by rfl,dD (by decide),dD (by decide)]
 unfold fF1 at go1
 have C:(sx "sses" w1||sx "ies" w1)=false->(T.ite (sx "s" w1) (T.ite (!sx "ss" w1) (T.ite true (xD (mk w1).length (wT ours μ (mk (cut w1 1)))) (wT ours μ (mk w1))) (T.ite false (xD (mk w1).length (wT ours μ (mk (cut w1 1)))) (wT ours μ (mk w1)))) (T.ite false (xD (mk w1).length (wT ours μ (mk (cut w1 1)))) (wT ours μ (mk w1)))).sat (Seq g c [fr 2,fr 3,fr 4,fr 5] (dB Q)):=λh=>by
  rw[h]at go1
  refine cA (λh1=>cA (λh2=>zD (bA (uB (by rw[mk_len];lia)) ?_)) λh2=>dC ?_) λh1=>dC ?_
  ·rw[h1,h2]at go1;exact go1
  ·rw[h1,h2]at go1;exact go1
  ·rw[h1]at go1;exact go1
 refine cA (λh1=>zD (bA (uB (by rw[mk_len];lia)) ?_)) λh1=>cA (λh2=>zD (bA (uB (by rw[mk_len];lia)) ?_)) λh2=>dC (C (by rw[h1,h2];rfl))
 ·rw[h1,Bool.true_or]at go1;exact go1
 ·rw[h1,h2]at go1;exact go1
theorem oU {C:List Value->Prop}:∀{es:List (Str×Str)},(∀vs,StrsAre vs (es.map (·.1))->C vs)->KdlKeysD (sdD es) C
 |[],h=>h [] .nil
 |(k,v)::r,h=>λx hx=>by
  refine iB (PyProof.V.Flat.str_inv hx) λt o1=>?_;obtain rfl:=o1
  exact oU (es:=r) λvs hvs=>h _ (.cons k t hvs)
section
variable {g:Gr}{c:Cx}{σ:AS}{ts:List (V×Value)}{P:List (Addr×Obj)}{s:Shared}
theorem fgA (hh:c.A.handled=none){es:List (Str×Str)}{val:Value}(S:St g c σ ts P s)(h:(.sd es,val)∈ts)(hl:es.length<64){Q:Value->Shared->Prop}{E:Value->Shared->Prop}
  (hq:∀ss val' s',ss.Perm (es.map (·.1))->St g c σ ((.sl ss,val')::ts) P s'->Q val' s'):wpAny g.M c.A (call (.builtin "sorted") [val]) Q E s:=by
 refine St.el S λb m mo rest a1 a2 a3 a4 a5 a6 a7=>?_
 have r:=a4 _ h
 obtain⟨a,o,rfl,hm,hsys,r⟩:=r.inv
 refine iA r λkvs hd hf=>?_
 have hN:=a1.N _ (eE mo hm)
 refine kdu_sortedD (knd:=sk g.prog g.w) (enc:=PyData.str) (λø ø=>kdl_flat_str) hh a1.F a1.N ⟨hsys,kvs,Heap.dictOf_iff.mpr (jA _ hN.1 hd),hf⟩ (by show(sdD es).length<=16777216;unfold sdD;rw[List.length_map];exact ksB hl) λB h' tk=>oU λvs hvs F' N' hB=>?_
 have hlen:vs.length=es.length:=by rw[hvs.length,List.length_map]
 have hBo:=(N' _ (.head _)).1
 have hLB:c.L≠B:=Ne.symm (N' _ (.head _)).2.1
 have hbB:=(N' _ (.head _)).2.2
 refine wpAny_call_entry PyProof.Rows.slot_list_sort (jA _ hBo rfl) PyProof.Rows.entry_list_sort (list_sort_treeK (n:=0) (vs:=vs) strKind_oneLt hBo hvs.keysOf (λv₁ v₂ rest e=>keyKind_strs (by rw[<-e];exact hvs)) (jsB hl hlen) λst' hp hs=>jA .none rfl ?_) (PyProof.Rows.args_list_sort _)
 refine oM (sorted_out_str hvs hp hs) λss' h1 h2 h3=>?_
 refine iB (sortedHeap_at (vs:=vs) (out:=(arrOf st').map (·.2)) hBo) λe he=>?_
 have old:∀x o,x≠B->h'.get? x=some o->(sortedHeap h' B vs ((arrOf st').map (·.2))).get? x=some o:=λx o hx hox=>(sortedHeap_old hx (Heap.lt_size hox)).trans hox
 refine hq ss' (.ref B) _ h2 (lD b m mo ((B,seqObj "list" ((arrOf st').map (·.2)) e)::rest) ⟨⟨a1.B,a1.turn,a1.D,⟨F'.ns.at' λo ho=>old _ o hLB ho,λx o ho=>old x o (λz=>by simp only[z,hbB]at ho;exact no ho) (F'.keep x o ho),F'.above⟩,λp hp=>?_⟩,?_,λx v hx=>?_,λt ht=>?_,λp hp=>.tail _ (a5 p hp),a6,a7⟩)
 ·have cs:p=(B,seqObj "list" ((arrOf st').map (·.2)) e)\/p∈mo++rest:=by
   refine Or.elim (dI hp) (λhp=>?_) λhp=>?_
   ·exact .inr (zH _ hp)
   ·rcases xB hp with rfl|hp
    ·exact .inl rfl
    ·exact .inr (eE _ hp)
  rcases cs with rfl|hp
  ·exact cF he (Ne.symm hLB) hbB
  ·have:=N' p (.tail _ hp)
   exact eB (old _ _ (Nat.ne_of_lt (hB p hp)) this.1) this.2
 ·exact a2.cons λq hq=>Nat.ne_of_lt (hB q (zH _ hq))
 ·refine iA (a3 x v hx) λval q1 q2=>?_
  exact jA val q1 (q2.mono λp hp=>.tail _ hp)
 ·rcases xB ht with rfl|ht
  ·exact .sl (vals:=((arrOf st').map (·.2)).toList) (n:=e) (by simp only[Array.toArray_toList];exact .head _) h1
  ·exact(a4 t ht).mono λp hp=>.tail _ hp
end
set_option tactic.hygienic true
noncomputable def tI (ks:List Str)(x:Str):List Str:=x.cps.toList.map λi=>ks.getD i Str.empty
theorem wiA {ks ss:List Str}(h:ss.Perm ks):∃x,tI ks x=ss:=by
 refine yC (mk (ss.map λy=>ks.idxOf y)) ?_
 unfold tI
 simp only[mk_list,List.map_map]
 conv=>rhs;rw[<-List.map_id ss]
 refine List.map_congr_left λy hy=>?_
 have hm:y∈ks:=h.mem_iff.mp hy
 have hlt:=List.idxOf_lt_length_of_mem hm
 show ks.getD (ks.idxOf y) Str.empty=y
 refine qDzq (sD) ?_;rw[mG hlt]
 exact List.getElem_idxOf hlt
noncomputable def gkA (v:V)(σ:AS):T (V×AS):=match v with
 | .sd es=>.need (decide (es.length<64)) (.anyS λx=>.ite ((tI (es.map (·.1)) x).isPerm (es.map (·.1))) (.ret (.sl (tI (es.map (·.1)) x),σ)) .triv)
 |_=>.fail
noncomputable def ycA:V->V->T V
 | .sl xs,.sl ys=>.need (decide (xs.length+ys.length<=1000)) (.ret (.sl (xs++ys)))
 |a,b=>gV .Add a b
noncomputable def aiL (t:Tb):Nat->Expr->AS->T (V×AS)
 |0,_,_=>.fail
 |n+1,e,σ=>match e with
  | .BinOp l .Add r _=>(aiL t n l σ).bind λx=>(aiL t n r x.2).bind λy=>(ycA x.1 y.1).bind λv=>.ret (v,y.2)
  | .Call (.Name nm np) [e] [] pos=>if nm="sorted" then(if scK t.sc "sorted"=some .globalImplicit&&!isStar e then(aiL t n e σ).bind λx=>gkA x.1 x.2 else .fail)else rpA t (aiL t n) (λ_ _=>.fail) (.Call (.Name nm np) [e] [] pos) σ
  |e=>rpA t (aiL t n) (λ_ _=>.fail) e σ
noncomputable def vO (g:Gr):Prop:=nsIn g.K mainGlobals "sorted"=some none
section
variable (P:Params)(ex:Ex)
theorem wV:(nsIn (KX P ex) 3 "sorted"==some none)=true:=by kernel_rfl
end
theorem cY {g:Gr}{ex:Ex}(G:GX g ex):vO g:=by
 have h:=wV g.w.params ex
 rw[<-G.hK]at h
 exact eq_of_beq h
section
variable {g:Gr}{t:Tb}{c:Cx}{σ:AS}{ts:List (V×Value)}{P:List (Addr×Obj)}{s:Shared}{v1 v2:V}{val1 val2:Value}
theorem St.ofNews {b:Heap}{m:Str->Option Value}{mo rest:List (Addr×Obj)}{h':Heap}{tk:Nat}{d:Addr}{o:Obj}{v:V}(a1:StN g c m (mo++rest) s.heap b)(a2:MutR g rest σ.μ mo)(a3:LR g rest m σ.ρ)(a4:∀t∈ts,VR g rest t.1 t.2)(a5:∀p∈P,p∈rest)(a6:s.gens=g.gens)(a7:s.os=g.os)
  (F':Fr b c.L h' m) (N':News b c.L h' ((d,o)::(mo++rest))) (hd:∀p∈mo++rest,p.1≠d) (r:VR g ((d,o)::rest) v (.ref d)):St g c σ ((v,.ref d)::ts) P {s with heap:=h',toks:=tk}:=by
 refine lD b m mo ((d,o)::rest) ⟨⟨a1.B,a1.turn,a1.D,F',λp hp=>?_⟩,?_,λx v hx=>?_,λt ht=>?_,λp hp=>.tail _ (a5 p hp),a6,a7⟩
 ·refine Or.elim (dI hp) (λhp=>?_) λhp=>?_
  ·exact N' p (.tail _ (zH _ hp))
  ·rcases xB hp with rfl|hp
   ·exact N' _ (.head _)
   ·exact N' p (.tail _ (eE _ hp))
 ·exact a2.cons λq hq=>hd q (zH _ hq)
 ·refine iA (a3 x v hx) λval q1 q2=>?_
  exact jA val q1 (q2.mono λp hp=>.tail _ hp)
 ·rcases xB ht with rfl|ht
  ·exact r
  ·exact(a4 t ht).mono λp hp=>.tail _ hp
theorem wX {a b:List Value}{xs ys:List Str}(h:StrsAre a xs)(h':StrsAre b ys):StrsAre (a++b) (xs++ys):=by
 induction h with
 |nil=>exact h'
 |cons x t r ih=>exact .cons x t ih
theorem pyA {Q:V->Prop}(S:St g c σ ts P s)(h1:(v1,val1)∈ts)(h2:(v2,val2)∈ts)(hq:(ycA v1 v2).sat Q):K1 g c (binaryOp .Add val1 val2) σ ts P Q s:=by
 unfold ycA at hq
 split at hq
 ·intro E
  refine gA (uD hq) λhn hq=>?_
  have hn:=bB hn
  refine St.el S λb m mo rest a1 a2 a3 a4 a5 a6 a7=>?_
  have r1:=a4 _ h1
  have r2:=a4 _ h2
  cases r1
  rename_i m1 r1
  cases r2
  rename_i m2 r2
  have l1:=r1.length
  have l2:=r2.length
  refine add_lists a1.F a1.N (zG _ ((a1.N _ (eE mo m1)).1) rfl (yC _ rfl)) (zG _ ((a1.N _ (eE mo m2)).1) rfl (yC _ rfl)) (λh' F' N'=>jA _ hq ?_) (hsz:=by simp only[sizeLine_eq];lia)
  exact St.ofNews (tk:=s.toks) a1 a2 a3 a4 a5 a6 a7 F' N' (λp hp=>Nat.ne_of_lt (Heap.lt_size (a1.N p hp).1)) (.sl (n:=0) (.head _) (wX r1 r2))
 ·exact tcA S h1 h2 hq
theorem qpA (O:mB g t c)(H:vO g):∀n e σ Q,(aiL t n e σ).sat Q->EV g c e σ Q:=by
 intro l0
 induction l0 with
 |zero=>
  intro ø ø ø h
  exact h.elim
 |succ n ih=>
  intro e σ Q h
  unfold aiL at h
  split at h
  ·exact λE ts P s S=>wpAny_BinOp (wpAny_mono (ih _ _ _ (cB h) E ts P s S) (λø ø o6=>by refine jB o6 λø ø h1 S1=>?_;exact wpAny_mono (ih _ ø _ (cB h1) E _ P _ S1) (λø ø o5=>by refine jB o5 λø ø h2 S2=>?_;exact wpAny_mono (pyA S2 (.tail _ (.head _)) (.head _) (cB h2) E) (λ_ _ o3=>by refine iA o3 λv h3 S3=>?_;exact zA v ø h3 S3.two) λø ø x=>x) λø ø x=>x) λø ø x=>x)
  ·split at h
   ·rename_i hnm
    subst hnm
    split at h
    ·rename_i hc
     replace hc:=(oA ..).mp hc;simp only[vA,aF]at hc
     intro E ts P s S
     have hl':scK c.sc "sorted"=some .globalImplicit:=by rw[O.sc];exact hc.1
     refine wpAny_Call_ofName (uoA S hl' (by decide) (by decide) H boot_sorted ?_)
     refine tE (first:=[]) (ih) (.inl (yC _ rfl)) (by refine qDzq (List.all_cons ..) ?_;rw[hc.2];rfl) (Q:=λx=>∃v,x.1=[v]/\(gkA v x.2).sat Q) ?_ S λvals vs σ' s' hq hlen S'=>?_
     ·refine T.sat_bind.mpr (T.sat_mono (λx hx=>?_) (cB h))
      exact jA _ rfl hx
     ·refine iA hq λv hv hs=>?_
      have hv:vs=[v]:=hv
      subst hv
      match vals,hlen with
      |[val],ø=>
      unfold gkA at hs
      split at hs
      ·rename_i es
       refine gA (uD hs) λhl hs=>?_
       refine fgA O.handled S' (.head _) (bB hl) λss val' s2 hp S2=>?_
       refine iB (wiA hp) λx hx=>?_
       have:=hs x
       dsimp only at this
       rw[hx]at this
       exact zA _ _ (this.1 (List.isPerm_iff.mpr hp)) S2.one
      ·exact hs.elim
    ·exact h.elim
   ·exact yeA O (ih) (fc:=λø ø=>.fail) (λø ø ø h=>False.elim h) _ σ Q h
  ·exact yeA O (ih) (fc:=λø ø=>.fail) (λø ø ø h=>False.elim h) _ σ Q h
theorem jxA (O:mB g t c)(H:vO g){x:Str}{e:Expr}{p pos:Pos}{Q:Out×AS->Prop}(hs:qN e=false)(hx:scK t.sc x=some .local)(h:(aiL t 20 e σ).sat λv=>Q (.next,{v.2 with ρ:=pH x v.1 v.2.ρ})):ES g c (.Assign [.Name x p] e pos) σ Q:=by
 refine aV O (qpA O H 20) ?_
 rw[hs,hx]
 exact T.sat_bind.mpr (T.sat_mono (λø hx=>hx) h)
theorem ixA (O:mB g t c)(H:vO g){e:Expr}{pos:Pos}{Q:Out×AS->Prop}(h:(aiL t 20 e σ).sat λx=>Q (.ret x.1,x.2)):ES g c (.Return (some e) pos) σ Q:=jR (qpA O H 20) (T.sat_bind.mpr (T.sat_mono (λø hx=>hx) h))
end
noncomputable def yD (ours:Bool)(w e:List Nat):Bool:=e.isSuffixOf w&&(!ours||decide (e.length<w.length))
structure EndMax (ours:Bool) (w:List Nat) (P:List Nat->Prop) (r:List Nat):Prop where
 suf:r.isSuffixOf w=true
 src:r=[]\/(P r/\yD ours w r=true)
 max:∀e,P e->yD ours w e=true->e.length<=r.length
theorem coA (ours:Bool)(w:List Nat):∀(es:List (List Nat)) (f:List Nat) (P:List Nat->Prop),EndMax ours w P f->EndMax ours w (λe=>P e\/e∈es) (mC ours w es f):=by
 intro l0
 induction l0 with
 |nil=>
  intro f P h
  exact⟨h.suf,h.src.imp id λx=>⟨.inl x.1,x.2⟩,λe he hk=>by
   refine Or.elim he (λhe=>?_) λhe=>?_
   ·exact h.max e he hk
   ·cases he⟩
 |cons e r ih=>
  intro f P h
  have hsuf0:=h.suf
  have key:EndMax ours w (λx=>P x\/x=e) (if e.isSuffixOf w&&(decide (f.length<e.length)&&(!ours||decide (e.length<w.length)))then e else f):=by
   by_cases q:(e.isSuffixOf w&&(decide (f.length<e.length)&&(!ours||decide (e.length<w.length))))=true
   ·rw[if_pos q]
    simp only[oA,vA]at q
    obtain⟨q1,q2,q3⟩:=q
    refine⟨q1,.inr ⟨.inr rfl,by unfold yD;simp only[q1,q3];rfl⟩,λx hx hk=>?_⟩
    rcases hx with hx|rfl
    ·have:=h.max x hx hk;exact dA ‹_› (iC ‹_›)
    ·exact vD _
   ·rw[if_neg q]
    refine⟨h.suf,h.src.imp id λx=>⟨.inl x.1,x.2⟩,λx hx hk=>?_⟩
    rcases hx with hx|rfl
    ·exact h.max x hx hk
    ·unfold yD at hk
     simp only[oA]at hk
     simp only[hk.1,hk.2,eD,Bool.and_true,vA]at q
     exact Nat.not_lt.mp ‹_›
  have:=ih _ _ key
  refine⟨this.suf,this.src.imp id λx=>⟨?_,x.2⟩,λx hx hk=>this.max x ?_ hk⟩
  ·rcases x.1 with(h|h)|h
   ·exact .inl h
   ·exact .inr (List.mem_cons.mpr (.inl h))
   ·exact .inr (.tail _ h)
  ·rcases hx with h|h
   ·exact .inl (.inl h)
   ·rcases xB h with rfl|h
    ·exact .inl (.inr rfl)
    ·exact .inr h
theorem pD (ours:Bool)(w:List Nat)(es:List (List Nat)):EndMax ours w (λe=>e∈es) (mC ours w es []):=by
 have:=coA ours w es [] (λø=>False) ⟨by induction w using List.casesOn<;>rfl,.inl rfl,λø h=>h.elim⟩
 refine⟨this.suf,this.src.imp id λx=>⟨x.1.elim False.elim id,x.2⟩,λe he hk=>this.max e (.inr he) hk⟩
theorem xqA {a b w:List Nat}(h1:a.isSuffixOf w=true)(h2:b.isSuffixOf w=true)(h:a.length=b.length):a=b:=by
 rw[List.isSuffixOf_iff_suffix]at h1 h2
 rw[List.suffix_iff_eq_drop]at h1 h2
 rw[h1,h2,h]
theorem EndMax.one {ours:Bool}{w:List Nat}{P P':List Nat->Prop}(hP:∀e,P e↔P' e){a b:List Nat}(h1:EndMax ours w P a)(h2:EndMax ours w P' b):a=b:=by
 refine xqA h1.suf h2.suf (Nat.le_antisymm ?_ ?_)
 ·rcases h1.src with rfl|⟨x,y⟩
  ·exact rC _
  ·exact h2.max a ((hP a).mp x) y
 ·rcases h2.src with rfl|⟨x,y⟩
  ·exact rC _
  ·exact h1.max b ((hP b).mpr x) y
theorem biA {ours:Bool}{w:List Nat}{es es':List (List Nat)}(h:∀e,e∈es↔e∈es'):mC ours w es []=mC ours w es' []:=(pD ours w es).one h (pD ours w es')
noncomputable def kB (es:List (Str×Str)):List (List Nat):=es.map λe=>e.1.cps.toList
noncomputable def zC (ours:Bool)(es:List (Str×Str))(w:List Nat):List Nat:=let e:=mC ours w (kB es) [];if e !=[]&&decide (0<mA (cut w e.length))then cut w e.length++(xE es (mk e)).cps.toList else w
noncomputable def dSw:Df:=eA 44
noncomputable def lSw:List (Addr×Spec):=[(775,fkA),(740,sM)]
noncomputable abbrev tSw:Tb:=xA dSw.2.2 lSw
noncomputable abbrev qS (i:Nat):Stmt:=lA dSw.2.1 i
noncomputable def chB:Stmt->Pos
 | .Assign _ _ p=>p
 |_=>default
noncomputable def nlB:Stmt->Pos
 | .Assign [.Name _ p] _ _=>p
 |_=>default
theorem fgB:dSw.2.1=[.Assign [.Name "end" (nlB (qS 0))] (iyA (qS 0)) (chB (qS 0)),.If (whT (qS 1)) [.Return (some (rJ (lA (whB (qS 1)) 0))) (hbA (lA (whB (qS 1)) 0))] [] (whP (qS 1)),.Return (some (rJ (qS 2))) (hbA (qS 2))]:=by kernel_rfl
noncomputable def elA (w:Str)(es:List (Str×Str))(ours:Bool)(μ:Mu):AS:=⟨[("word",.str w),("table",.sd es),("ours",.bool ours)],μ⟩
noncomputable def gR (w:Str)(es:List (Str×Str))(ours:Bool)(e:Str)(μ:Mu):AS:=⟨[("word",.str w),("table",.sd es),("ours",.bool ours),("end",.str e)],μ⟩
section
variable (w e:Str)(es:List (Str×Str))(ours:Bool)(μ:Mu)
theorem xiB:aiL tSw 20 (iyA (qS 0)) (elA w es ours μ)=.need (decide (es.length<64)) (.anyS λx=>.ite ((tI (es.map (·.1)) x).isPerm (es.map (·.1)))
  (.need (decide (w.length<=1000)&&xK (tI (es.map (·.1)) x)) (.ret (.str (mk (mC ours w.cps.toList ((tI (es.map (·.1)) x).map λe=>e.cps.toList) [])),elA w es ours μ))) .triv):=by kernel_rfl
theorem wiB:(ai2 tSw 20).2 (whT (qS 1)) (gR w es ours e μ)=(let R:Bool->T (Bool×AS):=λb=>.ret (b,gR w es ours e μ)
  let y:=Txt.slice w none (some (-(e.length:Int)))
  .ite (e !="") (xD e.length (xD w.length (.need (decide (y.length<=1000)) (.ite (decide ((0:Int)<(mA y.cps.toList:Nat))) (R true) (R false))))) (R false)):=by kernel_rfl
theorem ziB:(ai2 tSw 20).1 (rJ (lA (whB (qS 1)) 0)) (gR w es ours e μ)=(let y:=Txt.slice w none (some (-(e.length:Int)))
  xD e.length (xD w.length (.need (aJ es e) (.need (jD y (xE es e)) (.ret (.str (y++xE es e),gR w es ours e μ)))))):=by kernel_rfl
theorem yiB:(ai2 tSw 20).1 (rJ (qS 2)) (gR w es ours e μ)=.ret (.str w,gR w es ours e μ):=by kernel_rfl
end
noncomputable def cO (es:List (Str×Str)):Bool:=decide (es.length<64)&&es.all λe=>decide (e.1.length<=1000)&&decide (e.2.length<=50)
noncomputable def rjA:Spec:=λvs μ=>aS vs λx vs=>aD vs λes vs=>aB vs λours vs=>a0 vs (.need (decide (x.length<=900)&&cO es) (.ret (.str (mk (zC ours es x.cps.toList)),μ)))
theorem jZ {es:List (Str×Str)}(h:cO es=true)(k:Str):(xE es k).length<=50:=by
 unfold cO at h
 simp only[oA]at h
 unfold xE
 cases q:es.find? λp=>decide (p.1=k)with
 |none=>exact rC _
 |some p=>
  have:=fC h.2 p (List.mem_of_find?_eq_some q)
  simp only[oA,vA,vA]at this
  exact this.2
theorem shA {es:List (Str×Str)}{l:List Nat}(h:l∈kB es):aJ es (mk l)=true:=by
 unfold kB at h
 refine iA (List.mem_map.mp h) λp hp o1=>?_;obtain rfl:=o1
 unfold aJ
 refine(List.find?_isSome).mpr ?_
 exact jA p hp (by refine(vA ..).mpr ?_;rfl)
theorem yfA {g:Gr}{ex:Ex}(G:GX g ex)(n:Nat)(hm:SpOK g (n+2) 740 sM):SpOK g (n+3) 782 rjA:=λvs μ Q hq=>by
 refine jB (lG hq) λw wz1 ez1 hz1=>?_;clear hq
 refine jB (zhB hz1) λes wz2 ez2 hz2=>?_;clear hz1
 refine jB (rP hz2) λours wz3 ez3 hz3=>?_;clear hz2
 refine gA (tD hz3) λez4 hz=>?_;clear hz3
 subst ez4 ez3 ez2 ez1
 have hq:=hz;clear hz
 refine gA (uD hq) λhn hq=>?_
 replace hn:=bmp id id hn
 refine gA hn λhw ht=>?_
 have hw:=bB hw
 have ht':=ht
 unfold cO at ht'
 replace ht':=bmp id id ht'
 rw[<-bC w]at*
 generalize w.cps.toList=l at*
 simp only[mk_list,mk_len]at*
 have hq:∀b,zC ours es l=b->Q (.str (mk b),μ):=λb e=>e▸hq
 refine mD G.hK usA rfl λc hc hs=>?_
 have O:mB g tSw c:=cG G (.cons ((bY G n).le kaA) (.cons hm .nil)) hc hs
 have X:=nD G
 show EB g c dSw.2.1 (elA (mk l) es ours μ) (dB Q)
 rw[fgB]
 refine rA (jxA O (cY G) (by kernel_rfl) (by kernel_rfl) ?_)
 rw[xiB]
 refine bA ht'.1 λx=>eB (λhp=>?_) (λ_=>trivial)
 have hp:=List.isPerm_iff.mp hp
 generalize tI (es.map (·.1)) x=ys at*
 have hok:xK ys=true:=List.all_eq_true.mpr λy hy=>by
  refine iA (List.mem_map.mp (hp.mem_iff.mp hy)) λp hp' o3=>?_;obtain rfl:=o3
  have:=fC ht'.2 p hp'
  simp only[oA]at this
  exact this.1
 refine bA (zB (by rw[mk_len,vA];exact dA ‹_› (by decide)) hok) ?_
 have he:mC ours l (ys.map λe=>e.cps.toList) []=mC ours l (kB es) []:=biA λe=>by
  unfold kB
  rw[List.mem_map,List.mem_map]
  constructor
  ·intro o1;refine iA o1 λy hy o5=>?_;obtain rfl:=o5
   refine iA (List.mem_map.mp (hp.mem_iff.mp hy)) λp hp' o6=>?_;obtain rfl:=o6
   exact jA p hp' rfl
  ·intro o2;refine iA o2 λp hp' o8=>?_;obtain rfl:=o8
   exact jA p.1 (hp.mem_iff.mpr (List.mem_map.mpr (jA p hp' rfl))) rfl
 simp only[mk_list,he]
 have hE:=pD ours l (kB es)
 unfold zC at hq
 generalize mC ours l (kB es) []=e at*
 have hel:e.length<=l.length:=(List.isSuffixOf_iff_suffix.mp hE.suf).length_le
 show EB g c _ (gR (mk l) es ours (mk e) μ) (dB Q)
 have hcut:=yA l e.length
 have ene:(mk e !=("":Str))=(e !=[]):=by
  unfold bne
  simp only[show("":Str)=mk [] by decide,iG]
 refine rA (cS O (e !=[]&&decide (0<mA (cut l e.length))) ?_ (λh1=>?_) λh1=>?_)
 ·rw[wiB]
  simp only[ene,mk_len,mk_len]
  refine cA (λh=>?_) λh=>eB (by rw[h];rfl) rfl
  have hpos:0<e.length:=by
   induction e using List.casesOn with
   |nil=>exact nof h
   |cons _ _=>exact Nat.succ_pos _
  simp only[dD hpos,mk_len,mk_list,h,eD]
  have e2:decide ((0:Int)<(mA (cut l e.length):Nat))=decide (0<mA (cut l e.length)):=aC 0 _
  rw[e2]
  exact bA (uB (by lia)) (bA (uB (dA ‹_› (by decide))) (bA (by refine(vA ..).mpr ?_;lia) (cA (λh'=>eB h'.symm rfl) λh'=>eB h'.symm rfl)))
 ·refine rA (bS O ?_)
  rw[ziB]
  simp only[oA]at h1
  have hpos:0<e.length:=by
   induction e using List.casesOn with
   |nil=>cases h1.1
   |cons _ _=>exact Nat.succ_pos _
  have hmem:e∈kB es:=by
   rcases hE.src with rfl|h
   ·cases h1.1
   ·exact h.1
  have hkd:=jZ ht (mk e)
  simp only[mk_len,mk_len,dD hpos]
  refine bA (uB (by lia)) (bA (uB (dA ‹_› (by decide))) (bA (shA hmem) (bA (uE (by rw[mk_len];lia) (dA ‹_› (by decide))) ?_)))
  rw[show mk (cut l e.length)++xE es (mk e)=mk (cut l e.length++(xE es (mk e)).cps.toList)from qF _ _]
  exact hq _ (by rw[if_pos (by rw[h1.1,h1.2];rfl)])
 ·refine bJ ?_
  refine rA (bS O ?_)
  rw[yiB]
  exact hq _ (by dsimp only;rw[h1];rfl)
noncomputable def vdA:V->Bool
 | .none| .bool _| .int _| .str _=>true
 |_=>false
theorem VR.scal {g g':Gr}{rest rest':List (Addr×Obj)}{v:V}{val:Value}(h:vdA v=true)(r:VR g rest v val):VR g' rest' v val:=by
 cases r<;>first|(injection h;done)|exact .none|exact .bool _|exact .int _ _|exact .str _ _
structure SD1 (g:Gr) (c:Cx) (ρ:List (Str×V)) (x:Str) (es:List (Str×Str)) (P:List (Addr×Obj)) (s:Shared) (a:Addr):Prop where
 ex:∃b m rest o,StN g c m ((a,o)::rest) s.heap b/\(∀p∈rest,p.1≠a)/\LR g rest m ρ/\m x=some (.ref a)/\(a==sysModules)=false/\SD g.prog g.w o es/\(∀p∈P,p∈rest)/\s.gens=g.gens/\s.os=g.os
section
variable {g:Gr}{c:Cx}{ρ:List (Str×V)}{x:Str}{es:List (Str×Str)}{P:List (Addr×Obj)}{s:Shared}{a:Addr}
theorem SD1.toks (h:SD1 g c ρ x es P s a)(tk:Nat):SD1 g c ρ x es P {s with toks:=tk} a:=⟨h.ex⟩
theorem SD1.st (h:SD1 g c ρ x es P s a)(hρ:ρ.lookup x=none):St g c ⟨ρ++[(x,.sd es)],⟨none,none⟩⟩ [] P s:=by
 refine rQ h.ex λb m rest o a1 a2 a3 a4 a5 a6 a7 a8 a9=>?_
 refine lD b m ([]) ((a,o)::rest) ⟨a1,.none,λy v hy=>?_,λt ht=>(nomatch ht),λp hp=>.tail _ (a7 p hp),a8,a9⟩
 rw[List.lookup_append]at hy
 cases q:ρ.lookup y with
 |some u=>
  rw[q]at hy
  cases hy
  refine iA (a3 y v q) λval h1 h2=>?_
  exact jA val h1 (h2.mono λp hp=>.tail _ hp)
 |none=>
  simp only[q,Option.none_or,pC]at hy
  by_cases e:y=x
  ·rw[if_pos e]at hy
   cases hy
   subst e
   exact jA _ a4 (.sd (.head _) a5 a6)
  ·rw[if_neg e]at hy
   injection hy
theorem vrA (S:St g c ⟨ρ,⟨none,none⟩⟩ [(.sd es,.ref a)] P s)(hP:∀p∈P,p.1≠a)(hρ:∀y v,ρ.lookup y=some v->vdA v=true)(hx:ρ.lookup x=none)(hl:scK c.sc x=some .local){Q:Unit->Shared->Prop}{E:Value->Shared->Prop}
  (k:∀s',SD1 g c ρ x es P s' a->Q () s'):wpAny g.M c.A (storeName c.env x (.ref a)) Q E s:=by
 refine St.el S λb m mo rest a1 a2 a3 a4 a5 a6 a7=>?_
 obtain rfl:mo=[]:=a2.inv
 have a1:StN g c m rest s.heap b:=a1
 have r:=a4 _ (.head _)
 cases r
 rename_i o hsd hm hsys
 refine stN a1.F a1.N (λh' F' N'=>k _ ⟨b,_,rest.filter λp=>p.1 !=a,o,⟨a1.B,a1.turn,a1.D,F',λp hp=>?_⟩,λp hp=>bne_iff_ne.mp (List.mem_filter.mp hp).2,λy v hy=>?_,if_pos rfl,hsys,hsd,λp hp=>List.mem_filter.mpr (eB (a5 p hp) (bne_iff_ne.mpr (hP p hp))),a6,a7⟩) c.hk hl
 ·rcases xB hp with rfl|hp
  ·exact N' _ hm
  ·exact N' p (List.mem_filter.mp hp).1
 ·refine iA (a3 y v hy) λval h1 h2=>?_
  have hne:y≠x:=λe=>by rw[e,hx]at hy;exact no hy
  exact jA val ((if_neg hne).trans h1) (h2.scal (hρ y v hy))
theorem mkA (h:SD1 g c ρ x es P s a)(hl:scK c.sc x=some .local)(hd:(x==("__debug__":Str))=false){pos:Pos}{Q:Value->Shared->Prop}{E:Value->Shared->Prop}(k:Q (.ref a) s):wpAny g.M c.A (eval (.Name x pos) c.env) Q E s:=by
 refine rQ h.ex λb m rest o a1 a2 a3 a4 a5 a6 a7 a8 a9=>?_
 exact ld a1.F a4 k c.hk hl hd
theorem urA (h:SD1 g c ρ x es P s a)(hρ:∀y v,ρ.lookup y=some v->vdA v=true){k v:Str}{t u:Tok}(hput:PyProof.V.putD (.str k) (.str v) (sdD es)=sdD (es++[(k,v)]))(hl:es.length<=1000){Q:Unit->Shared->Prop}{E:Value->Shared->Prop}
  (kk:∀s',SD1 g c ρ x (es++[(k,v)]) P s' a->Q () s'):wpAny g.M c.A (setItem (.ref a) (.str k t) (.str v u)) Q E s:=by
 refine rQ h.ex λb m rest o a1 a2 a3 a4 a5 o1 a7 a8 a9=>?_;refine iA o1 λkvs hd hf=>?_
 refine setItem_made_str (dv:=.str v) (λh=>PyProof.V.Flat.str _ _ h) a1.F a1.N a2 hd hf (λh' o' F' N' hd' hf'=>kk _ ⟨b,m,rest,o',⟨a1.B,a1.turn,a1.D,F',N'⟩,a2,a3,a4,a5,jA _ hd' (by simp only[<-hput];exact hf'),a7,a8,a9⟩) (hsz:=by show(sdD es).length<=sizeLine;unfold sdD;simp only[List.length_map,sizeLine_eq];exact dA ‹_› (by decide))
end
set_option tactic.hygienic false
noncomputable def dG (ours:Bool):List (Str×Str):=if ours then lE++([("bli","ble"),("logi","log")]:List (Str×Str))else lE++([("abli","able")]:List (Str×Str))
noncomputable def kY (p1 p2 p3 p4 p5:Pos)(k1 k2:Nat)(k v:Str):Stmt:=.Assign [.Subscript (.Name "table" p1) (.Constant (.str k) k1 p2) p3] (.Constant (.str v) k2 p4) p5
section
variable {g:Gr}{ex:Ex}{c:Cx}{w:Str}{ours:Bool}{P:List (Addr×Obj)}{s:Shared}{a:Addr}{es:List (Str×Str)}
noncomputable def iR (w:Str)(ours:Bool):List (Str×V):=[("word",.str w),("ours",.bool ours)]
theorem xT:∀y v,(iR w ours).lookup y=some v->vdA v=true:=λy v h=>by
 unfold iR at h
 rw[pC]at h
 split at h
 ·have o1:=inj h;clear h;obtain rfl:=o1;rfl
 ·rw[pC]at h
  split at h
  ·have o2:=inj h;clear h;obtain rfl:=o2;rfl
  ·exact nomatch h
theorem bR (h:SD1 g c (iR w ours) "table" es P s a)(hl:scK c.sc "table"=some .local){p1 p2 p3 p4 p5:Pos}{k1 k2:Nat}{k v:Str}(hput:PyProof.V.putD (.str k) (.str v) (sdD es)=sdD (es++[(k,v)]))(hle:es.length<=1000){Q:Flow->Shared->Prop}{E:Value->Shared->Prop}
  (kk:∀s',SD1 g c (iR w ours) "table" (es++[(k,v)]) P s' a->Q .next s'):wpAny g.M c.A (exec (kY p1 p2 p3 p4 p5 k1 k2 k v) c.env) Q E s:=by
 refine wpAny_Assign_Subscript (wpAny_Constant_str (mkA (h.toks _) hl (by decide) (wpAny_Constant_str ?_))) rfl
 exact urA ((h.toks _).toks _) xT hput hle kk
theorem uwB:PyProof.V.putD (.str ("bli":Str)) (.str "ble") (sdD lE)=sdD (lE++([("bli","ble")]:List (Str×Str))):=by kernel_rfl
theorem put2:PyProof.V.putD (.str ("logi":Str)) (.str "log") (sdD (lE++([("bli","ble")]:List (Str×Str))))=sdD (lE++([("bli","ble")]:List (Str×Str))++([("logi","log")]:List (Str×Str))):=by kernel_rfl
theorem put3:PyProof.V.putD (.str ("abli":Str)) (.str "able") (sdD lE)=sdD (lE++([("abli","able")]:List (Str×Str))):=by kernel_rfl
theorem lkA (h:SD1 g c (iR w ours) "table" es P s a)(hl:scK c.sc "ours"=some .local){pos:Pos}{Q:Bool->Shared->Prop}{E:Value->Shared->Prop}(k:Q ours s):wpAny g.M c.A (isTrue (.Name "ours" pos) c.env (eval (.Name "ours" pos) c.env)) Q E s:=by
 refine rQ h.ex λb m rest o a1 a2 a3 a4 a5 a6 a7 a8 a9=>?_
 refine iA (a3 "ours" (.bool ours) rfl) λval hm hr=>?_
 cases hr
 exact wpAny_isTrue_value (ld a1.F hm (wpAny_truthy_bool k) c.hk hl (by decide)) rfl
theorem ngA (G:GX g ex){n:Nat}(hc:CxOK c (n+1))(hl1:scK c.sc "table"=some .local)(hl2:scK c.sc "ours"=some .local)(hl3:scK c.sc "_law_second"=some .globalImplicit){tp np cp ap op ip p11 p12 p13 p14 p15 p21 p22 p23 p24 p25 p31 p32 p33 p34 p35:Pos}{k11 k12 k21 k22 k31 k32:Nat}{rest:List Stmt}
  {R:List (Addr×Obj)->V->Value->Mu->Prop} (hr:EBR g c 1 rest ⟨iR w ours++([("table",.sd (dG ours))]:List (Str×V)),⟨none,none⟩⟩ R):
  EBR g c 1 (.Assign [.Name "table" tp] (.Call (.Name "_law_second" np) [] [] cp) ap::.If (.Name "ours" op) [kY p11 p12 p13 p14 p15 k11 k12 "bli" "ble",kY p21 p22 p23 p24 p25 k21 k22 "logi" "log"] [kY p31 p32 p33 p34 p35 k31 k32 "abli" "able"] ip::rest) ⟨iR w ours,⟨none,none⟩⟩ R:=λE P s hk hE S=>by
 have step1:wpAny g.M c.A (exec (.Assign [.Name "table" tp] (.Call (.Name "_law_second" np) [] [] cp) ap) c.env) (λfl s'=>fl=.next/\∃a,SD1 g c (iR w ours) "table" lE P s' a) E s:=by
  refine wpAny_Assign_Name ?_ (wG rfl _ _ _)
  refine wpAny_Call_ofName ?_
  have O:=cG G (l:=[]) (CTOK.nil (n:=n+1)) hc rfl
  refine gA (O.fn "_law_second" 702 (by kernel_rfl)) λe1 e2=>?_
  refine St.el (id S) λb m mo rest a1 a2 ø ø ø ø ø=>?_
  refine name_K a1.F a1.X (topRead_of a1.T) e1 ?_ c.hk hl3 (by decide)
  refine tE (first:=[]) (es:=[]) (Q:=λy=>y.1=[]/\y.2=⟨iR w ours,⟨none,none⟩⟩) (nK O 20).1 (.inr e2) rfl ⟨rfl,rfl⟩ S λvals vs σ' s' hq' hlen S'=>?_
  refine gA hq' λhq1 hq2=>?_
  have hq1:vs=[]:=hq1
  have hq2:σ'=_:=hq2
  subst hq1 hq2
  obtain rfl:vals=[]:=List.eq_nil_of_length_eq_zero hlen.symm
  refine wpAny_mono (tP G hc E [] P s' S') (λval s2 ⟨a,hv,hP,S2⟩=>?_) λø ø x=>x
  subst hv
  exact vrA S2 hP xT rfl hl1 λs3 h3=>⟨rfl,a,h3⟩
 refine wpAny_execs_cons (wpAny_mono (wpAny_toks hk step1) (λfl s1 ⟨⟨hf,a,h1⟩,hk1⟩=>?_) λø ø x=>x.1)
 subst hf
 have step2:wpAny g.M c.A (exec (.If (.Name "ours" op) [kY p11 p12 p13 p14 p15 k11 k12 "bli" "ble",kY p21 p22 p23 p24 p25 k21 k22 "logi" "log"] [kY p31 p32 p33 p34 p35 k31 k32 "abli" "able"] ip) c.env) (λfl s'=>fl=.next/\SD1 g c (iR w ours) "table" (dG ours) P s' a) E s1:=by
  refine wpAny_If (lkA h1 hl2 ?_)
  induction ours using Bool.casesOn with
  |true=>exact wpAny_execs_cons (bR h1 hl1 uwB (by decide) λs2 h2=>wpAny_execs_cons (bR h2 hl1 put2 (by decide) λs3 h3=>wpAny_execs_nil ⟨rfl,h3⟩))
  |false=>exact wpAny_execs_cons (bR h1 hl1 put3 (by decide) λs2 h2=>wpAny_execs_nil ⟨rfl,h2⟩)
 refine wpAny_execs_cons (wpAny_mono (wpAny_toks hk1 step2) (λfl s2 ⟨⟨hf,h2⟩,hk2⟩=>?_) λø ø x=>x.1)
 subst hf
 exact hr E P s2 hk2 hE (h2.st rfl)
end
theorem hdA (a b:List Nat):unY (a++b)=unY a++unY b:=List.map_append ..
theorem mX:∀l:List Nat,89∉l->unY l=l:=by
 intro l0
 induction l0 with
 |nil=>
  intro ø
  exact rfl
 |cons k r ih=>
  intro h
  show(if k=89 then 121 else k)::unY r=k::r
  rw[if_neg (λe:k=89=>h (by rw[e];exact List.mem_cons_self ..)),ih λm=>h (List.mem_cons_of_mem _ m)]
theorem lX:∀parts:List Str,(∀p∈parts,89∉p.cps.toList)->unY (Str.join ⟨#[89]⟩ parts).cps.toList=(Str.join ⟨#[121]⟩ parts).cps.toList
 |[],ø=>rfl
 |[p],h=>mX _ (h p (List.mem_singleton.mpr rfl))
 |p::q::r,h=>by
  have ih:=lX (q::r) λa ha=>h a (List.mem_cons_of_mem _ ha)
  show unY (p++⟨#[89]⟩++Str.join ⟨#[89]⟩ (q::r)).cps.toList=(p++⟨#[121]⟩++Str.join ⟨#[121]⟩ (q::r)).cps.toList
  simp only[Str.cps_append,Array.toList_append]
  refine qDzq (hdA ..) ?_;simp only[hdA,ih,mX _ (h p (List.mem_cons_self ..))]
  rfl
theorem rgA (x:Str):Txt.replace x "Y" "y"=mk (unY x.cps.toList):=by
 have e:(Txt.replace x ⟨#[89]⟩ ⟨#[121]⟩).cps.toList=unY x.cps.toList:=by
  rw[StrLaws.replace_one,<-lX _ (StrLaws.split_free x 89),StrLaws.join_split]
 simp only[<-e]
 exact(bC _).symm
section
variable {g:Gr}{c:Cx}{t:Tb}{σ:AS}{ts:List (V×Value)}{P:List (Addr×Obj)}{s:Shared}
theorem aP {o:Expr}{apos pos p1 p2:Pos}{k1 k2:Nat}{Q:V×AS->Prop}(hb:attributeBase o "replace" c.env (eval o c.env)=eval o c.env)(hline:(apos.endLine==pos.line)=true)(htk:1<=s.toks){E:Value->Shared->Prop}
  (h:wpAny g.M c.A (eval o c.env) (λval s'=>∃(y:Str) (σ':AS),(decide (y.length<=1000)=true/\Q (.str (mk (unY y.cps.toList)),σ'))/\St g c σ' ((.str y,val)::ts) P s') E s):
  wpAny g.M c.A (eval (.Call (.Attribute o "replace" apos) [.Constant (.str "Y") k1 p1,.Constant (.str "y") k2 p2] [] pos) c.env) (λval s'=>∃v σ',Q (v,σ')/\St g c σ' ((v,val)::ts) P s') E s:=by
 refine vJ hb rfl (Nat.le_add_left _ _) hline ?_
 refine wpAny_mono (wpAny_toks htk h) (λov s₁ ⟨⟨y,σ',⟨hy,hq⟩,S₁⟩,htk'⟩=>?_) λ_ _ x=>x.1
 have hy:=bB hy
 refine iB (S₁.getStr (.head _)) λu o2=>?_;obtain rfl:=o2
 refine GM.replace (callWith_builtin rfl ?_)
 refine evalArgs_plain (spliced_cons (wpAny_Constant_str (k:=k1) (pos:=p1) (spliced_cons (wpAny_Constant_str (k:=k2) (pos:=p2) (spliced_nil ?_)))))
 refine SC.replace (Nat.pos_iff_ne_zero.mp htk') (Nat.succ_ne_zero _) (Nat.ne_of_lt (Nat.lt_succ_self _)) (by decide) ?_ λt' k=>?_
 ·have e:Str.length "y"=1:=by decide
  rw[e]
  lia
 ·refine zA _ _ hq ?_
  rw[rgA]
  exact S₁.drop.str _ _ _
end
noncomputable def dRe:Df:=eA 45
noncomputable def lRe:List (Addr×Spec):=[(782,rjA),(709,spD s3L),(716,qD (eA 34) [] []),(775,fkA),(740,sM),(747,tV)]
noncomputable abbrev tRe:Tb:=xA dRe.2.2 lRe
noncomputable abbrev re (i:Nat):Stmt:=lA dRe.2.1 i
noncomputable def kjB (w:Str)(ours:Bool)(es:List (Str×Str))(μ:Mu):AS:=⟨[("word",.str w),("ours",.bool ours),("table",.sd es)],μ⟩
noncomputable def kgA (w:Str)(ours:Bool)(e:Str)(μ:Mu):AS:=⟨[("word",.str w),("ours",.bool ours),("end",.str e)],μ⟩
noncomputable def es4:List Str:=["al","ance","ence","er","ic","able","ible","ant","ement","ment","ent","ou","ism","ate","iti","ous","ive","ize","ion"]
noncomputable def nWE:List Str:=["word","ours","end"]
section
variable (w e:Str)(ours:Bool)(es:List (Str×Str))(μ:Mu)
theorem re2:kp nWO (iF tRe 12 (re 2) (kjB w ours es μ))=.need (decide (w.length<=900)&&cO es) (.need (decide ((mk (zC ours es w.cps.toList)).length<=900)&&cO s3L) (wT ours μ (mk (zC ours s3L (mk (zC ours es w.cps.toList)).cps.toList)))):=by kernel_rfl
theorem re3:kp nWE (iF tRe 12 (re 3) (vE w ours μ))=.need (decide (w.length<=1000)&&xK es4) (.ret (.next,kgA w ours (mk (mC ours w.cps.toList (es4.map λe=>e.cps.toList) [])) μ)):=by kernel_rfl
theorem swB:(ai2 tRe 20).2 (whT (re 4)) (kgA w ours e μ)=(let y:=Txt.slice w none (some (-(e.length:Int)))
  let R:Bool->T (Bool×AS):=λb=>.ret (b,kgA w ours e μ)
  .ite (e !="") (xD e.length (xD w.length (.need (decide (y.length<=1000)) (.ite (decide ((1:Int)<(mA y.cps.toList:Nat))) (.ite (e !="ion") (.ite true (R true) (R false))
   (xD w.length (xD (Txt.slice w none (some (-3))).length (.ite (([("s":Str),"t"]:List Str).any (·==Txt.slice (Txt.slice w none (some (-3))) (some (-1)) none)) (.ite true (R true) (R false)) (.ite false (R true) (R false)))))) (R false))))) (R false)):=by kernel_rfl
theorem twB:kp nWO (iF tRe 12 (lA (whB (re 4)) 0) (kgA w ours e μ))=xD e.length (xD w.length (wT ours μ (Txt.slice w none (some (-(e.length:Int)))))):=by kernel_rfl
theorem re5:kp nWO (iF tRe 12 (re 5) (vE w ours μ))=(let y:=Txt.slice w none (some (-1))
  let Y:=xD w.length (wT ours μ y)
  let N:=wT ours μ w
  let A:=T.ite true Y N
  let B:=T.ite false Y N
  T.ite (Txt.endswith w "e") (xD w.length (T.need (decide (y.length<=1000)) (T.ite (decide ((1:Int)<(mA y.cps.toList:Nat))) A (T.ite (((mA y.cps.toList:Nat):Int)==1) (xD w.length (T.need (decide (y.length<=900)) (T.ite (!aE y.cps.toList) (T.ite true A B) (T.ite false A B)))) (T.ite false A B))))) N):=by kernel_rfl
theorem re6:kp nWO (iF tRe 12 (re 6) (vE w ours μ))=(let y:=Txt.slice w none (some (-1))
  let Y:=xD w.length (wT ours μ y)
  let N:=wT ours μ w
  let A:=T.ite true Y N
  let B:=T.ite false Y N
  T.ite (Txt.endswith w "ll") (T.need (decide (w.length<=1000)) (T.ite (decide ((1:Int)<(mA w.cps.toList:Nat))) A B)) B):=by kernel_rfl
end
noncomputable def ifE:Stmt->List Stmt
 | .If _ _ e _=>e
 |_=>[]
noncomputable def atA:Expr->Pos
 | .Call (.Attribute _ _ p) _ _ _=>p
 |_=>default
noncomputable def atO:Expr->Expr
 | .Call (.Attribute o _ _) _ _ _=>o
 |_=>.Constant .none 0 default
noncomputable def caP:Expr->Pos
 | .Call _ _ _ p=>p
 |_=>default
noncomputable def caA (i:Nat):Expr->Expr
 | .Call _ es _ _=>es.getD i (.Constant .none 0 default)
 |_=>.Constant .none 0 default
noncomputable def caF:Expr->Pos
 | .Call (.Name _ p) _ _ _=>p
 |_=>default
noncomputable def coK:Expr->Nat
 | .Constant _ k _=>k
 |_=>0
noncomputable def coP:Expr->Pos
 | .Constant _ _ p=>p
 |_=>default
noncomputable def nmP:Expr->Pos
 | .Name _ p=>p
 |_=>default
noncomputable def ljB (x:Expr):Expr:=.Call (.Attribute (atO x) "replace" (atA x)) [.Constant (.str "Y") (coK (caA 0 x)) (coP (caA 0 x)),.Constant (.str "y") (coK (caA 1 x)) (coP (caA 1 x))] [] (caP x)
noncomputable def ssT:Stmt->Pos×Pos×Pos×Nat×Nat
 | .Assign [.Subscript (.Name _ p1) (.Constant _ k1 p2) p3] (.Constant _ k2 p4) _=>(p1,p2,p3,k1,k2)
 |_=>(default,default,default,0,0)
noncomputable def mwB:Stmt->Pos
 | .Assign _ (.Constant _ _ p4) _=>p4
 |_=>default
noncomputable def xcB (st:Stmt)(k v:Str):Stmt:=kY (ssT st).1 (ssT st).2.1 (ssT st).2.2.1 (mwB st) (chB st) (ssT st).2.2.2.1 (ssT st).2.2.2.2 k v
theorem re7:re 7=.Return (some (ljB (rJ (re 7)))) (hbA (re 7)):=by kernel_rfl
theorem owB:atO (rJ (re 7))=.Name "word" (nmP (atO (rJ (re 7)))):=by kernel_rfl
theorem qwB:((atA (rJ (re 7))).endLine==(caP (rJ (re 7))).line)=true:=by kernel_rfl
theorem igB:dRe.2.1=(.Assign [.Name "table" (nlB (re 0))] (.Call (.Name "_law_second" (caF (iyA (re 0)))) [] [] (caP (iyA (re 0)))) (chB (re 0))::
  .If (.Name "ours" (nmP (whT (re 1)))) [xcB (lA (whB (re 1)) 0) "bli" "ble",xcB (lA (whB (re 1)) 1) "logi" "log"] [xcB (lA (ifE (re 1)) 0) "abli" "able"] (whP (re 1))::[re 2,re 3,re 4,re 5,re 6,re 7]):=by kernel_rfl
theorem xdB:re 4=.If (whT (re 4)) [lA (whB (re 4)) 0] [] (whP (re 4)):=by kernel_rfl
set_option tactic.hygienic true
noncomputable abbrev mu0:Mu:=⟨none,none⟩
noncomputable def kW (e l:List Nat):Bool:=e !=cp "ion"||(bD 1 (cut l 3)==cp "s"||bD 1 (cut l 3)==cp "t")
noncomputable def hG (ours:Bool)(l:List Nat):List Nat:=let e:=mC ours l (es4.map λe=>e.cps.toList) [];if e !=[]&&decide (1<mA (cut l e.length))&&kW e l then cut l e.length else l
noncomputable def jJ (l:List Nat):List Nat:=if sx "e" l&&(decide (1<mA (cut l 1))||(mA (cut l 1)==1&&!aE (cut l 1)))then cut l 1 else l
noncomputable def jH (l:List Nat):List Nat:=if sx "ll" l&&decide (1<mA l)then cut l 1 else l
noncomputable def iJ (ours:Bool)(l:List Nat):List Nat:=unY (jH (jJ (hG ours (zC ours s3L (zC ours (dG ours) l)))))
theorem qgA (ours:Bool)(l:List Nat):(hG ours l).length<=l.length:=by
 unfold hG
 dsimp only
 split
 ·exact yA _ _
 ·exact vD _
theorem pgA (l:List Nat):(jJ l).length<=l.length:=by
 unfold jJ
 split
 ·exact yA _ _
 ·exact vD _
theorem ogA (l:List Nat):(jH l).length<=l.length:=by
 unfold jH
 split
 ·exact yA _ _
 ·exact vD _
theorem oT {ours:Bool}{es:List (Str×Str)}(h:cO es=true)(l:List Nat):(zC ours es l).length<=l.length+50:=by
 unfold zC
 have h1:=jZ h (mk (mC ours l (kB es) []))
 have h2:=yA l (mC ours l (kB es) []).length
 dsimp only
 split
 ·simp only[vC]
  have e:(xE es (mk (mC ours l (kB es) []))).cps.toList.length=(xE es (mk (mC ours l (kB es) []))).length:=rfl
  exact isB h1 h2 e
 ·exact Nat.le_add_right _ _
theorem feA (ours:Bool):cO (dG ours)=true:=by induction ours using Bool.casesOn<;>decide+kernel
theorem geA:cO s3L=true:=by decide+kernel
theorem avA:xK es4=true:=by decide+kernel
theorem scA (e:List Nat)(s:String):(mk e !=Str.ofString s)=(e !=cp s):=by
 unfold bne
 simp only[<-uW e s]
 congr 1
 rw[Bool.eq_iff_iff,beq_iff_eq,beq_iff_eq]
 exact⟨Eq.symm,Eq.symm⟩
theorem ebx {g:Gr}{t:Tb}{c:Cx}{k:Nat}{R:List (Addr×Obj)->V->Value->Mu->Prop}(O:mB g t c)(X:fI g)(st:Stmt)(names:List Str){rest:List Stmt}{σ:AS}(z:(kp names (iF t 12 st σ)).sat (ciB g c k rest R)):EBR g c k (st::rest) σ R:=by
 refine jL (rI O X 12 _ _ _ (T.sat_mono (λx hx=>?_) (cB z)))
 obtain⟨o,σ⟩:=x
 induction o using Mine.Out.casesOn with
 |next=>exact λE P s hk hE S=>hx E P s hk hE (S.forget (tH names σ))
 |_=>exact hx
noncomputable def bbA:Spec:=λvs μ=>match vs,μ with
 |[.str x,.bool ours],⟨none,none⟩=>.need (decide (x.length<=500)) (.ret (.str (mk (iJ ours x.cps.toList)),⟨none,none⟩))
 |_,_=>.fail
theorem rwB (w:Str)(ours:Bool)(μ:Mu):(ai2 tRe 20).1 (atO (rJ (re 7))) (vE w ours μ)=.ret (.str w,vE w ours μ):=by kernel_rfl
section
variable {g:Gr}{ex:Ex}{c:Cx}{ours:Bool}{Q:V×Mu->Prop}
theorem jdB (O:mB g tRe c)(l:List Nat)(hl:l.length<=900)(hq:Q (.str (mk (unY l)),mu0)):EBR g c 1 [re 7] (vE (mk l) ours mu0) λø v ø μ=>Q (v,μ):=by
 rw[re7]
 intro E P s hk hE S
 refine wpAny_execs_cons (wpAny_Return_some ?_)
 have o1:(ai2 tRe 20).1 (atO (rJ (re 7))) (vE (mk l) ours mu0)=_:=rwB (mk l) ours mu0
 refine wpAny_mono (aP (Q:=λx=>Q (x.1,x.2.μ)) (by rw[owB];rfl) qwB hk (E:=E) (wpAny_mono ((dJ O 20).1 _ _ (λx=>x.1=.str (mk l)/\x.2=vE (mk l) ours mu0) (by rw[o1];exact⟨rfl,rfl⟩) E [] P s S) (λval s' ⟨v,σ',⟨h1,h2⟩,S'⟩=>?_) λø ø x=>x)) (λval s' o3=>by refine jB o3 λv σ' hq S'=>?_;exact zI v σ' hq (.inr ⟨val,rfl⟩) S') λø ø x=>x
 have h1:v=_:=h1
 have h2:σ'=_:=h2
 subst h1 h2
 exact zA (mk l) (vE (mk l) ours mu0) ⟨by rw[mk_len,vA];exact dA ‹_› (by decide),by simp only[mk_list];exact hq⟩ S'
theorem kdB (O:mB g tRe c)(X:fI g)(l:List Nat)(hl:l.length<=900)(hq:Q (.str (mk (unY (jH l))),mu0)):EBR g c 1 [re 6,re 7] (vE (mk l) ours mu0) λø v ø μ=>Q (v,μ):=by
 have go:EBR g c 1 [re 7] (vE (mk (jH l)) ours mu0) λø v ø μ=>Q (v,μ):=jdB O _ (by have:=ogA l;exact dA ‹_› ‹_›) hq
 have hc1:=yA l 1
 refine ebx O X _ nWO ?_
 rw[re6]
 dsimp only
 rw[iH ..,show(-1:Int)= -((1:Nat):Int) by rfl,dD (by decide),mk_list,show decide ((1:Int)<(mA l:Nat))=decide (1<mA l)from aC 1 _]
 unfold jH at go
 refine cA (λh=>bA (by rw[mk_len,vA];exact dA ‹_› (by decide)) (cA (λh'=>zD (bA (uB (by simp only[mk_len];exact dA ‹_› (by decide))) ?_)) λh'=>dC ?_)) λh=>dC ?_
 ·rw[h,h']at go;exact go
 ·rw[h,h']at go;exact go
 ·rw[h]at go;exact go
theorem ldB (O:mB g tRe c)(X:fI g)(l:List Nat)(hl:l.length<=900)(hq:Q (.str (mk (unY (jH (jJ l)))),mu0)):EBR g c 1 [re 5,re 6,re 7] (vE (mk l) ours mu0) λø v ø μ=>Q (v,μ):=by
 have go:EBR g c 1 [re 6,re 7] (vE (mk (jJ l)) ours mu0) λø v ø μ=>Q (v,μ):=kdB O X _ (by have:=pgA l;exact dA ‹_› ‹_›) hq
 have hc1:=yA l 1
 refine ebx O X _ nWO ?_
 rw[re5]
 dsimp only
 have ei:(((mA (cut l 1):Nat):Int)==1)=(mA (cut l 1)==1):=by
  rw[Bool.eq_iff_iff,beq_iff_eq,beq_iff_eq];exact hsB
 rw[iH ..,show(-1:Int)= -((1:Nat):Int) by rfl,dD (by decide),mk_list,show decide ((1:Int)<(mA (cut l 1):Nat))=decide (1<mA (cut l 1))from aC 1 _,ei]
 unfold jJ at go
 refine cA (λh=>bA (uB (by simp only[mk_len];exact dA ‹_› (by decide))) (bA (by rw[mk_len,vA];exact jM hl hc1) (cA (λh1=>zD (bA (uB (by simp only[mk_len];exact dA ‹_› (by decide))) ?_)) λh1=>cA (λh2=>bA (uB (by simp only[mk_len];exact dA ‹_› (by decide))) (bA (by rw[mk_len,vA];exact dA ‹_› ‹_›) (cA (λh3=>zD (zD (bA (uB (by simp only[mk_len];exact dA ‹_› (by decide))) ?_))) λh3=>dC (dC ?_)))) λh2=>dC (dC ?_)))) λh=>?_
 ·rw[h,h1]at go;exact go
 ·rw[h,h1,h2,h3]at go;exact go
 ·rw[h,h1,h2,h3]at go;exact go
 ·rw[h,h1,h2]at go;exact go
 ·rw[h]at go;exact go
theorem mdB (O:mB g tRe c)(X:fI g)(l:List Nat)(hl:l.length<=900)(hq:Q (.str (mk (unY (jH (jJ (hG ours l))))),mu0)):EBR g c 1 [re 3,re 4,re 5,re 6,re 7] (vE (mk l) ours mu0) λ_ v _ μ=>Q (v,μ):=by
 have go:EBR g c 1 [re 5,re 6,re 7] (vE (mk (hG ours l)) ours mu0) λ_ v _ μ=>Q (v,μ):=ldB O X _ (by have:=qgA ours l;exact dA ‹_› ‹_›) hq
 have hc3:=yA l 3
 refine ebx O X _ nWE ?_
 rw[re3]
 refine bA (zB (by rw[mk_len,vA];exact dA ‹_› (by decide)) avA) ?_
 rw[mk_list]
 unfold hG at go
 have hE:=pD ours l (es4.map λe=>e.cps.toList)
 generalize mC ours l (es4.map λe=>e.cps.toList) []=e at*
 have hel:e.length<=l.length:=(List.isSuffixOf_iff_suffix.mp hE.suf).length_le
 have hce:=yA l e.length
 dsimp only at go
 show EBR g c 1 [re 4,re 5,re 6,re 7] (kgA (mk l) ours (mk e) mu0) λ_ v _ μ=>Q (v,μ)
 rw[xdB]
 refine jL (cS O (e !=[]&&decide (1<mA (cut l e.length))&&kW e l) ?_ (λh1=>?_) λh1=>?_)
 ·rw[swB]
  have e0:(mk e !=("":Str))=(e !=[]):=scA e ""
  have e1:(mk e !=("ion":Str))=(e !=cp "ion"):=scA e "ion"
  rw[e0,e1,mk_len,mk_len]
  refine cA (λh=>?_) λh=>⟨by rw[h];rfl,rfl⟩
  have hpos:0<e.length:=by
   induction e using List.casesOn with
   |nil=>exact nof h
   |cons _ _=>exact Nat.succ_pos _
  have ea:([("s":Str),"t"]:List Str).any (·==mk (bD 1 (cut l 3)))=(bD 1 (cut l 3)==cp "s"||bD 1 (cut l 3)==cp "t"):=by
   simp only[List.any_cons,List.any_nil,Bool.or_false,uW]
  rw[dD hpos,show(-3:Int)= -((3:Nat):Int) by rfl,show(-1:Int)= -((1:Nat):Int) by rfl,dD (by decide),zK (by decide),mk_len,mk_len,mk_list,h,eD,ea,show decide ((1:Int)<(mA (cut l e.length):Nat))=decide (1<mA (cut l e.length))from aC 1 _]
  unfold kW
  refine bA (uB (jM hl hel)) (bA (uB (dA ‹_› (by decide))) (bA (by rw[vA];exact jM hl hce) (cA (λh'=>cA (λh2=>zD ⟨by rw[h',h2];rfl,rfl⟩) λh2=>bA (uB (dA ‹_› (by decide))) (bA (uB (jM hl hc3)) (cA (λh3=>zD ⟨by rw[h',h2,h3];rfl,rfl⟩) λh3=>dC ⟨by rw[h',h2,h3];rfl,rfl⟩))) λh'=>⟨by rw[h'];rfl,rfl⟩)))
 ·rw[h1]at go
  rw[oA,oA]at h1
  have hpos:0<e.length:=by
   induction e using List.casesOn with
   |nil=>cases h1.1.1
   |cons _ _=>exact Nat.succ_pos _
  refine rA (rI O X 12 _ _ _ ?_)
  have z:(kp nWO (iF tRe 12 (lA (whB (re 4)) 0) (kgA (mk l) ours (mk e) mu0))).sat (ciB g c 1 [re 5,re 6,re 7] λ_ v _ μ=>Q (v,μ)):=by
   rw[twB,mk_len,mk_len,dD hpos]
   exact bA (uB (jM hl hel)) (bA (uB (dA ‹_› (by decide))) go)
  refine T.sat_mono (λx hx=>?_) (cB z)
  obtain⟨o,σ⟩:=x
  induction o using Mine.Out.casesOn with
  |next=>exact bJ λE P s hk hE S=>hx E P s hk hE (S.forget (tH nWO σ))
  |_=>exact hx
 ·rw[h1]at go
  exact bJ λE P s hk hE S=>go E P s hk hE (S.forget λx v h=>by
   rw[if_neg (by decide)]at h
   rw[pC]at h ⊢
   split at h
   ·rename_i q;rw[if_pos q];exact h
   ·rename_i q
    rw[if_neg q]
    rw[pC]at h ⊢
    split at h
    ·rename_i q2;rw[if_pos q2];exact h
    ·exact no h)
end
theorem agA {g:Gr}{ex:Ex}(G:GX g ex)(n:Nat)(hr:SpOK g n 735 wQ)(hm:SpOK g (n+2) 740 sM):SpOK g (n+4) 789 bbA:=λvs μ Q hq=>by
 unfold bbA at hq
 split at hq
 ·rename_i w ours
  refine gA (uD hq) λhn hq=>?_
  have hw:=bB hn
  rw[<-bC w]at*
  generalize w.cps.toList=l at*
  simp only[mk_list,mk_len]at*
  have hq:Q (.str (mk (iJ ours l)),⟨none,none⟩):=hq
  refine axA G.hK tsA rfl (by decide) λc hc hs=>?_
  have O:mB g tRe c:=cG G (.cons (yfA G n hm) (.cons ((zX G n).le gfA) (.cons ((nB G (CTOK.nil (n:=n)) zdA).le gfA) (.cons ((bY G n).le gfA) (.cons (hm.le gsB) (.cons ((vQ G n hr).le gfA) .nil)))))) hc hs
  have X:=nD G
  show EBR g c 1 dRe.2.1 ⟨iR (mk l) ours,⟨none,none⟩⟩ _
  rw[igB]
  have hk1:scK c.sc "table"=some .local:=by rw[hs];kernel_rfl
  have hk2:scK c.sc "ours"=some .local:=by rw[hs];kernel_rfl
  have hk3:scK c.sc "_law_second"=some .globalImplicit:=by rw[hs];kernel_rfl
  refine ngA G (n:=n+2) hc hk1 hk2 hk3 ?_
  show EBR g c 1 _ (kjB (mk l) ours (dG ours) ⟨none,none⟩) _
  have h1:=oT (ours:=ours) (feA ours) l
  have h2:=oT (ours:=ours) geA (zC ours (dG ours) l)
  refine ebx O X _ nWO ?_
  simp only[re2]
  refine bA (zB (by rw[mk_len,vA];exact dA ‹_› (by decide)) (feA ours)) (bA (zB (by simp only[mk_len,mk_list,vA];lia) geA) ?_)
  simp only[mk_list,mk_list]
  exact mdB O X _ (by lia) hq
 ·exact hq.elim
set_option tactic.hygienic false
section
variable {prog:Program}{w:World}{A₀ A:Around}{s:Shared}{base h₀ g₀:Heap}{outer:List Env}{L:Addr}{m:Str->Option Value}{env:Env}{news:List (Addr×Obj)}{K:Frag}{p:Program}{loose:List Str}{mean:ExcName->Option Value}{mg mb:Str->Option Value}
 {R:Result->Shared->Prop} {name qual:Str} {params:Arguments} {body:List Stmt} {scope:Scope} {dV kV doc pm cdv ct oc:Value} {an od:Option Addr} {osl:Array (Option Value)} {f:Addr} {args:Args} {binds:List (Str×Value)}
theorem pW (hf:env.frame=some L):(env::outer).filterMap (·.frame)=L::outer.filterMap (·.frame):=by rw[List.filterMap_cons,hf]
theorem nW (B:Below A₀ base outer h₀)(F:Fr h₀ L s.heap m)(N:News h₀ L s.heap news)(XB:K.In base)(TB:Top p loose mean mg mb base)(D:KtsDicts (outer.filterMap (·.frame)) h₀)
  (T0:KtsTurn (outer.filterMap (·.frame)) g₀ h₀) (hA:A.frames=some (env::outer)) (hf:env.frame=some L) (hke:env.scope.kind=.function):
  Fr h₀ L (hideAll s.heap (news.map (·.1))) m/\Below A base (env::outer) (hideAll s.heap (news.map (·.1)))/\h₀.StaysIn (hideAll s.heap (news.map (·.1)))/\KtsDicts ((env::outer).filterMap (·.frame)) (hideAll s.heap (news.map (·.1)))/\
   ∀v s',LeaveS ((env::outer).filterMap (·.frame)) A₀ base outer K p loose mean mg mb g₀ h₀ L m (hideAll s.heap (news.map (·.1))) R v s'->R (.ok (.ret v)) s':=by
 refine raA (groundX (R:=R) B F N hA hf hke) λFG BG st lv=>?_
 have nm:∀b o,h₀.get? b=some o->b∉news.map (·.1):=λb o e q=>by
  refine iA (List.mem_map.mp q) λp hp o1=>?_;obtain rfl:=o1
  rw[(N p hp).2.2]at e;exact no e
 obtain⟨oL,es,ep,hLg,hLd,hLk,hLf⟩:=FG.ns
 have hNs:∀(sl:Array (Option Value)) h',h'.get? L=some {oL with slots:=sl}->Heap.Ns h' L m:=λsl h' e=>oZ _ es ep e hLd hLk hLf
 refine jnA FG BG st (λb hb=>?_) (λv s' hl=>?_)
 ·rw[pW hf]at hb
  rcases xB hb with rfl|hb
  ·exact qwA oL es ep hLg hLd
  ·refine ofA (D b hb) λo es' n' ho' hd'=>?_
   exact qwA o es' n' (st b o ho') hd'
 ·have nL₀:h₀.get? L=none:=kts_self F
  rcases hl with⟨L',m',news',F',N',k⟩|⟨g',L',m',news',T',F',N',k⟩
  ·refine k ⟨oZ oL es ep (F'.keep _ _ hLg) hLd hLk hLf,λb o e=>F'.keep b o (st b o e),F.above⟩ λp hp=>cF ((N' p hp).1) (λq=>?_) ?_
   ·have:=(N' p hp).2.2;rw[q,hLg]at this;exact nomatch this
   ·cases q:h₀.get? p.1 with
    |none=>rfl
    |some o=>have:=(N' p hp).2.2;rw[st _ _ q]at this;injection this
  refine iB (T'.up hLg) λsl hs=>?_
  obtain⟨T₁,S₁⟩:=kts_turn_at (h:=s'.heap) (fs:=outer.filterMap (·.frame)) (g:=h₀)
   (λb hb=>by
    refine gA (B.frames.mem hb) λø o3=>?_;refine iA o3 λo ho' ø=>?_
    exact yC o ho')
   (λb o e nmem=>F'.keep b o (T'.other b o (st b o e) (λq=>by
    rw[pW hf]at q
    refine Or.elim (xB q) (λz=>?_) λz=>?_
    ·rw[z,nL₀]at e
     exact no e
    ·exact nmem z)))
   (λb o e hm=>by
    refine iB (T'.up (st b o e)) λsl' hs'=>?_
    exact yC sl' (F'.keep _ _ hs'))
  have B₃:Below A₀ base outer (ktsHeap s'.heap (outer.filterMap (·.frame)) h₀):=⟨B.stack,λb o e=>T₁.other b o (B.stays b o e) (λhm=>by
   rw[(B.frames.mem hm).1]at e
   exact no e),B.frames.of_keeps λb o e ø=>by
   refine iB (T₁.up e) λsl' hs'=>?_
   exact jA _ hs' rfl⟩
  refine k _ (T0.trans T₁) ⟨hNs sl _ (F'.keep _ _ hs),S₁,by rw[T₁.size];exact F.above⟩ (λp hp=>cF ((N' p hp).1) (λq=>?_) ?_) B₃ (XB.keeps B₃.stays) (TB.keeps B₃.stays) (D.turn T₁)
  ·have:=(N' p hp).2.2;rw[q,hs]at this;injection this
  ·refine T₁.none_ _ ?_
   cases q:h₀.get? p.1 with
   |none=>rfl
   |some o=>
    refine iB (T'.up (st _ _ q)) λsl' hs'=>?_
    have:=(N' p hp).2.2
    rw[hs']at this
    injection this
theorem zU (B:Below A₀ base outer h₀)(F:Fr h₀ L s.heap m)(X₀:K.In h₀)(N:News h₀ L s.heap news)(T:Top p loose mean mg mb h₀)(XB:K.In base)(TB:Top p loose mean mg mb base)(D:KtsDicts (outer.filterMap (·.frame)) h₀)
  (T0:KtsTurn (outer.filterMap (·.frame)) g₀ h₀) (hA:A.frames=some (env::outer)) (hf:env.frame=some L) (hke:env.scope.kind=.function)
  (ho:K.lookup f=some ⟨oc,od,.func (fnOf name qual params body scope dV kV doc pm an cdv ct),osl⟩) (hcd:codeIn K cdv qual=true) (hroom:A.depth<recursionLimit)
  (hbind:BindsTo s (fnOf name qual params body scope dV kV doc pm an cdv ct) args binds) (hloc:∀y∈binds,scope.names.lookup y.1=some .local)
  (h:∀g L' h₁,Fr h₀ L g m->Fr g L' h₁ (λy=>binds.reverse.lookup y)->News g L' h₁ news->Below A base (env::outer) g->K.In g->Top p loose mean mg mb g->KtsDicts ((env::outer).filterMap (·.frame)) g->
   wpAny (model prog w) (A.deeper (envOf qual scope L' f cdv)) (execs body (envOf qual scope L' f cdv))
    (λfl s'=>LeaveS ((env::outer).filterMap (·.frame)) A₀ base outer K p loose mean mg mb g₀ h₀ L m g R (match fl with| .ret v=>v|ø=>.none) s')
    (λe s'=>wpAny (model prog w) (A.deeper (envOf qual scope L' f cdv)) («leaving» (envOf qual scope L' f cdv) e) (λø s''=>R (.error e) s'') (λe' s''=>R (.error e') s'') s')
    {s with heap:=h₁,toks:=s.toks+binds.length})
  (hco:scope.isCoroutine=false) (hgen:scope.isGenerator=false) (hk:scope.kind=.function)
  (hcell:∀x∈scope.names,x.2≠.cell):codeAny (model prog w) A (.call (.ref f) args) R s:=by
 have X:=X₀.keeps F.keep
 refine qaA (nW (R:=R) B F N XB TB D T0 hA hf hke) λFG BG st DG lv=>?_
 refine codeAny_call_def (fd:=fnOf name qual params body scope dV kV doc pm an cdv ct) (body:=body) (binds:=binds) hroom (X _ _ ho) rfl (T.nolimit.keeps F.keep) (codeRec_of X hcd) rfl hbind hcell hloc (λh₁ hns hk₁=>?_) hco hgen hk
 exact wpAny_mono (h _ s.heap.objs.size h₁ FG ⟨hns,λb o e=>hk₁ b o (of_hideAll _ e),jE (hideAll_size _ _)⟩
  (λp hp=>cF (hk₁ _ _ (N p hp).1) (Nat.ne_of_lt (Heap.lt_size (N p hp).1)) (hideAll_none _ (List.mem_map_of_mem hp))) BG (X₀.keeps st) (T.keeps st) DG) (λfl s' hl=>lv _ _ hl) λø ø y=>y
theorem ncA (B:Below A₀ base outer h₀)(F:Fr h₀ L s.heap m)(X₀:K.In h₀)(N:News h₀ L s.heap news)(T:Top p loose mean mg mb h₀)(XB:K.In base)(TB:Top p loose mean mg mb base)(D:KtsDicts (outer.filterMap (·.frame)) h₀)
  (T0:KtsTurn (outer.filterMap (·.frame)) g₀ h₀) (hA:A.frames=some (env::outer)) (hf:env.frame=some L) (hke:env.scope.kind=.function)
  (ho:K.lookup f=some ⟨oc,od,.func (fnOf name qual params body scope dV kV doc pm an cdv ct),osl⟩) (hcd:codeIn K cdv qual=true) (hroom:A.depth<recursionLimit)
  (hbind:BindsTo s (fnOf name qual params body scope dV kV doc pm an cdv ct) args binds) (hkind:(binds.all λy=>scope.names.lookup y.1==some .local||scope.names.lookup y.1==some .cell)=true)
  (hnd:((cellsFrom 0 scope.names []).map (·.1)).Nodup)
  (h:∀g L' h₁ tk cells,Fr h₀ L g m->Fr g L' h₁ (bindL (envOfC qual scope L' f cdv).kindOf binds λø=>none)->News g L' h₁ (cells++news)->
   CellsAre (bindC (envOfC qual scope L' f cdv).kindOf binds λø=>none) (cellsFrom (L'+1) scope.names []) cells->Below A base (env::outer) g->K.In g->Top p loose mean mg mb g->KtsDicts ((env::outer).filterMap (·.frame)) g->(∀p∈news,p.1<L')->
   wpAny (model prog w) (A.deeper (envOfC qual scope L' f cdv)) (execs body (envOfC qual scope L' f cdv))
    (λfl s'=>LeaveS ((env::outer).filterMap (·.frame)) A₀ base outer K p loose mean mg mb g₀ h₀ L m g R (match fl with| .ret v=>v|ø=>.none) s')
    (λe s'=>wpAny (model prog w) (A.deeper (envOfC qual scope L' f cdv)) («leaving» (envOfC qual scope L' f cdv) e) (λø s''=>R (.error e) s'') (λe' s''=>R (.error e') s'') s')
    {s with heap:=h₁,toks:=tk})
  (hco:scope.isCoroutine=false) (hgen:scope.isGenerator=false) (hk:scope.kind=.function):codeAny (model prog w) A (.call (.ref f) args) R s:=by
 have X:=X₀.keeps F.keep
 refine qaA (nW (R:=R) B F N XB TB D T0 hA hf hke) λFG BG st DG lv=>?_
 refine codeAny_call_function hroom (X _ _ ho) rfl hco hgen rfl (codeRec_of X hcd) (hbind _ _ _ _ ?_)
 refine wpAny_newFunctionEnv_cells hk (kindsX hkind _) λenv' he s' x=>?_
 subst he
 refine eB ((T.nolimit.keeps F.keep).keeps x.toInCall.keep) (codeAny_func ?_)
 refine jB x.done λh₁ tk o1 ø=>?_;obtain rfl:=o1
 have hk₁:=x.toInCall.keep
 refine iA (Cl.news (h₀:=s.heap) (vD _) λn c hm=>eB (x.cell n c (lookup_of_mem_nodup (cellsFrom_names scope.names 0 (s.heap.objs.size+1) [] [] rfl▸hnd) hm)) (x.above n c hm)) λcells NC Y=>?_
 refine wpAny_mono (h _ s.heap.objs.size h₁ tk cells FG ⟨x.toInCall.ns,λb o e=>hk₁ b o (of_hideAll _ e),jE (hideAll_size _ _)⟩ (λp hp=>?_) Y BG (X₀.keeps st) (T.keeps st) DG (λp hp=>Heap.lt_size (N p hp).1)) (λfl s' hl=>lv _ _ hl) λø ø y=>y
 refine Or.elim (dI hp) (λhp=>?_) λhp=>?_
 ·refine cF ((NC p hp).1) ((NC p hp).2.1) ?_
  cases q:(hideAll s.heap (news.map (·.1))).get? p.1 with
  |none=>rfl
  |some o=>have:=of_hideAll _ q;rw[(NC p hp).2.2]at this;exact no this
 ·exact cF (hk₁ _ _ (N p hp).1) (Nat.ne_of_lt (Heap.lt_size (N p hp).1)) (hideAll_none _ (List.mem_map_of_mem hp))
end
noncomputable def hgB:Df:=eA 37
noncomputable def gjB:Scope:={kind:=.function,names:=[(".0",.local),("sign",.local)],isGenerator:=false,isCoroutine:=false}
noncomputable def egB:Expr:=.IfExp (.Compare (.Name "sign" ⟨657,27,657,31⟩) [.In] [.Constant (.str "aeiouy") 0 ⟨657,35,657,43⟩] ⟨657,27,657,43⟩) (.Constant (.str "v") 0 ⟨657,20,657,23⟩) (.Constant (.str "c") 0 ⟨657,49,657,52⟩) ⟨657,20,657,52⟩
noncomputable def vW:Expr:=.ListComp egB [⟨.Name "sign" ⟨657,57,657,61⟩,.Name "word" ⟨657,65,657,69⟩,[],0⟩] gjB ⟨657,19,657,70⟩
theorem txA:hgB.2.1=[.Return (some (.Call (.Attribute (.Constant (.str "") 0 ⟨657,11,657,13⟩) "join" ⟨657,11,657,18⟩) [vW] [] ⟨657,11,657,71⟩)) ⟨657,4,657,71⟩]:=by kernel_rfl
noncomputable def eY (x:Str):PyData:=.str (if inS x "aeiouy" then "v" else "c")
theorem jkA (k:Nat):eY (mk [k])=.str (mk [if gB k then 118 else 99]):=by
 have e:inS (mk [k]) ("aeiouy":Str)=gB k:=by
  rw[show("aeiouy":Str)=mk vy by decide]
  exact xP _ _
 unfold eY
 rw[e]
 cases gB k with
 |true=>exact congrArg _ (by decide)
 |false=>exact congrArg _ (by decide)
theorem aN (s:Shared):Keeps s s:=zA s.heap s.toks rfl (λø ø e=>e)
theorem clA:∀l:List Nat,Txt.join ("":Str) (l.map λk=>mk [if gB k then 118 else 99])=mk (fF l):=λl=>by
 have:=join_ones (fF l)
 unfold fF at this ⊢
 rw[List.map_map]at this
 unfold Txt.join
 refine qDzq (StrLaws.glued_eq_join ..) ?_
 exact this
theorem dlA {g:Gr}{ex:Ex}(G:GX g ex){n:Nat}{c:Cx}(hc:CxOK c n)(hs:c.sc=hgB.2.2)(l:List Nat)(hl:l.length<=1000){μ:Mu}{Q:V×Mu->Prop}(hq:Q (.str (mk (fF l)),μ)):EB g c hgB.2.1 ⟨[("word",.str (mk l))],μ⟩ (dB Q):=λE ts P s K S=>by
 rw[txA]
 have hl1:scK c.sc "word"=some .local:=by rw[hs];kernel_rfl
 have h1:attributeBase (.Constant (.str "") 0 ⟨657,11,657,13⟩) "join" c.env (eval (.Constant (.str "") 0 ⟨657,11,657,13⟩) c.env)=eval (.Constant (.str "") 0 ⟨657,11,657,13⟩) c.env:=rfl
 have h2:yB [vW]=true:=rfl
 have h3:((⟨657,11,657,18⟩:Pos).endLine==(⟨657,11,657,71⟩:Pos).line)=true:=rfl
 refine wpAny_execs_cons (wpAny_Return_some ?_)
 refine vJ (o:=.Constant (.str "") 0 ⟨657,11,657,13⟩) (m:="join") (es:=[vW]) h1 h2 (Nat.succ_pos _) h3 ?_
 refine wpAny_Constant_str (GM.join (callWith_builtin rfl (evalArgs_plain (spliced_cons ?_))))
 refine St.el S λb m mo rest a1 a2 a3 a4 a5 a6 a7=>?_
 refine iA (a3 "word" (.str (mk l)) rfl) λval hm hr=>?_
 cases hr with
 |str _ t=>
 refine ListComp_signsD (pz:=λ_=>true) (d:=eY) (h₀:=b) (L:=c.L) (m:=m) (news:=mo++rest) hc.handled (by decide) (by decide) rfl (by decide) rfl (ld a1.F hm ?_ c.hk hl1) (λ_=>rfl)
 refine⟨mk l,t,rfl,(by rw[mk_len];exact dA hl (by decide)),a1.F,a1.N,(λC a v s₂ m₂ E' _ _ _=>wpAny_tests_nil (eB rfl (aN _))),(λC a v s₂ m₂ E' hi _ hns hv=>?_),(λD ys h' tk F' N' hD hlD hplD hY=>?_)⟩
 ·refine iB hi λu o2=>?_;obtain rfl:=o2
  refine wpAny_IfExp (wpAny_isTrue_Compare1 (wpAny_Name (wpAny_loadName_local rfl rfl hns hv ?_) (by decide)) rfl)
  refine wpAny_Constant_str (in_str (wpAny_truthy_bool ?_))
  have e:(!(Builtin.Str.occurrences ("aeiouy":Str) a 0 ("aeiouy":Str).length 1).isEmpty)=inS a "aeiouy":=rfl
  rw[e]
  have kk:∀z:Str,Keeps s₂ {s₂ with toks:=s₂.toks+1+1}:=λ_=>zA s₂.heap _ rfl (λ_ _ e=>e)
  unfold eY
  cases inS a "aeiouy" with
  |true=>exact wpAny_Constant_str (eB (.str _ _) (kk a))
  |false=>exact wpAny_Constant_str (eB (.str _ _) (kk a))
 ·have hys:StrsAre ys.toArray.toList (l.map λk=>mk [if gB k then 118 else 99]):=by
   have e:((signs (mk l)).filter λ_=>true).map eY=(l.map λk=>mk [if gB k then 118 else 99]).map PyData.str:=by
    rw[List.filter_eq_self.mpr λ_ _=>rfl]
    unfold signs
    rw[mk_list,List.map_map,List.map_map]
    exact List.map_congr_left λk _=>jkA k
   rw[e]at hY
   rw[List.toList_toArray]
   have z:=hY.strsOf
   rwa[List.map_id']at z
  refine spliced_nil (join_listW hlD hys (by decide) ?_ λt' k=>?_)
  ·have e1:∀l:List Nat,((l.map λk=>mk [if gB k then 118 else 99]).map (·.length)).sum=l.length:=λl=>by
    induction l with
    |nil=>rfl
    |cons a r ih=>rw[List.map_cons,List.map_cons,List.sum_cons,ih,List.length_cons,mk_len,List.length_singleton];exact maB
   rw[e1,List.length_map]
   exact fsB hl
  ·rw[clA]
   exact zA (.ret (.str (mk (fF l)))) ⟨[("word",.str (mk l))],μ⟩ hq (jA _ rfl (lD b m mo rest ⟨⟨a1.B,a1.turn,a1.D,F',N'⟩,a2,a3,λt ht=>by
    rcases xB ht with rfl|ht
    ·exact .str _ _
    ·exact a4 t ht,a5,a6,a7⟩))
theorem aY {g:Gr}{ex:Ex}(G:GX g ex)(n:Nat):SpOK g (n+1) 735 wQ:=λvs μ Q hq=>by
 refine jB (lG hq) λw wz1 ez1 hz1=>?_;clear hq
 refine gA (tD hz1) λez2 hz=>?_;clear hz1
 subst ez2 ez1
 have hq:=hz;clear hz
 refine gA (uD hq) λhn hq=>?_
 have hw:=bB hn
 rw[<-bC w]at*
 generalize w.cps.toList=l at*
 simp only[mk_list,mk_len]at*
 exact mD G.hK ydA rfl λc hc hs=>dlA G hc hs l hw hq
section
variable {g:Gr}{ex:Ex}{n:Nat}{vs:List V}{μ:Mu}
theorem rnA (hK:g.K=KX g.w.params ex){a:Addr}{d:Arguments×List Stmt×Scope}{ps:List Str}(Rc:qA a d ps)(hlen:vs.length=ps.length){k:Nat}{R:List (Addr×Obj)->V->Value->Mu->Prop}(hR:∀P P' v val μ,(∀p∈P',p∈P)->R P v val μ->R P' v val μ)
  (hb:∀c,CxOK c n->c.sc=d.2.2->EBR g c k d.2.1 ⟨ps.zip vs,μ⟩ R) {c:Cx} {e:Env} (hf:e.frame=some c.L) (hke:e.scope.kind=.function) {σ:AS} (hc:CxOK c (n+1)) (hμ:σ.μ=μ)
  (E:Value->Shared->Prop) (ts:List (V×Value)) (P:List (Addr×Obj)) (s:Shared) (vals:List Value) (htk:k<=s.toks+ps.length) (hl:vs.length=vals.length) (S:St g c σ (vs.zip vals++ts) P s):
  wpAny g.M (c.A₀.deeper e) (call (.ref a) vals) (λval s'=>∃v μ',R P v val μ'/\St g c {σ with μ:=μ'} ((v,val)::ts) P s') E s:=by
 refine paA (Rc.lk g.w.params ex) λnm qual mod cdv e1 e2=>?_
 have sc:=Rc.sc
 simp only[oA,aF,beq_iff_eq,List.all_eq_true,bne_iff_ne,ne_eq]at sc
 refine St.el S λb m mo rest a1 a2 a3 a4 a5 a6 a7=>?_
 have hvl:vals.length=ps.length:=hl.symm.trans hlen
 have hbind:=Rc.bind nm qual mod cdv vals hvl
 refine wpAny_call (zU (A:=c.A₀.deeper e) (A₀:=c.A₀) (base:=g.base) (outer:=c.outer) (K:=g.K) (g₀:=c.g₀) (binds:=ps.zip vals) a1.B a1.F a1.X a1.N a1.T g.X g.T a1.D a1.turn (Around.frames_deeper a1.B.stack) hf hke (by simp only[hK];exact e1) (by rw[hK];exact e2)
  (by have:=hc.depth;exact ar6 this) (.of_eq hbind) (λy hy=>beq_iff_eq.mp (fC Rc.loc _ (List.of_mem_zip hy).1)) (λG L' h₁ F0 F1 N1 B1 X1 T1 D1=>?_) sc.1.1.1 sc.1.1.2 sc.1.2 λx hx=>sc.2 x hx)
 let c':Cx:=⟨c.A₀.deeper e,e::c.outer,qual,d.2.2,L',a,cdv,G,sc.1.2⟩
 have hc':CxOK c' n:=⟨by have:=hc.depth;exact ar7 this,hc.handled,by have:=hc.units;exact ar8 this⟩
 have S':St g c' ⟨ps.zip vs,μ⟩ [] rest {s with heap:=h₁,toks:=s.toks+(ps.zip vals).length}:=by
  refine lD G _ mo rest ⟨⟨B1,.refl,D1,F1,N1⟩,by simp only[<-hμ];exact a2,λx v hx=>?_,λt ht=>(nomatch ht),λp hp=>hp,a6,a7⟩
  refine iA (rK hl hx) λval e hm=>?_
  refine jA val ?_ (a4 _ (zH _ hm))
  refine qDzq (qK Rc.nd ..) ?_
  exact e
 have fin:∀(v:V) (val:Value) (σ':AS) (s':Shared),R rest v val σ'.μ->St g c' σ' [(v,val)] rest s'->LeaveS ((e::c.outer).filterMap (·.frame)) c.A₀ g.base c.outer g.K g.p g.loose g.mean g.mg g.mb c.g₀ b c.L m G
   (λr s'=>match r with| .ok (.ret v)=>∃w μ',R P w v μ'/\St g c {σ with μ:=μ'} ((w,v)::ts) P s'| .ok ø=>False| .error e=>E e s') val s':=λv val σ' s' hq hS=>by
  refine St.el hS λb' m' mo' rest' b1 b2 b3 b4 b5 b6 b7=>?_
  refine leaveS_r b1.F b1.N b1.turn λh₀' k1 k2 k3 k4 k5 k6 k7=>zA v σ'.μ (hR _ _ _ _ _ a5 hq) (lD h₀' m mo' rest' ⟨⟨k4,k1,k7,k2,k3⟩,b2,λx u hx=>?_,λt ht=>?_,λp hp=>b5 p (a5 p hp),b6,b7⟩)
  ·refine iA (a3 x u hx) λw hw hr=>?_
   exact jA w hw (hr.mono b5)
  ·rcases xB ht with rfl|ht
   ·exact b4 _ (.head _)
   ·exact(a4 t (eE _ ht)).mono b5
 have hE:PassesOwn g.M c'.A c'.env (λe s'=>wpAny g.M c'.A («leaving» c'.env e) (λø s''=>(match(Except.error e:Result)with| .ok (.ret v)=>∃w μ',R P w v μ'/\St g c {σ with μ:=μ'} ((w,v)::ts) P s''| .ok ø=>False| .error e=>E e s''))
   (λe' s''=>(match(Except.error e':Result)with| .ok (.ret v)=>∃w μ',R P w v μ'/\St g c {σ with μ:=μ'} ((w,v)::ts) P s''| .ok ø=>False| .error e=>E e s'')) s'):=PassesOwn.leaving (Q₁:=λe s''=>E e s'')
 refine wpAny_mono (hb c' hc' rfl _ rest _ (by simp only[List.length_zip,hvl,Nat.min_self];exact htk) hE S') (λfl s' ⟨v,σ',hq,hfl,hr⟩=>?_) λø ø x=>x
 rcases hfl with rfl|⟨val,rfl⟩
 ·exact fin v .none σ' s' hq hr
 ·exact fin v val σ' s' hq hr
noncomputable def cL (o:Obj):Bool:=match o.data with
 | .cell _=>true
 |_=>false
noncomputable def noC (a:Addr)(l:List (Addr×Obj)):List (Addr×Obj):=l.filter λp=>decide (p.1≠a)
theorem uJ {a:Addr}{l:List (Addr×Obj)}{p:Addr×Obj}:p∈noC a l↔p∈l/\p.1≠a:=by
 unfold noC
 rw[List.mem_filter,vA]
end
section
variable {g:Gr}{news news':List (Addr×Obj)}
theorem okO.no {o:Obj}(h:okO o):cL o=false:=by
 unfold cL
 split
 ·rename_i e;exact absurd e (h.2 _)
 ·rfl
theorem VR.noCell (hs:∀p∈news,cL p.2=false->p∈news'){v:V}{val:Value}:VR g news v val->VR g news' v val:=VR.shift λp h q=>hs p h q.no
theorem DRs.noCell (hs:∀p∈news,cL p.2=false->p∈news'){v:List (Str×V)}{val:List DictEntry}:DRs g news v val->DRs g news' v val:=DRs.shift λp h q=>hs p h q.no
theorem MutR.swap {μ:Mu}{mo:List (Addr×Obj)}(h:MutR g news μ mo)(hs:∀p∈news,cL p.2=false->p∈news')(hn:∀p∈news',∀q∈mo,p.1≠q.1):MutR g news' μ mo:=by
 cases h with
 |none=>exact .none
 |self r hd hs' hne=>exact .self (r.noCell hs) (λp hp=>hn p hp _ (.head _)) (λp hp=>hn p hp _ (.tail _ (.head _))) hne
 |rd r hd=>exact .rd (r.noCell hs) λp hp=>hn p hp _ (.head _)
theorem MutR.off {μ:Mu}{mo:List (Addr×Obj)}(h:MutR g news μ mo):∀p∈news,∀q∈mo,p.1≠q.1:=λp hp q hq=>by
 cases h with
 |none=>cases hq
 |self r hd hs' hne=>
  rcases xB hq with rfl|hq
  ·exact hd p hp
  ·rcases xB hq with rfl|hq
   ·exact hs' p hp
   ·cases hq
 |rd r hd=>
  rcases xB hq with rfl|hq
  ·exact hd p hp
  ·cases hq
end
theorem sdA {g:Gr}{c:Cx}{σ:AS}{ts:List (V×Value)}{P:List (Addr×Obj)}{s:Shared}{cc:Addr}{o:Obj}{v₀:Option Value}{v:Value}{x:Str}{e:Env}{A:Around}(S:St g c σ ts P s)(hm:(cc,o)∈P)(hd:o.data=.cell v₀)
  (hk:e.scope.kind=.function) (hx:e.kindOf x=some .cell) (hc:e.cells.lookup x=some cc) {Q:Unit->Shared->Prop} {E:Value->Shared->Prop}
  (k:∀h' o',o'.data=.cell (some v)->St g c σ ts ((cc,o')::noC cc P) {s with heap:=h'}->Q () {s with heap:=h'}):wpAny g.M A (storeName e x v) Q E s:=by
 refine St.el S λb m mo rest a1 a2 a3 a4 a5 a6 a7=>?_
 have hr:=a5 _ hm
 have hN:=a1.N (cc,o) (eE _ hr)
 refine wpAny_storeName_cell hk hx hc (jA o hN.1 hd) λh' hv hs=>?_
 refine iA hv λo' ho' hd'=>?_
 have same:∀p∈rest,p.1=cc->cL p.2=true:=λp hp e=>by
  have:=(a1.N p (eE _ hp)).1
  rw[e,hN.1]at this
  have o2:=inj this;clear this;obtain rfl:=o2
  unfold cL
  rw[hd]
 have keep:∀p∈rest,cL p.2=false->p∈(cc,o')::noC cc rest:=λp hp e=>.tail _ (uJ.mpr (eB hp (λq=>by rw[same p hp q]at e;exact nomatch e)))
 refine k h' o' hd' (lD b m mo ((cc,o')::noC cc rest) ⟨⟨a1.B,a1.turn,a1.D,⟨a1.F.ns.sameBut hs (Ne.symm hN.2.1),λb ob e=>(hs.2 b (λq=>?_)).trans (a1.F.keep b ob e),a1.F.above⟩,λp hp=>?_⟩,a2.swap keep λp hp q hq=>?_,λy u hy=>?_,λt ht=>(a4 t ht).noCell keep,λp hp=>?_,a6,a7⟩)
 ·rw[q,hN.2.2]at e;exact no e
 ·refine Or.elim (dI hp) (λhp=>?_) λhp=>?_
  ·have z:=a1.N p (zH _ hp)
   exact eB ((hs.2 p.1 (a2.off _ hr p hp).symm).trans z.1) z.2
  ·rcases xB hp with rfl|hp
   ·exact eB ho' hN.2
   ·refine gA (uJ.mp hp) λhp1 hp2=>?_
    have z:=a1.N p (eE _ hp1)
    exact eB ((hs.2 p.1 hp2).trans z.1) z.2
 ·rcases xB hp with rfl|hp
  ·exact a2.off _ hr q hq
  ·exact a2.off _ (uJ.mp hp).1 q hq
 ·refine iA (a3 y u hy) λw hw hr=>?_
  exact jA w hw (hr.noCell keep)
 ·rcases xB hp with rfl|hp
  ·exact .head _
  ·exact .tail _ (uJ.mpr (eB (a5 _ (uJ.mp hp).1) ((uJ.mp hp).2)))
noncomputable def dMe:Df:=eA 38
noncomputable def ijB:Scope:={kind:=.function,names:=[(".0",.local),("k",.local),("row",.free)],isGenerator:=false,isCoroutine:=false}
noncomputable def lfB:Expr:=.Call (.Name "range" ⟨660,27,660,32⟩) [.BinOp (.Call (.Name "len" ⟨660,33,660,36⟩) [.Name "row" ⟨660,37,660,40⟩] [] ⟨660,33,660,41⟩) .Sub (.Constant (.int 1) 0 ⟨660,44,660,45⟩) ⟨660,33,660,45⟩] [] ⟨660,27,660,46⟩
noncomputable def ybB:Expr:=.Compare (.Subscript (.Name "row" ⟨660,50,660,53⟩) (.Slice (some (.Name "k" ⟨660,54,660,55⟩)) (some (.BinOp (.Name "k" ⟨660,56,660,57⟩) .Add (.Constant (.int 2) 0 ⟨660,60,660,61⟩) ⟨660,56,660,61⟩)) none ⟨660,54,660,61⟩) ⟨660,50,660,62⟩) [.Eq] [.Constant (.str "vc") 0 ⟨660,66,660,70⟩] ⟨660,50,660,70⟩
noncomputable def moA:Expr:=.ListComp (.Name "k" ⟨660,16,660,17⟩) [⟨.Name "k" ⟨660,22,660,23⟩,lfB,[ybB],0⟩] ijB ⟨660,15,660,71⟩
theorem lgB:dMe.2.1=[.Assign [.Name "row" ⟨659,4,659,7⟩] (.Call (.Name "_law_row" ⟨659,10,659,18⟩) [.Name "word" ⟨659,19,659,23⟩] [] ⟨659,10,659,24⟩) ⟨659,4,659,24⟩,
  .Return (some (.Call (.Name "len" ⟨660,11,660,14⟩) [moA] [] ⟨660,11,660,72⟩)) ⟨660,4,660,72⟩]:=by kernel_rfl
noncomputable def hyA (R:List Nat)(k:Int):Bool:=Txt.slice (mk R) (some k) (some (k+2))==("vc":Str)
theorem xoA (R:List Nat)(k:Nat)(h:k+2<=R.length):hyA R (k:Int)=((R.drop k).take 2==[118,99]):=by
 unfold hyA
 simp only[fG,show("vc":Str)=mk [118,99] by decide,iG]
 have e1:jC R.length 0 (some (k:Int))=k:=by
  simp only[jC]
  rw[if_neg tiA]
  exact esB h
 have e2:jC R.length R.length (some ((k:Int)+2))=k+2:=by
  simp only[jC]
  rw[if_neg dsB]
  exact csB h
 simp only[e1,e2,List.drop_take,show k+2-k=2 by exact bsB]
theorem mT:∀l:List Nat,((List.range (l.length-1)).filter λk=>((fF l).drop k).take 2==[118,99]).length=mA l
 |[]=>rfl
 |[a]=>by
  unfold mA
  cases h:gB a<;>simp[vcs,h]
 |a::b::r=>by
  have ih:=mT (b::r)
  have e1:(a::b::r).length-1=((b::r).length-1)+1:=by simp
  simp only[e1,List.range_succ_eq_map,List.filter_cons,List.filter_map]
  have e2:((λk=>List.take 2 (List.drop k (fF (a::b::r)))==[118,99])∘Nat.succ)=λk=>List.take 2 (List.drop k (fF (b::r)))==[118,99]:=by
   funext k
   rfl
  have e3:(List.take 2 (List.drop 0 (fF (a::b::r)))==[118,99])=(gB a&&!gB b):=by
   show([if gB a then 118 else 99,if gB b then 118 else 99]==[118,99])=_
   cases gB a<;>cases gB b<;>rfl
  rw[e3]
  have e4:mA (a::b::r)=(if gB a&&!gB b then 1 else 0)+mA (b::r):=by
   unfold mA
   rw[List.map_cons,List.map_cons]
   cases gB a<;>cases gB b<;>simp[vcs]<;>exact hpA
  simp only[e4,<-ih]
  split
  ·refine qDzq (List.length_cons ..) ?_;rw[List.length_map,e2];exact hpA
  ·refine qDzq (List.length_map ..) ?_;rw[e2];exact gpA
theorem nP (l:List Nat):((rangeInts 0 1 (l.length-1)).filter λk=>hyA (fF l) k).length=mA l:=by
 simp only[rangeInts_zero_one,List.filter_map,List.length_map,<-mT l]
 congr 1
 refine List.filter_congr λk hk=>?_
 have hk:=List.mem_range.mp hk
 exact xoA (fF l) k (by simp only[nY];exact asB hk)
theorem slice_K {prog:Program}{w:World}{A:Around}{E:Value->Shared->Prop}{s:Shared}{value:Expr}{lo hi:Option Expr}{p:Pos}{x:Str}{t:Tok}{i j:Int}{ui uj:Tok}{Q:Value->Shared->Prop}(h:∀h' t' k,(∀b o,s.heap.get? b=some o->h'.get? b=some o)->Q (.str (Txt.slice x (some i) (some j)) t') {s with heap:=h',toks:=k})(hsz:x.length<=sizeLine):
  wpAny (model prog w) A (subscriptTail value (.Slice lo hi none p) (.str x t) (.ref s.heap.objs.size)) Q E {s with heap:=s.heap.push {cls:=.type "slice",data:=.fields #[.int i ui,.int j uj,.none]}}:=
 tail_of_ItemOn (SBH.sliceItem_ss (P:=λh=>∀b o,s.heap.get? b=some o->h.get? b=some o) (λø ob a b o e=>Heap.get?_push_of_some _ (a b o e)) (λø ø e=>e) h hsz) rfl (yG _ _ _)
noncomputable def mY:Scope:={kind:=.function,names:=[("word",.local),("row",.cell),("_law_row",.globalImplicit),("len",.globalImplicit),("range",.globalImplicit)],isGenerator:=false,isCoroutine:=false,more:=[("fast",.str "word"),("fast",.str "row"),("fast",.str "k")]}
noncomputable def sU (L:Addr):Env:=envOfC "_law_measure" mY L 740 (vR 739)
theorem rR:bootBuiltins "len"=some (.builtin "len"):=by kernel_rfl
theorem lmA (P:Params)(ex:Ex):(nsIn (KX P ex) mainGlobals "len"==some none)=true:=by kernel_rfl
theorem qY (P:Params)(ex:Ex):(nsIn (KX P ex) mainGlobals "range"==some none)=true:=by kernel_rfl
theorem idB (P:Params)(ex:Ex):(nsIn (KX P ex) mainGlobals "_law_row"==some (some (.ref 735)))=true:=by kernel_rfl
theorem blA (P:Params)(ex:Ex):keepIn (KX P ex) (.ref 735)=true:=by kernel_rfl
theorem ygB (L:Addr):closureFor ijB (sU L)=pure ([("row",L+1)]:List (Str×Addr)):=rfl
theorem hkA:Builtin.Range.small 0 (-1) 1=true:=by decide
section
variable {g:Gr}{ex:Ex}{c:Cx}{l:List Nat}{μ:Mu}{o:Obj}{P:List (Addr×Obj)}{s:Shared}
theorem xlA (G:GX g ex){n:Nat}(hc:CxOK c (n+2))(hl:l.length<=1000)(ho:o.data=.cell none)(hP:∀p∈P,p.1≠c.L+1)(S:St g c ⟨[("word",.str (mk l))],μ⟩ [] ((c.L+1,o)::P) s){Q:Flow->Shared->Prop}{E:Value->Shared->Prop}
  (k:∀s' o' t,o'.data=.cell (some (.str (mk (fF l)) t))->St g c ⟨[("word",.str (mk l))],μ⟩ [] ((c.L+1,o')::P) s'->Q .next s'):
  wpAny g.M (c.A₀.deeper (sU c.L)) (exec (.Assign [.Name "row" ⟨659,4,659,7⟩] (.Call (.Name "_law_row" ⟨659,10,659,18⟩) [.Name "word" ⟨659,19,659,23⟩] [] ⟨659,10,659,24⟩) ⟨659,4,659,24⟩) (sU c.L)) Q E s:=by
 refine St.el (id S) λb m mo rest a1 a2 a3 a4 a5 a6 a7=>?_
 refine iA (a3 "word" (.str (mk l)) rfl) λval hm hr=>?_
 refine wpAny_Assign_Name (wpAny_Call_ofName ?_) (wG rfl _ _ _)
 refine nameX_K a1.F a1.X (topRead_of a1.T) (by rw[G.hK];exact beq_iff_eq.mp (idB ..)) ?_ rfl rfl
 refine callWith_of (P:=g.K.In) rfl (keeps_K (by rw[G.hK];exact blA ..)) (evalArgs_plain (spliced_cons (nameX_L a1.F hm (spliced_nil (eB (a1.X.keeps a1.F.keep) ?_)) rfl rfl)))
 have S':St g c ⟨[("word",.str (mk l))],μ⟩ (([.str (mk l)]:List V).zip [val]++[]) ((c.L+1,o)::P) s:=lD b m mo rest ⟨a1,a2,a3,(λt ht=>by
  rcases xB ht with rfl|ht
  ·exact hr
  ·cases ht),a5,a6,a7⟩
 refine wpAny_mono (rnA G.hK ydA (n:=n+1) (k:=0) (R:=λ_ v _ μ'=>v=.str (mk (fF l))/\μ'=μ) rfl (λ_ _ _ _ _ _ h=>h) (λc hc hs=>goA (Q:=λx=>x.1=.str (mk (fF l))/\x.2=μ) (dlA G hc hs l hl ⟨rfl,rfl⟩)) (e:=sU c.L) rfl rfl hc rfl E [] _ s [val] (rC _) rfl S') (λv s' ⟨w,μ',⟨h1,h2⟩,S2⟩=>?_) λ_ _ x=>x
 subst h1 h2
 refine iB (S2.getStr (.head _)) λt o3=>?_;obtain rfl:=o3
 exact sdA (x:="row") (cc:=c.L+1) S2.drop (.head _) ho rfl rfl rfl λh' o' hd S3=>k _ o' t hd (S3.pins λp hp=>by
  rcases xB hp with rfl|hp
  ·exact .head _
  ·exact .tail _ (uJ.mpr ⟨.tail _ hp,hP p hp⟩))
theorem chA (G:GX g ex){n:Nat}(hc:CxOK c n)(hl:l.length<=1000){t:Tok}(ho:o.data=.cell (some (.str (mk (fF l)) t))){ρ:List (Str×V)}(S:St g c ⟨ρ,μ⟩ [] ((c.L+1,o)::P) s){Q:Flow->Shared->Prop}{E:Value->Shared->Prop}
  (k:∀s' val,St g c ⟨ρ,μ⟩ [(.int (mA l),val)] ((c.L+1,o)::P) s'->Q (.ret val) s'):
  wpAny g.M (c.A₀.deeper (sU c.L)) (exec (.Return (some (.Call (.Name "len" ⟨660,11,660,14⟩) [moA] [] ⟨660,11,660,72⟩)) ⟨660,4,660,72⟩) (sU c.L)) Q E s:=by
 refine St.el (id S) λb m mo rest a1 a2 a3 a4 a5 a6 a7=>?_
 have hcell:(c.L+1,o)∈mo++rest:=eE _ (a5 _ (.head _))
 have e1:nsIn g.K mainGlobals "len"=some none:=by rw[G.hK];exact beq_iff_eq.mp (lmA ..)
 have e2:nsIn g.K mainGlobals "range"=some none:=by rw[G.hK];exact beq_iff_eq.mp (qY ..)
 have hrl:=nY l
 refine wpAny_Return_some (wpAny_Call_ofName (nameX_B a1.F a1.X (topRead_of a1.T) e1 rR (by decide) (callWith_builtin rfl (evalArgs_plain (spliced_cons ?_))) rfl rfl))
 refine ListComp_DCr (pz:=hyA (fF l)) (d:=λk=>.int k) (h₀:=b) (L:=c.L) (m:=m) hc.handled (ygB c.L) (by decide) rfl (by decide) rfl ?_ (λ_=>rfl)
 refine wpAny_Call_ofName (nameX_B a1.F a1.X (topRead_of a1.T) e2 wM (by decide) (callWith_type1 (spliced_cons ?_) rfl rfl) rfl rfl)
 refine wpAny_BinOp (wpAny_Call_ofName (nameX_B a1.F a1.X (topRead_of a1.T) e1 rR (by decide) (callWith_builtin rfl (evalArgs_plain (spliced_cons (nameX_C a1.N rfl hcell ho (spliced_nil (len_str (by rw[mk_len,hrl];lia) ?_)) rfl rfl)))) rfl rfl))
 refine wpAny_Constant_int (sub_int (spliced_nil (call_range_1 ?_)))
 have up:∀(ob:Obj) b o,s.heap.get? b=some o->(s.heap.push ob).get? b=some o:=λob b o e=>Heap.get?_push_of_some _ e
 refine⟨mo++rest,s.heap.objs.size,0,((mk (fF l)).length:Int)-1,1,_,_,_,l.length-1,rfl,Heap.get?_push_size _ rfl,?_,?_,by exact zrB hl,a1.F.keeps (up _),a1.N.grown (up _),λC a v s₂ m₂ E' _ _ hi hns hv hk=>?_,λC a v s₂ m₂ E' _ _ hi _ hns hv hk=>?_,λD ys h' tk F' N' hD hlD hplD hY=>?_⟩
 ·rw[mk_len,hrl]
  by_cases q:l.length=0
  ·rw[q];exact hkA
  ·rw[show((l.length:Nat):Int)-1=((l.length-1:Nat):Int) by exact yrB q]
   exact yQ (xrB hl)
 ·rw[mk_len,hrl,rangeSize_one]
  split<;>lia
 ·refine iB hi λu o2=>?_;obtain rfl:=o2
  have hcl:s₂.heap.get? (c.L+1)=some o:=hk _ _ (up _ _ _ (a1.N _ hcell).1)
  refine wpAny_tests_one (wpAny_isTrue_Compare1 (Subscript_ (wpAny_Name (wpAny_loadName_cell rfl rfl rfl (jA o hcl ho) (wpAny_Slice ?_)) (by decide))) rfl)
  refine wpAny_evalPart_some (wpAny_Name (wpAny_loadName_local rfl rfl hns hv ?_) (by decide))
  refine wpAny_evalPart_some (wpAny_BinOp (wpAny_Name (wpAny_loadName_local rfl rfl hns hv (wpAny_Constant_int (add_int ?_))) (by decide)))
  refine wpAny_evalPart_none (slice_K (λh' t' k kk=>?_) (by rw[mk_len,hrl];exact dA ‹_› (by decide)))
  refine wpAny_Constant_str (eq_str (wpAny_truthy_bool ⟨?_,zA h' _ rfl kk⟩))
  rfl
 ·refine iB hi λu o3=>?_;obtain rfl:=o3
  exact wpAny_Name (wpAny_loadName_local rfl rfl hns hv (eB (.int a u) (aN _))) (by decide)
 ·refine spliced_nil (len_list hlD ?_ ?_)
  ·rw[List.size_toArray,hY.length_eq,List.length_map,nP]
   have:mA l<=l.length:=by rw[<-nP l];exact dA (List.length_filter_le ..) (by rw[rangeInts_length];exact fE _ _)
   exact kJ (iD (dA ‹_› ‹_›) (by decide))
  ·refine k _ _ (lD b m mo rest ⟨⟨a1.B,a1.turn,a1.D,F',N'⟩,a2,a3,λt ht=>?_,a5,a6,a7⟩)
   rcases xB ht with rfl|ht
   ·have e:ys.toArray.size=mA l:=by rw[List.size_toArray,hY.length_eq,List.length_map,nP]
    rw[e]
    exact .int _ _
   ·cases ht
end
theorem ckB (P:Params)(ex:Ex):(KX P ex).lookup 740=some ⟨.type "function",none,.func (fnOf "_law_measure" "_law_measure" dMe.1 dMe.2.1 mY .none .none .none (vS "law_ji0048_01" 1847) none (vR 739) .none),#[]⟩:=by kernel_rfl
theorem dkB (P:Params)(ex:Ex):codeIn (KX P ex) (vR 739) "_law_measure"=true:=by kernel_rfl
theorem mvA (v0:Value):bindArgs (fnOf "_law_measure" "_law_measure" dMe.1 dMe.2.1 mY .none .none .none (vS "law_ji0048_01" 1847) none (vR 739) .none) ⟨[v0],[]⟩=pure ([("word",v0)]:List (Str×Value)):=by kernel_rfl
theorem pT {g:Gr}{ex:Ex}(G:GX g ex)(n:Nat):SpOK g (n+3) 740 sM:=λvs μ Q hq=>by
 refine jB (lG hq) λw wz1 ez1 hz1=>?_;clear hq
 refine gA (tD hz1) λez2 hz=>?_;clear hz1
 subst ez2 ez1
 have hq:=hz;clear hz
 refine gA (uD hq) λhn hq=>?_
 have hw:=bB hn
 rw[<-bC w]at*
 generalize w.cps.toList=l at*
 simp only[mk_list,mk_len]at*
 have hq:Q (.int (mA l),μ):=hq
 intro c σ hc hμ E ts P s vals hl S
 match vals,hl with
 |[v0],ø=>
 refine St.el S λb m mo rest a1 a2 a3 a4 a5 a6 a7=>?_
 refine wpAny_call (ncA (A:=c.A) (A₀:=c.A₀) (base:=g.base) (outer:=c.outer) (env:=c.env) (K:=g.K) (g₀:=c.g₀) (binds:=[("word",v0)]) (scope:=mY) (qual:="_law_measure") (cdv:=vR 739) a1.B a1.F a1.X a1.N a1.T g.X g.T a1.D a1.turn (Around.frames_deeper a1.B.stack) rfl c.hk (by rw[G.hK];exact ckB ..) (by rw[G.hK];exact dkB ..)
  (by have:=hc.depth;exact wrB this) (.of_eq (mvA v0)) rfl (by decide) (λG0 L' h₁ tk cells F0 F1 N1 Y1 B1 X1 T1 D1 hlt=>?_) rfl rfl rfl)
 refine iA (CellsAre.one (n:="row") (c:=L'+1) Y1) λo o2 ho=>?_;obtain rfl:=o2
 have ho:o.data=.cell none:=ho
 let c':Cx:=⟨c.A,c.env::c.outer,"_law_measure",mY,L',740,vR 739,G0,rfl⟩
 have hc':CxOK c' (n+2):=⟨by have:=hc.depth;exact vrB this,hc.handled,by have:=hc.units;exact urB this⟩
 have hrl:∀p∈rest,p.1≠L'+1:=λp hp=>by
  have:@LT.lt Nat _ p.1 L':=hlt p (eE _ hp)
  intro e
  rw[e]at this
  exact Nat.lt_irrefl _ (Nat.lt_of_succ_lt this)
 have S':St g c' ⟨[("word",.str (mk l))],μ⟩ [] ((L'+1,o)::rest) {s with heap:=h₁,toks:=tk}:=by
  refine lD G0 _ mo ((L'+1,o)::rest) ⟨⟨B1,.refl,D1,F1,λp hp=>N1 p ?_⟩,?_,λx v hx=>?_,λt ht=>(nomatch ht),λp hp=>hp,a6,a7⟩
  ·show p∈(L'+1,o)::(mo++rest)
   refine Or.elim (dI hp) (λhp=>?_) λhp=>?_
   ·exact .tail _ (zH _ hp)
   ·rcases xB hp with rfl|hp
    ·exact .head _
    ·exact .tail _ (eE _ hp)
  ·simp only[<-hμ]
   refine a2.swap (λp hp ø=>.tail _ hp) λp hp q hq=>?_
   rcases xB hp with rfl|hp
   ·have:@LT.lt Nat _ q.1 L':=hlt q (zH _ hq)
    intro e
    rw[<-e]at this
    exact Nat.lt_irrefl _ (Nat.lt_of_succ_lt this)
   ·exact a2.off p hp q hq
  ·rw[pC]at hx
   split at hx
   ·rename_i q
    have o4:=inj hx;clear hx;obtain rfl:=o4
    subst q
    exact jA v0 rfl ((a4 _ (.head _)).mono λp hp=>.tail _ hp)
   ·exact no hx
 rw[lgB]
 have hP:∀p∈rest,p.1≠c'.L+1:=hrl
 refine wpAny_execs_cons (xlA G hc' hw ho hP S' λs1 o' t ho' S1=>?_)
 refine wpAny_execs_cons (chA G hc' hw ho' S1 λs2 val S2=>?_)
 refine St.el S2 λb' m' mo' rest' b1 b2 b3 b4 b5 b6 b7=>?_
 refine leaveS_r b1.F b1.N b1.turn λh₀' k1 k2 k3 k4 k5 k6 k7=>zA (.int (mA l)) μ hq (lD h₀' m mo' rest' ⟨⟨k4,k1,k7,k2,k3⟩,b2,λx u hx=>?_,λt ht=>?_,λp hp=>b5 p (.tail _ (a5 p hp)),b6,b7⟩)
 ·refine iA (a3 x u hx) λw hw hr=>?_
  exact jA w hw (hr.mono λp hp=>b5 p (.tail _ hp))
 ·rcases xB ht with rfl|ht
  ·exact b4 _ (.head _)
  ·exact(a4 t (eE _ ht)).mono λp hp=>b5 p (.tail _ hp)
set_option tactic.hygienic true
noncomputable def dWo:Df:=eA 36
noncomputable def bG (xs:List Int)(k many:Int):Int:=(if k<xs.length then xs.getD k.toNat 0 else k*k*7+5*k+xs.length).fmod many
noncomputable def okP (xs:List Int)(k many:Int):Bool:=decide (0<many)&&decide (many<=1000)&&decide (0<=k)&&decide (k<=1000)&&decide (xs.length<=100)
noncomputable def vjA:Spec:=λvs μ=>aR vs λvs=>aI vs λmany vs=>a0 vs ((match sgA μ with
  |some (xs,k)=>.need (okP xs k many) (.ret (.int (bG xs k many),muR xs (k+1)))
  |none=>.fail))
theorem jQ {xs:List Int}{k many:Int}(h:okP xs k many=true):0<many/\many<=1000/\0<=k/\k<=1000/\xs.length<=100:=by
 unfold okP at h
 replace h:=bmp (bmp (bmp (bmp bB bB) bB) bB) bB h
 exact jnA h.1.1.1.1 h.1.1.1.2 h.1.1.2 h.1.2 h.2
theorem eeB {xs:List Int}{k many:Int}(h:0<many/\many<=1000/\0<=k/\k<=1000/\xs.length<=100):okP xs k many=true:=by
 unfold okP
 refine kK (kK (kK (kK pA pA) pA) pA) pA ?_
 exact⟨⟨⟨⟨h.1,h.2.1⟩,h.2.2.1⟩,h.2.2.2.1⟩,h.2.2.2.2⟩
theorem vY {xs:List Int}{k many:Int}(h:okP xs k many=true):0<=bG xs k many/\bG xs k many<many:=⟨Int.fmod_nonneg_of_pos _ (jQ h).1,Int.fmod_lt_of_pos _ (jQ h).1⟩
theorem bits_le {k:Int}(h0:0<=k)(h1:k<2 ^ 40):decide (Builtin.Int.intBits k<=64)=true:=by
 refine(vA ..).mpr ?_
 unfold Builtin.Int.intBits
 split
 ·exact rC _
 ·rename_i h
  have h:¬k=0:=λq=>h (beq_iff_eq.mpr q)
  have:k.natAbs.log2<40:=(Nat.log2_lt (by lia)).mpr (by lia)
  exact dA ‹_› (by decide)
theorem ugA (xs:List Int)(k many:Int):yW (eA 31) ["d","many"] [] [.rd,.int many] (muR xs k)=.need (decide (Builtin.Int.intBits k<=64)) (.need (decide (Builtin.Int.intBits (k*k)<=64)) (.need true (xD xs.length (xD xs.length (.ite (decide (k<xs.length))
  (.need (pE xs.length k) (.need (many !=0) (.ret (.int ((xs.getD k.toNat 0).fmod many),muR xs (k+1))))) (.need (many !=0) (.ret (.int ((k*k*7+5*k+xs.length).fmod many),muR xs (k+1))))))))):=by kernel_rfl
theorem bgA {g:Gr}{ex:Ex}(G:GX g ex)(n:Nat):SpOK g (n+1) 695 vjA:=λvs μ Q hq=>by
 refine iA (yhB hq) λwz1 ez1 hz1=>?_;clear hq
 refine jB (bX hz1) λmany wz2 ez2 hz2=>?_;clear hz1
 refine gA (tD hz2) λez3 hz=>?_;clear hz2
 subst ez3 ez2 ez1
 have hq:=hz;clear hz
 split at hq
 ·rename_i xs k hr
  refine gA (uD hq) λhn hq=>?_
  refine qaA (jQ hn) λh1 h2 h3 h4 h5=>?_
  have hμ:=yV hr
  subst hμ
  refine xcA G (CTOK.nil (n:=n)) ftA _ _ _ ?_
  rw[ugA]
  have hk2:k*k<=1000*1000:=Int.mul_le_mul h4 h4 h3 (gD _)
  have hk3:0<=k*k:=Int.mul_nonneg h3 h3
  have hm:(many !=0)=true:=bne_iff_ne.mpr (trB h1)
  have hq:Q (.int (bG xs k many),muR xs (k+1)):=hq
  unfold bG at hq
  refine bA (bits_le h3 (by exact Int.lt_of_le_of_lt ‹_› (by decide))) (bA (bits_le hk3 (by exact Int.lt_of_le_of_lt ‹_› (by decide))) (bA rfl (bA (uB (dA ‹_› (by decide))) (bA (uB (dA ‹_› (by decide))) (cA (λh=>?_) λh=>?_)))))
  ·have h:=bB h
   rw[if_pos h]at hq
   refine bA ?_ (bA hm hq)
   unfold pE
   lia
  ·have h:=pF h
   rw[if_neg h]at hq
   exact bA hm hq
 ·exact hq.elim
noncomputable def aaA:Df:=eA 35
noncomputable def fxB:List (Addr×Spec):=[(702,spD lE),(709,spD s3L),(716,qD (eA 34) [] [])]
noncomputable abbrev fcB:Tb:=xA aaA.2.2 fxB
noncomputable def tJ:List Str:=["","","s","sses","ies","ed","ing","eed","ated","bling","ized","tted","ning","e","ll","le","y","abli","bli","logi"]
noncomputable def siB:List Str:=["sion","tion"]
noncomputable def dN (x y:Str):List Str:=tJ++tI (lE.map (·.1)) x++tI (s3L.map (·.1)) y++es4++siB
noncomputable def mR (x y:Str):Bool:=(tI (lE.map (·.1)) x).isPerm (lE.map (·.1))&&(tI (s3L.map (·.1)) y).isPerm (s3L.map (·.1))
noncomputable def ekA:Spec:=λvs μ=>a0 vs (.anyS λx=>.anyS λy=>.ite (mR x y) (.ret (.sl (dN x y),μ)) .triv)
theorem nxB (μ:Mu):kp ["plain"] (iF fcB 12 (lA aaA.2.1 0) ⟨[],μ⟩)=.ret (.next,⟨[("plain",.sl tJ)],μ⟩):=by kernel_rfl
theorem mxB (μ:Mu):aiL fcB 20 (rJ (lA aaA.2.1 1)) ⟨[("plain",.sl tJ)],μ⟩=.need (decide (lE.length<64)) (.anyS λx=>.ite ((tI (lE.map (·.1)) x).isPerm (lE.map (·.1))) (.need (decide (tJ.length+(tI (lE.map (·.1)) x).length<=1000))
 (.need (decide (s3L.length<64)) (.anyS λy=>.ite ((tI (s3L.map (·.1)) y).isPerm (s3L.map (·.1))) (.need (decide ((tJ++tI (lE.map (·.1)) x).length+(tI (s3L.map (·.1)) y).length<=1000))
 (.need (decide ((tJ++tI (lE.map (·.1)) x++tI (s3L.map (·.1)) y).length+es4.length<=1000)) (.need (decide ((tJ++tI (lE.map (·.1)) x++tI (s3L.map (·.1)) y++es4).length+2<=1000))
  (.ret (.sl (dN x y),⟨[("plain",.sl tJ)],μ⟩))))) .triv))) .triv):=by kernel_rfl
theorem cyA:aaA.2.1=[lA aaA.2.1 0,.Return (some (rJ (lA aaA.2.1 1))) (hbA (lA aaA.2.1 1))]:=by kernel_rfl
theorem bO {xs ys:List Str}(h:xs.isPerm ys=true):xs.length=ys.length:=(List.isPerm_iff.mp h).length_eq
theorem egA {g:Gr}{ex:Ex}(G:GX g ex)(n:Nat):SpOK g (n+2) 723 ekA:=λvs μ Q hq=>by
 refine gA (tD hq) λez1 hz=>?_;clear hq
 subst ez1
 have hq:=hz;clear hz
 refine mD G.hK ctA rfl λc hc hs=>?_
 have O:mB g fcB c:=cG G (.cons (tjA G n) (.cons (zX G n) (.cons (nB G (CTOK.nil (n:=n)) zdA) .nil))) hc hs
 have X:=nD G
 show EB g c aaA.2.1 ⟨[],μ⟩ (dB Q)
 rw[cyA]
 refine bT O X _ ["plain"] ?_
 rw[nxB]
 refine rA (ixA O (cY G) ?_)
 have e1:tJ.length=20:=by decide
 have e2:lE.length=19:=by decide
 have e3:s3L.length=7:=by decide
 have e4:es4.length=19:=by decide
 rw[mxB]
 refine bA (by rw[e2];decide) λx=>cA (λhx=>?_) λ_=>trivial
 have lx:=bO hx
 simp only[List.length_map,e2]at lx
 refine bA (by simp only[e1,lx];decide) (bA (by rw[e3];decide) λy=>cA (λhy=>?_) λ_=>trivial)
 have ly:=bO hy
 simp only[List.length_map,e3]at ly
 refine bA (by simp only[vC,e1,lx,ly];decide) (bA (by simp only[vC,vC,e1,lx,ly,e4];decide) (bA (by simp only[vC,vC,vC,e1,lx,ly,e4];decide) ?_))
 exact(hq x y).1 (by unfold mR;simp only[hx,hy];rfl)
set_option tactic.hygienic false
noncomputable def lWo:List (Addr×Spec):=[(695,vjA),(723,ekA)]
noncomputable abbrev tWo:Tb:=xA dWo.2.2 lWo
noncomputable abbrev wo (i:Nat):Stmt:=lA dWo.2.1 i
noncomputable def foB:Stmt->List Stmt
 | .For _ _ b _ _=>b
 |_=>[]
noncomputable def foI:Stmt->Expr
 | .For _ i _ _ _=>i
 |_=>.Constant .none 0 default
noncomputable def foT:Stmt->Pos
 | .For (.Name _ p) _ _ _ _=>p
 |_=>default
noncomputable def foP:Stmt->Pos
 | .For _ _ _ _ p=>p
 |_=>default
noncomputable abbrev wb (i:Nat):Stmt:=lA (foB (wo 1)) i
noncomputable def pc0:List Str:=["","","","y"]
noncomputable def pc1:List Str:=["b","c","tr","s","","m","pl","h"]
noncomputable def pc2:List Str:=["a","e","i","o","u","ea","a","y"]
noncomputable def pc3:List Str:=["t","l","n","pp","","ll","ss","w"]
noncomputable def dM (w:Str)(μ:Mu):AS:=⟨[("d",.rd),("word",.str w)],μ⟩
noncomputable def xdA (w:Str)(es:List Str)(μ:Mu):AS:=⟨[("d",.rd),("word",.str w),("ends",.sl es)],μ⟩
noncomputable def nDW:List Str:=["d","word"]
noncomputable def hvA:List Str:=["d","word","ends"]
noncomputable def pcT (es:List Str)(w:Str)(xs:List Int)(k:Int):T (Out×AS):=.need (okP xs k es.length) (.need (pE es.length (bG xs k es.length)) (.need (jD w (es.getD (bG xs k es.length).toNat Str.empty)) (.ret (.next,dM (w++es.getD (bG xs k es.length).toNat Str.empty) (muR xs (k+1))))))
section
variable (xs:List Int)(k:Int)(w:Str)(es:List Str)
theorem hiB:dWo.2.1=[wo 0,wo 1,wo 2,wo 3,wo 4,wo 5]:=by kernel_rfl
theorem wo0:kp nDW (iF tWo 12 (wo 0) ⟨[("d",.rd)],muR xs k⟩)=.need (okP xs k 4) (.need (pE 4 (bG xs k 4)) (.ret (.next,dM (pc0.getD (bG xs k 4).toNat Str.empty) (muR xs (k+1))))):=by kernel_rfl
theorem wo1:wo 1=.For (.Name "turn" (foT (wo 1))) (.Call (.Name "range" (caF (foI (wo 1)))) [caA 0 (foI (wo 1))] [] (caP (foI (wo 1)))) [wb 0,wb 1,wb 2] [] (foP (wo 1)):=by kernel_rfl
theorem awB:dE (ai2 tWo 20).1 [caA 0 (foI (wo 1))] (dM w (muR xs k))=.need (okP xs k 3) (.ret ([.int (bG xs k 3)],dM w (muR xs (k+1)))):=by kernel_rfl
theorem wb0:kp nDW (iF tWo 12 (wb 0) (dM w (muR xs k)))=pcT pc1 w xs k:=by kernel_rfl
theorem wb1:kp nDW (iF tWo 12 (wb 1) (dM w (muR xs k)))=pcT pc2 w xs k:=by kernel_rfl
theorem wb2:kp nDW (iF tWo 12 (wb 2) (dM w (muR xs k)))=pcT pc3 w xs k:=by kernel_rfl
theorem wo2:kp hvA (iF tWo 12 (wo 2) (dM w (muR xs k)))=.anyS λx=>.anyS λy=>.ite (mR x y) (.ret (.next,xdA w (dN x y) (muR xs k))) .triv:=by kernel_rfl
theorem wo3:kp hvA (iF tWo 12 (wo 3) (xdA w es (muR xs k)))=xD es.length (.need (okP xs k es.length) (.need (pE es.length (bG xs k es.length)) (.need (jD w (es.getD (bG xs k es.length).toNat Str.empty)) (.ret (.next,xdA (w++es.getD (bG xs k es.length).toNat Str.empty) es (muR xs (k+1))))))):=by kernel_rfl
theorem wo4:kp nDW (iF tWo 12 (wo 4) (xdA w es (muR xs k)))=.need (okP xs k 2) (.ite (bG xs k 2==0) (xD es.length (pcT es w xs (k+1))) (.ret (.next,dM w (muR xs (k+1))))):=by kernel_rfl
theorem wo5:iF tWo 12 (wo 5) (dM w (muR xs k))=.ret (.ret (.str w),dM w (muR xs k)):=by kernel_rfl
end
noncomputable def ywB (k:Nat):Bool:=decide (97<=k)&&decide (k<=122)
noncomputable def fH (l:List Nat):Bool:=l.all ywB
noncomputable def cP (m:Nat)(es:List Str):Bool:=es.all λe=>fH e.cps.toList&&decide (e.length<=m)
theorem lJ {a b:List Nat}(h1:fH a=true)(h2:fH b=true):fH (a++b)=true:=by
 unfold fH at*
 rw[List.all_append,h1,h2];rfl
theorem oR {m:Nat}{es:List Str}(h:cP m es=true)(i:Nat):∃l,es.getD i Str.empty=mk l/\fH l=true/\l.length<=m:=by
 rw[sD]
 cases q:es[i]? with
 |none=>exact zG ([]) rfl rfl (rC _)
 |some e=>
  have:=fC h e (eH q)
  replace this:=bmp id bB this
  exact zG e.cps.toList ((bC e).symm) this.1 this.2
theorem yjB:cP 1 pc0=true:=by decide+kernel
theorem xjB:cP 2 pc1=true:=by decide+kernel
theorem wjB:cP 2 pc2=true:=by decide+kernel
theorem vjB:cP 2 pc3=true:=by decide+kernel
theorem dO {m:Nat}{a b:List Str}(h1:cP m a=true)(h2:cP m b=true):cP m (a++b)=true:=by
 unfold cP at*
 refine qDzq (List.all_append ..) ?_;simp only[h1,h2];rfl
theorem aU {m:Nat}{a b:List Str}(h1:cP m b=true)(h2:a.isPerm b=true):cP m a=true:=
 List.all_eq_true.mpr λe he=>fC h1 e ((List.isPerm_iff.mp h2).mem_iff.mp he)
theorem feB {x y:Str}(h:mR x y=true):cP 7 (dN x y)=true:=by
 unfold mR at h
 replace h:=bmp id id h
 exact dO (dO (dO (dO (by decide+kernel) (aU (by decide+kernel) h.1)) (aU (by decide+kernel) h.2)) (by decide+kernel)) (by decide+kernel)
theorem dwA {x y:Str}(h:mR x y=true):(dN x y).length=67:=by
 unfold mR at h
 replace h:=bmp id id h
 have l1:=bO h.1
 have l2:=bO h.2
 simp only[List.length_map]at l1 l2
 unfold dN
 refine qDzq (vC ..) ?_;simp only[vC,vC,vC,l1,l2]
 decide
theorem bN {xs:List Int}{k:Int}{n:Nat}(h:okP xs k n=true):pE n (bG xs k n)=true:=by
 have:=vY h
 have:=jQ h
 unfold pE
 refine kK (kK pA pA) pA ?_
 exact srB ‹_› this
noncomputable def SegX (g:Gr)(c:Cx)(rest:List Stmt)(Q:Out×AS->Prop):Out×AS->Prop
 |(.next,σ)=>EB g c rest σ Q
 |_=>False
theorem zcB {g:Gr}{t:Tb}{c:Cx}(O:mB g t c)(X:fI g)(st:Stmt)(names:List Str){rest:List Stmt}{σ:AS}{Q:Out×AS->Prop}(z:(kp names (iF t 12 st σ)).sat (SegX g c rest Q)):EB g c (st::rest) σ Q:=by
 refine rA (rI O X 12 _ _ _ (T.sat_mono (λx hx=>?_) (cB z)))
 obtain⟨o,σ⟩:=x
 induction o using Mine.Out.casesOn with
 |next=>exact tG (tH names σ) hx
 |_=>exact hx.elim
section
variable {g:Gr}{c:Cx}{Q:Out×AS->Prop}{rest:List Stmt}
theorem aW {es:List Str}{m:Nat}(he:cP m es=true){l:List Nat}{xs:List Int}{k:Int}(hp:okP xs k es.length=true)(hl:l.length<=200)(hm:m<=10)
  (kk:∀p,fH p=true->p.length<=m->EB g c rest (dM (mk (l++p)) (muR xs (k+1))) Q):(pcT es (mk l) xs k).sat (SegX g c rest Q):=by
 refine oM (oR he (bG xs k es.length).toNat) λp e hp1 hp2=>?_
 unfold pcT
 rw[e]
 refine bA hp (bA (bN hp) (bA (uE (by simp only[mk_len];exact dA ‹_› (by decide)) (by simp only[mk_len];exact rrB hm hp2)) ?_))
 rw[qF _ _]
 exact kk p hp1 hp2
end
structure WoJ (xs:List Int) (k:Int) (i:Nat) (σ:AS) (l:List Nat) (k':Int):Prop where
 sub:yqA [("d",.rd),("word",.str (mk l))] σ.ρ
 mu:σ.μ=muR xs k'
 low:fH l=true
 len:l.length<=1+6*i
 lo:k<=k'
 hi:k'<=k+2+3*i
theorem dqA {g:Gr}{ex:Ex}(G:GX g ex){n:Nat}{xs:List Int}{k:Int}(hk0:0<=k)(hk1:k<=900)(hxs:xs.length<=100){Q:V×Mu->Prop}(hq:∀l k',fH l=true->l.length<=27->k<=k'->k'<=k+12->Q (.str (mk l),muR xs k')){c:Cx}(hc:CxOK c (n+2))(hs:c.sc=dWo.2.2):EB g c dWo.2.1 ⟨[("d",.rd)],muR xs k⟩ (dB Q):=by
 have O:mB g tWo c:=cG G (.cons ((bgA G n).le kaA) (.cons (egA G n) .nil)) hc hs
 have X:=nD G
 have oP:∀k' many:Int,k<=k'->k'<=k+100->0<many->many<=1000->okP xs k' many=true:=λk' many h1 h2 h3 h4=>eeB (jnA h3 h4 (laB hk0 h1) (qrB hk1 h2) hxs)
 show EB g c dWo.2.1 ⟨[("d",.rd)],muR xs k⟩ (dB Q)
 rw[hiB]
 refine bT O X _ nDW ?_
 rw[wo0]
 have p0:=oP k 4 prB orB (gD _) (gD _)
 refine bA p0 (bA (bN p0) ?_)
 refine oM (oR yjB (bG xs k 4).toNat) λl0 e0 low0 len0=>?_
 rw[e0]
 show EB g c [wo 1,wo 2,wo 3,wo 4,wo 5] (dM (mk l0) (muR xs (k+1))) (dB Q)
 have p1:=oP (k+1) 3 nrB mrB (gD _) (gD _)
 have hp1:=vY p1
 have hl1:scK c.sc "range"=some .globalImplicit:=by rw[hs];kernel_rfl
 have hl2:scK c.sc "turn"=some .local:=by rw[hs];kernel_rfl
 have e3:wo 1=_:=wo1
 rw[e3]
 refine rA (qU G hc.handled (dJ O 20).1 hl1 hl2 (by simp) rfl 0 1 (bG xs (k+1) 3).toNat (λi σ=>∃l k',WoJ xs k i σ l k') ?_ (λi σ hi hJ=>?_) λσ hJ=>?_)
 ·rw[awB]
  refine bA p1 (eB (inA l0 (k+1+1) ⟨λ_ _ h=>h,rfl,low0,by assumption,by exact lrB,by exact krB⟩) (.inl (gM ?_ rfl rfl (jrB hp1))))
  rw[Int.toNat_of_nonneg hp1.1]
 ·refine yiA hJ λl k' o4=>?_;obtain⟨j1,j2,j3,j4,j5,j6⟩:=o4
  obtain⟨ρ,μ'⟩:=σ
  subst j2
  have hi3:(i:Int)<3:=by exact irB hp1 hi
  refine tG (ρ':=[("d",.rd),("word",.str (mk l))]) (λx v hx=>?_) ?_
  ·rw[jI]
   rw[if_neg ?_]
   ·exact j1 x v hx
   ·intro o1;obtain rfl:=o1
    rw[pC,if_neg (by decide),pC,if_neg (by decide)]at hx
    exact no hx
  show EB g c [wb 0,wb 1,wb 2] (dM (mk l) (muR xs k')) _
  refine zcB O X _ nDW ?_
  rw[wb0]
  refine aW xjB (oP _ _ ‹_› (hrB j6 hi3) (by decide) (by decide)) (grB j4 hi3) (Nat.le_add_left _ _) λa1 b1 c1=>?_
  refine zcB O X _ nDW ?_
  rw[wb1]
  refine aW wjB (oP _ _ (kaB j5) (frB j6 hi3) (by decide) (by decide)) (by rw[vC];exact erB j4 hi3 c1) (Nat.le_add_left _ _) λa2 b2 c2=>?_
  refine zcB O X _ nDW ?_
  rw[wb2]
  refine aW vjB (oP _ _ (fpA j5) (drB j6 hi3) (by decide) (by decide)) (by rw[vC,vC];exact crB j4 hi3 c1 c2) (Nat.le_add_left _ _) λa3 b3 c3=>bJ ?_
  exact inA (l++a1++a2++a3) _ ⟨λ_ _ h=>h,rfl,lJ (lJ (lJ j3 b1) b2) b3,by rw[vC,vC,vC];exact brB j4 c1 c2 c3,by exact jaB j5,by exact arB j6⟩
 ·refine yiA hJ λl k' o5=>?_;obtain⟨j1,j2,j3,j4,j5,j6⟩:=o5
  obtain⟨ρ,μ'⟩:=σ
  dsimp only at j1 j2
  subst j2
  refine tG j1 ?_
  show EB g c [wo 2,wo 3,wo 4,wo 5] (dM (mk l) (muR xs k')) (dB Q)
  refine bT O X _ hvA ?_
  rw[wo2]
  refine λx y=>eB (λhxy=>?_) (λ_=>trivial)
  have hes:=feB hxy
  have hel:=dwA hxy
  generalize dN x y=es at*
  have p3:=oP k' es.length ‹_› (zqB hp1 j6) (iaB hel) (haB hel)
  refine oM (oR hes (bG xs k' es.length).toNat) λl3 e3 low3 len3=>?_
  refine bT O X _ hvA ?_
  rw[wo3,e3]
  refine bA (uB (gaB hel)) (bA p3 (bA (bN p3) (bA (uE (by rw[mk_len];exact yqB hp1 j4) (by rw[mk_len];exact dA ‹_› (by decide))) ?_)))
  rw[qF _ _]
  have fin:∀(z:List Nat) k2,fH z=true->z.length<=27->k<=k2->k2<=k+12->EB g c [wo 5] (dM (mk z) (muR xs k2)) (dB Q):=λz k2 h1 h2 h3 h4=>by
   refine rA (rI O X 12 _ _ _ ?_)
   rw[wo5]
   exact hq z k2 h1 h2 h3 h4
  refine bT O X _ nDW ?_
  rw[wo4]
  refine bA (oP _ 2 (kaB j5) (xqB hp1 j6) (gD _) (gD _)) (cA (λ_=>bA (uB (gaB hel)) ?_) λ_=>?_)
  ·refine T.sat_mono (λ⟨o,σ'⟩ hx=>?_) (aW hes (Q:=dB Q) (rest:=[wo 5]) (m:=7) (oP _ _ (fpA j5) (wqB hp1 j6) (iaB hel) (haB hel)) (by rw[vC];exact vqB hp1 j4 len3) (Nat.le_add_left _ _) λp hp1 hp2=>fin _ _ (lJ (lJ j3 low3) hp1) (by rw[vC,vC];exact uqB ‹_› j4 len3 hp2) (jaB j5) (tqB ‹_› j6))
   induction o using Mine.Out.casesOn with
   |next=>exact hx
   |_=>exact hx.elim
  ·exact fin _ _ (lJ j3 low3) (by rw[vC];exact sqB hp1 j4 len3) (fpA j5) (rqB hp1 j6)
noncomputable def dIr:Df:=eA 46
noncomputable def lIr:List (Addr×Spec):=[(789,bbA),(768,tdA),(136,sjA)]
noncomputable abbrev tIr:Tb:=xA dIr.2.2 lIr
noncomputable abbrev ir (i:Nat):Stmt:=lA dIr.2.1 i
noncomputable def rI0 (w:Str):AS:=⟨[("word",.str w)],mu0⟩
noncomputable def rI1 (w o:Str):AS:=⟨[("word",.str w),("one",.str o)],mu0⟩
noncomputable def rI2 (w o u:Str):AS:=⟨[("word",.str w),("one",.str o),("ours",.str u)],mu0⟩
noncomputable def rI3 (w o u:Str)(a:Bool):AS:=⟨[("word",.str w),("one",.str o),("ours",.str u),("apart",.bool a)],mu0⟩
noncomputable def nI1:List Str:=["word","one"]
noncomputable def nI2:List Str:=["word","one","ours"]
noncomputable def nI3:List Str:=["word","one","ours","apart"]
section
variable (w o u:Str)(a:Bool)
theorem skB:dIr.2.1=[ir 0,ir 1,ir 2,ir 3,ir 4,ir 5,ir 6,ir 7,ir 8]:=by kernel_rfl
theorem ir0:ir 0=.Assign [.Name "one" ⟨721,4,721,7⟩] (.Call (.Attribute (.Call (.Name "PorterStemmer" ⟨721,10,721,23⟩) [] [] ⟨721,10,721,25⟩) "stemWord" ⟨721,10,721,34⟩) [.Name "word" ⟨721,35,721,39⟩] [] ⟨721,10,721,40⟩) ⟨721,4,721,40⟩:=by kernel_rfl
theorem ir1:ir 1=.If (whT (ir 1)) [lA (whB (ir 1)) 0] [] (whP (ir 1)):=by kernel_rfl
theorem lxB:(ai2 tIr 20).2 (whT (ir 1)) (rI1 w o)=.need (decide (w.length<=400)) (.need (decide ((mk (pB false w.cps.toList)).length<=500)) (.ret (o !=mk (iJ false (mk (pB false w.cps.toList)).cps.toList),rI1 w o))):=by kernel_rfl
theorem ir2:kp nI1 (iF tIr 12 (ir 2) (rI1 w o))=xD w.length (.ite (decide ((w.length:Int)<3)) (.need (decide (w.length<=300)) (.ret (.ret (.bool (mk (eG w.cps.toList)==w)),rI1 w o))) (.ret (.next,rI1 w o))):=by kernel_rfl
theorem ir3:kp nI1 (iF tIr 12 (ir 3) (rI1 w o))=xD w.length (.ite (inS "y" (Txt.slice w (some 1) (some (-1)))) (.ret (.ret (.bool true),rI1 w o)) (.ret (.next,rI1 w o))):=by kernel_rfl
theorem ir4:kp nI2 (iF tIr 12 (ir 4) (rI1 w o))=.need (decide (w.length<=400)) (.ret (.next,rI2 w o (mk (pB true w.cps.toList)))):=by kernel_rfl
theorem ir5:kp nI2 (iF tIr 12 (ir 5) (rI2 w o u))=.need (decide (w.length<=300)) (.need (decide (u.length<=500)) (.ite (mk (eG w.cps.toList) !=mk (iJ true u.cps.toList)) (.ret (.ret (.bool false),rI2 w o u)) (.ret (.next,rI2 w o u)))):=by kernel_rfl
theorem ir6:kp nI3 (iF tIr 12 (ir 6) (rI2 w o u))=(let R:Bool->T (Out×AS):=λb=>.ret (.next,rI3 w o u b)
  .ite (Txt.endswith u "logi") (R (Txt.endswith u "logi")) (.ite (Txt.endswith u "bli") (.ite (!Txt.endswith u "abli") (R (!Txt.endswith u "abli")) (R (u=="ization"))) (.ite (Txt.endswith u "bli") (R (Txt.endswith u "bli")) (R (u=="ization"))))):=by kernel_rfl
theorem ir8:iF tIr 12 (ir 8) (rI3 w o u a)=.need (decide (w.length<=300)) (.ret (.ret (.bool (mk (eG w.cps.toList)==o)),rI3 w o u a)):=by kernel_rfl
noncomputable def olA:Expr:=.Call (.Attribute (.Name "ours" ⟨732,16,732,20⟩) "replace" ⟨732,16,732,28⟩) [.Constant (.str "Y") 0 ⟨732,29,732,32⟩,.Constant (.str "y") 0 ⟨732,34,732,37⟩] [] ⟨732,16,732,38⟩
noncomputable def rW:Expr:=.Call (.Name "_law_first" ⟨732,42,732,52⟩) [.Name "word" ⟨732,53,732,57⟩,.Constant (.bool false) 0 ⟨732,59,732,64⟩] [] ⟨732,42,732,65⟩
noncomputable def vfB:Expr:=.Call (.Attribute rW "replace" ⟨732,42,732,73⟩) [.Constant (.str "Y") 0 ⟨732,74,732,77⟩,.Constant (.str "y") 0 ⟨732,79,732,82⟩] [] ⟨732,42,732,83⟩
theorem ir7:ir 7=.If (.BoolOp .Or [.Name "apart" ⟨732,7,732,12⟩,.Compare olA [.NotEq] [vfB] ⟨732,16,732,83⟩] ⟨732,7,732,83⟩) [.Return (some (.Constant (.bool true) 0 ⟨733,15,733,19⟩)) ⟨733,8,733,19⟩] [] ⟨732,4,733,19⟩:=by kernel_rfl
theorem kxB:(ai2 tIr 20).2 (.Name "apart" ⟨732,7,732,12⟩) (rI3 w o u a)=.ret (a,rI3 w o u a):=by kernel_rfl
theorem ixB:(ai2 tIr 20).1 (.Name "ours" ⟨732,16,732,20⟩) (rI3 w o u a)=.ret (.str u,rI3 w o u a):=by kernel_rfl
theorem jxB:(ai2 tIr 20).1 rW (rI3 w o u a)=.need (decide (w.length<=400)) (.ret (.str (mk (pB false w.cps.toList)),rI3 w o u a)):=by kernel_rfl
theorem hxB:(ai2 tIr 20).1 (.Constant (.bool true) 0 ⟨733,15,733,19⟩) (rI3 w o u a)=.ret (.bool true,rI3 w o u a):=by kernel_rfl
end
noncomputable def aQ (l:List Nat):List Nat:=(l.take (l.length-1)).drop 1
noncomputable def lL (u:List Nat):Bool:=sx "logi" u||(sx "bli" u&&!sx "abli" u)||(u==cp "ization")
structure Law (l:List Nat):Prop where
 a:oG l=iJ false (pB false l)
 b:l.length<3->eG l=l
 c:3<=l.length->121∉aQ l->eG l=iJ true (pB true l)
 d:3<=l.length->121∉aQ l->lL (pB true l)=false->unY (pB true l)=unY (pB false l)->eG l=oG l
theorem cN (ours:Bool)(l:List Nat):(pB ours l).length<=l.length+2:=by
 have h1:=nU ours l []
 have h2:=weA (xC ours l [])
 have h3:=veA ours (fF1 (xC ours l []))
 have h4:=fxA (fF2 ours (fF1 (xC ours l [])))
 exact qqB h1 h2 h3 h4
theorem xgA {l:List Nat}(h:3<=l.length):Txt.slice (mk l) (some 1) (some (-1))=mk (aQ l):=by
 refine qDzq (fG ..) ?_
 unfold aQ
 have e1:jC l.length 0 (some 1)=1:=by simp only[jC];rw[if_neg (by decide)];exact pqB h
 have e2:jC l.length l.length (some (-1))=l.length-1:=by simp only[jC];rw[if_pos (by exact gD _)];exact oqB h
 simp only[e1,e2]
theorem pbA (a b:List Nat):(mk a !=mk b)=(a !=b):=by unfold bne;rw[iG]
theorem kcB (s:String)(u:List Nat):Txt.endswith (mk u) (Str.ofString s)=sx s u:=iH s u
noncomputable abbrev Right (_:List (Addr×Obj))(v:V)(_:Value)(_:Mu):Prop:=v=.bool true
section
variable {g:Gr}{ex:Ex}{c:Cx}
theorem nsA (O:mB g tIr c)(X:fI g){l o u:List Nat}{a:Bool}(hl:l.length<=300)(h:eG l=o):EBR g c 1 [ir 8] (rI3 (mk l) (mk o) (mk u) a) Right:=by
 refine jL (rI O X 12 _ _ _ ?_)
 simp only[ir8]
 refine bA (by rw[mk_len,vA];exact hl) ?_
 simp only[mk_list,h,iG]
 intro ø ø
 show V.bool (o==o)=.bool true
 rw[beq_self_eq_true]
theorem osA (O:mB g tIr c)(X:fI g){l o u:List Nat}{a:Bool}(hl:l.length<=300)(hu:u.length<=400)(h:a=false->unY u=unY (pB false l)->eG l=o):EBR g c 1 [ir 7,ir 8] (rI3 (mk l) (mk o) (mk u) a) Right:=by
 rw[ir7]
 intro E P s hk hE S
 have go:wpAny g.M c.A (isTrue (.BoolOp .Or [.Name "apart" ⟨732,7,732,12⟩,.Compare olA [.NotEq] [vfB] ⟨732,16,732,83⟩] ⟨732,7,732,83⟩) c.env (eval (.BoolOp .Or [.Name "apart" ⟨732,7,732,12⟩,.Compare olA [.NotEq] [vfB] ⟨732,16,732,83⟩] ⟨732,7,732,83⟩) c.env))
   (λb s'=>b=(a||unY u !=unY (pB false l))/\St g c (rI3 (mk l) (mk o) (mk u) a) [] P s') E s:=by
  refine wpAny_isTrue_BoolOp (wpAny_allTrue_Or_cons ?_)
  refine wpAny_mono (wpAny_toks hk ((dJ O 20).2 (.Name "apart" ⟨732,7,732,12⟩) (rI3 (mk l) (mk o) (mk u) a) (λx=>x.1=a/\x.2=rI3 (mk l) (mk o) (mk u) a) (by rw[kxB];exact⟨rfl,rfl⟩) E [] P s S)) (λb s1 ⟨⟨σ1,⟨h1,h2⟩,S1⟩,hk1⟩=>?_) λ_ _ x=>x.1
  have h1:b=a:=h1
  have h2:σ1=_:=h2
  subst h1 h2
  induction b using Bool.casesOn with
  |true=>exact⟨rfl,S1⟩
  |false=>
   refine wpAny_allTrue_Or_cons (wpAny_isTrue_Compare1 ?_ rfl)
   have r1:=aP (g:=g) (c:=c) (ts:=[]) (P:=P) (s:=s1) (o:=.Name "ours" ⟨732,16,732,20⟩) (apos:=⟨732,16,732,28⟩) (pos:=⟨732,16,732,38⟩) (p1:=⟨732,29,732,32⟩) (p2:=⟨732,34,732,37⟩) (k1:=0) (k2:=0) (Q:=λx=>x.1=.str (mk (unY u))/\x.2=rI3 (mk l) (mk o) (mk u) false) rfl rfl hk1 (E:=E)
    (wpAny_mono ((dJ O 20).1 (.Name "ours" ⟨732,16,732,20⟩) (rI3 (mk l) (mk o) (mk u) false) (λx=>x.1=.str (mk u)/\x.2=rI3 (mk l) (mk o) (mk u) false) (by rw[ixB];exact⟨rfl,rfl⟩) E [] P s1 S1) (λval s' ⟨v,σ',⟨h1,h2⟩,S'⟩=>by
     have h1:v=_:=h1
     have h2:σ'=_:=h2
     subst h1 h2
     exact⟨mk u,_,⟨by rw[mk_len,vA];exact dA ‹_› (by decide),by rw[mk_list],rfl⟩,S'⟩) λ_ _ x=>x)
   refine wpAny_mono (wpAny_toks hk1 r1) (λval1 s2 ⟨⟨v1,σ2,⟨h1,h2⟩,S2⟩,hk2⟩=>?_) λ_ _ x=>x.1
   have h1:v1=_:=h1
   have h2:σ2=_:=h2
   subst h1 h2
   have r2:=aP (g:=g) (c:=c) (ts:=[(.str (mk (unY u)),val1)]) (P:=P) (s:=s2) (o:=rW) (apos:=⟨732,42,732,73⟩) (pos:=⟨732,42,732,83⟩) (p1:=⟨732,74,732,77⟩) (p2:=⟨732,79,732,82⟩) (k1:=0) (k2:=0) (Q:=λx=>x.1=.str (mk (unY (pB false l)))/\x.2=rI3 (mk l) (mk o) (mk u) false) rfl rfl hk2 (E:=E)
    (wpAny_mono ((dJ O 20).1 rW (rI3 (mk l) (mk o) (mk u) false) (λx=>x.1=.str (mk (pB false l))/\x.2=rI3 (mk l) (mk o) (mk u) false) (by
     rw[jxB]
     refine bA (by rw[mk_len,vA];exact dA ‹_› (by decide)) ?_
     rw[mk_list]
     exact⟨rfl,rfl⟩) E _ P s2 S2) (λval s' ⟨v,σ',⟨h1,h2⟩,S'⟩=>by
     have h1:v=_:=h1
     have h2:σ'=_:=h2
     subst h1 h2
     have:=cN false l
     exact⟨mk (pB false l),_,⟨by rw[mk_len,vA];exact nqB hl this,by rw[mk_list],rfl⟩,S'⟩) λ_ _ x=>x)
   refine wpAny_mono r2 (λval2 s3 ⟨v2,σ3,⟨h1,h2⟩,S3⟩=>?_) λ_ _ x=>x
   have h1:v2=_:=h1
   have h2:σ3=_:=h2
   subst h1 h2
   obtain⟨t2,rfl⟩:=S3.getStr (.head _)
   obtain⟨t1,rfl⟩:=S3.getStr (.tail _ (.head _))
   refine ne_str (wpAny_truthy_bool ?_)
   have e:(mk (unY u) !=mk (unY (pB false l)))=(unY u !=unY (pB false l)):=pbA _ _
   rw[e]
   cases q:(unY u !=unY (pB false l))with
   |true=>exact⟨rfl,S3.drop.drop⟩
   |false=>exact wpAny_allTrue_Or_nil ⟨rfl,S3.drop.drop⟩
 refine wpAny_execs_cons (wpAny_mono (wpAny_toks hk (wpAny_If (Q:=λfl s'=>(fl=.next/\(a||unY u !=unY (pB false l))=false/\St g c (rI3 (mk l) (mk o) (mk u) a) [] P s')\/∃val,fl=.ret val/\St g c (rI3 (mk l) (mk o) (mk u) a) [(.bool true,val)] P s') (wpAny_mono go (λb s1 ⟨hb,S1⟩=>?_) λ_ _ x=>x))) (λfl s2 ⟨hq,hk2⟩=>?_) λ_ _ x=>x.1)
 ·induction b using Bool.casesOn with
  |true=>
   refine wpAny_execs_cons (wpAny_Return_some (wpAny_mono ((dJ O 20).1 (.Constant (.bool true) 0 ⟨733,15,733,19⟩) (rI3 (mk l) (mk o) (mk u) a) (λx=>x.1=.bool true/\x.2=rI3 (mk l) (mk o) (mk u) a) (by rw[hxB];exact⟨rfl,rfl⟩) E [] P s1 S1) (λval s' ⟨v,σ',⟨h1,h2⟩,S'⟩=>?_) λ_ _ x=>x))
   have h1:v=_:=h1
   have h2:σ'=_:=h2
   subst h1 h2
   exact .inr ⟨val,rfl,S'⟩
  |false=>exact wpAny_execs_nil (.inl ⟨rfl,hb.symm,S1⟩)
 ·rcases hq with⟨rfl,hB,S2⟩|⟨val,rfl,S2⟩
  ·rw[Bool.or_eq_false_iff]at hB
   exact nsA O X hl (h hB.1 (by have:=hB.2;simpa using this)) E P s2 hk2 hE S2
  ·exact⟨.bool true,_,rfl,.inr ⟨val,rfl⟩,S2⟩
end
theorem kxA {g:Gr}{c:Cx}{x:Str}{p pos:Pos}{e:Expr}{σ:AS}{Q:Out×AS->Prop}(hs:qN e=false)(hl:scK c.sc x=some .local)(h:EV g c e σ λv=>Q (.next,{v.2 with ρ:=pH x v.1 v.2.ρ})):ES g c (.Assign [.Name x p] e pos) σ Q:=λE ts P s ø S=>
 wpAny_Assign_Name (wpAny_mono (h E ts P s S) (λval s₁ o1=>by refine jB o1 λv σ₁ hq S₁=>?_;exact sN S₁ (.head _) hl λs' S'=>zA .next _ hq ⟨rfl,S'.drop⟩) λø ø x=>x) (wG hs _ _ _)
section
variable {g:Gr}{ex:Ex}{c:Cx}
theorem psA (O:mB g tIr c)(X:fI g){l o u:List Nat}(hl:l.length<=300)(hu:u.length<=400)(h:lL u=false->unY u=unY (pB false l)->eG l=o):EBR g c 1 [ir 6,ir 7,ir 8] (rI2 (mk l) (mk o) (mk u)) Right:=by
 have go:∀a,a=lL u->EBR g c 1 [ir 7,ir 8] (rI3 (mk l) (mk o) (mk u) a) Right:=λa ha=>osA O X hl hu λh1 h2=>h (ha▸h1) h2
 refine ebx O X _ nI3 ?_
 rw[ir6]
 dsimp only
 have e1:(mk u==("ization":Str))=(u==cp "ization"):=by
  have:=scA u "ization"
  unfold bne at this
  replace this:=(Bool.not_inj_iff ..).mp this
  exact this
 rw[kcB,kcB,kcB,e1]
 unfold lL at go
 refine cA (λh1=>?_) λh1=>cA (λh2=>cA (λh3=>?_) λh3=>?_) λh2=>?_
 ·rw[h1]
  exact go _ (by rw[h1];rfl)
 ·rw[h3]
  exact go _ (by
   have h3':(!sx "abli" u)=true:=h3
   simp only[h1,h2,h3'];rfl)
 ·exact go _ (by
   have h3':(!sx "abli" u)=false:=h3
   simp only[h1,h2,h3'];rfl)
 ·rw[h2]
  refine dC ?_
  exact go _ (by rw[h1,h2];rfl)
theorem wmA (G:GX g ex){n:Nat}(hc:CxOK c (n+11))(hs:c.sc=dIr.2.2){l:List Nat}(hl:l.length<=300)(hY:89∉l)(L:Law l):EBR g c 1 dIr.2.1 (rI0 (mk l)) Right:=by
 have O:mB g tIr c:=cG G (n:=n+11) (.cons ((agA G (n+1) (aY G n) (pT G n)).le mqB) (.cons ((cbA G (n+1) (aY G n) (pT G n)).le lqB) (.cons ((zfA G n).le kqB) .nil))) hc hs
 have X:=nD G
 have hf0:=cN false l
 have hf1:=cN true l
 have hw:okW (mk l)=true:=by
  unfold okW
  rw[mk_len,mk_list,oA,vA,aF,List.contains_eq_mem,decide_eq_false_iff_not]
  exact⟨hl,hY⟩
 have hl1:scK c.sc "one"=some .local:=by rw[hs];kernel_rfl
 have hl2:scK c.sc "PorterStemmer"=some .globalImplicit:=by rw[hs];kernel_rfl
 have hl3:scK c.sc "word"=some .local:=by rw[hs];kernel_rfl
 rw[skB,ir0]
 refine jL (kxA rfl hl1 (plA G (n:=n+1) hc rfl hw rfl hl2 hl3 ?_))
 rw[mk_list]
 show EBR g c 1 [ir 1,ir 2,ir 3,ir 4,ir 5,ir 6,ir 7,ir 8] (rI1 (mk l) (mk (oG l))) Right
 rw[ir1]
 have t1:((ai2 tIr 20).2 (whT (ir 1)) (rI1 (mk l) (mk (oG l)))).sat λx=>x.1=false/\x.2=rI1 (mk l) (mk (oG l)):=by
  rw[lxB]
  refine bA (by rw[mk_len,vA];exact dA ‹_› (by decide)) (bA (by rw[mk_len,mk_list,vA];exact faB hl hf0) ?_)
  rw[mk_list,mk_list,<-L.a]
  generalize oG l=o
  exact⟨by show(mk o !=mk o)=false;rw[pbA];simp,rfl⟩
 refine jL (cS O false t1 (λh=>(nof h)) λ_=>bJ ?_)
 refine ebx O X _ nI1 ?_
 rw[ir2]
 refine bA (uB (by rw[mk_len];exact dA ‹_› (by decide))) (cA (λh=>bA (by rw[mk_len,vA];exact hl) ?_) λh=>?_)
 ·have h:=bB h
  rw[mk_len]at h
  rw[mk_list,L.b (jqB h),iG,beq_self_eq_true]
  exact λ_ _=>rfl
 have h:=pF h
 rw[mk_len]at h
 have h3:3<=l.length:=by exact iqB h
 refine ebx O X _ nI1 ?_
 rw[ir3,xgA h3]
 have e:inS ("y":Str) (mk (aQ l))=decide (121∈aQ l):=by
  rw[show("y":Str)=mk [121] by decide]
  exact xP _ _
 rw[e]
 refine bA (uB (by rw[mk_len];exact hqB hl)) (cA (λh=>λ_ _=>rfl) λh=>?_)
 have hm:=pF h
 refine ebx O X _ nI2 ?_
 rw[ir4]
 refine bA (by rw[mk_len,vA];exact gqB hl) ?_
 rw[mk_list]
 refine ebx O X _ nI2 ?_
 rw[ir5]
 refine bA (by rw[mk_len,vA];exact hl) (bA (by rw[mk_len,vA];exact faB hl hf1) ?_)
 rw[mk_list,mk_list,pbA,<-L.c h3 hm]
 have fin:EBR g c 1 [ir 6,ir 7,ir 8] (rI2 (mk l) (mk (oG l)) (mk (pB true l))) Right:=psA O X hl (fqB hl hf1) λh1 h2=>L.d h3 hm h1 h2
 generalize eG l=z at*
 have e2:(z !=z)=false:=by simp
 rw[e2]
 exact dC fin
end
section
variable {prog:Program}{w:World}{A₀ A:Around}{s:Shared}{base h₀ g₀:Heap}{outer:List Env}{L:Addr}{m:Str->Option Value}{env:Env}{news:List (Addr×Obj)}{K:Frag}{p:Program}{loose:List Str}{mean:ExcName->Option Value}{mg mb:Str->Option Value}
 {R:Result->Shared->Prop} {name qual:Str} {params:Arguments} {body:List Stmt} {scope:Scope} {dV kV doc pm cdv ct oc:Value} {an od:Option Addr} {osl:Array (Option Value)} {f:Addr} {args:Args} {binds:List (Str×Value)}
theorem giA (B:Below A₀ base outer h₀)(F:Fr h₀ L s.heap m)(X₀:K.In h₀)(N:News h₀ L s.heap news)(T:Top p loose mean mg mb h₀)(XB:K.In base)(TB:Top p loose mean mg mb base)(D:KtsDicts (outer.filterMap (·.frame)) h₀)
  (T0:KtsTurn (outer.filterMap (·.frame)) g₀ h₀) (hA:A.frames=some (env::outer)) (hf:env.frame=some L) (hke:env.scope.kind=.function)
  (ho:K.lookup f=some ⟨oc,od,.func (fnOf name qual params body scope dV kV doc pm an cdv ct),osl⟩) (hcd:codeIn K cdv qual=true) (hroom:A.depth<recursionLimit)
  (hbind:BindsTo s (fnOf name qual params body scope dV kV doc pm an cdv ct) args binds) (hloc:∀y∈binds,scope.names.lookup y.1=some .local)
  (h:∀g L' h₁,Fr h₀ L g m->Fr g L' h₁ (λy=>binds.reverse.lookup y)->News g L' h₁ news->Below A base (env::outer) g->K.In g->Top p loose mean mg mb g->KtsDicts ((env::outer).filterMap (·.frame)) g->(∀b o,s.heap.get? b=some o->b∉news.map (·.1)->g.get? b=some o)->
   wpAny (model prog w) (A.deeper (envOf qual scope L' f cdv)) (execs body (envOf qual scope L' f cdv))
    (λfl s'=>LeaveS ((env::outer).filterMap (·.frame)) A₀ base outer K p loose mean mg mb g₀ h₀ L m g R (match fl with| .ret v=>v|ø=>.none) s')
    (λe s'=>wpAny (model prog w) (A.deeper (envOf qual scope L' f cdv)) («leaving» (envOf qual scope L' f cdv) e) (λø s''=>R (.error e) s'') (λe' s''=>R (.error e') s'') s')
    {s with heap:=h₁,toks:=s.toks+binds.length})
  (hco:scope.isCoroutine=false) (hgen:scope.isGenerator=false) (hk:scope.kind=.function)
  (hcell:∀x∈scope.names,x.2≠.cell):codeAny (model prog w) A (.call (.ref f) args) R s:=by
 have X:=X₀.keeps F.keep
 refine qaA (nW (R:=R) B F N XB TB D T0 hA hf hke) λFG BG st DG lv=>?_
 refine codeAny_call_def (fd:=fnOf name qual params body scope dV kV doc pm an cdv ct) (body:=body) (binds:=binds) hroom (X _ _ ho) rfl (T.nolimit.keeps F.keep) (codeRec_of X hcd) rfl hbind hcell hloc (λh₁ hns hk₁=>?_) hco hgen hk
 exact wpAny_mono (h _ s.heap.objs.size h₁ FG ⟨hns,λb o e=>hk₁ b o (of_hideAll _ e),jE (hideAll_size _ _)⟩
  (λp hp=>cF (hk₁ _ _ (N p hp).1) (Nat.ne_of_lt (Heap.lt_size (N p hp).1)) (hideAll_none _ (List.mem_map_of_mem hp))) BG (X₀.keeps st) (T.keeps st) DG λb o e n=>hideAll_get _ e n) (λfl s' hl=>lv _ _ hl) λø ø y=>y
end
noncomputable def StA (g:Gr)(c:Cx)(σ:AS)(P:List (Addr×Obj))(av:List Addr)(s:Shared):Prop:=
 ∃b m mo rest,StN g c m (mo++rest) s.heap b/\MutR g rest σ.μ mo/\LR g rest m σ.ρ/\(∀p∈P,p∈rest)/\s.gens=g.gens/\s.os=g.os/\(∀p∈mo++rest,p.1∉av)/\(∀a∈av,@LT.lt Nat _ c.L a)/\∀a∈av,∃o,s.heap.get? a=some o
section
variable {g:Gr}{ex:Ex}{n:Nat}{c:Cx}{σ:AS}{P:List (Addr×Obj)}{av:List Addr}{s:Shared}
theorem StA.st (S:StA g c σ P av s):St g c σ [] P s:=by
 refine abB S λb m mo rest a1 a2 a3 a4 a5 a6 ø=>?_
 exact lD b m mo rest ⟨a1,a2,a3,λt ht=>(nomatch ht),a4,a5,a6⟩
theorem StA.of (S:St g c σ [] P s):StA g c σ P [] s:=by
 refine St.el S λb m mo rest a1 a2 a3 a4 a5 a6 a7=>?_
 exact lhA b m mo rest a1 a2 a3 a5 a6 a7 (λø ø h=>by cases h) (λø h=>by cases h) (λø h=>by cases h)
theorem StA.pin (S:StA g c σ P av s){p:Addr×Obj}(hp:p∈P):s.heap.get? p.1=some p.2:=by
 refine abB S λb m mo rest a1 a2 a3 a4 a5 a6 ø=>?_
 exact(a1.N p (eE _ (a4 p hp))).1
theorem StA.change (S:StA g c σ P av s){h':Heap}{tk:Nat}(k:∀b o,b∉av->s.heap.get? b=some o->h'.get? b=some o)(l:∀a∈av,∃o,h'.get? a=some o):StA g c σ P av {s with heap:=h',toks:=tk}:=by
 refine rQ S λb m mo rest a1 a2 a3 a4 a5 a6 a7 a8 a9=>?_
 have hL:c.L∉av:=λh=>Nat.lt_irrefl _ (a8 _ h)
 have hb:∀a o,b.get? a=some o->a∉av:=λa o e h=>Nat.lt_irrefl _ (cE (Heap.lt_size e) (dA a1.F.above (iC (a8 a h))))
 exact lhA b m mo rest ⟨a1.B,a1.turn,a1.D,⟨a1.F.ns.at' λo e=>k _ o hL e,λa o e=>k a o (hb a o e) (a1.F.keep a o e),a1.F.above⟩,λp hp=>⟨k _ _ (a7 p hp) (a1.N p hp).1,(a1.N p hp).2⟩⟩ a2 a3 a4 a5 a6 a7 a8 l
theorem StA.push (S:StA g c σ P av s){h':Heap}{tk:Nat}{a:Addr}(h:s.heap.objs.size<=a)(k:∀b o,s.heap.get? b=some o->h'.get? b=some o)(ha:∃o,h'.get? a=some o):StA g c σ P (a::av) {s with heap:=h',toks:=tk}:=by
 refine rQ S λb m mo rest a1 a2 a3 a4 a5 a6 a7 a8 a9=>?_
 refine lhA b m mo rest ⟨a1.B,a1.turn,a1.D,a1.F.keeps k,a1.N.grown k⟩ a2 a3 a4 a5 a6 (λp hp q=>?_) (λx hx=>?_) (λx hx=>?_)
 ·refine Or.elim (xB q) (λq=>?_) λq=>?_
  ·have:@LT.lt Nat _ p.1 s.heap.objs.size:=Heap.lt_size (a1.N p hp).1
   rw[q]at this
   exact Nat.lt_irrefl _ (cE this h)
  ·exact a7 p hp q
 ·rcases xB hx with rfl|hx
  ·exact cE a1.F.ns.lt h
  ·exact a8 x hx
 ·rcases xB hx with rfl|hx
  ·exact ha
  ·refine iB (a9 x hx) λo ho=>?_
   exact yC o (k _ _ ho)
theorem wZ (hK:g.K=KX g.w.params ex){a:Addr}{d:Arguments×List Stmt×Scope}{ps:List Str}(Rc:qA a d ps){vs:List V}(hlen:vs.length=ps.length){k:Nat}{R:V->Mu->Prop}
  (hb:∀c,CxOK c n->c.sc=d.2.2->EBR g c k d.2.1 ⟨ps.zip vs,σ.μ⟩ λø v ø μ=>R v μ) {e:Env} (hf:e.frame=some c.L) (hke:e.scope.kind=.function) (hc:CxOK c (n+1))
  (E:Value->Shared->Prop) (vals:List Value) (htk:k<=s.toks+ps.length) (hl:vs.length=vals.length) (hv:∀t∈vs.zip vals,∀rest,VR g rest t.1 t.2) (S:StA g c σ P av s):
  wpAny g.M (c.A₀.deeper e) (call (.ref a) vals) (λval s'=>∃v μ' rest,R v μ'/\VR g rest v val/\StA g c {σ with μ:=μ'} P av s'/\∀x∈av,∀o,s.heap.get? x=some o->s'.heap.get? x=some o) E s:=by
 refine paA (Rc.lk g.w.params ex) λnm qual mod cdv e1 e2=>?_
 have sc:=Rc.sc
 simp only[oA,aF,beq_iff_eq,List.all_eq_true,bne_iff_ne,ne_eq]at sc
 refine rQ S λb m mo rest a1 a2 a3 a5 a6 a7 a8 a9 a10=>?_
 have hvl:vals.length=ps.length:=hl.symm.trans hlen
 have hbind:=Rc.bind nm qual mod cdv vals hvl
 refine wpAny_call (giA (A:=c.A₀.deeper e) (A₀:=c.A₀) (base:=g.base) (outer:=c.outer) (K:=g.K) (g₀:=c.g₀) (binds:=ps.zip vals) a1.B a1.F a1.X a1.N a1.T g.X g.T a1.D a1.turn (Around.frames_deeper a1.B.stack) hf hke (by simp only[hK];exact e1) (by rw[hK];exact e2)
  (by have:=hc.depth;exact ar6 this) (.of_eq hbind) (λy hy=>beq_iff_eq.mp (fC Rc.loc _ (List.of_mem_zip hy).1)) (λG L' h₁ F0 F1 N1 B1 X1 T1 D1 hid=>?_) sc.1.1.1 sc.1.1.2 sc.1.2 λx hx=>sc.2 x hx)
 let c':Cx:=⟨c.A₀.deeper e,e::c.outer,qual,d.2.2,L',a,cdv,G,sc.1.2⟩
 have hc':CxOK c' n:=⟨by have:=hc.depth;exact ar7 this,hc.handled,by have:=hc.units;exact ar8 this⟩
 have S':St g c' ⟨ps.zip vs,σ.μ⟩ [] rest {s with heap:=h₁,toks:=s.toks+(ps.zip vals).length}:=by
  refine lD G _ mo rest ⟨⟨B1,.refl,D1,F1,N1⟩,a2,λx v hx=>?_,λt ht=>(nomatch ht),λp hp=>hp,a6,a7⟩
  refine iA (rK hl hx) λval e hm=>?_
  refine jA val ?_ (hv _ hm _)
  show(ps.zip vals).reverse.lookup x=some val
  refine qDzq (qK Rc.nd ..) ?_
  exact e
 have hfs:∀x∈av,x∉(e::c.outer).filterMap (·.frame):=λx hx hm=>by
  rw[pW hf]at hm
  refine Or.elim (xB hm) (λq=>?_) λhm=>?_
  ·have:@LT.lt Nat _ c.L x:=a9 x hx
   simp only[q]at this
   exact Nat.lt_irrefl _ this
  ·refine gA (a1.B.frames.mem hm) λø o2=>?_;refine iA o2 λo ho ø=>?_
   exact Nat.lt_irrefl _ (cE (Heap.lt_size ho) (dA a1.F.above (iC (a9 x hx))))
 have fin:∀(v:V) (val:Value) (σ':AS) (s':Shared),R v σ'.μ->St g c' σ' [(v,val)] rest s'->LeaveS ((e::c.outer).filterMap (·.frame)) c.A₀ g.base c.outer g.K g.p g.loose g.mean g.mg g.mb c.g₀ b c.L m G
   (λr s'=>match r with| .ok (.ret val)=>∃v μ' rest,R v μ'/\VR g rest v val/\StA g c {σ with μ:=μ'} P av s'/\∀x∈av,∀o,s.heap.get? x=some o->s'.heap.get? x=some o| .ok ø=>False| .error e=>E e s') val s':=λv val σ' s' hq hS=>by
  refine St.el hS λb' m' mo' rest' b1 b2 b3 b4 b5 b6 b7=>?_
  have seen:∀x∈av,∀o,s.heap.get? x=some o->b'.get? x=some o:=λx hx o ho=>b1.turn.other x o (hid x o ho λhm=>by
   refine iA (List.mem_map.mp hm) λp hp e=>?_
   exact a8 p hp (e▸hx)) (hfs x hx)
  have size:b'.objs.size=G.objs.size:=b1.turn.size
  refine leaveS_r b1.F b1.N b1.turn λh₀' k1 k2 k3 k4 k5 k6 k7=>oZ v σ'.μ rest' hq (b4 _ (.head _)) (lhA h₀' m mo' rest' ⟨k4,k1,k7,k2,k3⟩ b2 (λx u hx=>?_) (λp hp=>b5 p (a5 p hp)) b6 b7 (λp hp hx=>?_) a9 (λx hx=>?_)) (λx hx o ho=>b1.F.keep x o (seen x hx o ho))
  ·refine iA (a3 x u hx) λw hw hr=>?_
   exact jA w hw (hr.mono b5)
  ·refine iB (a10 _ hx) λo ho=>?_
   have:=(b1.N p hp).2.2
   rw[seen _ hx o ho]at this
   injection this
  ·refine iB (a10 x hx) λo ho=>?_
   exact⟨o,b1.F.keep x o (seen x hx o ho)⟩
 have hE:PassesOwn g.M c'.A c'.env (λe s'=>wpAny g.M c'.A («leaving» c'.env e) (λø s''=>(match(Except.error e:Result)with| .ok (.ret val)=>∃v μ' rest,R v μ'/\VR g rest v val/\StA g c {σ with μ:=μ'} P av s''/\∀x∈av,∀o,s.heap.get? x=some o->s''.heap.get? x=some o| .ok ø=>False| .error e=>E e s''))
   (λe' s''=>(match(Except.error e':Result)with| .ok (.ret val)=>∃v μ' rest,R v μ'/\VR g rest v val/\StA g c {σ with μ:=μ'} P av s''/\∀x∈av,∀o,s.heap.get? x=some o->s''.heap.get? x=some o| .ok ø=>False| .error e=>E e s'')) s'):=PassesOwn.leaving (Q₁:=λe s''=>E e s'')
 refine wpAny_mono (hb c' hc' rfl _ rest _ (by show k<=s.toks+(ps.zip vals).length;simp only[List.length_zip,hvl,Nat.min_self];exact htk) hE S') (λfl s' ⟨v,σ',hq,hfl,hr⟩=>?_) λø ø x=>x
 rcases hfl with rfl|⟨val,rfl⟩
 ·exact fin v .none σ' s' hq hr
 ·exact fin v val σ' s' hq hr
end
end Mine
namespace Mine
open PySem PySem.W PySem.Calls PyProof.Rows
open PyProof.Rows.LCg (NsObj ns_obj lst_snoc)
noncomputable abbrev xJ (ys:List Value):Obj:={cls:=.type "list",data:=.seq ys.toArray ys.length}
section
variable {g:Gr}{c:Cx}{ρ:List (Str×V)}{μ:Mu}{P:List (Addr×Obj)}{av:List Addr}{s:Shared}{A:Around}{E:Value->Shared->Prop}
noncomputable abbrev oaA (av:List Addr)(s s':Shared):Prop:=∀a∈av,∀o,s.heap.get? a=some o->s'.heap.get? a=some o
theorem StA.change' {av':List Addr}(S:StA g c ⟨ρ,μ⟩ P av s)(hs:∀a∈av',a∈av){h':Heap}{tk:Nat}(k:∀b o,b∉av->s.heap.get? b=some o->h'.get? b=some o)(l:∀a∈av',∃o,h'.get? a=some o):StA g c ⟨ρ,μ⟩ P av' {s with heap:=h',toks:=tk}:=by
 refine rQ S λb m mo rest a1 a2 a3 a4 a5 a6 a7 a8 a9=>?_
 have hL:c.L∉av:=λh=>Nat.lt_irrefl _ (a8 _ h)
 have hb:∀a o,b.get? a=some o->a∉av:=λa o e h=>Nat.lt_irrefl _ (cE (Heap.lt_size e) (dA a1.F.above (iC (a8 a h))))
 exact lhA b m mo rest ⟨a1.B,a1.turn,a1.D,⟨a1.F.ns.at' λo e=>k _ o hL e,λa o e=>k a o (hb a o e) (a1.F.keep a o e),a1.F.above⟩,λp hp=>⟨k _ _ (a7 p hp) (a1.N p hp).1,(a1.N p hp).2⟩⟩ a2 a3 a4 a5 a6 (λp hp q=>a7 p hp (hs _ q)) (λa ha=>a8 a (hs a ha)) l
theorem StA.live (S:StA g c ⟨ρ,μ⟩ P av s):∀a∈av,∃o,s.heap.get? a=some o:=by
 refine rQ S λb m mo rest a1 a2 a3 a4 a5 a6 a7 a8 a9=>?_
 exact a9
theorem dfA {elt iter:Expr}{ifs:List Expr}{x:Str}{px:Pos}{scope:Scope}{cl:List (Str×Addr)}{pos:Pos}{e:Env}{I:Addr}{fp:List Addr}{n:Nat}{PP:Nat->Value->Prop}{Si:Nat->Heap->Prop}{RR:Value->Addr->Result->Shared->Prop}
  (W:Walks g.prog g.w A I fp [I] n PP Si) (hsz:n<=sizeLine) (hIo:∀i h,Si i h->∃o,h.get? I=some o)
  (hSi:∀i h h',Si i h->(∀o,h.get? I=some o->h'.get? I=some o)->(∀p∈P,h'.get? p.1=some p.2)->Si i h')
  (hcell:∀y∈scope.names,y.2≠.cell) (hkind:scope.kind=.function) (hx:scope.names.lookup x=some .local) (hst:Si 0 s.heap) (hfp:∀b∈fp,@LT.lt Nat _ b s.heap.objs.size)
  (S:StA g c ⟨ρ,μ⟩ P (I::av) s) (hIav:I∉av) (Inv:Nat->List Value->Mu->Prop) (h0:Inv 0 [] μ) (hlen:∀i ys μ,Inv i ys μ->ys.length<=i)
  (step:∀i v ys μ' D C s' m₂ (E':Value->Shared->Prop),i<n->PP i v->Inv i ys μ'->StA g c ⟨ρ,μ'⟩ P (C::D::I::av) s'->s'.heap.Ns C m₂->m₂ x=some v->
   wpAny g.M A (forIn ifs true λq r=>if r=true then do let ok <-isTrue q (compEnvC scope cl C e) (eval q (compEnvC scope cl C e));pure (ForInStep.yield ok)else pure (ForInStep.yield r)) (λok s''=>
    if ok=true then wpAny g.M A (eval elt (compEnvC scope cl C e)) (λy s3=>∃μ'',Inv (i+1) (ys++[y]) μ''/\StA g c ⟨ρ,μ''⟩ P (C::D::I::av) s3/\oaA (C::D::I::av) s' s3) E' s''
    else ∃μ'',Inv (i+1) ys μ''/\StA g c ⟨ρ,μ''⟩ P (C::D::I::av) s''/\oaA (C::D::I::av) s' s'') E' s')
  (fin:∀D C s' μ' ys m',Inv n ys μ'->StA g c ⟨ρ,μ'⟩ P (C::D::av) s'->s'.heap.get? D=some (xJ ys)->s'.heap.Ns C m'->C≠D->RR (.ref D) C (.ok .next) s'):
  wpAny g.M A (newList []) (λacc s₃=>wpAny g.M A (newFunctionEnv scope e.globals cl [] e.qual none .none (some e)) (λcenv s₄=>
   codeAny g.M A (.compStart (.ListComp elt [⟨.Name x px,iter,ifs,0⟩] scope pos) 0 (.ref I) acc {cenv with scope:=relabel scope e}) (RR acc cenv.locals) s₄) E s₃) E s:=by
 refine wpAny_newObj_type (wpAny_newFunctionEnv hcell (by intro y hy;simp at hy) (λh₁ hns₁ hsb₁=>?_) hkind)
 dsimp only at hns₁ hsb₁ ⊢
 generalize hH2:s.heap.push {cls:=.type "list",dict:=none,data:=.seq ([]:List Value).toArray}=H2 at hns₁ hsb₁ ⊢
 have hC:H2.objs.size=s.heap.objs.size+1:=by rw[<-hH2,Heap.size_push]
 have hDC:s.heap.objs.size≠H2.objs.size:=by rw[hC];exact Nat.ne_of_lt (Nat.lt_succ_self _)
 have below:∀b,@LT.lt Nat _ b s.heap.objs.size->b≠H2.objs.size/\b≠s.heap.objs.size:=λb hb=>eB (by rw[hC];exact Nat.ne_of_lt (Nat.lt_succ_of_lt hb)) (Nat.ne_of_lt hb)
 have hDf:s.heap.objs.size∉fp:=λhm=>Nat.lt_irrefl _ (hfp _ hm)
 have hCf:H2.objs.size∉fp:=λhm=>by have:=hfp _ hm;simp only[hC]at this;exact Nat.lt_irrefl _ (Nat.lt_of_succ_lt this)
 have hIf:I∈fp:=W.sub I (List.mem_singleton.mpr rfl)
 have hIlt:=hfp I hIf
 have old:∀b o,s.heap.get? b=some o->h₁.get? b=some o:=λb o e=>hsb₁.extBut b o (below b (Heap.lt_size e)).1 (Heap.get?_push_of_some _ (hH2▸Heap.get?_push_of_some _ e))
 have hacc:h₁.get? s.heap.objs.size=some (xJ []):=hsb₁.extBut _ _ hDC (Heap.get?_push_of_some _ (hH2▸Heap.get?_push_size _ rfl))
 have hst₁:Si 0 h₁:=W.frame _ _ _ hst λb _ o e=>old b o e
 have hCI:I≠H2.objs.size:=(below I hIlt).1
 have hDI:I≠s.heap.objs.size:=(below I hIlt).2
 have hCobj:∃o,h₁.get? H2.objs.size=some o:=by refine ofA hns₁ λo ø ø ho ø=>?_;exact yC o ho
 generalize hD:s.heap.objs.size=D at*
 generalize hCe:H2.objs.size=C at*
 have S₁:∀tk,StA g c ⟨ρ,μ⟩ P (C::D::I::av) {s with heap:=h₁,toks:=tk}:=λtk=>by
  have z1:StA g c ⟨ρ,μ⟩ P (D::I::av) {s with heap:=H2,toks:=tk}:=S.push (by rw[hD];exact vD _) (λb o e=>hH2▸Heap.get?_push_of_some _ e) (yC _ (hH2▸hD▸Heap.get?_push_size _ rfl))
  refine StA.push (s:={s with heap:=H2,toks:=tk}) z1 (by rw[<-hCe];exact vD _) (λb o e=>?_) hCobj
  have hlt:@LT.lt Nat _ b H2.objs.size:=Heap.lt_size e
  exact hsb₁.extBut b o (λq=>by simp only[q,hCe]at hlt;exact Nat.lt_irrefl _ hlt) (Heap.get?_push_of_some _ e)
 have loop:∀s₃:Shared,s₃={s with heap:=h₁,toks:=s.toks+([]:List (Str×Value)).length}->
   codeAny g.M A (.compLoop (.ListComp elt [⟨.Name x px,iter,ifs,0⟩] scope pos) 0 (.ref I) (.ref D) (compEnvC scope cl C e)) (RR (.ref D) C) s₃:=by
  intro s₃ o1;obtain rfl:=o1
  refine codeAny_compLoop_tests
   (λk s'=>∃i ys μ' m',i<=n/\k=n+1-i/\Inv i ys μ'/\Si i s'.heap/\StA g c ⟨ρ,μ'⟩ P (C::D::I::av) s'/\s'.heap.get? D=some (xJ ys)/\s'.heap.Ns C m') ?_ (n+1)
   (rfB 0 ([]) μ _ (rC _) rfl h0 hst₁ (S₁ _) hacc hns₁)
  intro k s' o2;refine abB o2 λi ys μ' m' hi o5 hinv hst' S' hD' hn'=>?_;obtain rfl:=o5
  by_cases hlt:i<n
  ·refine W.item i _ _ _ hlt hst' λv h₂ tk₂ hPv hst₂ hk₂=>?_
   have hD2:h₂.get? D=some (xJ ys):=hk₂ _ _ (by simpa using Ne.symm hDI) hD'
   have S₂:StA g c ⟨ρ,μ'⟩ P (C::D::I::av) {s' with heap:=h₂,toks:=tk₂}:=S'.change (λb o hb e=>hk₂ b o (λq=>hb (oH q▸by simp)) e) λa ha=>by
    by_cases q:a=I
    ·rw[q];exact hIo _ _ hst₂
    ·refine iB (S'.live a ha) λo ho=>?_
     exact yC o (hk₂ a o (by simpa using q) ho)
   refine wpAny_assign_Name (wpAny_storeName_local (lookup_relabel_local hx) (hn'.at' λo e=>hk₂ _ o (by simpa using Ne.symm hCI) e) (λh₃ hn₃ hs₃=>?_) (by simp[compEnvC,relabel,hkind]))
   have hs₃:Heap.SameBut C h₂ h₃:=hs₃
   have hn₃:h₃.Ns C (λy=>if y=x then some v else m' y):=hn₃
   have hst₃:Si (i+1) h₃:=W.frame _ _ _ hst₂ λb hb o e=>hs₃.extBut b o (λq=>hCf (q▸hb)) e
   refine iA (ns_obj hn₃) λoC heC hoC=>?_
   have S₃:StA g c ⟨ρ,μ'⟩ P (C::D::I::av) {s' with heap:=h₃,toks:=tk₂+1}:=StA.change (s:={s' with heap:=h₂,toks:=tk₂}) S₂ (λb o hb e=>hs₃.extBut b o (λq=>hb (q▸by simp)) e) λa ha=>by
    by_cases q:a=C
    ·rw[q];exact yC oC heC
    ·refine iB (S₂.live a ha) λo ho=>?_
     exact yC o (hs₃.extBut a o q ho)
   have hD3:h₃.get? D=some (xJ ys):=hs₃.extBut _ _ hDC hD2
   have done:∀s4 μ'',StA g c ⟨ρ,μ''⟩ P (C::D::I::av) s4->oaA (C::D::I::av) {s' with heap:=h₃,toks:=tk₂+1} s4->Si (i+1) s4.heap/\s4.heap.get? D=some (xJ ys)/\s4.heap.Ns C (λy=>if y=x then some v else m' y):=λs4 μ'' S4 K4=>
    cF (hSi _ _ _ hst₃ (λo ho=>K4 I (by simp) o ho) (λp hp=>S4.pin hp)) (K4 D (by simp) _ hD3) (hoC.ns (K4 C (by simp) _ heC))
   refine wpAny_mono (step i v ys μ' D C _ _ _ hlt hPv hinv S₃ hn₃ (by simp)) (λok s4 h4=>?_) λ_ _ e=>e
   induction ok using Bool.casesOn with
   |true=>
    simp only[if_true]at h4 ⊢
    refine wpAny_mono h4 (λy s5 ⟨μ'',i5,S5,K5⟩=>?_) λ_ _ e=>e
    refine vH (done s5 μ'' S5 K5) λd1 d2 d3=>?_
    have:=hlen _ _ _ i5
    simp only[vC,List.length_singleton]at this
    refine append_at (hsz:=by show ys.toArray.size<=sizeLine;rw[List.size_toArray];exact eqB hsz hlt this) d2 λh₅ hs₅ hD₅=>?_
    refine jA (n+1-(i+1)) (by exact Nat.sub_lt_sub_left (Nat.lt_succ_of_lt ‹_›) (Nat.lt_succ_self _)) (rfB (i+1) (ys++[y]) μ'' _ hlt rfl i5 (W.frame _ _ _ d1 λb hb o e=>hs₅.extBut b o (λq=>hDf (q▸hb)) e) (S5.change (tk:=s5.toks) (λb o hb e=>hs₅.extBut b o (λq=>hb (q▸by simp)) e) λa ha=>?_) (hD₅.trans (congrArg some (lst_snoc ys y))) (d3.sameBut hs₅ (Ne.symm hDC)))
    by_cases q:a=D
    ·rw[q];exact yC _ hD₅
    ·refine iB (S5.live a ha) λo ho=>?_
     exact yC o (hs₅.extBut a o q ho)
   |false=>
    simp only[Bool.false_eq_true,if_false]at h4 ⊢
    refine oM h4 λμ'' i5 S5 K5=>?_
    refine vH (done s4 μ'' S5 K5) λd1 d2 d3=>?_
    exact jA (n+1-(i+1)) (by exact Nat.sub_lt_sub_left (Nat.lt_succ_of_lt ‹_›) (Nat.lt_succ_self _)) (rfB (i+1) ys μ'' _ hlt rfl i5 d1 S5 d2 d3)
  ·obtain rfl:i=n:=Nat.le_antisymm hi (Nat.not_lt.mp hlt)
   refine W.done _ _ _ hst' λh₂ tk₂ hk₂=>?_
   have hD2:h₂.get? D=some (xJ ys):=hk₂ _ _ (by simpa using Ne.symm hDI) hD'
   refine fin D C _ μ' ys m' hinv (S'.change' (λa ha=>?_) (λb o hb e=>hk₂ b o (λq=>hb (oH q▸by simp)) e) λa ha=>?_) hD2 (hn'.at' λo e=>hk₂ _ o (by simpa using Ne.symm hCI) e) (Ne.symm hDC)
   ·simp only[List.mem_cons]at ha ⊢
    rcases ha with rfl|rfl|ha
    ·exact .inl rfl
    ·exact .inr (.inl rfl)
    ·exact .inr (.inr (.inr ha))
   ·have hm:a∈C::D::I::av:=by
     simp only[List.mem_cons]at ha ⊢
     rcases ha with rfl|rfl|ha
     ·exact .inl rfl
     ·exact .inr (.inl rfl)
     ·exact .inr (.inr (.inr ha))
    refine iB (S'.live a hm) λo ho=>?_
    refine yC o (hk₂ a o (λq=>?_) ho)
    have q:=oH q
    subst q
    simp only[List.mem_cons]at ha
    refine Or.elim ha (λq=>?_) λh=>h.elim (λq=>?_) λq=>?_
    ·exact hCI q
    ·exact hDI q
    ·exact hIav q
 exact codeAny_compStart_list (loop _ rfl) (W.self 0 _ _ _ hst₁ (loop _ rfl))
end
end Mine
namespace Mine
open PySem PySem.W PySem.Calls PyProof.Rows
noncomputable def dRd:Df:=eA 30
noncomputable def hjB:Scope:={kind:=.function,names:=[(".0",.local),("x",.local),("abs",.globalImplicit),("int",.globalImplicit)],isGenerator:=false,isCoroutine:=false}
noncomputable def nzA:Expr:=.BinOp (.Call (.Name "abs" ⟨628,20,628,23⟩) [.Call (.Name "int" ⟨628,24,628,27⟩) [.Name "x" ⟨628,28,628,29⟩] [] ⟨628,24,628,30⟩] [] ⟨628,20,628,31⟩) .Mod (.Constant (.int 100003) 0 ⟨628,34,628,40⟩) ⟨628,20,628,40⟩
noncomputable def ugB:Expr:=.ListComp nzA [⟨.Name "x" ⟨628,45,628,46⟩,.Subscript (.Name "script" ⟨628,50,628,56⟩) (.Slice none (some (.Constant (.int 40) 0 ⟨628,58,628,60⟩)) none ⟨628,57,628,60⟩) ⟨628,50,628,61⟩,[],0⟩] hjB ⟨628,19,628,62⟩
noncomputable def xbA:List (Option Expr):=[some (.Constant (.str "row") 0 ⟨628,12,628,17⟩),some (.Constant (.str "at") 0 ⟨628,64,628,68⟩)]
noncomputable def fjA:List Expr:=[ugB,.Constant (.int 0) 0 ⟨628,70,628,71⟩]
theorem jgB:dRd.2.1=[.Return (some (.Dict xbA fjA ⟨628,11,628,72⟩)) ⟨628,4,628,72⟩]:=by kernel_rfl
theorem xhB (P:Params)(ex:Ex):(nsIn (KX P ex) mainGlobals "abs"==some none)=true:=by kernel_rfl
theorem qfB (P:Params)(ex:Ex):(nsIn (KX P ex) mainGlobals "int"==some none)=true:=by kernel_rfl
theorem tpA:bootBuiltins "abs"=some (.builtin "abs"):=by kernel_rfl
theorem bnA:bootBuiltins "int"=some (.type "int"):=by kernel_rfl
section
variable {M:Model}{A:Around}{E:Value->Shared->Prop}{s:Shared}{K:Frag}{h₀:Heap}{mg mb:Str->Option Value}{e:Env}{p:Program}{loose:List Str}{x:Str}{pos:Pos}{v:Value}{Q:Value->Shared->Prop}
theorem ieA (kp:∀b o,h₀.get? b=some o->s.heap.get? b=some o)(X:K.In h₀)(T:TopRead p loose mg mb h₀)(en:nsIn K mainGlobals x=some none)(hv:bootBuiltins x=some v)(hn:x≠"__name__")(h:Q v s)
  (hk:e.scope.kind=.function) (hx:e.kindOf x=some .globalImplicit) (hg:e.globals=mainGlobals) (hb:e.builtins=builtinsNs) (hd:(x==("__debug__":Str))=false):wpAny M A (eval (.Name x pos) e) Q E s:=
 Name_function_global hk hx (loadGlobal_builtin (by rw[hg];exact T.g.keeps kp) (mg_none_of X T.g en) (by rw[hb];exact T.b.keeps kp) ((T.builtins x hn).trans hv) h) hd
theorem nameG_K (kp:∀b o,h₀.get? b=some o->s.heap.get? b=some o)(X:K.In h₀)(T:TopRead p loose mg mb h₀)(en:nsIn K mainGlobals x=some (some v))(h:Q v s)
  (hk:e.scope.kind=.function) (hx:e.kindOf x=some .globalImplicit) (hg:e.globals=mainGlobals) (hd:(x==("__debug__":Str))=false):wpAny M A (eval (.Name x pos) e) Q E s:=
 Name_function_global hk hx (loadGlobal_global (by rw[hg];exact T.g.keeps kp) (mg_of X T.g en) h) hd
end
theorem zdB {prog:Program}{w:World}{A:Around}{E:Value->Shared->Prop}{s:Shared}{K:Frag}{h₀:Heap}{mg mb:Str->Option Value}{e:Env}{p:Program}{loose:List Str}{m:Str->Option Value}{a:Int}{u:Tok}
  (kp:∀b o,h₀.get? b=some o->s.heap.get? b=some o) (X:K.In h₀) (T:TopRead p loose mg mb h₀) (e1:nsIn K mainGlobals "abs"=some none) (e2:nsIn K mainGlobals "int"=some none)
  (hk:e.scope.kind=.function) (hx1:e.kindOf "abs"=some .globalImplicit) (hx2:e.kindOf "int"=some .globalImplicit) (hx3:e.kindOf "x"=some .local) (hg:e.globals=mainGlobals) (hb:e.builtins=builtinsNs) (hns:s.heap.Ns e.locals m) (hv:m "x"=some (.int a u)):
  wpAny (model prog w) A (eval nzA e) (λy s3=>Carried y (.int ((if a<0 then-a else a).fmod 100003))/\Keeps s s3) E s:=by
 refine wpAny_BinOp (wpAny_Call_ofName ?_)
 refine ieA kp X T e1 tpA (by decide) ?_ hk hx1 hg hb (by decide)
 refine callWith_builtin rfl ?_
 refine evalArgs_plain ?_
 refine spliced_cons ?_
 refine wpAny_Call_ofName ?_
 refine ieA kp X T e2 bnA (by decide) ?_ hk hx2 hg hb (by decide)
 refine callWith_type1 ?_ rfl rfl
 refine spliced_cons ?_
 refine wpAny_Name (wpAny_loadName_local hk hx3 hns hv ?_) (by decide)
 refine spliced_nil ?_
 refine call_int_int ?_
 refine spliced_nil ?_
 refine call_abs_int λu1 tk1=>?_
 refine wpAny_Constant_int ?_
 refine mod_int' (by decide) ?_
 exact⟨.int _ _,zA s.heap _ rfl (λø ø e=>e)⟩
theorem ouA {g:Gr}{ex:Ex}(G:GX g ex){c:Cx}(hc:CxOK c 0)(hs:c.sc=dRd.2.2){b:Heap}{m:Str->Option Value}{news:List (Addr×Obj)}{s:Shared}(a1:StN g c m news s.heap b){sa:Addr}(hm:m "script"=some (.ref sa)){vals:List Value}{ns:List Int}(hB:g.base.IsList sa vals.toArray)(hi:IntsAre vals ns)(hl:ns.length<=10000)
  {E:Value->Shared->Prop} {Q:Flow->Shared->Prop}
  (k:∀d l (ys:List Value) xs n1 o h' t tk,xs.length<=40->IntsAre ys xs->Fr b c.L h' m->News b c.L h' ((d,o)::(l,({cls:=.type "list",data:=.seq ys.toArray n1}:Obj))::news)->o.IsDictOf (PySem.strKind g.prog g.w) [("row",.ref l),("at",.int 0 t)]->(∀p∈(l,({cls:=.type "list",data:=.seq ys.toArray n1}:Obj))::news,p.1≠d)->(∀p∈news,p.1≠l)->Q (.ret (.ref d)) {s with heap:=h',toks:=tk}):
  wpAny g.M c.A (execs dRd.2.1 c.env) Q E s:=by
 have hl1:scK c.sc "script"=some .local:=by rw[hs];kernel_rfl
 have T1:=topRead_of a1.T
 have e1:nsIn g.K mainGlobals "abs"=some none:=by rw[G.hK];exact beq_iff_eq.mp (xhB ..)
 have e2:nsIn g.K mainGlobals "int"=some none:=by rw[G.hK];exact beq_iff_eq.mp (qfB ..)
 rw[jgB]
 refine wpAny_execs_cons (wpAny_Return_some (kdn_str (keys:=xbA) (values:=fjA) rfl a1.F a1.N a1.T.nolimit rfl rfl (by simp[xbA]) (Nat.le_add_left _ _) λd h' o F2 N2 hlt hdm hdo=>?_))
 refine evalPairs_cons (wpAny_Constant_str ?_)
 refine wpAny_bind ?_
 refine ListComp_DCn (K:=.int) (pz:=λ_=>true) (d:=λa=>.int ((if a<0 then-a else a).fmod 100003)) (h₀:=b) (L:=c.L) (m:=m) hc.handled (cl:=[]) rfl (by decide) rfl (by decide) rfl ?_ (λ_=>rfl)
 refine Subscript_ (ld F2 hm (wpAny_Slice (wpAny_evalPart_none (wpAny_evalPart_some (wpAny_Constant_int (wpAny_evalPart_none ?_))))) c.hk hl1)
 have hl2:h'.IsList sa vals.toArray:=hB.at λo e=>F2.keep _ _ (a1.B.stays _ _ e)
 have hvl:vals.length=ns.length:=hi.length
 refine slice_list (s:={s with heap:=h',toks:=s.toks+1+1}) F2 N2 hl2 .none (.int _ _) (λh2 F3 N3=>?_) rfl (λ_=>rfl) (by rw[List.size_toArray,hvl];exact dA hl (by decide))
 have hsi:=slice_ints_uptoW hi (y:=40) (by decide)
 refine⟨_,_,(slicePick vals.toArray none (some 40) none).toList,ns.take 40,rfl,News.isList N3 (.head _),hsi.areOf,by rw[gF];exact dA (Nat.min_le_left _ _) (by decide),F3,N3,λC a v s₂ m₂ E' _ _ _ _ _ _=>wpAny_tests_nil ⟨rfl,aN _⟩,λC a v s₂ m₂ E' hC _ hia _ hns hv kp=>?_,λD ys h3 tk F4 N4 hD0 hlD hplD hY=>?_⟩
 ·obtain⟨u,rfl⟩:=hia
  have kb:∀b' o,b.get? b'=some o->s₂.heap.get? b'=some o:=λb' o e=>kp _ _ (F3.keep _ _ e)
  exact zdB kb a1.X T1 e1 e2 rfl rfl rfl rfl rfl rfl hns hv
 ·refine wpAny_bind (wpAny_standAt (wpAny_pure (evalPairs_cons (wpAny_Constant_str ?_))))
  refine wpAny_bind (wpAny_Constant_int (wpAny_bind (wpAny_standAt (wpAny_pure (evalPairs_nil ?_)))))
  obtain⟨⟨n1,hD1⟩,hoff⟩:=hplD
  have N5:News b c.L h3 ((d,o)::(D,({cls:=.type "list",data:=.seq ys.toArray n1}:Obj))::news):=λp hp=>by
   rcases xB hp with rfl|hp
   ·exact N4 _ (.tail _ (.head _))
   ·rcases xB hp with rfl|hp
    ·exact⟨hD1,NewPlain.ne_locals ⟨⟨n1,hD1⟩,hoff⟩ F4,hD0⟩
    ·exact N4 _ (.tail _ (.tail _ hp))
  have hlt':∀p∈news,@LT.lt Nat _ p.1 d:=hlt
  have hoffd:∀p∈(D,({cls:=.type "list",data:=.seq ys.toArray n1}:Obj))::news,p.1≠d:=λp hp=>by
   rcases xB hp with rfl|hp
   ·exact(hoff _ (.tail _ (.head _))).symm
   ·exact Nat.ne_of_lt (hlt' p hp)
  refine kdn_made_str F4 N5 (.head hoffd) hdo rfl (by show([("row":Str),"at"]:List Str).Nodup;decide) λh4 o' F5 N6 hd'=>?_
  refine k d D ys _ n1 o' h4 _ _ ?_ (CarriedAll.intsOf (f:=λa:Int=>(if a<0 then-a else a).fmod 100003) (as:=ns.take 40) ?_) F5 N6 hd' hoffd (λp hp=>hoff p (.tail _ (.tail _ hp)))
  ·rw[List.length_map,gF];exact Nat.min_le_left _ _
  ·rw[List.filter_eq_self.mpr λ_ _=>rfl]at hY
   exact hY
set_option tactic.hygienic true
noncomputable def Gr.atRd (g:Gr)(d:Addr):Gr:={g with rd:=d}
theorem GX.atRd {g:Gr}{ex:Ex}(G:GX g ex)(d:Addr):GX (g.atRd d) ex:=⟨G.hK,G.cls⟩
theorem oY {g:Gr}{ex:Ex}(G:GX g ex){c:Cx}{e:Env}(hf:e.frame=some c.L)(hke:e.scope.kind=.function)(hc:CxOK c 1){sa:Addr}{vals:List Value}{ns:List Int}(hB:g.base.IsList sa vals.toArray)(hi:IntsAre vals ns)(hln:ns.length<=10000)
  {P:List (Addr×Obj)} {s:Shared} (S:St g c ⟨[("script",.top sa)],mu0⟩ [] P s) {Q:Value->Shared->Prop} {E:Value->Shared->Prop}
  (k:∀d xs s',xs.length<=40->St (g.atRd d) c ⟨[("script",.top sa)],muR xs 0⟩ [] P s'->Q (.ref d) s'):wpAny g.M (c.A₀.deeper e) (call (.ref 688) [.ref sa]) Q E s:=by
 have RR:qA 688 dRd ["script"]:=gtA
 obtain⟨nm,qual,mod,cdv,e1,e2⟩:=RR.lk g.w.params ex
 have sc:=RR.sc
 simp only[oA,aF,beq_iff_eq,List.all_eq_true,bne_iff_ne,ne_eq]at sc
 obtain⟨b,m,mo,rest,a1,a2,a3,a4,a5,a6,a7⟩:=S
 obtain rfl:mo=[]:=a2.inv
 have hbind:=RR.bind nm qual mod cdv [.ref sa] rfl
 refine wpAny_call (zU (A:=c.A₀.deeper e) (A₀:=c.A₀) (base:=g.base) (outer:=c.outer) (K:=g.K) (g₀:=c.g₀) (binds:=[("script",.ref sa)]) a1.B a1.F a1.X a1.N a1.T g.X g.T a1.D a1.turn (Around.frames_deeper a1.B.stack) hf hke (by rw[G.hK];exact e1) (by rw[G.hK];exact e2)
  (by show c.A.depth<recursionLimit;have:=hc.depth;unfold recursionLimit;exact dqB this) (.of_eq hbind) (λy hy=>beq_iff_eq.mp (fC RR.loc _ ?_)) (λG0 L' h₁ F0 F1 N1 B1 X1 T1 D1=>?_) sc.1.1.1 sc.1.1.2 sc.1.2 λx hx=>sc.2 x hx)
 ·rw[oH hy];exact .head _
 let c':Cx:=⟨c.A₀.deeper e,e::c.outer,qual,dRd.2.2,L',688,cdv,G0,sc.1.2⟩
 have hc':CxOK c' 0:=⟨by show c.A.depth+1+0<900;have:=hc.depth;assumption,hc.handled,by show c.A.units+3+3*0<3000;have:=hc.units;assumption⟩
 have N1':News G0 L' h₁ rest:=N1
 show wpAny g.M c'.A (execs dRd.2.1 c'.env) _ _ _
 refine ouA (s:={s with heap:=h₁,toks:=s.toks+1}) G hc' rfl (m:=λy=>([("script",.ref sa)]:List (Str×Value)).reverse.lookup y) ⟨B1,.refl,D1,F1,N1'⟩ rfl hB hi hln λd l ys xs n1 o h' t tk hxs hys F2 N2 hd hoff hoff'=>?_
 refine leaveS_r F2 N2 .refl λh₀' k1 k2 k3 k4 k5 k6 k7=>k d xs _ hxs ?_
 obtain⟨es',ep',hc0,hd',hk',hp',hn'⟩:=hd
 obtain⟨oc,od,odt,osl⟩:=o
 obtain⟨hc1,hc2,hc3⟩:=hc0
 dsimp only at hc1 hc2 hc3 hd'
 subst hc1 hc2 hc3 hd'
 obtain⟨lst0⟩:=es'
 cases hp'
 rename_i e1' l1 q1 q2 hp'
 cases hp'
 rename_i e2' l2 q3 q4 hp'
 cases hp'
 obtain⟨hh1,key1,val1⟩:=e1'
 obtain⟨hh2,key2,val2⟩:=e2'
 dsimp only at q1 q2 q3 q4
 subst q2 q4
 obtain⟨t1,rfl⟩:=Value.isStrOf_shape q1
 obtain⟨t2,rfl⟩:=Value.isStrOf_shape q3
 obtain⟨k1',z1,z2⟩:=hk' _ (by simp:(⟨hh1,.str "row" t1,.ref l⟩:DictEntry)∈_)
 obtain⟨k2',z3,z4⟩:=hk' _ (by simp:(⟨hh2,.str "at" t2,.int 0 t⟩:DictEntry)∈_)
 dsimp only at z1 z2 z3 z4
 obtain rfl:k1'=("row":Str):=(sk g.prog g.w).inj _ _ _ z1 (gJ _ _)
 obtain rfl:k2'=("at":Str):=(sk g.prog g.w).inj _ _ _ z3 (gJ _ _)
 subst z2 z4
 refine⟨h₀',m,[(d,dictOf [⟨PyData.keyHash g.w.params "row",.str "row" t1,.ref l⟩,⟨PyData.keyHash g.w.params "at",.str "at" t2,.int 0 t⟩] ep')],(l,{cls:=.type "list",data:=.seq ys.toArray n1})::rest,⟨k4,k1,k7,k2,k3⟩,?_,λx u hx=>?_,λt ht=>(nomatch ht),λp hp=>.tail _ (a5 p hp),a6,a7⟩
 ·exact .rd (.cons (.il (.head _) hys) (.cons (.int 0 t) .nil)) hoff
 ·obtain⟨w,hw,hr⟩:=a3 x u hx
  refine⟨w,hw,?_⟩
  rw[pC]at hx
  split at hx
  ·obtain rfl:=inj hx
   cases hr
   exact .top sa
  ·exact no hx
set_option tactic.hygienic false
end Mine
namespace Mine
open PySem PySem.W PySem.Calls PyProof.Rows
open PyProof.Rows.LCg (NsObj ns_obj lst_snoc range_walks)
noncomputable def loA:Df:=eA 47
noncomputable def fR:Scope:={kind:=.function,names:=[("script",.local),("d",.cell),("words",.local),("_law_reader",.globalImplicit),("range",.globalImplicit),("min",.globalImplicit),("len",.globalImplicit)],isGenerator:=false,isCoroutine:=false,more:=[("fast",.str "script"),("fast",.str "d"),("fast",.str "turn"),("fast",.str "words"),("fast",.str "word")]}
noncomputable def xV:Scope:={kind:=.function,names:=[(".0",.local),("turn",.local),("_law_word",.globalImplicit),("d",.free)],isGenerator:=false,isCoroutine:=false}
noncomputable def wdA:Scope:={kind:=.function,names:=[(".0",.local),("word",.local),("_law_is_right",.globalImplicit)],isGenerator:=false,isCoroutine:=false}
noncomputable def lZ:Expr:=.Call (.Name "range" ⟨737,38,737,43⟩) [.BinOp (.Constant (.int 2) 0 ⟨737,44,737,45⟩) .Add (.BinOp (.Call (.Name "min" ⟨737,48,737,51⟩) [.Call (.Name "len" ⟨737,52,737,55⟩) [.Name "script" ⟨737,56,737,62⟩] [] ⟨737,52,737,63⟩,.Constant (.int 20) 0 ⟨737,65,737,67⟩] [] ⟨737,48,737,68⟩) .FloorDiv (.Constant (.int 10) 0 ⟨737,72,737,74⟩) ⟨737,48,737,74⟩) ⟨737,44,737,74⟩] [] ⟨737,38,737,75⟩
noncomputable def xeA:Expr:=.Call (.Name "_law_word" ⟨737,13,737,22⟩) [.Name "d" ⟨737,23,737,24⟩] [] ⟨737,13,737,25⟩
noncomputable def yU:Expr:=.ListComp xeA [⟨.Name "turn" ⟨737,30,737,34⟩,lZ,[],0⟩] xV ⟨737,12,737,76⟩
noncomputable def mV:Expr:=.UnaryOp .Not (.Call (.Name "_law_is_right" ⟨738,42,738,55⟩) [.Name "word" ⟨738,56,738,60⟩] [] ⟨738,42,738,61⟩) ⟨738,38,738,61⟩
noncomputable def cfA:Expr:=.ListComp (.Name "word" ⟨738,12,738,16⟩) [⟨.Name "word" ⟨738,21,738,25⟩,.Name "words" ⟨738,29,738,34⟩,[mV],0⟩] wdA ⟨738,11,738,62⟩
noncomputable def lkB:Stmt:=.Assign [.Name "d" ⟨736,4,736,5⟩] (.Call (.Name "_law_reader" ⟨736,8,736,19⟩) [.Name "script" ⟨736,20,736,26⟩] [] ⟨736,8,736,27⟩) ⟨736,4,736,27⟩
noncomputable def gfB:Stmt:=.Assign [.Name "words" ⟨737,4,737,9⟩] yU ⟨737,4,737,76⟩
noncomputable def kkB:Stmt:=.Return (some (.Compare cfA [.Eq] [.List [] ⟨738,66,738,68⟩] ⟨738,11,738,68⟩)) ⟨738,4,738,68⟩
theorem uxA:loA.2.1=[lkB,gfB,kkB]:=by kernel_rfl
noncomputable def oD (L:Addr):Env:=envOfC "law" fR L 801 (vR 800)
section
variable (P:Params)(ex:Ex)
theorem wgA:(nsIn (KX P ex) mainGlobals "_law_reader"==some (some (.ref 688)))=true:=by kernel_rfl
theorem fvA:(nsIn (KX P ex) mainGlobals "_law_word"==some (some (.ref 730)))=true:=by kernel_rfl
theorem tlA:(nsIn (KX P ex) mainGlobals "_law_is_right"==some (some (.ref 796)))=true:=by kernel_rfl
theorem ieB:(nsIn (KX P ex) mainGlobals "min"==some none)=true:=by kernel_rfl
theorem ihA:keepIn (KX P ex) (.ref 688)=true:=by kernel_rfl
theorem hwA:keepIn (KX P ex) (.ref 730)=true:=by kernel_rfl
theorem smA:keepIn (KX P ex) (.ref 796)=true:=by kernel_rfl
end
theorem vlA:bootBuiltins "min"=some (.builtin "min"):=by kernel_rfl
theorem qoA (L:Addr):closureFor xV (oD L)=pure ([("d",L+1)]:List (Str×Addr)):=rfl
theorem eyA (L:Addr):closureFor wdA (oD L)=pure ([]:List (Str×Addr)):=rfl
section
variable {g:Gr}{ex:Ex}{c:Cx}{s:Shared}{o:Obj}{sa:Addr}{vals:List Value}{ns:List Int}
theorem jkB (G:GX g ex){n:Nat}(hc:CxOK c (n+1))(hB:g.base.IsList sa vals.toArray)(hi:IntsAre vals ns)(hl:ns.length<=10000)(ho:o.data=.cell none)(S:St g c ⟨[("script",.top sa)],mu0⟩ [] [(c.L+1,o)] s){Q:Flow->Shared->Prop}{E:Value->Shared->Prop}
  (k:∀d xs s' o',xs.length<=40->o'.data=.cell (some (.ref d))->St (g.atRd d) c ⟨[("script",.top sa)],muR xs 0⟩ [] [(c.L+1,o')] s'->Q .next s'):
  wpAny g.M (c.A₀.deeper (oD c.L)) (exec lkB (oD c.L)) Q E s:=by
 refine St.el (id S) λb m mo rest a1 a2 a3 a4 a5 a6 a7=>?_
 refine iA (a3 "script" (.top sa) rfl) λval hm hr=>?_
 cases hr
 refine wpAny_Assign_Name (wpAny_Call_ofName ?_) (wG rfl _ _ _)
 refine nameX_K a1.F a1.X (topRead_of a1.T) (by rw[G.hK];exact beq_iff_eq.mp (wgA ..)) ?_ rfl rfl
 refine callWith_of (P:=g.K.In) rfl (keeps_K (by rw[G.hK];exact ihA ..)) (evalArgs_plain (spliced_cons (nameX_L a1.F hm (spliced_nil ⟨a1.X.keeps a1.F.keep,?_⟩) rfl rfl)))
 refine oY G (e:=oD c.L) rfl rfl (hc.le (Nat.succ_pos _)) hB hi hl S λd xs s' hxs S'=>?_
 exact sdA (g:=g.atRd d) (x:="d") (cc:=c.L+1) S' (.head _) ho rfl rfl rfl λh' o' hd S3=>k d xs _ o' hxs hd (S3.pins λp hp=>by
  simp only[oH hp]
  exact .head _)
end
noncomputable def obA (w:Str):Bool:=fH w.cps.toList&&decide (w.length<=27)
noncomputable def zuA (ws:List Str):Bool:=ws.all obA
structure vpA (i:Nat) (ys:List Value) (xs:List Int) (μ:Mu) (ws:List Str) (k:Int):Prop where
 are:StrsAre ys ws
 len:ys.length=i
 ok:zuA ws=true
 mu:μ=muR xs k
 lo:0<=k
 hi:k<=12*i
theorem qV {ys:List Value}{ws:List Str}(h:StrsAre ys ws)(x:Str)(t:Tok):StrsAre (ys++[.str x t]) (ws++[x]):=by
 induction h with
 |nil=>exact .cons x t .nil
 |cons y u ø ih=>exact .cons y u ih
section
variable {g:Gr}{ex:Ex}{c:Cx}{s:Shared}{o:Obj}{sa:Addr}{vals:List Value}{ns:List Int}
theorem rfA (G:GX g ex){n:Nat}(hc:CxOK c (n+4)){xs:List Int}(hxs:xs.length<=100)(ho:o.data=.cell (some (.ref g.rd))){i:Nat}{ys:List Value}{μ:Mu}{C D I:Addr}{ρ:List (Str×V)}{s':Shared}(hi:i<70)(hI:∃ws k,vpA i ys xs μ ws k)
  (S:StA g c ⟨ρ,μ⟩ [(c.L+1,o)] (C::D::I::[]) s') (E':Value->Shared->Prop):
  wpAny g.M (c.A₀.deeper (oD c.L)) (eval xeA (compEnvC xV [("d",c.L+1)] C (oD c.L))) (λy s3=>∃μ'',(∃ws k,vpA (i+1) (ys++[y]) xs μ'' ws k)/\StA g c ⟨ρ,μ''⟩ [(c.L+1,o)] (C::D::I::[]) s3/\oaA (C::D::I::[]) s' s3) E' s':=by
 refine yiA hI λws k o2=>?_;obtain⟨h1,h2,h3,rfl,h5,h6⟩:=o2
 refine paA (id S) λb m mo rest a1 ø=>?_
 have hcell:=S.pin (p:=(c.L+1,o)) (.head _)
 refine wpAny_Call_ofName ?_
 refine nameG_K a1.F.keep a1.X (topRead_of a1.T) (by rw[G.hK];exact beq_iff_eq.mp (fvA ..)) ?_ rfl rfl rfl (by decide)
 refine callWith_of (P:=g.K.In) rfl (keeps_K (by rw[G.hK];exact hwA ..)) (evalArgs_plain (spliced_cons ?_))
 refine wpAny_Name (wpAny_loadName_cell rfl rfl rfl (jA o hcell ho) (spliced_nil (eB (a1.X.keeps a1.F.keep) ?_))) (by decide)
 have oo:∀l k',fH l=true->l.length<=27->k<=k'->k'<=k+12->(λx:V×Mu=>∃w k',x.1=.str w/\x.2=muR xs k'/\obA w=true/\0<=k'/\k'<=12*((i+1:Nat):Int)) (.str (mk l),muR xs k'):=λl k' q1 q2 q3 q4=>rwA (mk l) k' rfl rfl (by unfold obA;rw[mk_list,mk_len,q1,eD,vA];exact q2) (laB h5 q3) (cqB h6 q4)
 refine wpAny_mono (wZ (σ:=⟨ρ,muR xs k⟩) G.hK btA (n:=n+3) (vs:=[.rd]) rfl (k:=0) (R:=λv μ'=>∃w k',v=.str w/\μ'=muR xs k'/\obA w=true/\0<=k'/\k'<=12*((i+1:Nat):Int)) (λc1 hc1 hs1=>goA (Q:=λx:V×Mu=>∃w k',x.1=.str w/\x.2=muR xs k'/\obA w=true/\0<=k'/\k'<=12*((i+1:Nat):Int)) (dqA G (n:=n+1) h5 (bqB hi h6) hxs oo hc1 hs1)) (e:=oD c.L) rfl rfl hc E' [.ref g.rd] (rC _) rfl (λt ht r=>?_) S) (λy s3 ⟨v,μ',r,⟨w,k',hv,hμ,hw,q1,q2⟩,hr,S3,K3⟩=>?_) λ_ _ x=>x
 ·rw[oH ht]
  exact .rd
 ·subst hv hμ
  cases hr with
  |str _ t=>
  exact⟨muR xs k',inA (ws++[w]) k' ⟨qV h1 w t,by rw[vC,List.length_singleton,h2],by unfold zuA at*;rw[List.all_append,h3,List.all_cons,hw];rfl,rfl,q1,q2⟩,S3,K3⟩
theorem fX {A:Around}{E:Value->Shared->Prop}{ρ:List (Str×V)}{μ:Mu}{P:List (Addr×Obj)}{C D:Addr}{s4:Shared}{ys:List Value}{m':Str->Option Value}{p:Pos}{Q:Flow->Shared->Prop}(hCD:C≠D)(S:StA g c ⟨ρ,μ⟩ P [C,D] s4)(hD:s4.heap.get? D=some (xJ ys))(hC:s4.heap.Ns C m')
  (k:∀s',St g c ⟨[("words",.top D)],mu0⟩ [] [(D,xJ ys)] s'->Q .next s'):compPost g.M A E (some (assign (.Name "words" p) (oD c.L))) (λø s'=>Q .next s') (.ref D) C (.ok .next) s4:=by
 refine rQ S λb m mo rest a1 a2 a3 a4 a5 a6 a7 a8 a9=>?_
 have hCL:@LT.lt Nat _ c.L C:=a8 C (by simp)
 have hDL:@LT.lt Nat _ c.L D:=a8 D (by simp)
 refine wpAny_assign_Name (wpAny_storeName_local rfl a1.F.ns (λh₂ hn₂ hs₂=>?_) rfl)
 have hs₂:Heap.SameBut c.L s4.heap h₂:=hs₂
 refine jA m' (hC.sameBut hs₂ (Ne.symm (Nat.ne_of_lt hCL))) (λh' hs'=>k _ ?_)
 have hs':Heap.SameBut C h₂ h':=hs'
 have bno:∀a,@LT.lt Nat _ c.L a->b.get? a=none:=λa ha=>by
  cases q:b.get? a with
  |none=>rfl
  |some o=>exact absurd (cE (Heap.lt_size q) (dA a1.F.above (iC ha))) (Nat.lt_irrefl _)
 refine lD b _ ([]) ([(D,xJ ys)]) ⟨⟨a1.B,a1.turn,a1.D,⟨hn₂.sameBut hs' (Nat.ne_of_lt hCL),λx ob e=>?_,a1.F.above⟩,λq hq=>?_⟩,.none,λx u hx=>?_,λt ht=>(nomatch ht),λp hp=>hp,a5,a6⟩
 ·have h1:x≠c.L:=λq=>by
   have:=kts_self a1.F
   rw[q,this]at e
   exact no e
  have h2:x≠C:=λq=>by rw[q,bno C hCL]at e;exact no e
  exact hs'.extBut _ _ h2 (hs₂.extBut _ _ h1 (a1.F.keep _ _ e))
 ·have hq:q∈([(D,xJ ys)]:List (Addr×Obj)):=hq
  rw[oH hq]
  exact cF (hs'.extBut _ _ (Ne.symm hCD) (hs₂.extBut _ _ (Ne.symm (Nat.ne_of_lt hDL)) hD)) (Ne.symm (Nat.ne_of_lt hDL)) (bno D hDL)
 ·rw[pC]at hx
  split at hx
  ·rename_i q
   have o1:=inj hx;clear hx;obtain rfl:=o1
   subst q
   exact jA (.ref D) (if_pos rfl) (.top D)
  ·exact nomatch hx
theorem ikB (G:GX g ex){n:Nat}(hc:CxOK c (n+4))(hB:g.base.IsList sa vals.toArray)(hi:IntsAre vals ns)(hl:ns.length<=10000){xs:List Int}(hxs:xs.length<=100)(ho:o.data=.cell (some (.ref g.rd)))(S:St g c ⟨[("script",.top sa)],muR xs 0⟩ [] [(c.L+1,o)] s){Q:Flow->Shared->Prop}{E:Value->Shared->Prop}
  (k:∀D ys ws s',StrsAre ys ws->zuA ws=true->ys.length<=70->St g c ⟨[("words",.top D)],mu0⟩ [] [(D,xJ ys)] s'->Q .next s'):
  wpAny g.M (c.A₀.deeper (oD c.L)) (exec gfB (oD c.L)) Q E s:=by
 obtain⟨b,m,mo,rest,a1,a2,a3,a4,a5,a6,a7⟩:=id S
 obtain⟨val,hm,hr⟩:=a3 "script" (.top sa) rfl
 cases hr
 have e1:nsIn g.K mainGlobals "len"=some none:=by rw[G.hK];exact beq_iff_eq.mp (lmA ..)
 have e2:nsIn g.K mainGlobals "range"=some none:=by rw[G.hK];exact beq_iff_eq.mp (qY ..)
 have e3:nsIn g.K mainGlobals "min"=some none:=by rw[G.hK];exact beq_iff_eq.mp (ieB ..)
 have hsl:s.heap.IsList sa vals.toArray:=hB.at λo e=>a1.F.keep _ _ (a1.B.stays _ _ e)
 have hvl:vals.length=ns.length:=hi.length
 unfold gfB
 rw[exec_Assign_Name_used _ _ _ _ rfl]
 refine wpAny_bind (wpAny_standAt (wpAny_bind ?_))
 show wpAny g.M _ (do let _ <-comprehension yU xV (oD c.L) _ (newList []) false (eval lZ (oD c.L)) (some (assign (.Name "words" ⟨737,4,737,9⟩) (oD c.L)))) _ _ s
 refine wpAny_bind (wpAny_mono (wpAny_comprehension_free (use:=some (assign (.Name "words" ⟨737,4,737,9⟩) (oD c.L))) (Q:=λ_ s'=>Q .next s') (cl:=[("d",c.L+1)]) rfl (λ_=>rfl) (qoA c.L) rfl (by decide) ?_) (λ_ s' hq=>wpAny_pure (wpAny_pure hq)) λ_ _ e=>e)
 refine wpAny_Call_ofName (nameX_B a1.F a1.X (topRead_of a1.T) e2 wM (by decide) (callWith_type1 (spliced_cons ?_) rfl rfl) rfl rfl)
 refine wpAny_BinOp (wpAny_Constant_int (wpAny_BinOp ?_))
 refine wpAny_Call_ofName (nameX_B (s:={s with toks:=s.toks+1}) a1.F a1.X (topRead_of a1.T) e3 vlA (by decide) ?_ rfl rfl)
 refine callWith_builtin rfl (evalArgs_plain (spliced_cons ?_))
 refine wpAny_Call_ofName (nameX_B (s:={s with toks:=s.toks+1}) a1.F a1.X (topRead_of a1.T) e1 rR (by decide) ?_ rfl rfl)
 refine callWith_builtin rfl (evalArgs_plain (spliced_cons ?_))
 refine nameX_L (s:={s with toks:=s.toks+1}) a1.F hm (spliced_nil (len_list hsl (by rw[List.size_toArray,hvl];exact kJ (iD ‹_› (by decide))) ?_)) rfl rfl
 refine spliced_cons ?_
 show wpAny g.M _ (eval (.Constant (.int 20) 0 ⟨737,65,737,67⟩) (oD c.L)) _ _ _
 refine wpAny_Constant_int (spliced_nil ?_)
 refine min_two_ints hc.handled λh1 tk1 k1=>?_
 have hv:∀(t1 t2:Tok),∃M t',(if(20:Int)<(vals.toArray.size:Int)then Value.int 20 t1 else .int (vals.toArray.size:Int) t2)=.int M t'/\0<=M/\M<=20:=λt1 t2=>by
  by_cases q:(20:Int)<(vals.toArray.size:Int)
  ·exact⟨20,t1,if_pos q,by exact gD _,by exact gD _⟩
  ·exact⟨_,t2,if_neg q,by exact gD _,by exact Int.not_lt.mp ‹_›⟩
 obtain⟨M,tM,eM,M0,M1⟩:=hv (s.toks+1+1+1) (s.toks+1+1)
 rw[eM]
 refine wpAny_Constant_int (floordiv_int (by decide) (add_int (spliced_nil (call_range_1 ?_))) (.inl (PyProof.noPylong_small (Nat.le_add_left _ _))))
 have hN:∃N:Nat,(2:Int)+M.fdiv 10=N/\N<=4:=by
  rw[Int.fdiv_eq_ediv_of_nonneg _ (by decide)]
  exact⟨(2+M / 10).toNat,by exact aqB M0,by exact zpB M1⟩
 obtain⟨N,eN,hN⟩:=hN
 rw[eN]
 have S1:∀tk,StA g c ⟨[("script",.top sa)],muR xs 0⟩ [(c.L+1,o)] [] {s with heap:=h1,toks:=tk}:=λtk=>StA.of (S.keeps (tk:=tk) k1)
 refine wpAny_pyIter_range (a:=0) (b:=(N:Int)) (c:=1) (Heap.get?_push_size _ rfl) (yQ (dA ‹_› (by decide))) ?_
 have hsz:Builtin.Range.rangeSize 0 (N:Int) 1=N:=by rw[rangeSize_one];split<;>(first|rfl|lia)
 rw[hsz]
 generalize hR:h1.push _=h2
 generalize hO:h2.push _=h3
 have k3:∀b o,h1.get? b=some o->h3.get? b=some o:=λb o e=>hO▸Heap.get?_push_of_some _ (hR▸Heap.get?_push_of_some _ e)
 have hIs:h2.objs.size=h1.objs.size+1:=by rw[<-hR,Heap.size_push]
 have hI3:IsRangeIter h3 h2.objs.size (0+((0:Nat):Int)*1) ((N:Int)-((0:Nat):Int)) 1:=by
  show h3.get? _=some _
  rw[<-hO,Heap.get?_push_size _ rfl]
  simp
 have S2:∀tk,StA g c ⟨[("script",.top sa)],muR xs 0⟩ [(c.L+1,o)] [h2.objs.size] {s with heap:=h3,toks:=tk}:=λtk=>(S1 tk).push (ypB hIs) k3 ⟨_,hI3⟩
 have hlt3:@LT.lt Nat _ h2.objs.size h3.objs.size:=by
  rw[<-hO,Heap.size_push];exact Nat.lt_succ_self _
 have hh:(c.A₀.deeper (oD c.L)).handled=none:=hc.handled
 refine dfA (g:=g) (c:=c) (fp:=[h2.objs.size]) (PP:=λi v=>∃t,v=.int (0+(i:Int)) t) (Si:=λi h=>IsRangeIter h h2.objs.size (0+(i:Nat)*1) ((N:Int)-(i:Nat)) 1) (n:=N) (P:=[(c.L+1,o)]) (av:=[]) (ρ:=[("script",.top sa)]) (μ:=muR xs 0) (x:="turn")
  (range_walks hh 0 N) (dA ‹_› (by decide)) (λi h st=>⟨_,st⟩) (λi h h' st kk _=>kk _ st) (by decide) rfl rfl hI3 (λb hb=>by rw[oH hb];exact hlt3) (S2 _) (by simp)
  (λi ys μ=>∃ws k,vpA i ys xs μ ws k) ⟨[],0,.nil,rfl,rfl,rfl,by exact gD _,by exact gD _⟩ (λi ys μ o1=>by obtain⟨ws,k,h⟩:=o1;exact jE h.len)
  (λi v ys μ' D C s' m₂ E' hi hP hI S' hns hv=>wpAny_tests_nil (by rw[if_pos rfl];exact rfA G hc hxs ho (by exact dA ‹_› (dA ‹_› (by decide))) hI S' E')) ?_
 intro D C s4 μ' ys m' o2 S4 hD hC hCD;obtain⟨ws,k',hI⟩:=o2
 exact fX hCD S4 hD hC λs' S'=>k D ys ws s' hI.are hI.ok (by have:=hI.len;lia) S'
end
section
variable {g:Gr}{ex:Ex}{c:Cx}
theorem StA.forget {ρ:List (Str×V)}{μ:Mu}{P:List (Addr×Obj)}{av:List Addr}{s:Shared}(S:StA g c ⟨ρ,μ⟩ P av s):StA g c ⟨ρ,mu0⟩ P av s:=by
 refine rQ S λb m mo rest a1 a2 a3 a4 a5 a6 a7 a8 a9=>?_
 exact lhA b m ([]) rest (a1.sub λp hp=>eE _ hp) .none a3 a4 a5 a6 (λp hp=>a7 p (eE _ hp)) a8 a9
theorem xX {ys:List Value}{ws:List Str}(h:StrsAre ys ws):∀{i:Nat} {v:Value},ys[i]?=some v->∃x t,v=.str x t/\x∈ws:=by
 induction h with
 |nil=>intro i v e;simp at e
 |cons x t ø ih=>
  intro i v e
  cases i with
  |zero=>have o1:=inj e;clear e;obtain rfl:=o1;exact zA x t rfl (.head _)
  |succ i=>refine jB (ih (i:=i) e) λx' t' h1 h2=>?_;exact zA x' t' h1 (.tail _ h2)
theorem rvA {l:List Nat}(h:fH l=true):89∉l:=λhm=>by
 have:=fC h 89 hm
 revert this
 decide
theorem ajA (G:GX g ex)(hL:∀l:List Nat,fH l=true->l.length<=27->Law l){n:Nat}(hc:CxOK c (n+12)){w:Str}{t:Tok}(hw:obA w=true){μ:Mu}{av:List Addr}{ρ:List (Str×V)}{P:List (Addr×Obj)}{C:Addr}{m₂:Str->Option Value}{s':Shared}(S:StA g c ⟨ρ,μ⟩ P av s')(hns:s'.heap.Ns C m₂)(hv:m₂ "word"=some (.str w t))(E':Value->Shared->Prop):
  wpAny g.M (c.A₀.deeper (oD c.L)) (isTrue mV (compEnvC wdA [] C (oD c.L)) (eval mV (compEnvC wdA [] C (oD c.L)))) (λok s''=>ok=false/\StA g c ⟨ρ,mu0⟩ P av s''/\oaA av s' s'') E' s':=by
 refine paA (id S) λb m mo rest a1 ø=>?_
 unfold obA at hw
 replace hw:=bmp id bB hw
 refine wpAny_isTrue_Not (wpAny_isTrue_value ?_ rfl)
 refine wpAny_Call_ofName ?_
 refine nameG_K a1.F.keep a1.X (topRead_of a1.T) (by rw[G.hK];exact beq_iff_eq.mp (tlA ..)) ?_ rfl rfl rfl (by decide)
 refine callWith_of (P:=g.K.In) rfl (keeps_K (by rw[G.hK];exact smA ..)) (evalArgs_plain (spliced_cons ?_))
 refine wpAny_Name (wpAny_loadName_local rfl rfl hns hv (spliced_nil ⟨a1.X.keeps a1.F.keep,?_⟩)) (by decide)
 have S0:=S.forget
 have hb:∀c1:Cx,CxOK c1 (n+11)->c1.sc=dIr.2.2->EBR g c1 1 dIr.2.1 ⟨(["word"]:List Str).zip [.str w],mu0⟩ Right:=λc1 hc1 hs1=>by
  have:=wmA G hc1 hs1 (l:=w.cps.toList) (by have:=hw.2;unfold Str.length at this;rw[<-Array.length_toList]at this;exact dA ‹_› (by decide)) (rvA hw.1) (hL _ hw.1 (by have:=hw.2;unfold Str.length at this;rw[<-Array.length_toList]at this;exact this))
  simp only[bC]at this
  exact this
 refine wpAny_mono (wZ (σ:=⟨ρ,mu0⟩) G.hK ssA (n:=n+11) (vs:=[.str w]) rfl (k:=1) (R:=λv ø=>v=.bool true) hb (e:=oD c.L) rfl rfl hc E' [.str w t] (Nat.succ_pos _) rfl (λt' ht r=>?_) S0) (λy s3 ⟨v,μ',r,hv,hr,S3,K3⟩=>?_) λø ø x=>x
 ·rw[oH ht]
  exact .str _ _
 ·subst hv
  cases hr
  exact wpAny_truthy_bool (cF rfl S3.forget K3)
theorem hkB (G:GX g ex)(hL:∀l:List Nat,fH l=true->l.length<=27->Law l){n:Nat}(hc:CxOK c (n+12)){D:Addr}{ys:List Value}{ws:List Str}{s:Shared}(hys:StrsAre ys ws)(hok:zuA ws=true)(hlen:ys.length<=70)(S:St g c ⟨[("words",.top D)],mu0⟩ [] [(D,xJ ys)] s){Q:Flow->Shared->Prop}{E:Value->Shared->Prop}
  (k:∀s',St g c ⟨[],mu0⟩ [] [] s'->Q (.ret (.bool true)) s'):wpAny g.M (c.A₀.deeper (oD c.L)) (exec kkB (oD c.L)) Q E s:=by
 refine St.el (id S) λb m mo rest a1 a2 a3 a4 a5 a6 a7=>?_
 refine iA (a3 "words" (.top D) rfl) λval hm hr=>?_
 cases hr
 have hD:=S.pin (p:=(D,xJ ys)) (.head _)
 have hDl:s.heap.IsList D ys.toArray:=zG _ hD rfl ⟨_,rfl⟩
 refine wpAny_Return_some (wpAny_Compare1 ?_ rfl)
 unfold cfA
 simp only[eval_ListComp]
 refine wpAny_comprehension_free (use:=none) (cl:=[]) rfl (λ_=>rfl) (eyA c.L) rfl (by decide) ?_
 refine nameX_L a1.F hm ?_ rfl rfl
 refine wpAny_pyIter_list hDl ?_
 generalize hO:s.heap.push _=h3
 have hlt3:@LT.lt Nat _ s.heap.objs.size h3.objs.size:=by
  simp only[<-hO,Heap.size_push];exact Nat.lt_succ_self _
 have hDlt:@LT.lt Nat _ D s.heap.objs.size:=Heap.lt_size hD
 have k3:∀b o,s.heap.get? b=some o->h3.get? b=some o:=λb o e=>hO▸Heap.get?_push_of_some _ e
 have hI3:h3.IsListIter s.heap.objs.size D 0/\h3.IsList D ys.toArray:=⟨zG _ (hO▸Heap.get?_push_size _ rfl) rfl rfl,hDl.at λo e=>k3 _ _ e⟩
 have S2:StA g c ⟨[("words",.top D)],mu0⟩ [(D,xJ ys)] [s.heap.objs.size] {s with heap:=h3}:=(StA.of S).push (tk:=s.toks) (vD _) k3 (by refine iA hI3.1 λo e ø=>?_;exact yC o e)
 have hh:(c.A₀.deeper (oD c.L)).handled=none:=hc.handled
 refine dfA (g:=g) (c:=c) (fp:=[s.heap.objs.size,D]) (PP:=λi v=>ys.toArray[i]?=some v) (Si:=λi h=>h.IsListIter s.heap.objs.size D i/\h.IsList D ys.toArray) (n:=ys.toArray.size) (P:=[(D,xJ ys)]) (av:=[]) (ρ:=[("words",.top D)]) (μ:=mu0) (x:="word")
  (Walks.list hh s.heap.objs.size D (Nat.ne_of_lt hDlt) ys.toArray) (by rw[List.size_toArray];exact dA ‹_› (by decide)) (λi h st=>by refine iA st.1 λo e ø=>?_;exact⟨o,e⟩) (λi h h' st kk hp=>⟨st.1.at λo e=>kk o e,zG _ (hp (D,xJ ys) (.head _)) rfl ⟨_,rfl⟩⟩) (by decide) rfl rfl hI3
  (λb hb=>by
   rcases xB hb with rfl|hb
   ·exact hlt3
   ·simp only[oH hb];exact Nat.lt_trans hDlt hlt3) S2 (by simp)
  (λi zs μ=>zs=[]) rfl (λi zs μ h=>by rw[h];exact rC _)
  (λi v zs μ' C D2 s' m₂ E' hi hP hz S' hns hv=>?_) ?_
 ·have hP:ys[i]?=some v:=by simpa using hP
  refine jB (xX hys hP) λx t o3 hx=>?_;obtain rfl:=o3
  refine wpAny_tests_one (wpAny_mono (ajA G hL hc (fC hok x hx) S' hns hv E') (λok s'' ⟨h1,h2,h3⟩=>?_) λ_ _ x=>x)
  subst h1
  refine(if_neg (by decide) ..).mpr ?_
  exact zG mu0 hz h2 h3
 ·intro D2 C s4 μ' zs m' hz S4 hD2 hC hCD
  subst hz
  refine jA m' hC (λh' hs'=>?_)
  have S5:StA g c ⟨[("words",.top D)],μ'⟩ [(D,xJ ys)] [D2] {s4 with heap:=h'}:=S4.change' (tk:=s4.toks) (λa ha=>by simp only[oH ha];simp) (λb o hb e=>hs'.extBut b o (λq=>hb (q▸by simp)) e) λa ha=>by
   rw[oH ha]
   exact yC _ (hs'.extBut _ _ (Ne.symm hCD) hD2)
  have hD3:h'.get? D2=some (xJ []):=hs'.extBut _ _ (Ne.symm hCD) hD2
  refine List_ (spliced_nil ?_)
  refine wpAny_newObj_type ?_
  refine PySem.SeqAt.eq_listAt (items:=#[]) (items2:=#[]) (e:=λ_=>true) (zG _ (Heap.get?_push_of_some _ hD3) rfl ⟨_,rfl⟩) (zG _ (Heap.get?_push_size _ rfl) rfl ⟨_,rfl⟩) rfl (by have:=hc.units;exact xpB this) (λj h1 h2=>absurd h1 (by simp)) ?_
  have S6:=S5.st
  refine St.el S6 λb6 m6 mo6 jH c1 c2 c3 c4 c5 c6 c7=>?_
  refine k _ (lD b6 m6 ([]) ([]) ⟨⟨c1.B,c1.turn,c1.D,c1.F.keeps λb o e=>Heap.get?_push_of_some _ e,News.nil⟩,.none,λx v hx=>(no hx),λt ht=>(nomatch ht),λp hp=>(nomatch hp),c6,c7⟩)
end
end Mine
namespace Mine
open PySem PySem.W PySem.Calls PyProof.Rows
theorem dfB (P:Params)(ex:Ex):(KX P ex).lookup 801=some ⟨.type "function",none,.func (fnOf "law" "law" loA.1 loA.2.1 fR .none .none .none (vS "law_ji0048_01" 1847) none (vR 800) .none),#[]⟩:=by kernel_rfl
theorem ffB (P:Params)(ex:Ex):codeIn (KX P ex) (vR 800) "law"=true:=by kernel_rfl
theorem pmA (v0:Value):bindArgs (fnOf "law" "law" loA.1 loA.2.1 fR .none .none .none (vS "law_ji0048_01" 1847) none (vR 800) .none) ⟨[v0],[]⟩=pure ([("script",v0)]:List (Str×Value)):=by kernel_rfl
theorem omA {prog:Program}{w:World}{s₁:Shared}{mg mb:Str->Option Value}{p:Program}{loose:List Str}{mean:ExcName->Option Value}{ex:Ex}(hL:∀l:List Nat,fH l=true->l.length<=27->Law l)
  (X:(KX w.params ex).In s₁.heap) (T:Top p loose mean mg mb s₁.heap) (sets:∀b,∃o n,(KX w.params ex).lookup (setA b)=some o/\o.SetObjOf (PySem.strKind prog w) (rD b) n/\n<scanBound)
  {sa:Addr} {vals:List Value} {ns:List Int} (hB:s₁.heap.IsList sa vals.toArray) (hi:IntsAre vals ns) (hl:ns.length<=10000):
  wpAny (model prog w) callerA (PySem.call (.ref 801) [.ref sa]) (λv s'=>v=.bool true/\(∀b o,s₁.heap.get? b=some o->s'.heap.get? b=some o)/\s'.gens=s₁.gens/\s'.os=s₁.os) (λø ø=>False) s₁:=by
 let g:Gr:={prog:=prog,w:=w,K:=KX w.params ex,p:=p,loose:=loose,mean:=mean,mg:=mg,mb:=mb,base:=s₁.heap,X:=X,T:=T,cls:=642,st:=0,dd:=1,rd:=0,gens:=s₁.gens,os:=s₁.os,sets:=sets}
 have G:GX g ex:=⟨rfl,rfl⟩
 refine wpAny_call (call_cells (binds:=[("script",.ref sa)]) (scope:=fR) (name:="law") (cd:=vR 800) (doc:=.none) (pm:=vS "law_ji0048_01" 1847) (by decide) (X _ _ (dfB ..)) rfl T.nolimit (codeRec_of X (ffB ..)) (pmA (.ref sa)) (λx hx=>?_) (λh₁ tk F1 Y1=>?_) rfl rfl rfl)
 ·rw[oH hx]
  exact .inl rfl
 let c:Cx:=⟨callerA,[],"law",fR,s₁.heap.objs.size,801,vR 800,s₁.heap,rfl⟩
 have hc:CxOK c 20:=⟨by show callerA.depth+1+20<900;decide,rfl,by show callerA.units+3+3*20<3000;decide⟩
 have hY:=Y1.cell "d" (s₁.heap.objs.size+1) rfl
 refine iA hY λo ho hd=>?_
 have hd:o.data=.cell none:=hd
 have S:St g c ⟨[("script",.top sa)],mu0⟩ [] [(c.L+1,o)] {s₁ with heap:=h₁,toks:=tk}:=by
  refine lD s₁.heap _ ([]) ([(s₁.heap.objs.size+1,o)]) ⟨⟨⟨rfl,λø ø e=>e,trivial⟩,.refl,ktsDicts_nil,F1,λq hq=>?_⟩,.none,λx v hx=>?_,λt ht=>(nomatch ht),λp hp=>hp,rfl,rfl⟩
  ·have hq:q∈([(s₁.heap.objs.size+1,o)]:List (Addr×Obj)):=hq
   rw[oH hq]
   refine cF ho (Nat.succ_ne_self _) ?_
   cases q:s₁.heap.get? (s₁.heap.objs.size+1)with
   |none=>rfl
   |some o'=>exact absurd (Heap.lt_size q) (Nat.not_lt.mpr (Nat.le_succ _))
  ·rw[pC]at hx
   split at hx
   ·rename_i q
    have o1:=inj hx;clear hx;obtain rfl:=o1
    subst q
    exact jA (.ref sa) rfl (.top sa)
   ·exact no hx
 rw[uxA]
 refine wpAny_execs_cons (jkB G (n:=15) (hc.le (Nat.le_add_left _ _)) hB hi hl hd S λd xs s2 o' hxs ho' S2=>?_)
 refine wpAny_execs_cons (ikB (G.atRd d) (n:=12) (hc.le (Nat.le_add_left _ _)) hB hi hl (dA ‹_› (by decide)) ho' S2 λD ys ws s3 hys hok hlen S3=>?_)
 refine wpAny_execs_cons (hkB (G.atRd d) hL (n:=5) (hc.le (Nat.le_add_left _ _)) hys hok hlen S3 λs4 S4=>?_)
 refine St.el S4 λb m mo rest a1 a2 a3 a4 a5 a6 a7=>?_
 exact gM rfl (λx o e=>a1.F.keep _ _ (a1.B.stays _ _ e)) a6 a7
end Mine
namespace Mine
open PySem PySem.Calls PyProof.Rows
theorem hV (x y:Bool)(r:List Bool):vcs (x::y::r)=(if x&&!y then 1 else 0)+vcs (y::r):=by
 induction x using Bool.casesOn<;>induction y using Bool.casesOn<;>simp[vcs]<;>exact hpA
theorem iV (x:Bool):vcs [x]=0:=by induction x using Bool.casesOn<;>rfl
theorem qfA (r:List Bool):vcs (false::r)=vcs r:=by induction r using List.casesOn<;>rfl
theorem edA:∀(xs ys:List Bool),vcs (xs++ys)=vcs xs+vcs (xs.getLast?.getD false::ys)
 |[],ys=>by
  show vcs ys=0+vcs (false::ys)
  refine qDzq (qfA ..) ?_;exact gpA
 |[x],ys=>by
  show vcs (x::ys)=vcs [x]+vcs (x::ys)
  rw[iV];exact gpA
 |x::y::r,ys=>by
  have ih:=edA (y::r) ys
  show vcs (x::y::(r++ys))=vcs (x::y::r)+vcs (((x::y::r).getLast?).getD false::ys)
  refine qDzq (hV ..) ?_;rw[hV,List.getLast?_cons_cons]
  have ih':vcs (y::(r++ys))=vcs (y::r)+vcs ((y::r).getLast?.getD false::ys):=ih
  simp only[ih'];exact wpB
noncomputable def sR (s:List Nat):Bool:=(s.map gB).getLast?.getD false
theorem sL (s a:List Nat):mA (s++a)=mA s+vcs (sR s::a.map gB):=by
 unfold mA sR
 simp only[List.map_append,edA]
theorem vbA (M:List Nat)(c:Nat)(hc:c<M.length):sR (M.take (c+1))=gB (M.getD c 0):=by
 unfold sR
 rw[List.getLast?_map,List.getLast?_take,if_neg vpB,sD]
 show(Option.map gB (M[c]?.or M.getLast?)).getD false=_
 rw[mG hc]
 rfl
theorem ubA (M:List Nat):sR (M.take 0)=false:=rfl
noncomputable def cM (M:List Nat)(i:Nat):Bool:=decide (0<i)&&gB (M.getD (i-1) 0)&&!gB (M.getD i 0)
noncomputable abbrev mc (M:List Nat)(c:Nat):Nat:=mA (M.take c)
theorem tL {M:List Nat}{i:Nat}(h:i<M.length):mc M (i+1)=mc M i+(if cM M i then 1 else 0):=by
 unfold mc
 have e:M.take (i+1)=M.take i++[M.getD i 0]:=by
  rw[List.take_add_one,sD,mG h];rfl
 simp only[e,sL]
 congr 1
 show vcs [sR (M.take i),gB (M.getD i 0)]=_
 refine qDzq (hV ..) ?_;simp only[iV]
 cases i with
 |zero=>simp only[ubA];rfl
 |succ j=>
  rw[vbA M j (iC ‹_›)]
  unfold cM
  rw[pA (by exact Nat.succ_pos _),eD,Nat.add_sub_cancel]
  cases gB (M.getD j 0)&&!gB (M.getD (j+1) 0)<;>rfl
theorem gO {M:List Nat}{a:Nat}:∀{b:Nat},a<=b->b<=M.length->(∀i,a<=i->i<b->cM M i=false)->mc M b=mc M a:=by
 intro l0
 induction l0 with
 |zero=>
  intro h ø ø
  rw[Nat.le_zero.mp h]
 |succ b ih=>
  intro h hb hv
  rcases Nat.eq_or_lt_of_le h with rfl|h
  ·rfl
  ·rw[tL ‹_›,hv b (oK ‹_›) (vD _),ih (oK ‹_›) (iC ‹_›) λi h1 h2=>hv i h1 (Nat.le_succ_of_le ‹_›)]
   rfl
theorem fO {M:List Nat}{a:Nat}:∀{b:Nat},a<=b->b<=M.length->mc M a<=mc M b:=by
 intro l0
 induction l0 with
 |zero=>
  intro h ø
  rw[Nat.le_zero.mp h];exact vD _
 |succ b ih=>
  intro h hb
  rcases Nat.eq_or_lt_of_le h with rfl|h
  ·exact vD _
  ·simp only[tL ‹_›]
   have:=ih (oK ‹_›) (iC ‹_›)
   exact upB this
theorem qbA (M:List Nat):mc M M.length=mA M:=by unfold mc;rw[List.take_length]
theorem keA (M:List Nat):mc M 0=0:=rfl
theorem sK (k:Nat):oF false k=gB k:=by
 unfold oF rD ycB gB vy
 refine(Bool.eq_iff_iff ..).mpr ?_;simp only[vA]
 simp only[Bool.false_eq_true,if_false,List.contains_eq_mem,vA]
 simp only[List.mem_cons,List.not_mem_nil,or_false]
 have e:∀(s:String) (c:Nat),(Str.ofString s).cps.toList=[c]->(mk [k]=Str.ofString s↔k=c):=λs c h=>by
  constructor
  ·intro q
   have:=congrArg (λx:Str=>x.cps.toList) q
   simp only[h,mk_list]at this
   exact List.singleton_inj.mp this
  ·intro q
   simp only[q,<-h,bC]
 simp only[e "a" 97 (by decide),e "e" 101 (by decide),e "i" 105 (by decide),e "o" 111 (by decide),e "u" 117 (by decide),e "y" 121 (by decide)]
theorem rbB (k:Nat):oF true k=(gB k||decide (k∈([89,119,120]:List Nat))):=by
 unfold oF rD ycB gB vy
 refine(Bool.eq_iff_iff ..).mpr ?_;simp only[Bool.or_eq_true,vA,vA]
 simp only[if_true,List.contains_eq_mem,vA]
 simp only[List.mem_cons,List.not_mem_nil,or_false]
 have e:∀(s:String) (c:Nat),(Str.ofString s).cps.toList=[c]->(mk [k]=Str.ofString s↔k=c):=λs c h=>by
  constructor
  ·intro q
   have:=congrArg (λx:Str=>x.cps.toList) q
   simp only[h,mk_list]at this
   exact List.singleton_inj.mp this
  ·intro q
   simp only[q,<-h,bC]
 simp only[e "Y" 89 (by decide),e "a" 97 (by decide),e "e" 101 (by decide),e "i" 105 (by decide),e "o" 111 (by decide),e "u" 117 (by decide),e "w" 119 (by decide),e "x" 120 (by decide),e "y" 121 (by decide)]
 exact tpB
structure naC (want:Bool) (M:List Nat) (c g:Nat):Prop where
 le:c<=g
 top:g<=max c M.length
 mid:∀i,c<=i->i<g->gB (M.getD i 0)=!want
 stop:g<M.length->gB (M.getD g 0)=want
theorem bF (want:Bool)(M:List Nat)(c:Nat):naC want M c (goF false want M c):=by
 by_cases h:c<M.length
 ·rw[yR h]
  cases q:(oF false (M.getD c 0) !=want)with
  |true=>
   rw[if_pos rfl]
   have ih:=bF want M (c+1)
   have hv:gB (M.getD c 0)=!want:=by
    rw[sK]at q
    induction want using Bool.casesOn<;>cases h2:gB (M.getD c 0)<;>rw[h2]at q<;>simp_all
   refine⟨by have:=ih.le;exact iC ‹_›,by have:=ih.top;lia,λi h1 h2=>?_,ih.stop⟩
   rcases Nat.eq_or_lt_of_le h1 with rfl|h1
   ·exact hv
   ·exact ih.mid i h1 h2
  |false=>
   rw[if_neg (by decide)]
   refine⟨vD _,by exact rpB h,λi h1 h2=>by exact absurd ‹_› (Nat.not_lt.mpr ‹_›),λø=>?_⟩
   rw[sK]at q
   induction want using Bool.casesOn<;>cases h2:gB (M.getD c 0)<;>rw[h2]at q<;>simp_all
 ·rw[yL (Nat.not_lt.mp ‹_›)]
  exact⟨vD _,by exact qpB h,λi h1 h2=>by exact absurd ‹_› (Nat.not_lt.mpr ‹_›),λh=>by exact absurd ‹_› ‹_›⟩
termination_by M.length-c
theorem nL {M:List Nat}{i:Nat}(h:i=0\/gB (M.getD (i-1) 0)=false):cM M i=false:=by
 unfold cM
 rcases h with rfl|h
 ·rfl
 ·rw[h,Bool.and_false];rfl
theorem sQ {M:List Nat}{i:Nat}(h:gB (M.getD i 0)=true):cM M i=false:=by
 unfold cM
 simp only[h];simp
structure qyA (M:List Nat) (a g h:Nat):Prop where
 flat:M.length<=g\/M.length<=h->∀c,a<=c->c<=M.length->mc M c=mc M a
 low:g<M.length->h<M.length->∀c,a<=c->c<=h->mc M c=mc M a
 up:g<M.length->h<M.length->mc M (h+1)=mc M a+1
theorem fQ {M:List Nat}{a:Nat}(ha:a=0\/gB (M.getD (a-1) 0)=false)(hn:a<=M.length):qyA M a (goF false true M a) (goF false false M (goF false true M a+1)):=by
 have R1:=bF true M a
 have R2:=bF false M (goF false true M a+1)
 generalize goF false true M a=g at*
 generalize goF false false M (g+1)=h at*
 have no:∀i,a<=i->i<h->i<M.length->cM M i=false:=λi h1 h2 h3=>by
  by_cases q:i<g
  ·refine nL ?_
   rcases Nat.eq_or_lt_of_le h1 with rfl|h1
   ·exact ha
   ·exact .inr (R1.mid (i-1) (eaB ‹_› h1) (iD (fE _ _) ‹_›))
  ·by_cases q2:i=g
   ·exact sQ (q2▸R1.stop (q2▸h3))
   ·exact sQ (R2.mid i (opB q q2) h2)
 have no1:M.length<=g->∀i,a<=i->i<M.length->cM M i=false:=λq i h1 h2=>by
  refine nL ?_
  rcases Nat.eq_or_lt_of_le h1 with rfl|h1
  ·exact ha
  ·exact .inr (R1.mid (i-1) (eaB ‹_› h1) (npB q ‹_› h2 h1))
 refine⟨λq c h1 h2=>gO h1 h2 λi h3 h4=>?_,λq1 q2 c h1 h2=>gO h1 (dA ‹_› (iC ‹_›)) λi h3 h4=>no i h3 (cE ‹_› ‹_›) (mpB q2 h2 h4),λq1 q2=>?_⟩
 ·refine Or.elim q (λq=>?_) λq=>?_
  ·exact no1 q i h3 (cE ‹_› ‹_›)
  ·exact no i h3 (lpB h2 h4 q) (cE ‹_› ‹_›)
 ·rw[tL q2,gO (a:=a) (by have:=R1.le;have:=R2.le;exact dA ‹_› (iC ‹_›)) (iC ‹_›) λi h3 h4=>no i h3 h4 (dA ‹_› (iC ‹_›))]
  have hv:cM M h=true:=by
   unfold cM
   have e1:gB (M.getD (h-1) 0)=true:=by
    by_cases q:h=g+1
    ·rw[q,Nat.add_sub_cancel];exact R1.stop q1
    ·exact R2.mid (h-1) (by have:=R2.le;exact kpB q this) (by have:=R2.le;exact jpB q this)
   simp only[pA (by have:=R2.le;exact ipB this),e1,R2.stop q2];rfl
  rw[hv];rfl
structure RegOK (M:List Nat) (p q:Int):Prop where
 one:∀c:Nat,c<M.length->(p<=c↔1<=mc M c)
 two:∀c:Nat,c<M.length->(q<=c↔2<=mc M c)
theorem qsA (M:List Nat):RegOK M (zN M).1 (zN M).2:=by
 have S1:=fQ (M:=M) (a:=0) (.inl rfl) (rC _)
 have R1:=bF true M 0
 have R2:=bF false M (goF false true M 0+1)
 unfold zN
 dsimp only
 generalize goF false true M 0=g1 at*
 generalize goF false false M (g1+1)=g2 at*
 have f1:=S1.flat
 have l1:=S1.low
 have u1:=S1.up
 have R1le:=R1.le
 by_cases q1:M.length<=g1
 ·rw[if_pos q1]
  have z:∀c,c<=M.length->mc M c=0:=λc h=>f1 (.inl ‹_›) c (rC _) h
  exact⟨λc h=>by rw[z c (iC ‹_›)];exact daB h,λc h=>by rw[z c (iC ‹_›)];exact epA h⟩
 rw[if_neg q1]
 by_cases q2:M.length<=g2
 ·rw[if_pos q2]
  have z:∀c,c<=M.length->mc M c=0:=λc h=>f1 (.inr ‹_›) c (rC _) h
  exact⟨λc h=>by rw[z c (iC ‹_›)];exact daB h,λc h=>by rw[z c (iC ‹_›)];exact epA h⟩
 rw[if_neg q2]
 have l1:=l1 (kF ‹_›) (kF ‹_›)
 have u1:=u1 (kF ‹_›) (kF ‹_›)
 simp only[keA]at u1 l1
 have S2:=fQ (M:=M) (a:=g2+1) (.inr (by rw[Nat.add_sub_cancel];exact R2.stop (kF ‹_›))) (kF ‹_›)
 have R3:=bF true M (g2+1)
 have R4:=bF false M (goF false true M (g2+1)+1)
 generalize goF false true M (g2+1)=g3 at*
 generalize goF false false M (g3+1)=g4 at*
 have f2:=S2.flat
 have l2:=S2.low
 have u2:=S2.up
 have R3le:=R3.le
 have R4le:=R4.le
 have one:∀c:Nat,c<M.length->((g2:Int)+1<=c↔1<=mc M c):=λc h=>by
  by_cases q:c<=g2
  ·simp only[l1 c (rC _) q];exact hpB q
  ·have:=fO (M:=M) (a:=g2+1) (b:=c) (kF ‹_›) (iC ‹_›)
   exact gpB u1 q this
 by_cases q3:M.length<=g3
 ·rw[if_pos q3]
  refine⟨one,λc h=>?_⟩
  dsimp only
  by_cases q:c<=g2
  ·simp only[l1 c (rC _) q];exact epA h
  ·simp only[f2 (.inl ‹_›) c (kF ‹_›) (iC ‹_›),u1];exact caB h
 rw[if_neg q3]
 by_cases q4:M.length<=g4
 ·rw[if_pos q4]
  refine⟨one,λc h=>?_⟩
  dsimp only
  by_cases q:c<=g2
  ·simp only[l1 c (rC _) q];exact fpB R3le q3 q
  ·simp only[f2 (.inr ‹_›) c (kF ‹_›) (iC ‹_›),u1];exact caB h
 rw[if_neg q4]
 refine⟨one,λc h=>?_⟩
 dsimp only
 have l2:=l2 (kF ‹_›) (kF ‹_›)
 have u2:=u2 (kF ‹_›) (kF ‹_›)
 by_cases q:c<=g4
 ·by_cases q':c<=g2
  ·simp only[l1 c (rC _) q'];exact epB R3le R4le q'
  ·simp only[l2 c (kF ‹_›) q,u1];exact dpB q
 ·have:=fO (M:=M) (a:=g4+1) (b:=c) (kF ‹_›) (iC ‹_›)
  exact cpB u1 ‹_› q3 q4 q this
theorem sP {f g:Nat->Bool}:∀{l:List Nat},(∀k∈l,f k=g k)->l.takeWhile f=l.takeWhile g:=by
 intro l0
 induction l0 with
 |nil=>
  intro ø
  exact rfl
 |cons x r ih=>
  intro h
  refine qDzq (List.takeWhile_cons ..) ?_;simp only[List.takeWhile_cons,h x (.head _),ih λk hk=>h k (.tail _ hk)]
theorem qJ (l:List Nat)(c:Nat):mE l c vy false=goF false true l c:=by
 unfold mE goF
 congr 2
 refine sP λk ø=>?_
 unfold hit
 rw[sK]
 unfold gB
 cases decide (k∈vy)<;>rfl
theorem gQ {l:List Nat}(h:121∉l)(c:Nat):mE l c vv true=goF false false l c:=by
 unfold mE goF
 congr 2
 refine sP λk hk=>?_
 have hk:k∈l:=List.mem_of_mem_drop hk
 have hn:k≠121:=λq=>h (q▸hk)
 unfold hit
 rw[sK]
 unfold gB
 have e:decide (k∈vv)=decide (k∈vy):=by
  refine(decide_eq_decide ..).mpr ?_
  unfold vv vy
  simp only[List.mem_cons,List.not_mem_nil,or_false]
  exact bpB hn
 rw[e]
 cases decide (k∈vy)<;>rfl
theorem nO {want:Bool}{l:List Nat}{c:Nat}(h:c<l.length)(hv:gB (l.getD c 0)=!want):goF false want l c=goF false want l (c+1):=by
 refine qDzq (yR h ..) ?_;exact(if_pos (by rw[sK,hv];induction want using Bool.casesOn<;>rfl) ..)
structure Runs (x:List Nat):Prop where
 m0:bI x=decide (0<mA x)
 m1:iE x=decide (1<mA x)
 q1:cI x=(mA x==1)
theorem rL {x:List Nat}(h:121∉x):Runs x:=by
 have S1:=fQ (M:=x) (a:=0) (.inl rfl) (rC _)
 have R1:=bF true x 0
 have R2:=bF false x (goF false true x 0+1)
 have e1:r1 x=goF false true x 0:=qJ x 0
 have hall:=qbA x
 have f1:=S1.flat
 have u1:=S1.up
 by_cases p1:x.length<=goF false true x 0
 ·have z:mA x=0:=by refine qDzq (hall ..).symm ?_;refine qDzq (f1 (.inl p1) _ (rC _) (vD _) ..) ?_;rfl
  have e2:r2 x=r1 x:=by
   show mE x (r1 x) vv true=_
   refine qDzq (gQ h ..) ?_;exact(yL (by simp only[e1];exact p1) ..)
  refine⟨?_,?_,?_⟩
  ·unfold bI;rw[e2,z,rG dpA];rfl
  ·unfold iE;rw[e2,z,rG dpA];rfl
  ·unfold cI;rw[e2,z,rG dpA];rfl
 have hv1:=R1.stop (kF ‹_›)
 have e2:r2 x=goF false false x (goF false true x 0+1):=by
  show mE x (r1 x) vv true=_
  rw[gQ h,e1,nO (kF ‹_›) (by refine qDzq (hv1 ..) ?_;rfl)]
 have R2le:=R2.le
 generalize goF false true x 0=g1 at*
 generalize goF false false x (g1+1)=g2 at*
 have d12:decide (r1 x<r2 x)=true:=pA (cpA e1 e2 R2le)
 by_cases p2:x.length<=g2
 ·have z:mA x=0:=by refine qDzq (hall ..).symm ?_;refine qDzq (f1 (.inr p2) _ (rC _) (vD _) ..) ?_;rfl
  have e3:r3 x=r2 x:=by
   show mE x (r2 x) vy false=_
   rw[qJ,e2,yL p2]
  refine⟨?_,?_,?_⟩
  ·unfold bI;simp only[e3,z,d12,rG (Nat.lt_irrefl _)];rfl
  ·unfold iE;simp only[e3,z,d12,rG (Nat.lt_irrefl _)];rfl
  ·unfold cI;simp only[e3,z,d12,rG (Nat.lt_irrefl _)];rfl
 have hv2:=R2.stop (kF ‹_›)
 have u1:=u1 (kF ‹_›) (kF ‹_›)
 simp only[keA]at u1
 have S2:=fQ (M:=x) (a:=g2+1) (.inr (by rw[Nat.add_sub_cancel];exact hv2)) (kF ‹_›)
 have R3:=bF true x (g2+1)
 have R4:=bF false x (goF false true x (g2+1)+1)
 have e3:r3 x=goF false true x (g2+1):=by
  show mE x (r2 x) vy false=_
  rw[qJ,e2,nO (kF ‹_›) (by refine qDzq (hv2 ..) ?_;rfl)]
 have hge:1<=mA x:=by
  have:=fO (M:=x) (a:=g2+1) (b:=x.length) (kF ‹_›) (vD _)
  exact apB hall u1 this
 have f2:=S2.flat
 have u2:=S2.up
 have R3le:=R3.le
 have d23:decide (r2 x<r3 x)=true:=pA (cpA e2 e3 R3le)
 by_cases p3:x.length<=goF false true x (g2+1)
 ·have z:mA x=1:=by refine qDzq (hall ..).symm ?_;refine qDzq (f2 (.inl p3) _ (kF ‹_›) (vD _) ..) ?_;exact(u1 ..)
  have e4:r4 x=r3 x:=by
   show mE x (r3 x) vv true=_
   refine qDzq (gQ h ..) ?_;exact(yL (by simp only[e3];exact p3) ..)
  have e3n:r3 x=x.length:=by have:=R3.top;exact baB p2 e3 p3 this
  refine⟨?_,?_,?_⟩
  ·unfold bI;simp only[d12,d23,z];rfl
  ·unfold iE;simp only[d12,d23,e4,z,rG (Nat.lt_irrefl _)];rfl
  ·unfold cI;rw[d12,d23,e4,e3n,z,pA rfl];rfl
 have hv3:=R3.stop (kF ‹_›)
 have e4:r4 x=goF false false x (goF false true x (g2+1)+1):=by
  show mE x (r3 x) vv true=_
  rw[gQ h,e3,nO (kF ‹_›) (by refine qDzq (hv3 ..) ?_;rfl)]
 have R4le:=R4.le
 generalize goF false true x (g2+1)=g3 at*
 generalize goF false false x (g3+1)=g4 at*
 have d34:decide (r3 x<r4 x)=true:=pA (cpA e3 e4 R4le)
 by_cases p4:x.length<=g4
 ·have z:mA x=1:=by refine qDzq (hall ..).symm ?_;refine qDzq (f2 (.inr p4) _ (aaB p2) (vD _) ..) ?_;exact(u1 ..)
  have e5:r5 x=r4 x:=by
   show mE x (r4 x) vy false=_
   rw[qJ,e4,yL p4]
  have e4n:r4 x=x.length:=by have:=R4.top;exact baB p3 e4 p4 this
  refine⟨?_,?_,?_⟩
  ·unfold bI;simp only[d12,d23,z];rfl
  ·unfold iE;simp only[d12,d23,d34,e5,z,rG (Nat.lt_irrefl _)];rfl
  ·unfold cI;simp only[d12,d23,e4n,z,pA rfl];rfl
 have hv4:=R4.stop (bpA p4)
 have u2:=u2 (zoB e3 p3) (bpA p4)
 have e5:r4 x<r5 x:=by
  show _<mE x (r4 x) vy false
  rw[qJ,e4,nO (bpA p4) (by refine qDzq (hv4 ..) ?_;rfl)]
  have:=(bF true x (g4+1)).le
  exact yoB this
 have hge2:2<=mA x:=by
  have:=fO (M:=x) (a:=g4+1) (b:=x.length) (aaB p4) (vD _)
  exact xoB hall u1 hge p3 ‹_› p4 this
 refine⟨?_,?_,?_⟩
 ·unfold bI;simp only[d12,d23,pA (woB hge)];rfl
 ·unfold iE;simp only[d12,d23,d34,pA e5,pA (voB hge hge2)];rfl
 ·unfold cI;simp only[d12,d23,rG (uoB e4 p4)]
  have:(mA x==1)=false:=beq_false_of_ne (toB hge2)
  simp only[this];rfl
theorem eC {e w:List Nat}(h:e.isSuffixOf w=true):w=cut w e.length++e/\e.length<=w.length:=by
 refine iB (List.isSuffixOf_iff_suffix.mp h) λt o1=>?_;obtain rfl:=o1
 refine⟨?_,by simp only[vC];exact Nat.le_add_left _ _⟩
 unfold cut
 rw[vC,Nat.add_sub_cancel,List.take_left]
theorem suf_of (t e:List Nat):e.isSuffixOf (t++e)=true:=List.isSuffixOf_iff_suffix.mpr (yC t rfl)
theorem afA (t e:List Nat):cut (t++e) e.length=t:=by
 unfold cut
 rw[vC,Nat.add_sub_cancel,List.take_left]
theorem rN {a b w:List Nat}(h1:a.isSuffixOf w=true)(h2:b.isSuffixOf w=true)(h:a.length<=b.length):a.isSuffixOf b=true:=
 List.isSuffixOf_iff_suffix.mpr (List.suffix_of_suffix_length_le (List.isSuffixOf_iff_suffix.mp h1) (List.isSuffixOf_iff_suffix.mp h2) h)
theorem fJ {a b w:List Nat}(h1:a.isSuffixOf b=true)(h2:b.isSuffixOf w=true):a.isSuffixOf w=true:=
 List.isSuffixOf_iff_suffix.mpr ((List.isSuffixOf_iff_suffix.mp h1).trans (List.isSuffixOf_iff_suffix.mp h2))
noncomputable abbrev eS (e:AmE):List Nat:=e.s.cps.toList
structure HitM (L:List AmE) (w:List Nat) (r:Option AmE):Prop where
 none_:r=none->∀e∈L,(eS e).isSuffixOf w=false
 some_:∀x,r=some x->x∈L/\(eS x).isSuffixOf w=true/\∀e∈L,(eS e).isSuffixOf w=true->(eS e).length<=(eS x).length
theorem cxA (w:List Nat):∀(L L0:List AmE) (r:Option AmE),HitM L0 w r->HitM (L0++L) w (gK w.reverse L r):=by
 intro l0
 induction l0 with
 |nil=>
  intro L0 r h
  rw[List.append_nil];exact h
 |cons e L ih=>
  intro L0 r h
  have key:HitM (L0++[e]) w (if(keyOf e).isPrefixOf w.reverse&&tnA r e then some e else r):=by
   have ek:(keyOf e).isPrefixOf w.reverse=(eS e).isSuffixOf w:=rfl
   rw[ek]
   induction r using Option.casesOn with
   |none=>
    have hn:=h.none_ rfl
    by_cases q:(eS e).isSuffixOf w=true
    ·rw[q,if_pos (by rfl)]
     refine⟨λz=>(by injection z),λx hx=>?_⟩
     have o1:=inj hx;clear hx;obtain rfl:=o1
     refine cF (eE _ (.head _)) q (λy hy hs=>?_)
     refine Or.elim (dI hy) (λhy=>?_) λhy=>?_
     ·rw[hn y hy]at hs;exact nof hs
     ·rw[oH hy];exact vD _
    ·simp only[Bool.not_eq_true]at q
     rw[q,if_neg (by simp)]
     refine⟨λø y hy=>?_,λx hx=>(no hx)⟩
     refine Or.elim (dI hy) (λhy=>?_) λhy=>?_
     ·exact hn y hy
     ·rw[oH hy];exact q
   |some x0=>
    refine vH (h.some_ x0 rfl) λh1 h2 h3=>?_
    have ec:tnA (some x0) e=decide ((eS x0).length<(eS e).length):=rfl
    rw[ec]
    by_cases q:((eS e).isSuffixOf w&&decide ((eS x0).length<(eS e).length))=true
    ·rw[if_pos q]
     simp only[oA,vA]at q
     refine⟨λz=>(by injection z),λx hx=>?_⟩
     have o2:=inj hx;clear hx;obtain rfl:=o2
     refine cF (eE _ (.head _)) q.1 (λy hy hs=>?_)
     refine Or.elim (dI hy) (λhy=>?_) λhy=>?_
     ·have:=h3 y hy hs;lia
     ·rw[oH hy];exact vD _
    ·rw[if_neg q]
     refine⟨λz=>(by injection z),λx hx=>?_⟩
     have o3:=inj hx;clear hx;obtain rfl:=o3
     refine cF (zH _ h1) h2 (λy hy hs=>?_)
     refine Or.elim (dI hy) (λhy=>?_) λhy=>?_
     ·exact h3 y hy hs
     ·rw[oH hy]at hs ⊢
      rw[hs,eD,vA]at q
      exact Nat.not_lt.mp ‹_›
  have:=ih (L0++[e]) _ key
  simp only[List.append_assoc]at this
  exact this
theorem wL (L:List AmE)(w:List Nat):HitM L w (gL L w):=by
 have:=cxA w L [] none ⟨λø e he=>(nomatch he),λx hx=>(no hx)⟩
 exact this
theorem ylA (w:List Nat){k c:Nat}(h:c<=k):mc (w.take k) c=mc w c:=by
 unfold mc
 rw[List.take_take,Nat.min_eq_left h]
theorem RegOK.to {w w':List Nat}{p q:Int}(h:RegOK w p q)(hl:w'.length<=w.length)(hm:∀c,c<w'.length->mc w' c=mc w c):RegOK w' p q:=
 ⟨λc hc=>by simp only[hm c hc];exact h.one c (cE ‹_› ‹_›),λc hc=>by rw[hm c hc];exact h.two c (cE ‹_› ‹_›)⟩
theorem RegOK.take {w:List Nat}{p q:Int}(h:RegOK w p q)(k:Nat):RegOK (w.take k) p q:=
 h.to (by rw[gF];exact soB) λc hc=>ylA w (by simp only[gF]at hc;exact roB hc)
theorem RegOK.cut {w:List Nat}{p q:Int}(h:RegOK w p q)(k:Nat):RegOK (cut w k) p q:=h.take _
noncomputable def worth (old new:List Nat):Bool:=decide (new.length<=old.length)&&(List.range new.length).all λj=>[true,false].all λb=>vcs (b::(new.take j).map gB)==vcs (b::(old.take j).map gB)
theorem keB {s old new:List Nat}(h:worth old new=true){c:Nat}(hc:c<(s++new).length):mc (s++new) c=mc (s++old) c:=by
 unfold worth at h
 simp only[oA,vA]at h
 refine gA h λh1 h2=>?_
 simp only[vC]at hc
 by_cases q:c<=s.length
 ·unfold mc
  simp only[List.take_append_of_le_length q,List.take_append_of_le_length q]
 ·have hj:c-s.length<new.length:=by exact qoB hc q
  have h3:=fC h2 (c-s.length) (List.mem_range.mpr hj)
  have h4:∀b,vcs (b::(new.take (c-s.length)).map gB)=vcs (b::(old.take (c-s.length)).map gB):=λb=>by
   have:=fC h3 b (by induction b using Bool.casesOn<;>simp)
   exact eq_of_beq this
  unfold mc
  have e1:(s++new).take c=s++new.take (c-s.length):=by rw[List.take_append,List.take_of_length_le (zzA q)]
  have e2:(s++old).take c=s++old.take (c-s.length):=by rw[List.take_append,List.take_of_length_le (zzA q)]
  simp only[e1,e2,sL,sL,h4]
theorem RegOK.new {s old new:List Nat}{p q:Int}(h:RegOK (s++old) p q)(hw:worth old new=true):RegOK (s++new) p q:=
 h.to (by unfold worth at hw;replace hw:=bmp bB id hw;simp only[vC,vC];lia) λc hc=>keB hw hc
noncomputable def eQ (L:List AmE)(A:List Str)(es:List (Str×Str)):Bool:=
 (L.all λe=>decide (0<e.res)&&(eS e !=[])&&(kB es).contains (eS e)&&((A.getD (e.res-1).toNat Str.empty).cps.toList==(xE es (mk (eS e))).cps.toList)&&worth (eS e) (xE es (mk (eS e))).cps.toList)&&(kB es).all λk=>L.any λe=>eS e==k
theorem fwB:eQ naA jaA (dG false)=true:=by decide+kernel
theorem ewB:eQ maA iaA s3L=true:=by decide+kernel
theorem reA {L:List AmE}{K:List (List Nat)}{w:List Nat}(hK:∀k,k∈K↔∃e∈L,eS e=k):(gL L w=none->mC false w K []=[])/\∀e,gL L w=some e->mC false w K []=eS e:=by
 have H:=wL L w
 have hE:=pD false w K
 constructor
 ·intro hn
  have h2:=H.none_ hn
  refine hE.one (P':=λk=>k∈K) (λø=>Iff.rfl) ⟨by induction w using List.casesOn<;>rfl,.inl rfl,λk hk ho=>?_⟩
  refine iA ((hK k).mp hk) λe he o1=>?_;obtain rfl:=o1
  unfold yD at ho
  rw[h2 e he]at ho
  exact nof ho
 ·intro e he
  refine vH (H.some_ e he) λh1 h2 h3=>?_
  refine hE.one (P':=λk=>k∈K) (λø=>Iff.rfl) ⟨h2,.inr ⟨(hK _).mpr (jA e h1 rfl),by unfold yD;rw[h2];rfl⟩,λk hk ho=>?_⟩
  refine iA ((hK k).mp hk) λe' he' o3=>?_;obtain rfl:=o3
  unfold yD at ho
  simp only[oA]at ho
  exact h3 e' he' ho.1
theorem njA {L:List AmE}{A:List Str}{es:List (Str×Str)}(hT:eQ L A es=true){w:List Nat}{p q:Int}(hR:RegOK w p q):swF L A (λc=>decide (p<=c)) w=zC false es w/\RegOK (zC false es w) p q:=by
 unfold eQ at hT
 simp only[oA]at hT
 refine gA hT λt1 t2=>?_
 have hK:∀k,k∈kB es↔∃e∈L,eS e=k:=λk=>by
  constructor
  ·intro hk
   have:=fC t2 k hk
   refine iA (List.any_eq_true.mp this) λe he q=>?_
   exact jA e he (eq_of_beq q)
  ·intro o1;refine iA o1 λe he o2=>?_;obtain rfl:=o2
   have:=fC t1 e he
   replace this:=bmp (bmp (bmp id id) id) id this
   have z:=this.1.1.2
   rw[List.contains_eq_mem,vA]at z
   exact z
 refine gA (reA (w:=w) hK) λn1 n2=>?_
 have H:=wL L w
 unfold swF zC
 cases he:gL L w with
 |none=>
  rw[n1 he]
  exact eB rfl hR
 |some e=>
  dsimp only
  rw[n2 e he]
  refine vH (H.some_ e he) λh1 h2 h3=>?_
  have te:=fC t1 e h1
  simp only[oA,vA]at te
  refine gA te λo3 e5=>?_;refine gA o3 λo4 e4=>?_;refine gA o4 λo5 e3=>?_;refine gA o5 λe1 e2=>?_
  refine gA (eC h2) λhsp hle=>?_
  have hpos:0<(eS e).length:=by
   cases q:eS e with
   |nil=>rw[q]at e2;exact nof e2
   |cons ø ø=>exact Nat.succ_pos _
  have hlen:e.s.length=(eS e).length:=rfl
  have hc:=hR.one (w.length-(eS e).length) (yzA hle hpos)
  have hcut:mc w (w.length-(eS e).length)=mA (cut w (eS e).length):=rfl
  simp only[hcut]at hc
  have ed:decide (p<=((w.length-(eS e).length:Nat):Int))=decide (0<mA (cut w (eS e).length)):=by refine(decide_eq_decide ..).mpr ?_;assumption
  simp only[hlen,pA e1,eD,ed,e2,eD,eq_of_beq e4]
  by_cases q:decide (0<mA (cut w (eS e).length))=true
  ·rw[if_pos q,if_pos q]
   refine eB rfl ?_
   rw[hsp]at hR
   exact hR.new e5
  ·rw[if_neg q,if_neg q]
   exact eB rfl hR
theorem qZ (l:List Nat):eI l=l.any gB:=by
 unfold eI fF
 rw[Bool.eq_iff_iff,vA,List.mem_map,List.any_eq_true]
 constructor
 ·intro o1;refine iA o1 λk hk e=>?_
  refine jA k hk ?_
  cases q:gB k with
  |true=>rfl
  |false=>rw[q]at e;simp at e
 ·intro o2;refine iA o2 λk hk e=>?_
  exact jA k hk (by rw[e];rfl)
theorem xL {l:List Nat}:eI l=true↔∃i,i<l.length/\gB (l.getD i 0)=true:=by
 rw[qZ,List.any_eq_true]
 constructor
 ·intro o1;refine iA o1 λk hk e=>?_
  refine iB (List.mem_iff_getElem.mp hk) λi o3=>?_;obtain⟨hi,rfl⟩:=o3
  exact jA i hi (by rw[sD,mG hi];exact e)
 ·intro o2;refine iA o2 λi hi e=>?_
  rw[sD,mG hi]at e
  exact jA _ (List.getElem_mem hi) e
theorem uH {w:List Nat}{n i:Nat}(h:i<n):(w.take n).getD i 0=w.getD i 0:=by
 refine qDzq (sD) ?_;rw[sD,List.getElem?_take,if_pos h]
theorem teA (w:List Nat):∀c,c<=w.length->decide (0<goB false w c)=eI (w.take c):=by
 intro l0
 induction l0 with
 |zero=>
  intro ø
  exact rfl
 |succ c ih=>
  intro h
  have ih:=ih (iC ‹_›)
  unfold goB
  rw[sK]
  cases q:gB (w.getD c 0)with
  |true=>
   rw[if_pos rfl,pA (by exact Nat.succ_pos _)]
   exact(xL.mpr (jA c (by simp only[gF];exact poB h) (by rw[uH (by exact vD _)];exact q))).symm
  |false=>
   rw[if_neg (by decide),ih,Bool.eq_iff_iff,xL,xL]
   constructor
   ·intro o1;obtain⟨i,hi,e⟩:=o1
    rw[gF]at hi
    exact jA i (by rw[gF];lia) (by rw[uH (by lia)]at e ⊢;exact e)
   ·intro o2;obtain⟨i,hi,e⟩:=o2
    rw[gF]at hi
    rw[uH (ooB h hi)]at e
    have:i≠c:=λz=>by rw[z,q]at e;exact nof e
    exact jA i (by rw[gF];lia) (by rw[uH (noB h hi this)];exact e)
theorem yE {e:List Nat}(u:List Nat){k:Nat}(h:e.length=k):(bD k u==e)=e.isSuffixOf u:=by
 rw[Bool.eq_iff_iff,beq_iff_eq,List.isSuffixOf_iff_suffix,List.suffix_iff_eq_drop,h]
 exact eq_comm
theorem jcB {c:Nat}(w:List Nat):([c]:List Nat).isSuffixOf w=(decide (0<w.length)&&([w.getD (w.length-1) 0]==[c])):=by
 rw[Bool.eq_iff_iff,List.isSuffixOf_iff_suffix,oA,vA,beq_iff_eq]
 constructor
 ·intro o1;refine iB o1 λt o3=>?_;obtain rfl:=o3
  refine eB (by simp) ?_
  rw[vC,sD]
  simp
 ·intro o2;refine gA o2 λh e=>?_
  refine yC (w.take (w.length-1)) ?_
  have e':=List.singleton_inj.mp e
  rw[sD,mG (bV h)]at e'
  have e'':w[w.length-1]'(bV h)=c:=e'
  simp only[<-e'',<-List.take_succ_eq_append_getElem (bV h:w.length-1<w.length),show w.length-1+1=w.length by exact Nat.sub_add_cancel ‹_›,List.take_length]
theorem vL (y:String){c:Nat}(hy:cp y=[c])(w:List Nat):isAt y w w.length=sx y w:=by
 show _=(cp y).isSuffixOf w
 unfold isAt
 rw[hy,jcB]
theorem gP (y:String)(w:List Nat){n:Nat}(h:n<=w.length):isAt y w n=isAt y (w.take n) (w.take n).length:=by
 unfold isAt
 have e:(w.take n).length=n:=by refine qDzq (gF ..) ?_;exact jyA h
 rw[e]
 by_cases q:0<n
 ·rw[uH (bV q)]
 ·rw[rG q];rfl
theorem iX {M:List Nat}{c:Nat}(hc:c<=M.length)(h0:mc M c=0){i:Nat}:∀{j:Nat},i<=j->j<c->gB (M.getD i 0)=true->gB (M.getD j 0)=true
 |0,h,ø,hv=>by rw[Nat.le_zero.mp h]at hv;exact hv
 |j+1,h,hj,hv=>by
  rcases Nat.eq_or_lt_of_le h with rfl|h
  ·exact hv
  ·have ih:=iX hc h0 (i:=i) (j:=j) (oK ‹_›) (iC ‹_›) hv
   cases q:gB (M.getD (j+1) 0)with
   |true=>rfl
   |false=>
    have h1:cM M (j+1)=true:=by
     unfold cM
     rw[pA (by exact Nat.succ_pos _),Nat.add_sub_cancel,ih,q];rfl
    have h2:=tL (M:=M) (i:=j+1) (cE ‹_› ‹_›)
    rw[h1,if_pos rfl]at h2
    have h3:=fO (M:=M) (a:=j+1+1) (b:=c) ‹_› hc
    lia
structure Shape (u:List Nat):Prop where
 n:2<u.length
 pre:∀i,i<u.length-2->gB (u.getD i 0)=false
 vow:gB (u.getD (u.length-2) 0)=true
 con:gB (u.getD (u.length-1) 0)=false
theorem getD_map {l:List Nat}{i:Nat}(h:i<l.length):(fF l).getD i 0=if gB (l.getD i 0)then 118 else 99:=by
 unfold fF
 refine qDzq (sD) ?_;rw[List.getElem?_map,sD,mG h]
 rfl
theorem sT {u:List Nat}(hn:2<u.length):(fF u==List.replicate (u.length-2) 99++[118,99])=true↔Shape u:=by
 rw[beq_iff_eq]
 have hl:(fF u).length=u.length:=by unfold fF;exact(List.length_map ..)
 have hr:(List.replicate (u.length-2) 99++[118,99]).length=u.length:=by simp;exact moB hn
 have at_:∀i,i<u.length->(List.replicate (u.length-2) 99++[118,99]).getD i 0=if i<u.length-2 then 99 else if i=u.length-2 then 118 else 99:=λi hi=>by
  refine qDzq (sD) ?_;rw[List.getElem?_append,List.length_replicate]
  by_cases q:i<u.length-2
  ·rw[if_pos q,if_pos q,List.getElem?_replicate,if_pos q];rfl
  ·rw[if_neg q,if_neg q]
   by_cases q2:i=u.length-2
   ·rw[if_pos q2,q2,Nat.sub_self];rfl
   ·rw[if_neg q2,show i-(u.length-2)=1 by exact loB hn hi q q2];rfl
 constructor
 ·intro e
  have g:∀i,i<u.length->(if gB (u.getD i 0)then 118 else 99)=(if i<u.length-2 then 99 else if i=u.length-2 then 118 else 99):=λi hi=>by refine qDzq (getD_map hi ..).symm ?_;simp only[e,at_ i hi]
  refine⟨hn,λi hi=>?_,?_,?_⟩
  ·have:=g i (xzA hn hi)
   rw[if_pos hi]at this
   cases q:gB (u.getD i 0)with
   |false=>rfl
   |true=>rw[q]at this;simp at this
  ·have:=g (u.length-2) (koB hn)
   cases q:gB (u.getD (u.length-2) 0)with
   |true=>rfl
   |false=>
    rw[q,if_neg (by decide:¬(false=true)),if_neg (Nat.lt_irrefl _),if_pos rfl]at this
    lia
  ·have:=g (u.length-1) (apA hn)
   cases q:gB (u.getD (u.length-1) 0)with
   |false=>rfl
   |true=>
    rw[q,if_pos rfl,if_neg (joB this:¬(u.length-1<u.length-2)),if_neg (ioB hn:¬(u.length-1=u.length-2))]at this
    lia
 ·intro S
  refine List.ext_getElem (by refine qDzq (hl ..) ?_;simp only[hr]) λi h1 h2=>?_
  have hi:i<u.length:=by exact hoB hl h1
  have e1:(fF u).getD i 0=(fF u)[i]:=by refine qDzq (sD) ?_;rw[mG h1];rfl
  have e2:(List.replicate (u.length-2) 99++[118,99]).getD i 0=(List.replicate (u.length-2) 99++[118,99])[i]:=by refine qDzq (sD) ?_;rw[mG h2];rfl
  refine qDzq (e1 ..).symm ?_;simp only[<-e2,at_ i hi,getD_map hi]
  by_cases q:i<u.length-2
  ·rw[if_pos q,S.pre i q];rfl
  ·rw[if_neg q]
   by_cases q2:i=u.length-2
   ·rw[if_pos q2,q2,S.vow];rfl
   ·rw[if_neg q2,show i=u.length-1 by exact eoB hn hl h1 q q2,S.con];rfl
theorem wH {u:List Nat}:bE u u.length=true↔2<u.length/\gB (u.getD (u.length-3) 0)=false/\gB (u.getD (u.length-2) 0)=true/\gB (u.getD (u.length-1) 0)=false/\u.getD (u.length-1) 0∉([89,119,120]:List Nat):=by
 unfold bE kG
 simp only[sK,rbB,oA,vA,beq_iff_eq,Bool.or_eq_false_iff,decide_eq_false_iff_not]
 rw[show u.length-1-1=u.length-2 by rfl,show u.length-2-1=u.length-3 by rfl]
 constructor
 ·intro o1;refine vH o1 λo3 h6 h7=>?_;refine vH o3 λo4 h4 h5=>?_;refine vH o4 λh1 h2 h3=>?_
  exact jnA (doB h6) h7 h5 h2 h3
 ·intro o2;refine qaA o2 λh1 h2 h3 h4 h5=>?_
  exact cF (cF (cF (coB h1) h4 h5) (wzA h1) h3) (boB h1) h2
theorem uM {u:List Nat}:aE u=true↔Shape u/\u.getD (u.length-1) 0∉([89,119,120]:List Nat):=by
 unfold aE
 simp only[oA,oA,vA,Nat.sub_zero,aF,decide_eq_false_iff_not]
 constructor
 ·intro o1;refine gA o1 λo3 h3=>?_;refine gA o3 λh1 h2=>?_
  exact⟨(sT h1).mp h2,λh=>h3 (by simp only[List.mem_cons,List.not_mem_nil,or_false]at h ⊢;exact aoB h)⟩
 ·intro o2;refine gA o2 λS h=>?_
  refine⟨⟨S.n,(sT S.n).mpr S⟩,λhm=>?_⟩
  simp only[List.mem_cons,List.not_mem_nil,or_false]at h hm
  rcases hm with e|e|e|e
  ·exact h (znB h e)
  ·exact h (ynB h e)
  ·have:=S.con;rw[e]at this;revert this;decide
  ·exact h (xnB h e)
theorem meA {u:List Nat}(h2:2<u.length)(hv:gB (u.getD (u.length-2) 0)=true)(hc:gB (u.getD (u.length-1) 0)=false):mA u=mc u (u.length-1)+1:=by
 refine qDzq (qbA u ..).symm ?_
 have:=tL (M:=u) (i:=u.length-1) (apA h2)
 have hvc:cM u (u.length-1)=true:=by
  unfold cM
  simp only[pA (wzA h2),show u.length-1-1=u.length-2 by rfl,hv,hc];rfl
 rw[hvc,if_pos rfl,show u.length-1+1=u.length by exact wnB h2]at this
 exact this
theorem jY {u:List Nat}(S:Shape u):mc u (u.length-1)=0:=by
 rw[gO (a:=0) (rC _) (fE _ _) λi ø hi=>?_]
 ·rfl
 ·by_cases q:i=u.length-2
  ·rw[q];exact sQ S.vow
  ·refine nL ?_
   by_cases q0:i=0
   ·exact .inl q0
   ·exact .inr (S.pre (i-1) (vnB hi q q0))
theorem gY {u:List Nat}(h:bE u u.length=true)(h0:mc u (u.length-1)=0):aE u=true:=by
 refine qaA (wH.mp h) λh1 h2 h3 h4 h5=>?_
 refine uM.mpr ⟨⟨h1,λi hi=>?_,h3,h4⟩,h5⟩
 cases q:gB (u.getD i 0)with
 |false=>rfl
 |true=>
  have:=iX (M:=u) (c:=u.length-1) (fE _ _) h0 (i:=i) (j:=u.length-3) (unB h1 hi) (tnB h1 hi) q
  rw[h2]at this;exact nof this
theorem fY {u:List Nat}(h:aE u=true):bE u u.length=true/\mc u (u.length-1)=0/\mA u=1:=by
 refine gA (uM.mp h) λS h5=>?_
 refine cF (wH.mpr (jnA S.n (S.pre _ (by have:=S.n;exact snB this)) S.vow S.con h5)) (jY S) ?_
 rw[meA S.n S.vow S.con,jY S]
theorem ebA {u:List Nat}(h:mA u=1):bE u u.length=aE u:=by
 refine(Bool.eq_iff_iff ..).mpr ?_
 constructor
 ·intro hF
  refine qaA (wH.mp hF) λh1 h2 h3 h4 h5=>?_
  have:=meA h1 h3 h4
  exact gY hF (rnB h this)
 ·exact λhL=>(fY hL).1
theorem iY (w:List Nat){n:Nat}(h:n<=w.length):bE w n=bE (w.take n) (w.take n).length:=by
 have e:(w.take n).length=n:=by refine qDzq (gF ..) ?_;exact jyA h
 unfold bE kG
 rw[e]
 have g:∀i,i<n->(w.take n).getD i 0=w.getD i 0:=λi hi=>uH hi
 by_cases q:2<n
 ·simp only[g _ (apA q),g _ (qnB q),g _ (pnB q)]
 ·have e2:decide (0<n-2)=false:=rG (onB q)
  simp only[e2];simp
theorem fbA {w:List Nat}{p q:Int}(hR:RegOK w p q){c:Nat}(hc:c<w.length):((((w.take c).length:Nat):Int)==p&&bE (w.take c) (w.take c).length)=aE (w.take c):=by
 have e:(w.take c).length=c:=by refine qDzq (gF ..) ?_;exact raB hc
 rw[Bool.eq_iff_iff,oA,beq_iff_eq,e]
 have h1:=hR.one c hc
 constructor
 ·intro o1;refine gA o1 λhp hF=>?_
  have hF':bE (w.take c) (w.take c).length=true:=by rw[e];exact hF
  refine gY hF' ?_
  rw[e]
  have h2:=hR.one (c-1) (iD (fE _ _) ‹_›)
  refine gA (wH.mp hF') λh3 ø=>?_
  rw[e]at h3
  refine qDzq (ylA w (fE _ _) ..) ?_
  exact nnB e hp h2 h3
 ·intro hL
  refine vH (fY hL) λa1 a2 a3=>?_
  refine gA (wH.mp a1) λh3 ø=>?_
  rw[e]at a1 a2 h3
  refine⟨?_,a1⟩
  have h2:=hR.one (c-1) (iD (fE _ _) ‹_›)
  rw[ylA w (fE _ _)]at a2
  have a3':mc w c=1:=a3
  exact mnB e h1 a2 a3 h3 h2
theorem HitM.longer {L:List AmE}{w:List Nat}{x:AmE}(h:HitM L w (some x)){e:AmE}(he:e∈L)(hl:(eS x).length<(eS e).length):(eS e).isSuffixOf w=false:=by
 cases q:(eS e).isSuffixOf w with
 |false=>rfl
 |true=>
  have:=(h.some_ x rfl).2.2 e he q
  exact absurd ‹_› (Nat.not_lt.mpr ‹_›)
theorem iK (t a b:List Nat):cut (t++(a++b)) b.length=t++a:=by
 rw[<-List.append_assoc,afA]
theorem xuA (w:List Nat):p1a w=fF1 w:=by
 have H:=wL pP w
 unfold p1a swF fF1
 cases he:gL pP w with
 |none=>
  simp only[he]at H
  have hn:=H.none_ rfl
  have h1:sx "s" w=false:=hn ⟨434,"s",(-1),3⟩ (eH (i:=0) rfl)
  have h2:sx "ies" w=false:=hn ⟨437,"ies",0,2⟩ (eH (i:=1) rfl)
  have h3:sx "sses" w=false:=hn ⟨440,"sses",0,1⟩ (eH (i:=2) rfl)
  simp only[h1,h2,h3];rfl
 |some x=>
  simp only[he]at H
  refine vH (H.some_ x rfl) λhx hs ø=>?_
  refine gA (eC hs) λhsp hle=>?_
  have m1:(⟨434,"s",(-1),3⟩:AmE)∈pP:=(eH (i:=0) rfl)
  have m2:(⟨437,"ies",0,2⟩:AmE)∈pP:=(eH (i:=1) rfl)
  have m3:(⟨440,"sses",0,1⟩:AmE)∈pP:=(eH (i:=2) rfl)
  have m4:(⟨443,"ss",0,(-1)⟩:AmE)∈pP:=(eH (i:=3) rfl)
  have hx':=hx
  unfold pP at hx'
  simp only[List.mem_cons,List.not_mem_nil,or_false]at hx'
  rcases hx' with rfl|rfl|rfl|rfl
  ·have h2:sx "ies" w=false:=H.longer m2 (by decide)
   have h3:sx "sses" w=false:=H.longer m3 (by decide)
   have h4:sx "ss" w=false:=H.longer m4 (by decide)
   have h1:sx "s" w=true:=hs
   rw[h1,h2,h3,h4]
   show w.take (w.length-1)++[]=cut w 1
   refine qDzq (List.append_nil ..) ?_;rfl
  ·have h2:sx "ies" w=true:=hs
   rw[h2,Bool.or_true,if_pos rfl]
   have e:cut w 2=cut w 3++cp "i":=by
    conv=>lhs;rw[hsp]
    exact iK (cut w 3) (cp "i") (cp "es")
   exact e.symm
  ·have h2:sx "sses" w=true:=hs
   rw[h2,Bool.true_or,if_pos rfl]
   have e:cut w 2=cut w 4++cp "ss":=by
    conv=>lhs;rw[hsp]
    exact iK (cut w 4) (cp "ss") (cp "es")
   exact e.symm
  ·have h2:sx "ies" w=false:=H.longer m2 (by decide)
   have h3:sx "sses" w=false:=H.longer m3 (by decide)
   have h4:sx "ss" w=true:=hs
   rw[h2,h3,h4]
   cases sx "s" w<;>rfl
theorem uaA (u:List Nat):u.length<2\/∃t a b,u=t++[a,b]:=by
 by_cases h:u.length<2
 ·exact .inl h
 ·refine .inr (⟨u.take (u.length-2),u[u.length-2]'(zoA h),u[u.length-1]'(yoA h),?_⟩)
  have e:u=u.take (u.length-2)++u.drop (u.length-2):=(List.take_append_drop _ _).symm
  have e2:u.drop (u.length-2)=[u[u.length-2]'(zoA h),u[u.length-1]'(yoA h)]:=by
   refine qDzq (List.drop_eq_getElem_cons (zoA h) ..) ?_;simp only[show u.length-2+1=u.length-1 by exact lnB h,List.drop_eq_getElem_cons (yoA h),show u.length-1+1=u.length by exact knB h,List.drop_length]
  conv=>lhs;rw[e,e2]
theorem eP (t:List Nat)(a b:Nat):bD 2 (t++[a,b])=[a,b]:=by
 unfold bD
 rw[vC]
 show(t++[a,b]).drop (t.length+2-2)=_
 rw[Nat.add_sub_cancel,List.drop_left]
theorem oW (t:List Nat)(a b:Nat):(t++[a,b]).getD ((t++[a,b]).length-1-0) 0=b/\(t++[a,b]).getD ((t++[a,b]).length-1-1) 0=a:=by
 have e:(t++[a,b]).length=t.length+2:=by simp
 constructor
 ·rw[e,sD,List.getElem?_append_right (by exact Nat.le_add_right _ _),show t.length+2-1-0-t.length=1 by exact jnB];rfl
 ·rw[e,sD,List.getElem?_append_right (by exact vD _),show t.length+2-1-1-t.length=0 by exact inB];rfl
theorem pZ (t:List Nat)(a b:Nat):zE false (t++[a,b])=if([a,b]==cp "at"||[a,b]==cp "bl"||[a,b]==cp "iz")then t++[a,b]++cp "e" else if(b==a&&decide (b∈cp "bdfgmnprt"))then t++[a]else if aE (t++[a,b])then t++[a,b]++cp "e" else t++[a,b]:=by
 refine gA (oW t a b) λg1 g2=>?_
 have b1:eK false (t++[a,b])=([a,b]==cp "at"||[a,b]==cp "bl"||[a,b]==cp "iz"):=by
  unfold eK
  rw[eP]
  simp
 have b2:dK false (t++[a,b])=(b==a&&decide (b∈cp "bdfgmnprt")):=by
  unfold dK dbl
  simp only[g1,g2,pA (by simp:1<(t++[a,b]).length)]
  simp
 have b3:cut (t++[a,b]) 1=t++[a]:=iK t [a] [b]
 unfold zE
 simp only[b1,b2,b3]
theorem am1 (e:AmE)(h:e∈dQ):e.s=Str.ofString ""\/∃a b,eS e=[a,b]/\((e.res=1/\([a,b]==cp "at"||[a,b]==cp "bl"||[a,b]==cp "iz")=true)\/(e.res=2/\a=b/\([a,b]==cp "at"||[a,b]==cp "bl"||[a,b]==cp "iz")=false/\b∈cp "bdfgmnprt")):=by
 unfold dQ at h
 simp only[List.mem_cons,List.not_mem_nil,or_false]at h
 rcases h with rfl|rfl|rfl|rfl|rfl|rfl|rfl|rfl|rfl|rfl|rfl|rfl|rfl
 ·exact .inl rfl
 ·exact .inr (zA 98 98 (by decide) (.inr (gM rfl rfl (by decide) (by decide))))
 ·exact .inr (zA 100 100 (by decide) (.inr (gM rfl rfl (by decide) (by decide))))
 ·exact .inr (zA 102 102 (by decide) (.inr (gM rfl rfl (by decide) (by decide))))
 ·exact .inr (zA 103 103 (by decide) (.inr (gM rfl rfl (by decide) (by decide))))
 ·exact .inr (zA 98 108 (by decide) (.inl (eB rfl (by decide))))
 ·exact .inr (zA 109 109 (by decide) (.inr (gM rfl rfl (by decide) (by decide))))
 ·exact .inr (zA 110 110 (by decide) (.inr (gM rfl rfl (by decide) (by decide))))
 ·exact .inr (zA 112 112 (by decide) (.inr (gM rfl rfl (by decide) (by decide))))
 ·exact .inr (zA 114 114 (by decide) (.inr (gM rfl rfl (by decide) (by decide))))
 ·exact .inr (zA 97 116 (by decide) (.inl (eB rfl (by decide))))
 ·exact .inr (zA 116 116 (by decide) (.inr (gM rfl rfl (by decide) (by decide))))
 ·exact .inr (zA 105 122 (by decide) (.inl (eB rfl (by decide))))
theorem mpA (a b:Nat)(h:([a,b]==cp "at"||[a,b]==cp "bl"||[a,b]==cp "iz")=true\/(b=a/\b∈cp "bdfgmnprt")):∃e∈dQ,eS e=[a,b]:=by
 rcases h with h|⟨rfl,h⟩
 ·simp only[Bool.or_eq_true,beq_iff_eq]at h
  rcases h with(h|h)|h
  ·exact jA ⟨478,"at",0,1⟩ (eH (i:=10) rfl) h.symm
  ·exact jA ⟨463,"bl",0,1⟩ (eH (i:=5) rfl) h.symm
  ·exact jA ⟨484,"iz",0,1⟩ (eH (i:=12) rfl) h.symm
 ·have e:cp "bdfgmnprt"=[98,100,102,103,109,110,112,114,116]:=by decide
  rw[e]at h
  simp only[List.mem_cons,List.not_mem_nil,or_false]at h
  rcases h with rfl|rfl|rfl|rfl|rfl|rfl|rfl|rfl|rfl
  ·exact jA ⟨451,"bb",0,2⟩ (eH (i:=1) rfl) (by decide)
  ·exact jA ⟨454,"dd",0,2⟩ (eH (i:=2) rfl) (by decide)
  ·exact jA ⟨457,"ff",0,2⟩ (eH (i:=3) rfl) (by decide)
  ·exact jA ⟨460,"gg",0,2⟩ (eH (i:=4) rfl) (by decide)
  ·exact jA ⟨466,"mm",0,2⟩ (eH (i:=6) rfl) (by decide)
  ·exact jA ⟨469,"nn",0,2⟩ (eH (i:=7) rfl) (by decide)
  ·exact jA ⟨472,"pp",0,2⟩ (eH (i:=8) rfl) (by decide)
  ·exact jA ⟨475,"rr",0,2⟩ (eH (i:=9) rfl) (by decide)
  ·exact jA ⟨481,"tt",0,2⟩ (eH (i:=11) rfl) (by decide)
theorem lnA {p:Int}(u:List Nat)(hs:(((u.length:Nat):Int)==p&&bE u u.length)=aE u):mO p u=zE false u:=by
 have H:=wL dQ u
 have hS:mM p u=if aE u then u++cp "e" else u:=by unfold mM;rw[hs]
 unfold mO
 cases he:gL dQ u with
 |none=>
  simp only[he]at H
  have:=H.none_ rfl ⟨448,"",(-1),3⟩ (eH (i:=0) rfl)
  have e:eS ⟨448,"",(-1),3⟩=[]:=by decide
  rw[e]at this
  induction u using List.casesOn<;>injection this
 |some x=>
  dsimp only
  simp only[he]at H
  refine vH (H.some_ x rfl) λhx hsu hmax=>?_
  rcases am1 x hx with h0|⟨a,b,hab,hk⟩
  ·have hlen:(eS x).length=0:=by unfold eS;rw[h0];decide
   have hres:x.res=3:=by
    have hx':=hx
    unfold dQ at hx'
    simp only[List.mem_cons,List.not_mem_nil,or_false]at hx'
    rcases hx' with rfl|rfl|rfl|rfl|rfl|rfl|rfl|rfl|rfl|rfl|rfl|rfl|rfl
    ·rfl
    all_goals (exact absurd h0 (by decide))
   rw[hres]
   show mM p u=_
   refine qDzq (hS ..) ?_
   rcases uaA u with h|⟨t,a,b,rfl⟩
   ·have b1:eK false u=false:=by
     unfold eK
     have g:∀e:List Nat,e.length=2->(bD 2 u==e)=false:=λe he=>beq_false_of_ne λz=>by
      have:=congrArg List.length z
      unfold bD at this
      simp only[List.length_drop,he]at this
      exact hnB h this
     rw[g _ (by decide),g _ (by decide),g _ (by decide)];rfl
    have b2:dK false u=false:=by unfold dK;rw[rG (by exact Nat.not_le.mpr ‹_›)];rfl
    unfold zE
    rw[b1,b2];rfl
   ·have no:∀e∈dQ,eS e=[a,b]->False:=λe he q=>by
     have:=hmax e he (by rw[q];exact suf_of t [a,b])
     simp only[q,hlen]at this
     exact absurd this (absurd ‹_› (Nat.not_lt_zero _))
    simp only[pZ]
    have c1:([a,b]==cp "at"||[a,b]==cp "bl"||[a,b]==cp "iz")=false:=cH λz=>by
     refine iA (mpA a b (.inl z)) λe he q=>?_
     exact no e he q
    have c2:(b==a&&decide (b∈cp "bdfgmnprt"))=false:=cH λz=>by
     simp only[oA,beq_iff_eq,vA]at z
     refine iA (mpA a b (.inr z)) λe he q=>?_
     exact no e he q
    rw[c1,c2];rfl
  ·rw[hab]at hsu
   refine gA (eC hsu) λhsp ø=>?_
   generalize cut u ([a,b]:List Nat).length=t at hsp
   subst hsp
   simp only[pZ]
   rcases hk with⟨hr,hc⟩|⟨hr,rfl,hc,hm⟩
   ·rw[hr,hc];rfl
   ·rw[hr,hc]
    have:(a==a&&decide (a∈cp "bdfgmnprt"))=true:=by rw[beq_self_eq_true,pA hm];rfl
    rw[this]
    exact iK t [a] [a]
theorem txB (w:List Nat):isAt "y" w w.length=sx "y" w:=vL "y" (c:=121) (by decide) w
theorem xxB (w:List Nat):isAt "Y" w w.length=sx "Y" w:=vL "Y" (c:=89) (by decide) w
theorem vxB (w:List Nat):isAt "s" w w.length=sx "s" w:=vL "s" (c:=115) (by decide) w
theorem uxB (w:List Nat):isAt "t" w w.length=sx "t" w:=vL "t" (c:=116) (by decide) w
theorem wxB (w:List Nat):isAt "e" w w.length=sx "e" w:=vL "e" (c:=101) (by decide) w
theorem mlB (w:List Nat):isAt "l" w w.length=sx "l" w:=vL "l" (c:=108) (by decide) w
theorem hxA {w:List Nat}{p q:Int}(h:RegOK w p q):RegOK (fF1 w) p q:=by
 unfold fF1
 split
 ·exact h.cut 2
 ·split
  ·exact h.cut 1
  ·exact h
theorem qhA {w:List Nat}{p q:Int}(h:RegOK w p q){c:Nat}(hc:c<w.length)(ours:Bool):RegOK (zE ours (w.take c)) p q:=by
 have add:RegOK (w.take c++cp "e") p q:=by
  have e:w=w.take c++w.drop c:=(List.take_append_drop c w).symm
  rw[e]at h
  refine h.new ?_
  unfold worth
  have hl:(w.drop c).length=w.length-c:=List.length_drop
  rw[pA (by simp only[hl];exact gnB hc),eD]
  rfl
 unfold zE
 split
 ·exact add
 ·split
  ·exact(h.take c).cut 1
  ·split
   ·exact add
   ·exact h.take c
theorem sO (w:List Nat)(k:Nat):cut w k=w.take (w.length-k):=rfl
theorem wuA {w:List Nat}{p q:Int}(hR:RegOK w p q):p1b p w=fF2 false w/\RegOK (fF2 false w) p q:=by
 have H:=wL cQ w
 have m1:(⟨488,"ed",(-1),2⟩:AmE)∈cQ:=(eH (i:=0) rfl)
 have m2:(⟨491,"eed",0,1⟩:AmE)∈cQ:=(eH (i:=1) rfl)
 have m3:(⟨494,"ing",(-1),2⟩:AmE)∈cQ:=(eH (i:=2) rfl)
 have tail:∀k,0<k->k<=w.length->sx "eed" w=false->pK w=k->(if decide (0<goB false w (w.length-k))then mO p (w.take (w.length-k))else w)=fF2 false w/\RegOK (fF2 false w) p q:=λk hk hle h1 h2=>by
  have hg:=teA w (w.length-k) (fE _ _)
  have hh:=lnA (p:=p) (w.take (w.length-k)) (fbA hR (vzA hk hle))
  have hr:=qhA hR (c:=w.length-k) (vzA hk hle) false
  have e:fF2 false w=if eI (cut w k)then zE false (cut w k)else w:=by
   unfold fF2
   rw[h1,h2,pA hk,eD]
   rfl
  rw[e,hg,hh,sO]
  cases eI (w.take (w.length-k))with
  |true=>exact⟨rfl,hr⟩
  |false=>exact⟨rfl,hR⟩
 unfold p1b
 cases he:gL cQ w with
 |none=>
  simp only[he]at H
  have hn:=H.none_ rfl
  have h1:sx "ed" w=false:=hn _ m1
  have h2:sx "eed" w=false:=hn _ m2
  have h3:sx "ing" w=false:=hn _ m3
  have e:fF2 false w=w:=by unfold fF2 pK;rw[h1,h2,h3];rfl
  rw[e]
  exact⟨rfl,hR⟩
 |some x=>
  simp only[he]at H
  refine vH (H.some_ x rfl) λhx hs ø=>?_
  refine gA (eC hs) λhsp hle=>?_
  have hx':=hx
  unfold cQ at hx'
  simp only[List.mem_cons,List.not_mem_nil,or_false]at hx'
  rcases hx' with rfl|rfl|rfl
  ·have h2:sx "eed" w=false:=H.longer m2 (by decide)
   have h1:sx "ed" w=true:=hs
   exact tail 2 (by decide) hle h2 (by unfold pK;rw[h1];rfl)
  ·have h2:sx "eed" w=true:=hs
   have hle3:3<=w.length:=hle
   have hc:=hR.one (w.length-3) (fnB hle3)
   have hcut:mc w (w.length-3)=mA (cut w 3):=rfl
   simp only[hcut]at hc
   have ed:decide (p<=((w.length-3:Nat):Int))=decide (0<mA (cut w 3)):=by refine(decide_eq_decide ..).mpr ?_;assumption
   have e1:cut w 1=cut w 3++cp "ee":=by
    conv=>lhs;rw[hsp]
    exact iK (cut w 3) (cp "ee") (cp "d")
   unfold fF2
   rw[h2,if_pos rfl]
   show(if decide (p<=((w.length-3:Nat):Int))then cut w 3++cp "ee" else w)=_/\_
   rw[ed,e1]
   cases decide (0<mA (cut w 3))with
   |true=>exact⟨rfl,by rw[if_pos rfl,<-e1];exact hR.cut 1⟩
   |false=>exact⟨rfl,hR⟩
  ·have h3:sx "ing" w=true:=hs
   have h2:sx "eed" w=false:=cH λz=>by
    have:=rN (a:=cp "eed") (b:=cp "ing") z h3 (by decide)
    exact absurd this (by decide)
   have h1:sx "ed" w=false:=cH λz=>by
    have:=rN (a:=cp "ed") (b:=cp "ing") z h3 (by decide)
    exact absurd this (by decide)
   exact tail 3 (by decide) hle h2 (by unfold pK;rw[h1,h3];rfl)
theorem vuA {w:List Nat}{p q:Int}(hR:RegOK w p q):p1c w=fF3 w/\RegOK (fF3 w) p q:=by
 have hg:=teA w (w.length-1) (fE _ _)
 unfold p1c fF3
 rw[txB,xxB,yE w (by decide),yE w (by decide),hg,<-sO]
 refine⟨rfl,?_⟩
 split
 ·rename_i h
  replace h:=bmp id id h
  have hpos:0<w.length:=by
   induction w using List.casesOn with
   |nil=>exact absurd h.2 (by decide)
   |cons ø ø=>exact Nat.succ_pos _
  have e:w=w.take (w.length-1)++w.drop (w.length-1):=(List.take_append_drop _ w).symm
  rw[e]at hR
  refine hR.new ?_
  unfold worth
  have hl:(w.drop (w.length-1)).length=w.length-(w.length-1):=List.length_drop
  rw[pA (by simp only[hl];show 1<=_;omega),eD]
  rfl
 ·exact hR
theorem hK5:((mS.all λe=>(es4.map λe=>e.cps.toList).contains (eS e)&&(eS e !=[])&&(e.res==1)==(eS e !=cp "ion"))&&((es4.map λe=>e.cps.toList).all λk=>mS.any λe=>eS e==k))=true:=by decide+kernel
theorem ceB {w:List Nat}{p q:Int}(hR:RegOK w p q):p4 q w=hG false w/\RegOK (hG false w) p q:=by
 have hT:=hK5
 replace hT:=(oA ..).mp hT
 refine gA hT λt1 t2=>?_
 have hK:∀k,k∈(es4.map λe=>e.cps.toList)↔∃e∈mS,eS e=k:=λk=>by
  constructor
  ·intro hk
   refine iA (List.any_eq_true.mp (fC t2 k hk)) λe he q=>?_
   exact jA e he (eq_of_beq q)
  ·intro o1;refine iA o1 λe he o2=>?_;obtain rfl:=o2
   have:=fC t1 e he
   replace this:=bmp (bmp id id) id this
   have z:=this.1.1
   rw[List.contains_eq_mem,vA]at z
   exact z
 refine gA (reA (w:=w) hK) λn1 n2=>?_
 have H:=wL mS w
 unfold p4 hG
 cases he:gL mS w with
 |none=>
  rw[n1 he]
  exact eB rfl hR
 |some e=>
  dsimp only
  rw[n2 e he]
  refine vH (H.some_ e he) λh1 h2 h3=>?_
  have te:=fC t1 e h1
  simp only[oA]at te
  refine gA te λo3 e3=>?_;refine gA o3 λe1 e2=>?_
  refine gA (eC h2) λhsp hle=>?_
  have hpos:0<(eS e).length:=by
   cases z:eS e with
   |nil=>rw[z]at e2;exact nof e2
   |cons ø ø=>exact Nat.succ_pos _
  have hlen:e.s.length=(eS e).length:=rfl
  have hc:=hR.two (w.length-(eS e).length) (yzA hle hpos)
  have hcut:mc w (w.length-(eS e).length)=mA (cut w (eS e).length):=rfl
  simp only[hcut]at hc
  have ed:decide (q<=((w.length-(eS e).length:Nat):Int))=decide (1<mA (cut w (eS e).length)):=by refine(decide_eq_decide ..).mpr ?_;assumption
  have ei:(e.res==1||isAt "s" w (w.length-(eS e).length)||isAt "t" w (w.length-(eS e).length))=kW (eS e) w:=by
   unfold kW
   rw[eq_of_beq e3]
   by_cases z:eS e=cp "ion"
   ·rw[z]
    have:(cp "ion").length=3:=by decide
    rw[this,gP "s" w (fE _ _),gP "t" w (fE _ _),vxB,uxB,yE _ (by decide),yE _ (by decide)]
    refine qDzq (Bool.or_assoc ..) ?_
    rfl
   ·have:(eS e !=cp "ion")=true:=bne_iff_ne.mpr z
    rw[this];rfl
  simp only[hlen,ed,ei,e2,eD]
  refine eB rfl ?_
  split
  ·exact hR.cut _
  ·exact hR
theorem icB {s:String}{w:List Nat}(h:sx s w=true)(hs:0<(cp s).length):0<w.length:=by
 have:=(eC h).2
 exact cE ‹_› ‹_›
theorem uuA {w:List Nat}{p q:Int}(hR:RegOK w p q):p5a p q w=jJ w/\RegOK (jJ w) p q:=by
 unfold p5a jJ
 simp only[wxB]
 cases hs:sx "e" w with
 |false=>exact⟨rfl,hR⟩
 |true=>
  have hpos:=icB hs (by decide)
  have c1:=hR.one (w.length-1) (bV hpos)
  have c2:=hR.two (w.length-1) (bV hpos)
  have hcut:mc w (w.length-1)=mA (cut w 1):=rfl
  rw[hcut]at c1 c2
  have hsf:=iY w (n:=w.length-1) (fE _ _)
  rw[<-sO]at hsf
  have d1:decide (p<=((w.length-1:Nat):Int))=decide (1<=mA (cut w 1)):=by refine(decide_eq_decide ..).mpr ?_;exact c1
  have d2:decide (q<=((w.length-1:Nat):Int))=decide (1<mA (cut w 1)):=by refine(decide_eq_decide ..).mpr ?_;assumption
  simp only[eD,eD,d1,d2,hsf,<-sO]
  have key:(decide (1<mA (cut w 1))||(decide (1<=mA (cut w 1))&&!bE (cut w 1) (cut w 1).length))=(decide (1<mA (cut w 1))||(mA (cut w 1)==1&&!aE (cut w 1))):=by
   by_cases z:mA (cut w 1)=1
   ·rw[ebA z,z];rfl
   ·by_cases z2:1<mA (cut w 1)
    ·simp only[pA z2];rfl
    ·have:decide (1<=mA (cut w 1))=false:=rG (enB z z2)
     have z3:(mA (cut w 1)==1)=false:=beq_false_of_ne z
     simp only[this,z3];rfl
  rw[key]
  refine⟨rfl,?_⟩
  split
  ·exact hR.cut 1
  ·exact hR
theorem tuA {w:List Nat}{p q:Int}(hR:RegOK w p q):p5b q w=jH w:=by
 unfold p5b jH
 have hll:(isAt "l" w w.length&&isAt "l" w (w.length-1))=sx "ll" w:=by
  rw[mlB,gP "l" w (fE _ _),mlB]
  rcases uaA w with h|⟨t,a,b,rfl⟩
  ·have e1:sx "ll" w=false:=cH λz=>by
    have z2:2<=w.length:=(eC z).2
    exact absurd ‹_› (Nat.not_le.mpr ‹_›)
   have e2:sx "l" (w.take (w.length-1))=false:=cH λz=>by
    have z2:1<=(w.take (w.length-1)).length:=(eC z).2
    simp only[gF]at z2
    exact dnB h z2
   simp only[e1,e2,Bool.and_false]
  ·have e1:(t++[a,b]).take ((t++[a,b]).length-1)=t++[a]:=iK t [a] [b]
   have e2:sx "l" (t++[a,b])=([b]==cp "l"):=(yE (e:=cp "l") (t++[a,b]) (k:=1) (by decide)).symm.trans (by congr 1;unfold bD;simp)
   have e3:sx "l" (t++[a])=([a]==cp "l"):=(yE (e:=cp "l") (t++[a]) (k:=1) (by decide)).symm.trans (by congr 1;unfold bD;simp)
   have e4:sx "ll" (t++[a,b])=([a,b]==cp "ll"):=(yE (e:=cp "ll") (t++[a,b]) (k:=2) (by decide)).symm.trans (by rw[eP])
   rw[e1,e2,e3,e4,show cp "ll"=[108,108] by decide,show cp "l"=[108] by decide,Bool.eq_iff_iff]
   simp only[oA,beq_iff_eq,List.cons.injEq,and_true]
   exact and_comm
 have e:(isAt "l" w w.length&&decide (q<=((w.length-1:Nat):Int))&&isAt "l" w (w.length-1))=(sx "ll" w&&decide (q<=((w.length-1:Nat):Int))):=by
  rw[<-hll]
  cases isAt "l" w w.length<;>cases decide (q<=((w.length-1:Nat):Int))<;>cases isAt "l" w (w.length-1)<;>rfl
 rw[e]
 cases hs:sx "ll" w with
 |false=>rfl
 |true=>
  refine gA (eC hs) λhsp hle=>?_
  have hle:2<=w.length:=hle
  have c2:=hR.two (w.length-1) (by exact Nat.sub_lt_sub_left (Nat.lt_succ_of_lt ‹_›) (Nat.lt_succ_self _))
  have em:mA w=mc w (w.length-1):=by
   refine qDzq (qbA w ..).symm ?_
   have:=tL (M:=w) (i:=w.length-1) (by exact Nat.sub_lt_sub_left (Nat.lt_succ_of_lt ‹_›) (Nat.lt_succ_self _))
   have hv:cM w (w.length-1)=false:=by
    refine nL (.inr ?_)
    have e2:w.getD (w.length-1-1) 0=108:=by
     have hsp':w=cut w 2++[108,108]:=hsp
     conv=>lhs;rw[hsp']
     exact(oW _ _ _).2
    rw[e2];decide
   rw[hv,show w.length-1+1=w.length by exact Nat.sub_add_cancel (iC ‹_›)]at this
   exact this
  have d2:decide (q<=((w.length-1:Nat):Int))=decide (1<mA w):=by refine(decide_eq_decide ..).mpr ?_;simp only[em];assumption
  rw[d2];rfl
theorem eU (out:List Nat)(h:out≠[]):∀l,xC false l out=out++uP (out.getLast?.getD 0) l
 |[]=>by unfold xC uP;simp only[List.append_nil]
 |x::r=>by
  unfold xC
  have e:out.isEmpty=false:=by induction out using List.casesOn with|nil=>exact absurd rfl h|cons ø ø=>rfl
  have ec:(x==121&&(out.isEmpty||(!false&&gB (out.getLast?.getD 0))))=(oF false (out.getLast?.getD 0)&&x==121):=by
   rw[e,sK]
   cases gB (out.getLast?.getD 0)<;>cases (x==121)<;>rfl
  rw[ec,eU _ (by simp) r]
  simp only[List.getLast?_append,List.append_assoc]
  rfl
theorem zlA (l:List Nat):xC false l []=jG l:=by
 induction l using List.casesOn with
 |nil=>rfl
 |cons x r=>
  unfold xC
  refine qDzq (eU _ (by simp) ..) ?_
  unfold jG markFrom mI
  by_cases q:x=121
  ·subst q
   rfl
  ·have e1:(x==121)=false:=beq_false_of_ne q
   have e2:¬(x::r).getD 0 0=121:=q
   rw[if_neg e2,e1]
   rfl
theorem dzA (l:List Nat):oG l=iJ false (pB false l):=by
 unfold oG iJ pB
 rw[zlA]
 have R0:=qsA (jG l)
 generalize (zN (jG l)).1=p at*
 generalize (zN (jG l)).2=q at*
 generalize jG l=M at*
 unfold sV
 rw[xuA]
 refine gA (wuA (hxA R0)) λe1 R1=>?_
 rw[e1]
 refine gA (vuA R1) λe2 R2=>?_
 rw[e2]
 refine gA (njA fwB R2) λe3 R3=>?_
 have e3':p2 p (fF3 (fF2 false (fF1 M)))=_:=e3
 rw[e3']
 refine gA (njA ewB R3) λe4 R4=>?_
 have e4':p3 p (zC false (dG false) (fF3 (fF2 false (fF1 M))))=_:=e4
 rw[e4']
 refine gA (ceB R4) λe5 R5=>?_
 rw[e5]
 refine gA (uuA R5) λe6 R6=>?_
 rw[e6,tuA R6]
structure Wh (b:Bool) (w:List Nat):Prop where
 noY:121∉cut w 1
 cap:89∉w.drop 1
 head:b=true->∃t,w=89::t
 low:b=false->89∉w
theorem jeA {w:List Nat}{k x:Nat}(h:x∈cut w k):x∈w:=List.mem_of_mem_take h
theorem wlA {w:List Nat}{k x:Nat}(hk:1<=k)(h:x∈cut w k):x∈cut w 1:=by
 unfold cut at*
 have e:w.take (w.length-k)=(w.take (w.length-1)).take (w.length-k):=by rw[List.take_take,Nat.min_eq_left (cnB hk)]
 rw[e]at h
 exact List.mem_of_mem_take h
theorem Wh.no {b:Bool}{w:List Nat}(h:Wh b w){k:Nat}(hk:1<=k):121∉cut w k:=λz=>h.noY (wlA hk z)
theorem dW {w:List Nat}{k x:Nat}(h:x∈(cut w k).drop 1):x∈w.drop 1:=by
 unfold cut at h
 rw[List.drop_take]at h
 exact List.mem_of_mem_take h
theorem Wh.capc {b:Bool}{w:List Nat}(h:Wh b w)(k:Nat):89∉(cut w k).drop 1:=λz=>h.cap (dW z)
theorem Wh.app {b:Bool}{w:List Nat}(h:Wh b w){k:Nat}(hk:1<=k)(hb:b=true->k<w.length){x:List Nat}(h1:121∉x)(h2:89∉x):Wh b (cut w k++x):=by
 refine⟨λz=>?_,λz=>?_,λe=>?_,λe z=>?_⟩
 ·refine Or.elim (dI (jeA z)) (λz=>?_) λz=>?_
  ·exact h.no hk z
  ·exact h1 z
 ·rw[List.drop_append]at z
  refine Or.elim (dI z) (λz=>?_) λz=>?_
  ·exact h.capc k z
  ·exact h2 (List.mem_of_mem_drop z)
 ·refine iB (h.head e) λt ht=>?_
  have:=hb e
  refine yC ((cut w k).drop 1++x) ?_
  have e1:cut w k=89::(cut w k).drop 1:=by
   unfold cut
   obtain⟨n,hn⟩:∃n,w.length-k=n+1:=yC (w.length-k-1) (by lia)
   rw[hn,ht];rfl
  conv=>lhs;rw[e1]
  rfl
 ·refine Or.elim (dI z) (λz=>?_) λz=>?_
  ·exact h.low e (jeA z)
  ·exact h2 z
theorem Wh.cut' {b:Bool}{w:List Nat}(h:Wh b w){k:Nat}(hk:1<=k)(hb:b=true->k<w.length):Wh b (cut w k):=by
 have:=h.app hk hb (x:=[]) (by simp) (by simp)
 rwa[List.append_nil]at this
theorem yaA (x:List Nat):svF x=eI x:=by
 have R:=bF true x 0
 have e1:r1 x=goF false true x 0:=qJ x 0
 unfold svF
 rw[e1,Bool.eq_iff_iff,vA,xL]
 constructor
 ·exact λh=>jA _ h (R.stop h)
 ·intro o1;refine iA o1 λi hi hv=>?_
  by_cases q:i<goF false true x 0
  ·have:=R.mid i (rC _) q
   rw[hv]at this;exact nomatch this
  ·exact bnB hi q
theorem baA {x:List Nat}(hc:89∉x.drop 1):cvF x=aE x:=by
 have R:=bF true x 0
 have e1:r1 x=goF false true x 0:=qJ x 0
 unfold cvF
 rw[e1]
 generalize goF false true x 0=g at*
 refine(Bool.eq_iff_iff ..).mpr ?_;simp only[uM,oA,oA,vA,vA,aF,decide_eq_false_iff_not]
 constructor
 ·intro o1;refine gA o1 λo3 h3=>?_;refine gA o3 λh1 h2=>?_
  have hv:=R.stop (anB h2)
  have eg:x.length-2=g:=by exact zmB h2
  have eg1:x.length-1=g+1:=by exact ymB h2
  refine⟨⟨by exact xmB h1 h2,λi hi=>R.mid i (rC _) (wmB eg hi),by rw[eg];exact hv,?_⟩,?_⟩
  ·rw[eg1]
   unfold gB vy
   refine(decide_eq_false_iff_not ..).mpr ?_
   intro hm
   apply h3
   simp only[List.mem_cons,List.not_mem_nil,or_false]at hm ⊢
   exact vmB hm
  ·rw[eg1]
   intro hm
   simp only[List.mem_cons,List.not_mem_nil,or_false]at hm
   refine Or.elim hm (λe=>?_) λh=>h.elim (λe=>?_) λe=>?_
   ·apply hc
    have hl:g+1<x.length:=by exact umB h2
    rw[sD,mG hl]at e
    have e':x[g+1]=89:=e
    simp only[<-e']
    have:(x.drop 1)[g]'(by simp only[List.length_drop];exact tmB eg1)=x[g+1]:=by refine qDzq (List.getElem_drop ..) ?_;congr 1;exact maB
    simp only[<-this]
    exact List.getElem_mem _
   ·exact h3 (by rw[e];decide)
   ·exact h3 (by rw[e];decide)
 ·intro o2;refine gA o2 λS h5=>?_
  have hn:=S.n
  have eg:g=x.length-2:=by
   by_cases q:g<x.length-2
   ·have h1:=R.stop (xzA hn q)
    rw[S.pre g q]at h1;exact nof h1
   ·by_cases q2:x.length-2<g
    ·have h1:=R.mid (x.length-2) (rC _) q2
     rw[S.vow]at h1;exact nomatch h1
    ·exact smB q q2
  refine⟨⟨by exact rmB hn eg,by exact qmB hn eg⟩,λhm=>?_⟩
  rw[eg,show x.length-2+1=x.length-1 by exact pmB hn]at hm
  have hcn:=S.con
  simp only[List.mem_cons,List.not_mem_nil,or_false]at hm h5
  rcases hm with e|e|e|e|e|e|e|e
  ·rw[e]at hcn;revert hcn;decide
  ·rw[e]at hcn;revert hcn;decide
  ·rw[e]at hcn;revert hcn;decide
  ·rw[e]at hcn;revert hcn;decide
  ·rw[e]at hcn;revert hcn;decide
  ·exact omB h5 e
  ·exact nmB h5 e
  ·rw[e]at hcn;revert hcn;decide
theorem qbB {w:List Nat}(h:2<=w.length):wA w=fF1 w:=by
 unfold wA fF1
 have i1:sx "sses" w=true->sx "s" w=true:=λz=>fJ (b:=cp "sses") (by decide) z
 have i2:sx "ies" w=true->sx "s" w=true:=λz=>fJ (b:=cp "ies") (by decide) z
 have i3:sx "s" w=true->([w.getD (w.length-1-1) 0] !=cp "s")=!sx "ss" w:=λz=>by
  rcases uaA w with h'|⟨t,a,b,rfl⟩
  ·exact absurd ‹_› (Nat.not_lt.mpr ‹_›)
  ·have e4:sx "ss" (t++[a,b])=([a,b]==cp "ss"):=(yE (e:=cp "ss") (t++[a,b]) (k:=2) (by decide)).symm.trans (by rw[eP])
   have e2:sx "s" (t++[a,b])=([b]==cp "s"):=(yE (e:=cp "s") (t++[a,b]) (k:=1) (by decide)).symm.trans (by congr 1;unfold bD;simp)
   rw[e2,show cp "s"=[115] by decide,beq_iff_eq]at z
   have z:=List.singleton_inj.mp z
   subst z
   simp only[(oW t a 115).2,e4,show cp "s"=[115] by decide,show cp "ss"=[115,115] by decide]
   rw[Bool.eq_iff_iff,bne_iff_ne,aF,beq_eq_false_iff_ne]
   simp
 cases h1:sx "sses" w with
 |true=>rw[i1 h1];rfl
 |false=>
  cases h2:sx "ies" w with
  |true=>rw[i2 h2];rfl
  |false=>
   cases h3:sx "s" w with
   |false=>rfl
   |true=>
    rw[i3 h3]
    cases sx "ss" w<;>rfl
theorem ynA {b:Bool}{w:List Nat}(h:Wh b w)(hl:3<=w.length):Wh b (fF1 w):=by
 unfold fF1
 split
 ·exact h.cut' (by decide) λø=>by assumption
 ·split
  ·exact h.cut' (by decide) λø=>by exact iC ‹_›
  ·exact h
theorem kQ {w:List Nat}(h:eI w=true):0<w.length:=by
 refine iA (xL.mp h) λi hi ø=>?_
 exact mmB hi
theorem jK (w:List Nat)(k:Nat):(cut w k).length=w.length-k:=by
 unfold cut;refine qDzq (gF ..) ?_;exact lmB
theorem pfA {st:List Nat}(hv:eI st=true)(hc:89∉st.drop 1):mK st=zE true st:=by
 have hB2:dK true st=false:=rfl
 have hB1:eK true st=(st==cp "at"||st==cp "iz"):=by unfold eK;simp
 have hbl:(st==cp "bl")=false:=beq_false_of_ne λe=>by rw[e]at hv;exact absurd hv (by decide)
 have hdb:(decide (st.length=2)&&st.getD 0 0==st.getD 1 0&&!decide (st.getD 0 0∈cp "aeiouylsz"))=false:=cH λz=>by
  simp only[oA,vA,beq_iff_eq,aF,decide_eq_false_iff_not]at z
  refine gA z λo1 z3=>?_;refine gA o1 λz1 z2=>?_
  refine iA (xL.mp hv) λi hi hv=>?_
  have:st.getD i 0=st.getD 0 0:=by
   simp only[z1]at hi
   have:i=0\/i=1:=by exact kmB hi
   rcases this with rfl|rfl
   ·rfl
   ·exact z2.symm
  rw[this]at hv
  apply z3
  have e:cp "aeiouylsz"=[97,101,105,111,117,121,108,115,122]:=by decide
  rw[e]
  unfold gB vy at hv
  simp only[vA]at hv
  simp only[List.mem_cons,List.not_mem_nil,or_false]at hv ⊢
  exact jmB hv
 unfold mK zE
 simp only[hB1,hB2,hbl,hdb,baA hc,Bool.or_false]
theorem djA {b:Bool}{w:List Nat}(h:Wh b w):wB w=fF2 true w/\Wh b (fF2 true w):=by
 have heal:∀k,2<=k->eI (cut w k)=true->mK (cut w k)=zE true (cut w k)/\Wh b (zE true (cut w k)):=λk hk hv=>by
  refine⟨pfA hv (h.capc k),?_⟩
  have hp:=kQ hv
  simp only[jK]at hp
  have add:=h.app (k:=k) (iC ‹_›) (λø=>by exact ffA hp) (x:=cp "e") (by decide) (by decide)
  unfold zE
  split
  ·exact add
  ·split
   ·rename_i z;exact nof z
   ·split
    ·exact add
    ·exact h.cut' (iC ‹_›) λø=>by exact ffA hp
 cases h1:sx "eed" w with
 |true=>
  have e1:wB w=if bI (cut w 3)then cut w 1 else w:=by unfold wB;rw[h1];rfl
  have e2:fF2 true w=if decide (0<mA (cut w 3))then cut w 1 else w:=by unfold fF2;rw[h1];rfl
  rw[e1,e2,(rL (h.no (k:=3) (by decide))).m0]
  have hl:3<=w.length:=(eC h1).2
  refine⟨rfl,?_⟩
  split
  ·exact h.cut' (by decide) λø=>by exact iC ‹_›
  ·exact h
 |false=>
  cases h2:sx "ed" w with
  |true=>
   have e1:wB w=if eI (cut w 2)then mK (cut w 2)else w:=by unfold wB;rw[h1,h2,yaA];rfl
   have e2:fF2 true w=if eI (cut w 2)then zE true (cut w 2)else w:=by unfold fF2 pK;rw[h1,h2];rfl
   simp only[e1,e2]
   cases hv:eI (cut w 2)with
   |true=>exact heal 2 (by decide) hv
   |false=>exact⟨rfl,h⟩
  |false=>
   cases h3:sx "ing" w with
   |true=>
    have e1:wB w=if eI (cut w 3)then mK (cut w 3)else w:=by unfold wB;rw[h1,h2,h3,yaA (cut w 3)];rfl
    have e2:fF2 true w=if eI (cut w 3)then zE true (cut w 3)else w:=by unfold fF2 pK;rw[h1,h2,h3];rfl
    rw[e1,e2]
    cases hv:eI (cut w 3)with
    |true=>exact heal 3 (by decide) hv
    |false=>exact⟨rfl,h⟩
   |false=>
    have e1:wB w=w:=by unfold wB;rw[h1,h2,h3];rfl
    have e2:fF2 true w=w:=by unfold fF2 pK;rw[h1,h2,h3];rfl
    rw[e1,e2]
    exact⟨rfl,h⟩
theorem icA {b:Bool}{w:List Nat}(h:Wh b w):Wh b (fF3 w):=by
 unfold fF3
 split
 ·rename_i z
  simp only[oA]at z
  have hp:=kQ z.2
  simp only[jK]at hp
  exact h.app (by decide) (λø=>by exact imB hp) (by decide) (by decide)
 ·exact h
theorem nbB {b:Bool}{w:List Nat}(h:Wh b w):wC w=fF3 w:=by
 have hY:sx "Y" w=true->eI (cut w 1)=false:=λz=>by
  refine gA (eC z) λhsp ø=>?_
  have hsp:w=cut w 1++[89]:=hsp
  cases q:eI (cut w 1)with
  |false=>rfl
  |true=>
   have hp:=kQ q
   exfalso
   apply h.cap
   rw[hsp,List.drop_append_of_le_length hp]
   exact eE _ (.head _)
 have a1:(bD 1 w==cp "y")=sx "y" w:=yE (e:=cp "y") w (by decide)
 have a2:(bD 1 w==cp "Y")=sx "Y" w:=yE (e:=cp "Y") w (by decide)
 unfold wC fF3
 rw[a1,a2,yaA]
 cases h1:sx "y" w with
 |true=>rw[Bool.true_or,eD];rfl
 |false=>
  cases h2:sx "Y" w with
  |true=>rw[hY h2];rfl
  |false=>rfl
theorem iZ (w:List Nat):∀(K:List (List Nat)) (f:Option (List Nat)),(∀k∈K,k≠[])->(∀x,f=some x->x≠[])->(yK w K f).getD []=mC true w K (f.getD [])/\(yK w K f).isSome=(mC true w K (f.getD []) !=[]):=by
 intro l0
 induction l0 with
 |nil=>
  intro f ø hf
  unfold yK mC
  refine⟨rfl,?_⟩
  induction f using Option.casesOn with
  |none=>rfl
  |some x=>
   have:=hf x rfl
   simp only[Option.getD_some,Option.isSome_some,bne_iff_ne.mpr this]
 |cons e K ih=>
  intro f hK hf
  have he:e≠[]:=hK e (.head _)
  have hp:0<e.length:=List.length_pos_iff.mpr he
  unfold yK mC
  have ec:better w e f=(e.isSuffixOf w&&(decide ((f.getD []).length<e.length)&&(!true||decide (e.length<w.length)))):=by
   unfold better
   induction f using Option.casesOn with
   |none=>
    simp only[Option.getD_none,List.length_nil,pA hp]
    cases e.isSuffixOf w<;>cases decide (e.length<w.length)<;>rfl
   |some x=>
    simp only[Option.getD_some]
    show(decide (e.length<w.length)&&e.isSuffixOf w&&decide (x.length<e.length))=_
    cases e.isSuffixOf w<;>cases decide (e.length<w.length)<;>cases decide (x.length<e.length)<;>rfl
  rw[<-ec]
  cases better w e f with
  |true=>
   exact ih (some e) (λk hk=>hK k (.tail _ hk)) (λx hx=>by have o1:=inj hx;clear hx;obtain rfl:=o1;exact he)
  |false=>exact ih f (λk hk=>hK k (.tail _ hk)) hf
theorem iS {w:List Nat}{es es':List (List Nat)}(h:∀e,e∈es↔e∈es'):mC true w es []=mC true w es' []:=(pD true w es).one h (pD true w es')
noncomputable def wN (a b:List (List Nat)):Bool:=(a.all λx=>b.contains x)&&b.all λx=>a.contains x
theorem uN {a b:List (List Nat)}(h:wN a b=true):∀e,e∈a↔e∈b:=λe=>by
 unfold wN at h
 simp only[oA]at h
 constructor
 ·intro he
  have:=fC h.1 e he
  rwa[List.contains_eq_mem,vA]at this
 ·intro he
  have:=fC h.2 e he
  rwa[List.contains_eq_mem,vA]at this
noncomputable def pV (ends:List Str)(es es':List (Str×Str)):Bool:=wN (ends.map λe=>e.cps.toList) (kB es')&&(kB es').all λk=>(k !=[])&&(xE es (mk k)).cps.toList==(xE es' (mk k)).cps.toList&&!(xE es' (mk k)).cps.toList.contains 121&&!(xE es' (mk k)).cps.toList.contains 89
theorem hwB:pV vU s2L (dG true)=true:=by decide+kernel
theorem gwB:pV uU s3L s3L=true:=by decide+kernel
theorem fN {ours:Bool}{w:List Nat}{K:List (List Nat)}(h:(mC ours w K [] !=[])=true):mC ours w K []∈K/\yD ours w (mC ours w K [])=true:=by
 refine Or.elim ((pD ours w K).src) (λz=>?_) λz=>?_
 ·rw[z]at h;exact nof h
 ·exact z
theorem ddA {ends:List Str}{es es':List (Str×Str)}(hT:pV ends es es'=true){b:Bool}{w:List Nat}(h:Wh b w):wSw ends es w=zC true es' w/\Wh b (zC true es' w):=by
 unfold pV at hT
 simp only[oA]at hT
 refine gA hT λt1 t2=>?_
 have hk:=uN t1
 have hne:∀k∈(ends.map λe=>e.cps.toList),k≠[]:=λk hk'=>by
  have:=fC t2 k ((hk k).mp hk')
  simp only[oA]at this
  exact bne_iff_ne.mp this.1.1.1
 refine gA (iZ w (ends.map λe=>e.cps.toList) none hne (λx hx=>by exact no hx)) λl1 l2=>?_
 simp only[Option.getD_none,iS hk]at l1 l2
 have hF:=@fN true w (kB es')
 unfold wSw zC lg
 dsimp only
 rw[mk_list,l1,l2]
 generalize mC true w (kB es') []=e at*
 cases hb:(e !=[])with
 |false=>exact⟨rfl,h⟩
 |true=>
  refine gA (hF hb) λf1 f2=>?_
  have te:=fC t2 e f1
  simp only[oA,aF]at te
  refine gA te λo1 e4=>?_;refine gA o1 λo2 e3=>?_;refine gA o2 λe1 e2=>?_
  have hpos:1<=e.length:=List.length_pos_iff.mpr (bne_iff_ne.mp e1)
  unfold yD at f2
  simp only[oA]at f2
  have hlt:e.length<w.length:=bB f2.2
  rw[(rL (h.no hpos)).m0,eD,eq_of_beq e2]
  cases hm:decide (0<mA (cut w e.length))with
  |false=>exact⟨rfl,h⟩
  |true=>
   refine⟨rfl,h.app hpos (λø=>hlt) (λz=>?_) λz=>?_⟩
   ·rw[List.contains_eq_mem,decide_eq_false_iff_not]at e3;exact e3 z
   ·rw[List.contains_eq_mem,decide_eq_false_iff_not]at e4;exact e4 z
theorem dgB:wN (es4.map λe=>e.cps.toList) (cp "ion"::(rE.map λe=>e.cps.toList))=true:=by decide+kernel
theorem tU:((rE.map λe=>e.cps.toList).all λk=>(k !=[])&&!k.isSuffixOf (cp "ion")&&!(cp "ion").isSuffixOf k)=true:=by decide+kernel
theorem lbB {b:Bool}{w:List Nat}(h:Wh b w):wD w=hG true w/\Wh b (hG true w):=by
 have hk:=uN dgB
 have hne:∀k∈(rE.map λe=>e.cps.toList),k≠[]:=λk hk'=>by
  have:=fC tU k hk'
  simp only[oA]at this
  exact bne_iff_ne.mp this.1.1
 obtain⟨l1,l2⟩:=iZ w (rE.map λe=>e.cps.toList) none hne (λx hx=>by exact no hx)
 rw[Option.getD_none]at l1 l2
 have e4:mC true w (es4.map λe=>e.cps.toList) []=mC true w (cp "ion"::(rE.map λe=>e.cps.toList)) []:=iS hk
 have hF:=@fN true w (rE.map λe=>e.cps.toList)
 by_cases hi:sx "ion" w=true
 ·
  have hi2:(cp "ion").isSuffixOf w=true:=hi
  have none4:mC true w (rE.map λe=>e.cps.toList) []=[]:=by
   by_cases z:mC true w (rE.map λe=>e.cps.toList) []=[]
   ·exact z
   ·obtain⟨f1,f2⟩:=hF (bne_iff_ne.mpr z)
    exfalso
    have te:=fC tU _ f1
    simp only[oA,aF]at te
    unfold yD at f2
    rw[oA]at f2
    rcases Nat.le_total (mC true w (rE.map λe=>e.cps.toList) []).length (cp "ion").length with q|q
    ·have:=rN f2.1 hi q
     rw[te.1.2]at this;exact nof this
    ·have:=rN hi f2.1 q
     rw[te.2]at this;exact nof this
  have hle:3<=w.length:=(eC hi).2
  have e5:mC true w (cp "ion"::(rE.map λe=>e.cps.toList)) []=if 3<w.length then cp "ion" else[]:=by
   have hE:=pD true w (cp "ion"::(rE.map λe=>e.cps.toList))
   have hE4:=pD true w (rE.map λe=>e.cps.toList)
   rw[none4]at hE4
   refine hE.one (P':=λk=>k∈cp "ion"::(rE.map λe=>e.cps.toList)) (λ_=>Iff.rfl) ?_
   have hlen:(cp "ion").length=3:=by decide
   by_cases q:3<w.length
   ·rw[if_pos q]
    refine⟨hi,.inr ⟨.head _,by unfold yD;rw[hi2,hlen,pA q];rfl⟩,λk hk' ho=>?_⟩
    rcases xB hk' with rfl|hk'
    ·exact vD _
    ·have:=hE4.max k hk' ho
     rw[List.length_nil]at this
     exact dA ‹_› (by decide)
   ·rw[if_neg q]
    refine⟨by induction w using List.casesOn<;>rfl,.inl rfl,λk hk' ho=>?_⟩
    rcases xB hk' with rfl|hk'
    ·unfold yD at ho
     rw[hlen,rG q,oA]at ho
     exact absurd ho.2 (by decide)
    ·exact hE4.max k hk' ho
  unfold wD hG lg
  dsimp only
  rw[mk_list,l2,none4,e4,e5]
  show(if(decide (4<w.length)&&(sx "sion" w||sx "tion" w))=true then(if iE (iP w)then iP w else w)else w)=_/\_
  by_cases q:3<w.length
  ·rw[if_pos q]
   have e6:iP w=cut w 3:=by
    unfold iP cut
    rw[show w.length-3=(w.length-4)+1 by exact hmB hle q,List.take_add_one,mG (uzA hle q),show w.length-1-3=w.length-4 by rfl,sD,mG (uzA hle q)]
    rfl
   have e7:∀(s:String) (c:Nat),cp s=c::cp "ion"->sx s w=(bD 1 (cut w 3)==[c]):=λs c hs=>by
    have hl1:=yE (e:=[c]) (cut w 3) (k:=1) rfl
    rw[hl1]
    show(cp s).isSuffixOf w=_
    rw[hs,Bool.eq_iff_iff]
    obtain⟨hsp,_⟩:=eC hi
    have hsp:w=cut w 3++cp "ion":=hsp
    constructor
    ·intro z
     obtain⟨t,ht⟩:=List.isSuffixOf_iff_suffix.mp z
     refine List.isSuffixOf_iff_suffix.mpr ⟨t,?_⟩
     have:t++[c]++cp "ion"=cut w 3++cp "ion":=by rw[<-hsp,<-ht];simp
     exact List.append_cancel_right this
    ·intro z
     obtain⟨t,ht⟩:=List.isSuffixOf_iff_suffix.mp z
     refine List.isSuffixOf_iff_suffix.mpr ⟨t,?_⟩
     conv=>rhs;rw[hsp,<-ht]
     simp
   have ion0:(cp "ion" !=[])=true:=by decide
   have eR:kW (cp "ion") w=(sx "sion" w||sx "tion" w):=by
    unfold kW
    rw[e7 "sion" 115 (by decide),e7 "tion" 116 (by decide),show cp "s"=[115] by decide,show cp "t"=[116] by decide,show(cp "ion" !=cp "ion")=false by decide]
    rfl
   have hlen:(cp "ion").length=3:=by decide
   rw[e6,(rL (h.no (k:=3) (by decide))).m1,eR,ion0,hlen,eD]
   have hcut:=h.cut' (k:=3) (by decide) λ_=>q
   by_cases q4:4<w.length
   ·rw[pA q4,eD]
    cases (sx "sion" w||sx "tion" w)with
    |false=>rw[Bool.and_false];exact⟨rfl,h⟩
    |true=>
     rw[Bool.and_true]
     refine⟨rfl,?_⟩
     split
     ·exact hcut
     ·exact h
   ·have hm:mA (cut w 3)=0:=by
     have hl:(cut w 3).length=1:=by rw[jK];exact gmB q q4
     obtain⟨a,ha⟩:=List.length_eq_one_iff.mp hl
     rw[ha]
     exact iV _
    rw[rG q4,hm]
    exact⟨rfl,h⟩
  ·rw[if_neg q,rG (fmB hle q:¬4<w.length)]
   exact⟨rfl,h⟩
 ·have hi':sx "ion" w=false:=cH hi
  have e5:mC true w (cp "ion"::(rE.map λe=>e.cps.toList)) []=mC true w (rE.map λe=>e.cps.toList) []:=by
   have hE:=pD true w (cp "ion"::(rE.map λe=>e.cps.toList))
   have hE4:=pD true w (rE.map λe=>e.cps.toList)
   refine hE.one (P':=λk=>k∈cp "ion"::(rE.map λe=>e.cps.toList)) (λ_=>Iff.rfl) ⟨hE4.suf,hE4.src.imp id λz=>⟨.tail _ z.1,z.2⟩,λk hk' ho=>?_⟩
   rcases xB hk' with rfl|hk'
   ·unfold yD at ho
    have:(cp "ion").isSuffixOf w=false:=hi'
    rw[this]at ho;exact nof ho
   ·exact hE4.max k hk' ho
  have hst:(sx "sion" w||sx "tion" w)=false:=by
   rw[Bool.or_eq_false_iff]
   constructor
   ·exact cH λz=>hi (fJ (b:=cp "sion") (by decide) z)
   ·exact cH λz=>hi (fJ (b:=cp "tion") (by decide) z)
  unfold wD hG lg
  dsimp only
  rw[mk_list,l1,l2,e4,e5,hst,Bool.and_false]
  generalize mC true w (rE.map λe=>e.cps.toList) []=e at*
  cases hb:(e !=[])with
  |false=>exact⟨rfl,h⟩
  |true=>
   obtain⟨f1,f2⟩:=hF hb
   have hpos:1<=e.length:=List.length_pos_iff.mpr (bne_iff_ne.mp hb)
   unfold yD at f2
   rw[oA]at f2
   have hlt:e.length<w.length:=bB f2.2
   have eR:kW e w=true:=by
    unfold kW
    have:(e !=cp "ion")=true:=bne_iff_ne.mpr λz=>by
     have f3:=f2.1
     rw[z]at f3
     exact hi f3
    rw[this];rfl
   rw[(rL (h.no hpos)).m1,eR,eD,Bool.and_true]
   refine⟨rfl,?_⟩
   split
   ·exact h.cut' hpos λ_=>hlt
   ·exact h
theorem jbB {b:Bool}{w:List Nat}(h:Wh b w):wE w=jJ w/\Wh b (jJ w):=by
 have R:=rL (h.no (k:=1) (by decide))
 have hc:=baA (x:=cut w 1) (h.capc 1)
 unfold wE jJ
 simp only[R.m1,R.q1,hc]
 have small:w.length<=1->mA (cut w 1)=0:=λq=>by
  have:cut w 1=[]:=by unfold cut;rw[show w.length-1=0 by exact emB q];rfl
  rw[this];rfl
 by_cases q:1<w.length
 ·rw[pA q,eD]
  cases sx "e" w with
  |false=>exact⟨rfl,h⟩
  |true=>
   rw[eD]
   refine⟨rfl,?_⟩
   split
   ·exact h.cut' (by decide) λø=>q
   ·exact h
 ·rw[rG q,small (Nat.not_lt.mp ‹_›)]
  cases sx "e" w<;>exact⟨rfl,h⟩
theorem gbB {b:Bool}{w:List Nat}(h:Wh b w):wF w=jH w/\Wh b (jH w):=by
 unfold wF jH
 cases hs:sx "ll" w with
 |false=>exact⟨rfl,h⟩
 |true=>
  refine gA (eC hs) λhsp hle=>?_
  have hle:2<=w.length:=hle
  have no:121∉w:=λz=>by
   have hsp:w=cut w 2++[108,108]:=hsp
   rw[hsp]at z
   refine Or.elim (dI z) (λz=>?_) λz=>?_
   ·exact h.no (by decide) z
   ·revert z;decide
  rw[(rL no).m1]
  refine⟨rfl,?_⟩
  split
  ·exact h.cut' (by decide) λø=>by assumption
  ·exact h
theorem fyA {b:Bool}{w:List Nat}(h:Wh b w):jN "y" b w=unY w:=by
 induction b using Bool.casesOn with
 |false=>
  have hl:=h.low rfl
  have e:∀l:List Nat,89∉l->unY l=l:=λl hl=>by
   induction l with
   |nil=>rfl
   |cons k r ih=>
    show(if k=89 then 121 else k)::unY r=k::r
    rw[if_neg (λe:k=89=>hl (by rw[e];exact List.mem_cons_self ..)),ih λm=>hl (List.mem_cons_of_mem _ m)]
  exact(e w hl).symm
 |true=>
  refine iB (h.head rfl) λt o1=>?_;obtain rfl:=o1
  have hc:89∉t:=h.cap
  have e:∀l:List Nat,89∉l->unY l=l:=λl hl=>by
   induction l with
   |nil=>rfl
   |cons k r ih=>
    show(if k=89 then 121 else k)::unY r=k::r
    rw[if_neg (λe:k=89=>hl (by rw[e];exact List.mem_cons_self ..)),ih λm=>hl (List.mem_cons_of_mem _ m)]
  show cp "y"++t=121::unY t
  simp only[e t hc]
  rfl
theorem gkB {l:List Nat}(h:l.length<3):eG l=l:=by unfold eG;exact(if_pos h ..)
theorem tgB:cp "y"=[121]:=by decide
theorem klB:cp "Y"=[89]:=by decide
theorem mU (ours:Bool):∀(m t out:List Nat),out≠[]->121∉m->xC ours (m++t) out=xC ours t (out++m):=by
 intro l0
 induction l0 with
 |nil=>
  intro t out ø ø
  simp only[List.nil_append,List.append_nil]
 |cons x m ih=>
  intro t out ho hm
  have hx:(x==121)=false:=beq_false_of_ne λe=>hm (by rw[e];exact .head _)
  show xC ours (m++t) (out++[if x==121&&(out.isEmpty||(!ours&&gB (out.getLast?.getD 0)))then 89 else x])=_
  rw[hx,Bool.false_and,if_neg (by decide),ih t (out++[x]) (by simp) λz=>hm (.tail _ z),List.append_assoc]
  rfl
theorem tR:∀(l out:List Nat),out≠[]->xC true l out=out++l:=by
 intro l0
 induction l0 with
 |nil=>
  intro out ø
  unfold xC;simp only[List.append_nil]
 |cons x r ih=>
  intro out h
  have e:out.isEmpty=false:=by induction out using List.casesOn with|nil=>exact absurd rfl h|cons ø ø=>rfl
  show xC true r (out++[if x==121&&(out.isEmpty||(!true&&gB (out.getLast?.getD 0)))then 89 else x])=_
  rw[e,Bool.not_true,Bool.false_and,Bool.or_false,Bool.and_false,if_neg (by decide),ih _ (by simp),List.append_assoc]
  rfl
noncomputable def kH (x:Nat):Nat:=if x==121 then 89 else x
theorem zM (ours:Bool)(x:Nat)(r:List Nat):xC ours (x::r) []=xC ours r [kH x]:=by
 show xC ours r ([]++[if x==121&&(([]:List Nat).isEmpty||_)then 89 else x])=_
 refine qDzq (List.nil_append ..) ?_
 unfold kH
 cases x==121<;>rfl
theorem azA (x:Nat)(r:List Nat):xC true (x::r) []=kH x::r:=by
 refine qDzq (zM ..) ?_;refine qDzq (tR _ _ (by simp) ..) ?_;rfl
theorem kiA (x:Nat)(r:List Nat):jN "Y" ([(x::r).getD 0 0]==cp "y") (x::r)=kH x::r:=by
 unfold jN kH
 simp only[tgB,klB]
 show(if([x]==[121])=true then _ else _)=_
 by_cases q:x=121
 ·subst q;rfl
 ·have e1:([x]==[121])=false:=beq_false_of_ne λz=>q (List.singleton_inj.mp z)
  have e2:(x==121)=false:=beq_false_of_ne q
  rw[e1,e2];rfl
theorem xU (x:Nat){r:List Nat}(h:1<=r.length):cut (x::r) 1=x::r.take (r.length-1):=by
 unfold cut
 simp only[List.length_cons,Nat.add_sub_cancel]
 obtain⟨n,hn⟩:∃n,r.length=n+1:=yC (r.length-1) (dmB h)
 rw[hn,Nat.add_sub_cancel]
 rfl
theorem cU (x:Nat)(r:List Nat)(h:1<=r.length):aQ (x::r)=r.take (r.length-1):=by
 show(cut (x::r) 1).drop 1=_
 rw[xU x h];rfl
theorem peB {l:List Nat}(h:fH l=true):89∉l:=λz=>by
 have:=fC h 89 z
 exact absurd this (by decide)
theorem wh0 {x:Nat}{r:List Nat}(hl:fH (x::r)=true)(h2:2<=r.length)(hm:121∉aQ (x::r)):Wh (x==121) (kH x::r):=by
 rw[cU x r (iC ‹_›)]at hm
 have h89:=peB hl
 have hx:x≠89:=λe=>h89 (by rw[e];exact .head _)
 have hr:89∉r:=λz=>h89 (.tail _ z)
 have hh:kH x≠121:=by
  unfold kH
  by_cases q:x=121
  ·subst q;decide
  ·rw[beq_false_of_ne q];exact q
 refine⟨λz=>?_,hr,λe=>?_,λe z=>?_⟩
 ·rw[xU _ (iC ‹_›)]at z
  refine Or.elim (xB z) (λz=>?_) λz=>?_
  ·exact hh z.symm
  ·exact hm z
 ·refine yC r ?_
  unfold kH
  rw[e];rfl
 ·unfold kH at z
  rw[e]at z
  refine Or.elim (xB z) (λz=>?_) λz=>?_
  ·exact hx z.symm
  ·exact hr z
theorem czA {l:List Nat}(hl:fH l=true)(h3:3<=l.length)(hm:121∉aQ l):eG l=iJ true (pB true l):=by
 induction l using List.casesOn with
 |nil=>cases h3
 |cons x r=>
  have h2:2<=r.length:=by rw[List.length_cons]at h3;exact oK ‹_›
  have W0:=wh0 hl h2 hm
  have eb:([(x::r).getD 0 0]==cp "y")=(x==121):=by
   rw[tgB]
   show([x]==[121])=_
   by_cases q:x=121
   ·subst q;rfl
   ·rw[beq_false_of_ne q,beq_false_of_ne λz=>q (List.singleton_inj.mp z)]
  unfold eG
  rw[if_neg (Nat.not_lt.mpr ‹_›)]
  unfold qjA iJ pB
  rw[kiA,azA,eb]
  have hlen:(kH x::r).length=r.length+1:=rfl
  generalize kH x::r=M at*
  generalize (x==121)=b at*
  rw[qbB (cmB h2 hlen)]
  have W1:=ynA W0 (tzA h2 hlen)
  refine gA (djA W1) λe2 W2=>?_
  rw[e2,nbB W2]
  have W3:=icA W2
  refine gA (ddA hwB W3) λe4 W4=>?_
  rw[e4]
  refine gA (ddA gwB W4) λe5 W5=>?_
  rw[e5]
  refine gA (lbB W5) λe6 W6=>?_
  rw[e6]
  refine gA (jbB W6) λe7 W7=>?_
  rw[e7]
  refine gA (gbB W7) λe8 W8=>?_
  rw[e8,fyA W8]
theorem gxA {b:Bool}{w:List Nat}(h:Wh b w):Wh b (fF2 false w):=by
 unfold fF2
 split
 ·rename_i z
  have hl:3<=w.length:=(eC z).2
  split
  ·exact h.cut' (by decide) λø=>by exact iC ‹_›
  ·exact h
 ·split
  ·rename_i z
   replace z:=bmp bB id z
   refine gA z λz1 z2=>?_
   have hp:=kQ z2
   simp only[jK]at hp
   generalize pK w=k at*
   have add:=h.app (k:=k) ‹_› (λø=>by exact ffA hp) (x:=cp "e") (by decide) (by decide)
   have hc:=h.cut' (k:=k) ‹_› λø=>by exact ffA hp
   unfold zE
   split
   ·exact add
   ·split
    ·rename_i z3
     unfold dK at z3
     simp only[oA,vA]at z3
     exact hc.cut' (by decide) λø=>z3.2.1
    ·split
     ·exact add
     ·exact hc
  ·exact h
theorem jV {l:List Nat}(h:89∉l):unY l=l:=by
 induction l with
 |nil=>rfl
 |cons k r ih=>
  show(if k=89 then 121 else k)::unY r=k::r
  rw[if_neg (λe:k=89=>h (by rw[e];exact List.mem_cons_self ..)),ih λm=>h (List.mem_cons_of_mem _ m)]
theorem ebB {b:Bool}{u v:List Nat}(h1:Wh b u)(h2:Wh b v)(e:unY u=unY v):u=v:=by
 induction b using Bool.casesOn with
 |false=>rwa[jV (h1.low rfl),jV (h2.low rfl)]at e
 |true=>
  refine iB (h1.head rfl) λt1 o1=>?_;obtain rfl:=o1
  refine iB (h2.head rfl) λt2 o3=>?_;obtain rfl:=o3
  have c1:89∉t1:=h1.cap
  have c2:89∉t2:=h2.cap
  have e:121::unY t1=121::unY t2:=e
  rw[jV c1,jV c2]at e
  rw[(List.cons.inj e).2]
theorem qL {e:List Nat}{c:Nat}(u:List Nat)(h:(e.getLast?.getD c !=c)=true):e.isSuffixOf (u++[c])=false:=cH λz=>by
 refine iB (List.isSuffixOf_iff_suffix.mp z) λt ht=>?_
 have:=congrArg List.getLast? ht
 simp only[List.getLast?_append,List.getLast?_append]at this
 cases q:e.getLast? with
 |none=>rw[q]at h;simp at h
 |some d=>
  rw[q]at this h
  simp at this h
  exact h this
theorem ueA {c:Nat}(hc:c=121\/c=89)(ours:Bool)(t:List Nat){v:Nat}(hv:gB v=true):fF3 (fF2 ours (fF1 (t++[v]++[c])))=t++[v]++cp "i":=by
 generalize hu:t++[v]=u
 have n1:sx "s" (u++[c])=false:=qL u (by rcases hc with rfl|rfl<;>decide)
 have n2:sx "sses" (u++[c])=false:=qL u (by rcases hc with rfl|rfl<;>decide)
 have n3:sx "ies" (u++[c])=false:=qL u (by rcases hc with rfl|rfl<;>decide)
 have n4:sx "eed" (u++[c])=false:=qL u (by rcases hc with rfl|rfl<;>decide)
 have n5:sx "ed" (u++[c])=false:=qL u (by rcases hc with rfl|rfl<;>decide)
 have n6:sx "ing" (u++[c])=false:=qL u (by rcases hc with rfl|rfl<;>decide)
 have e1:fF1 (u++[c])=u++[c]:=by unfold fF1;simp only[n1,n2,n3];rfl
 have e2:fF2 ours (u++[c])=u++[c]:=by unfold fF2 pK;rw[n4,n5,n6];rfl
 have e3:bD 1 (u++[c])=[c]:=by unfold bD;simp
 have e4:cut (u++[c]) 1=u:=afA u [c]
 have e5:eI u=true:=by
  rw[qZ,<-hu,List.any_append]
  simp[hv]
 simp only[e1,e2]
 unfold fF3
 simp only[e3,e4,e5,tgB,klB]
 rcases hc with rfl|rfl<;>rfl
theorem marks {l:List Nat}(h3:3<=l.length)(hm:121∉aQ l):xC false l []=xC true l []\/∃t v,xC false l []=t++[v]++[89]/\xC true l []=t++[v]++[121]/\gB v=true:=by
 induction l using List.casesOn with
 |nil=>cases h3
 |cons x r=>
  have h2:2<=r.length:=by simp only[List.length_cons]at h3;exact oK ‹_›
  rw[cU x r (iC ‹_›)]at hm
  obtain⟨z,hz⟩:∃z,r=r.take (r.length-1)++[z]:=by
   refine yC (r[r.length-1]'(szA h2)) ?_
   conv=>lhs;rw[<-List.take_length (l:=r),show r.length=r.length-1+1 by exact bmB h2,List.take_succ_eq_append_getElem (szA h2)]
  generalize r.take (r.length-1)=m at*
  subst hz
  rw[zM,zM,mU false m [z] _ (by simp) hm,mU true m [z] _ (by simp) hm,tR _ _ (by simp)]
  obtain⟨t,v,htv⟩:∃t v,[kH x]++m=t++[v]:=by
   rcases List.eq_nil_or_concat ([kH x]++m)with q|⟨t,v,q⟩
   ·injection q
   ·exact inA t v (by refine qDzq (q ..) ?_;exact(List.concat_eq_append ..))
  rw[htv]
  have e:xC false [z] (t++[v])=t++[v]++[if z==121&&gB v then 89 else z]:=by
   show(t++[v])++[if z==121&&((t++[v]).isEmpty||(!false&&gB ((t++[v]).getLast?.getD 0)))then 89 else z]=_
   have e1:(t++[v]).isEmpty=false:=by induction t using List.casesOn<;>rfl
   have e2:(t++[v]).getLast?.getD 0=v:=by simp
   rw[e1,e2]
   rfl
  rw[e]
  cases q:(z==121&&gB v)with
  |false=>exact .inl rfl
  |true=>
   simp only[oA]at q
   obtain rfl:z=121:=eq_of_beq q.1
   exact .inr (zI t v rfl rfl q.2)
theorem fcA {l:List Nat}(hl:fH l=true)(h3:3<=l.length)(hm:121∉aQ l)(hu:unY (pB true l)=unY (pB false l)):pB true l=pB false l:=by
 rcases marks h3 hm with e|⟨t,v,e1,e2,hv⟩
 ·induction l using List.casesOn with
  |nil=>cases h3
  |cons x r=>
   have h2:2<=r.length:=by simp only[List.length_cons]at h3;exact oK ‹_›
   have W0:=wh0 hl h2 hm
   unfold pB at hu ⊢
   rw[e,azA]at hu ⊢
   have hlen:(kH x::r).length=r.length+1:=rfl
   generalize kH x::r=M at*
   have W1:=ynA W0 (tzA h2 hlen)
   exact ebB (icA (djA W1).2) (icA (gxA W1)) hu
 ·unfold pB
  simp only[e1,e2,ueA (.inl rfl) true t hv,ueA (.inr rfl) false t hv]
theorem sX (w:List Nat):w.isSuffixOf w=true:=List.isSuffixOf_iff_suffix.mpr (yC ([]) rfl)
theorem ojA {e w:List Nat}(h:e.isSuffixOf w=true)(hl:w.length<=e.length):e=w:=by
 refine iB (List.isSuffixOf_iff_suffix.mp h) λt ht=>?_
 have:=congrArg List.length ht
 rw[vC]at this
 have:t=[]:=List.eq_nil_iff_length_eq_zero.mpr (zlB hl this)
 subst this
 exact ht
theorem gS {w:List Nat}{K:List (List Nat)}(hw:w∉K):mC true w K []=mC false w K []:=by
 have hE:=pD false w K
 have key:∀e∈K,yD false w e=true->yD true w e=true:=λe he h=>by
  unfold yD at h ⊢
  simp only[oA]at h ⊢
  refine⟨h.1,?_⟩
  have:e.length<w.length:=by
   refine Or.elim (Nat.lt_or_ge e.length w.length) (λq=>?_) λq=>?_
   ·exact q
   ·exact absurd (ojA h.1 q▸he) hw
  refine qDzq (pA this ..) ?_;rfl
 have back:∀e,yD true w e=true->yD false w e=true:=λe h=>by
  unfold yD at h ⊢
  simp only[oA]at h ⊢
  exact⟨h.1,rfl⟩
 exact(pD true w K).one (P':=λk=>k∈K) (λø=>Iff.rfl) ⟨hE.suf,hE.src.imp id λx=>⟨x.1,key _ x.1 x.2⟩,λe he h=>hE.max e he (back e h)⟩
theorem wU {w:List Nat}{K:List (List Nat)}(hw:w∈K):mC false w K []=w:=
 (pD false w K).one (P':=λk=>k∈K) (λø=>Iff.rfl) ⟨sX w,.inr ⟨hw,by unfold yD;rw[sX];rfl⟩,λe ø h=>by
  unfold yD at h
  simp only[oA]at h
  exact(eC h.1).2⟩
theorem bfA (w:List Nat):cut w w.length=[]:=by unfold cut;rw[Nat.sub_self];rfl
theorem dU:mA []=0:=rfl
noncomputable def mN (m:Nat)(K:List (List Nat))(exc:List Nat):Bool:=K.all λk=>k==exc||K.all λe=>!(e.isSuffixOf k&&decide (e.length<k.length))||decide (mA (cut k e.length)<=m)
theorem gX {m:Nat}{K:List (List Nat)}{exc w:List Nat}(hT:mN m K exc=true)(hw:w∈K)(hx:w≠exc):mC true w K []=[]\/mA (cut w (mC true w K []).length)<=m:=by
 rcases(pD true w K).src with q|⟨q1,q2⟩
 ·exact .inl q
 ·right
  have h1:=fC hT w hw
  simp only[Bool.or_eq_true]at h1
  rcases h1 with h1|h1
  ·exact absurd (eq_of_beq h1) hx
  ·have h2:=fC h1 _ q1
   unfold yD at q2
   simp only[Bool.not_true,Bool.false_or]at q2
   simp only[q2,Bool.not_true,Bool.false_or,vA]at h2
   exact h2
theorem swap_eq {es:List (Str×Str)}{exc:List Nat}(hT:mN 0 (kB es) exc=true){w:List Nat}(hx:w∈kB es->w≠exc):zC true es w=zC false es w:=by
 by_cases hw:w∈kB es
 ·have e1:zC false es w=w:=by
   unfold zC
   dsimp only
   rw[wU hw,bfA,dU]
   simp
  simp only[e1]
  unfold zC
  dsimp only
  rcases gX hT hw (hx hw)with q|q
  ·rw[q];rfl
  ·rw[rG (Nat.not_lt.mpr ‹_›)];simp
 ·unfold zC
  rw[gS hw]
theorem ilA (w:List Nat):hG true w=hG false w:=by
 have hT:mN 1 (es4.map λe=>e.cps.toList) []=true:=by decide+kernel
 have hN:((es4.map λe=>e.cps.toList).all λk=>k !=[])=true:=by decide+kernel
 by_cases hw:w∈(es4.map λe=>e.cps.toList)
 ·have e1:hG false w=w:=by
   unfold hG
   dsimp only
   rw[wU hw,bfA,dU]
   simp
  simp only[e1]
  unfold hG
  dsimp only
  rcases gX hT hw (bne_iff_ne.mp (fC hN w hw))with q|q
  ·rw[q];rfl
  ·rw[rG (Nat.not_lt.mpr ‹_›)];simp
 ·unfold hG
  rw[gS hw]
theorem boA {ours:Bool}{w:List Nat}{K K':List (List Nat)}(h1:∀e∈K,e∈K')(h2:∀e∈K',e∈K\/e.isSuffixOf w=false):mC ours w K' []=mC ours w K []:=by
 have hE:=pD ours w K
 have no:∀e,e.isSuffixOf w=false->yD ours w e=false:=λe h=>by unfold yD;rw[h];rfl
 refine(pD ours w K').one (P':=λk=>k∈K') (λø=>Iff.rfl) ⟨hE.suf,hE.src.imp id λx=>⟨h1 _ x.1,x.2⟩,λe he h=>?_⟩
 rcases h2 e he with q|q
 ·exact hE.max e q h
 ·rw[no e q]at h;exact nof h
theorem rX {ours:Bool}{w:List Nat}{es es':List (Str×Str)}(h1:∀e∈kB es,e∈kB es')(h2:∀e∈kB es',e∈kB es\/e.isSuffixOf w=false)
  (h3:((kB es).all λk=>(xE es' (mk k)).cps.toList==(xE es (mk k)).cps.toList)=true):zC ours es' w=zC ours es w:=by
 have hF:=@fN ours w (kB es)
 unfold zC
 rw[boA h1 h2]
 dsimp only
 generalize mC ours w (kB es) []=e at*
 cases hb:(e !=[])with
 |false=>rfl
 |true=>rw[eq_of_beq (fC h3 e (hF hb).1)]
theorem ifB:(kB (dG true)).all (λk=>(kB lE).contains k||k==cp "bli"||k==cp "logi")=true:=by decide+kernel
theorem jfB:(kB (dG false)).all (λk=>(kB lE).contains k||k==cp "abli")=true:=by decide+kernel
theorem neA:((kB lE).all λk=>(kB (dG true)).contains k&&(xE (dG true) (mk k)).cps.toList==(xE lE (mk k)).cps.toList)=true:=by decide+kernel
theorem oeA:((kB lE).all λk=>(kB (dG false)).contains k&&(xE (dG false) (mk k)).cps.toList==(xE lE (mk k)).cps.toList)=true:=by decide+kernel
theorem lyA:((kB (dG true)).all λk=>k==cp "bli"||!(k.isSuffixOf (cp "bli"))&&!((cp "bli").isSuffixOf k)||k==cp "abli")=true:=by decide+kernel
theorem myA:((kB (dG false)).all λk=>k==cp "abli"||(!(k.isSuffixOf (cp "abli"))&&!((cp "abli").isSuffixOf k)))=true:=by decide+kernel
theorem swA:((kB (dG true)).contains (cp "bli")&&(kB (dG false)).contains (cp "abli")&&(kB (dG true)).all (λk=>k !=cp "abli"))=true:=by decide+kernel
theorem dbB:mN 0 (kB lE) (cp "ization")=true:=by decide+kernel
theorem cbB:mN 0 (kB s3L) []=true:=by decide+kernel
theorem ne3:((kB s3L).all λk=>k !=[])=true:=by decide+kernel
theorem jwA:(xE (dG true) (mk (cp "bli"))).cps.toList=cp "ble":=by decide+kernel
theorem tmA:(xE (dG false) (mk (cp "abli"))).cps.toList=cp "able":=by decide+kernel
theorem eeA {ours:Bool}{w x:List Nat}{K:List (List Nat)}(hx:x∈K)(ho:yD ours w x=true)(hK:(K.all λk=>k==x||(!(k.isSuffixOf x)&&!(x.isSuffixOf k)))=true):mC ours w K []=x:=by
 have hs:x.isSuffixOf w=true:=by unfold yD at ho;simp only[oA]at ho;exact ho.1
 refine(pD ours w K).one (P':=λk=>k∈K) (λø=>Iff.rfl) ⟨hs,.inr ⟨hx,ho⟩,λe he h=>?_⟩
 have h1:=fC hK e he
 simp only[Bool.or_eq_true]at h1
 refine Or.elim h1 (λh1=>?_) λh1=>?_
 ·rw[eq_of_beq h1];exact vD _
 ·unfold yD at h
  simp only[oA,aF]at h h1
  refine Or.elim (Nat.le_total e.length x.length) (λq=>?_) λq=>?_
  ·exact q
  ·rw[rN hs h.1 q]at h1;cases h1.2
theorem eqA (b:Bool):vcs [b,true]=0:=by induction b using Bool.casesOn<;>rfl
theorem mcB {w:List Nat}(h:lL w=false):zC true (dG true) w=zC false (dG false) w:=by
 unfold lL at h
 rw[Bool.or_eq_false_iff,Bool.or_eq_false_iff]at h
 refine gA h λo1 hiz=>?_;refine gA o1 λhlogi hbli=>?_
 have hiz:w≠cp "ization":=λe=>by rw[e]at hiz;simp at hiz
 cases ha:sx "abli" w with
 |true=>
  have hb:sx "bli" w=true:=fJ (b:=cp "abli") (by decide) ha
  have hi:=swA
  replace hi:=bmp (bmp id id) id hi
  refine gA hi λo2 i3=>?_;refine gA o2 λi1 i2=>?_
  rw[List.contains_eq_mem,vA]at i1 i2
  refine gA (eC ha) λhsp hle=>?_
  have hle:4<=w.length:=hle
  have hsp:w=cut w 4++(cp "a"++cp "bli"):=hsp
  have kT:((kB (dG true)).all λk=>k==cp "bli"||(!(k.isSuffixOf (cp "bli"))&&!((cp "bli").isSuffixOf k)))=true:=by
   refine List.all_eq_true.mpr λk hk=>?_
   have:=fC lyA k hk
   have n:=fC i3 k hk
   rw[Bool.or_eq_true]at this
   refine Or.elim this (λq=>?_) λq=>?_
   ·exact q
   ·exact absurd (eq_of_beq q) (bne_iff_ne.mp n)
  have lT:(cp "bli").length=3:=by decide
  have lF:(cp "abli").length=4:=by decide
  have eT:mC true w (kB (dG true)) []=cp "bli":=eeA i1 (by
   unfold yD
   have hb':(cp "bli").isSuffixOf w=true:=hb
   rw[hb',lT,pA ‹_›];rfl) kT
  have eF:mC false w (kB (dG false)) []=cp "abli":=eeA i2 (by
   unfold yD
   have ha':(cp "abli").isSuffixOf w=true:=ha
   rw[ha'];rfl) myA
  have c3:cut w 3=cut w 4++cp "a":=by
   conv=>lhs;rw[hsp]
   exact iK (cut w 4) (cp "a") (cp "bli")
  have hm:mA (cut w 3)=mA (cut w 4):=by
   simp only[c3,sL]
   show mA (cut w 4)+vcs [sR (cut w 4),true]=_
   rw[eqA];rfl
  have nT:(cp "bli" !=[])=true:=by decide
  have nF:(cp "abli" !=[])=true:=by decide
  unfold zC
  dsimp only
  rw[eT,eF,lT,lF,nT,nF,jwA,tmA,hm,c3,show cp "able"=cp "a"++cp "ble" by decide,List.append_assoc]
 |false=>
  have hb:sx "bli" w=false:=by rw[ha]at hbli;simpa using hbli
  have mem {K:List (List Nat)} {k:List Nat} (h:K.contains k=true):k∈K:=by rwa[List.contains_eq_mem,vA]at h
  have two (t:List (Str×Str)) (hk:((kB lE).all λk=>(kB t).contains k&&(xE t (mk k)).cps.toList==(xE lE (mk k)).cps.toList)=true):(∀e∈kB lE,e∈kB t)/\((kB lE).all λk=>(xE t (mk k)).cps.toList==(xE lE (mk k)).cps.toList)=true:=by
   refine⟨λe he=>?_,List.all_eq_true.mpr λe he=>?_⟩
   ·have:=fC hk e he
    rw[oA]at this
    exact mem this.1
   ·have:=fC hk e he
    rw[oA]at this
    exact this.2
  have s1:zC true (dG true) w=zC true lE w:=rX (two _ neA).1 (λe he=>by
   have:=fC ifB e he
   simp only[Bool.or_eq_true,Bool.or_eq_true]at this
   rcases this with(q|q)|q
   ·exact .inl (mem q)
   ·rw[eq_of_beq q];exact .inr hb
   ·rw[eq_of_beq q];exact .inr hlogi) (two _ neA).2
  have s2:zC false (dG false) w=zC false lE w:=rX (two _ oeA).1 (λe he=>by
   have:=fC jfB e he
   simp only[Bool.or_eq_true]at this
   refine Or.elim this (λq=>?_) λq=>?_
   ·exact .inl (mem q)
   ·rw[eq_of_beq q];exact .inr ha) (two _ oeA).2
  refine qDzq (s1 ..) ?_;simp only[s2]
  exact swap_eq dbB λø=>hiz
theorem mgA {u:List Nat}(h:lL u=false):iJ true u=iJ false u:=by
 unfold iJ
 simp only[mcB h,swap_eq cbB λhw=>bne_iff_ne.mp (fC ne3 _ hw),ilA]
theorem fkB {l:List Nat}(hl:fH l=true)(h3:3<=l.length)(hm:121∉aQ l)(ha:lL (pB true l)=false)(hu:unY (pB true l)=unY (pB false l)):eG l=oG l:=by
 rw[czA hl h3 hm,dzA,mgA ha,fcA hl h3 hm hu]
theorem law_all (l:List Nat)(hl:fH l=true)(ø:l.length<=27):Law l:=⟨dzA l,gkB,czA hl,fkB hl⟩
end Mine
namespace Mine
open PySem PySem.W PySem.Calls PyProof.Rows
noncomputable abbrev oE:OpenLaw:=PySem.Challenge.rw_ji0048_01
noncomputable abbrev rwQ:OpenRow:=oE.row
theorem exB:sreFenced pw.main=true:=by kernel_rfl
theorem dxB:((moduleNames pw.main.body).isEmpty||lookedIntoSs (moduleNames pw.main.body) pw.main.body)=true:=by kernel_rfl
theorem cxB:namesResolve pw=true:=by kernel_rfl
theorem bxB:pw.boundNames.all (λn=>!worldNames.contains n)=true:=by kernel_rfl
theorem axB:noRoadLSs {strict:=!(importedModules pw.main.body).all cThrough.contains,foot:=none,bare:=(["vars","dir","locals"]:List Str).filter (readsOut pw pw.main.body)} pw.main.body=true:=by kernel_rfl
theorem zwB:(namesMeet pw pw.main.body λ_ n=>attrL n)=true:=by kernel_rfl
theorem cfB:looksOpen rwQ.prog=true:=by
 show looksOpen pw=true
 unfold looksOpen
 rw[exB,dxB,cxB,bxB,axB,zwB]
 rfl
theorem zeB:(oE.row.wellSaid)=true:=by
 show rwQ.wellSaid=true
 unfold OpenRow.wellSaid OpenRow.partSaid
 rw[cfB]
 kernel_rfl
theorem yeB:(decide (oE.foot<=(behindTheImports oE.prog).length))=true:=by kernel_rfl
theorem xeB:(oE.footing.all footLine)=true:=by kernel_rfl
theorem weB:(noClassBlock oE.prog oE.footing)=true:=by kernel_rfl
theorem veB:(oE.most.all (λn=>decide (63<=n)))=true:=by kernel_rfl
theorem ueB:(oE.bound.all (λn=>decide (2 ^ 63<=n)))=true:=by kernel_rfl
theorem teB:(noRoadLSs {strict:=true,foot:=some oE.bound',writes:=oE.writes,may:=oE.may} oE.footing)=true:=by kernel_rfl
theorem seB:(defStands oE.about oE.above)=true:=by kernel_rfl
theorem reB:(oE.namesIt)=true:=by kernel_rfl
theorem qeB:((["type","isinstance","issubclass","getattr","hasattr"]:List Str).all (λn=>oE.about !=[n]))=true:=by kernel_rfl
theorem bwA:(oE.bound'.all (λn=>!builtinNamed n||oE.about==[n]||!oE.reads n))=true:=by kernel_rfl
theorem awA:((!oE.writes||(oE.prog.main.body.flatMap importedNames).all λn=>!oE.reads n))=true:=by kernel_rfl
theorem zvA:((oE.prog.main.body.flatMap importedNames).all (λn=>!oE.reads n||(drawsOf n oE.prog.main.body).all λmn=>mn.2 !=("attrgetter":Str)&&mn.2 !=("methodcaller":Str)))=true:=by kernel_rfl
theorem yvA:(namesMeet oE.prog oE.footing (λsc n=>(!(["type","isinstance","issubclass","getattr","hasattr"]:List Str).contains n||sc.names.lookup n==some .globalImplicit)&&(oE.may !=some n||sc.kind==.module||sc.names.lookup n==some .globalImplicit)))=true:=by kernel_rfl
theorem xvA:(oE.own.contains oE.name)=true:=by kernel_rfl
theorem wvA:((oE.own.eraseDups.length==oE.own.length))=true:=by kernel_rfl
theorem vvA:(oE.own.all (λn=>!builtinNamed n))=true:=by kernel_rfl
theorem uvA:(namesMeet oE.prog oE.above (λ_ n=>!oE.own.contains n))=true:=by kernel_rfl
theorem tvA:((namesMeet oE.prog oE.footing λsc n=>sc.kind==.module||sc.names.lookup n !=some .globalExplicit))=true:=by kernel_rfl
theorem xyA:PySem.Challenge.rw_ji0048_01.wellSaid=true:=by
 show oE.wellSaid=true
 unfold OpenLaw.wellSaid
 rw[zeB,yeB,xeB,weB,veB,ueB,teB,seB,reB,qeB,bwA,awA,zvA,yvA,xvA,wvA,vvA,uvA,tvA]
 rfl
theorem toA (w:World):(fencedOpening treeTable pw w 600).map (λs=>(s.heap,s.gens,s.drawn,s.toks))=some (boot_heap w.params,Array.mk [],boot_drawn,boot_toks):=
 boot_open (p:=pw) (N:=600) (by kernel_rfl) (by kernel_rfl) (λs=>by kernel_rfl) w
theorem zpA (P:Params):((KL P).all λp=>Nat.blt p.1 802&&!p.2.isFreed)=true:=by kernel_rfl
theorem ypA (P:Params):(KL P).lookup 347=none:=by kernel_rfl
theorem xpA (P:Params):(KL P).lookup 348=none:=by kernel_rfl
theorem svA (b:Nat)(h:b<11)(h2:b≠2)(h3:b≠3):b∈([0,1,4,5,6,7,8,9,10]:List Nat):=by
 simp only[List.mem_cons,List.not_mem_nil,or_false]
 exact ylB h h2 h3
theorem npA {o:Obj}(h:o.isFreed=false):alive o=some o:=by
 obtain⟨c,d,dt,sl⟩:=o
 cases dt<;>first|rfl|injection h
theorem niA (P:Params):([0,1,4,5,6,7,8,9,10]:List Nat).map (λa=>(KL P).lookup a)=([0,1,4,5,6,7,8,9,10]:List Nat).map (λa=>(boot_heap P).get? a):=by kernel_rfl
theorem miA (P:Params):(boot_heap P).objs.size=11:=by kernel_rfl
theorem nvB {w:World}{os:OsState}{sF:SharedT}(T:cX w os sF):∃ex:Ex,(KX w.params ex).In sF.abs.heap/\∀b,∃o n,(KX w.params ex).lookup (setA b)=some o/\o.SetObjOf (PySem.strKind pw w) (rD b) n/\n<scanBound:=by
 refine ofA T.set1 λe1 p1 t1 g1 G1=>?_
 refine ofA T.set2 λe2 p2 t2 g2 G2=>?_
 have n1:=ypA w.params
 have n2:=xpA w.params
 have at_:∀{a:Nat} {o:Obj},a<802->o.isFreed=false->sF.tree.get a=some o->sF.abs.heap.get? a=some o:=λh f e=>by
  have:=abs_get (n:=sF.n) (life:=sF.life) (by simp only[T.n];exact h) e
  simp only[npA f]at this
  exact this
 refine jA ⟨e1,p1,t1,e2,p2,t2⟩ (λa o h=>?_) (λb=>?_)
 ·unfold KX at h
  rw[List.lookup_append]at h
  cases q:(KL w.params).lookup a with
  |some o'=>
   rw[q]at h
   cases h
   refine jB (List.lookup_eq_some_iff.mp q) λl1 l2 e ø=>?_
   have hm:(a,o)∈KL w.params:=by rw[e];simp
   have hf:=fC (zpA w.params) _ hm
   simp only[oA,aF]at hf
   exact at_ (Nat.le_of_ble_eq_true hf.1) hf.2 (T.objs _ hm)
  |none=>
   rw[q]at h
   replace h:List.lookup a [(347,qC e1 p1 t1),(348,qC e2 p2 t2)]=some o:=h
   rw[List.lookup_cons]at h
   split at h
   ·rename_i z
    have z:=eq_of_beq z
    have o1:=inj h;clear h;obtain rfl:=o1
    subst z
    exact at_ (by decide) rfl g1
   ·simp only[List.lookup_cons]at h
    split at h
    ·rename_i z
     have z:=eq_of_beq z
     have o2:=inj h;clear h;obtain rfl:=o2
     subst z
     exact at_ (by decide) rfl g2
    ·exact no h
 ·induction b using Bool.casesOn with
  |false=>
   refine zI (qC e1 p1 t1) 6 ?_ ⟨cF rfl rfl rfl,e1,p1,t1,rfl,G1.el,G1.mem,G1.size,G1.fits⟩ (by decide)
   unfold KX
   rw[List.lookup_append,show setA false=347 from rfl,n1];rfl
  |true=>
   refine zI (qC e2 p2 t2) 9 ?_ ⟨cF rfl rfl rfl,e2,p2,t2,rfl,G2.el,G2.mem,G2.size,G2.fits⟩ (by decide)
   unfold KX
   rw[List.lookup_append,show setA true=348 from rfl,n2];rfl
structure aqA (w:World) (s₀ s₁:Shared):Prop where
 ran:TopRan pw w s₀ s₁
 asleep:s₁.asleep
 gens:s₁.gens=#[]
 isNs:s₁.heap.isNs mainGlobals=true
 G:Ground qE yM [] (λ_ _=>True) w s₁ (s₁.heap.nsMap mainGlobals) (s₁.heap.nsMap builtinsNs) s₁.heap
 K:∃ex:Ex,(KX w.params ex).In s₁.heap/\∀b,∃o n,(KX w.params ex).lookup (setA b)=some o/\o.SetObjOf (PySem.strKind pw w) (rD b) n/\n<scanBound
theorem seA (w:World):(∃s,AfterRun (opening pw) w s)/\∀s,AfterRun (opening pw) w s->∃s₀,fenceModules? pw s=some s₀/\s₀.gens=#[]/\∃s₁,aqA w s₀ s₁:=by
 refine iA (Option.map_eq_some_iff.mp (toA w)) λs₀ h2 e=>?_
 refine iA (dH h2) λs h4 h5=>?_
 rw[<-table_eq_tree]at h4
 have A:=AfterImport.of_importEnds h4
 refine eB (yC s A) (λs' hs'=>?_)
 obtain rfl:s'=s:=AfterImport.unique hs' A
 have z:s₀.asleep:=Shared.asleep_of_life (fence_lifeW h5) A.life
 obtain⟨heap,gens,drawn,toks,os⟩:=s₀
 obtain⟨rfl,rfl,rfl,rfl⟩:heap=boot_heap w.params/\gens=#[]/\drawn=boot_drawn/\toks=boot_toks:=by simpa using e
 have s0:=diB w.params os
 refine oM (pqA w os (by simp only[s0];exact z)) λsF T hl o1=>?_;refine jB o1 λm t hr ht=>?_
 rw[s0]at hr hl
 refine gA (Prod.mk.inj T.look) λl1 l2=>?_
 replace l1:=bmp (bmp (bmp id id) id) id l1
 refine gA l1 λo2 a4=>?_;refine gA o2 λo3 a3=>?_;refine gA o3 λa1 a2=>?_
 obtain⟨G,g0,g1,g2,g3,g4,g5⟩:=ground_of_open (w:=w) (XP:=λø ø=>True) (λø ø=>trivial) (by kernel_rfl:chainsOk qE=true) l2
 refine iA (nvB T) λex X S=>?_
 have hos:sF.abs.os=os:=T.os
 refine zG _ h5 rfl (yC sF.abs ⟨⟨zA m t hr ht,hl.symm,?_,(λb o hb hn=>?_),g2,statics_of_ok a1,g3,g4,g5,gens_of_done a3,names_of_bound a2,laid_of_kept a4⟩,?_,T.gens,g1,G,ex,X,S⟩)
 ·exact Shared.rest_eq hos
 ·have hlt:=Heap.lt_size hb
  have hlt:b<11:=by
   have e:(boot_heap w.params).objs.size=11:=miA _
   exact e▸hlt
  have h3:b≠3:=λq=>hn (.inl q)
  have h2':b≠2:=λq=>hn (.inr (.inl q))
  have hm:=svA b hlt h2' h3
  have e:=nS (niA w.params) b hm
  have e2:(KL w.params).lookup b=some o:=e.trans hb
  refine X b o ?_
  unfold KX
  refine qDzq (List.lookup_append ..) ?_;simp only[e2];rfl
 ·exact Shared.asleep_of_life hl.symm z
set_option tactic.hygienic true
noncomputable abbrev rwL:OpenRow:=PySem.Challenge.rw_ji0048_01.row
theorem fwA:∃d kwd,defOf qE "law"=some (d,kwd)/\pw.theDef "law"=some (d.params,d.body,d.scope)/\kwWritten? d.params.kwonlyargs d.params.kw_defaults=some kwd:=by
 refine⟨_,_,rfl,by kernel_rfl,by kernel_rfl⟩
theorem hdB:(opensWell pw&&(frees rwL.toRowW&&rwL.within.isEmpty))=true:=by kernel_rfl
theorem efB (P:Params)(ex:Ex):nsIn (KX P ex) mainNs "law"=some (some (.ref 801)):=by kernel_rfl
theorem promised:rwL.toRowW.promised:=⟨[.list []],by decide+kernel,by decide+kernel⟩
theorem jiA (hL:∀l:List Nat,fH l=true->l.length<=27->Law l){w:World}{s₀ s s₁:Shared}(B:aqA w s₀ s){args:List WData}{vs:List Value}{as:List Addr}(hpre:rwL.toRowW.claim.pre args=true)(hlay:WData.layableAll args=true)
  (hrd:ReadsAllW rwL.records (classAt s.heap) s₁.heap vs args as) (hwl:WellAll w.params s₁.heap vs args) (hlo:∀a∈as,(a==sysModules)=false) (keeps:∀b o,s.heap.get? b=some o->s₁.heap.get? b=some o) (hg:s₁.gens=#[]):
  wpAny (model pw w) callerA (PySem.call (.ref 801) vs) (λv s'=>GoodWG rwL.toRowW.claim (classAt s.heap) (ExcName.means s.heap) args s₁ (.ok (.ret v)) s') (λ_ _=>False) s₁:=by
 wrow_args hpre hlay hrd hwl hlo
 rename_i ns _ _ _ _ _ _ _ sa vals _ hB _ _ _ hi _ hc _
 obtain⟨ex,X,S⟩:=B.K
 have hlen:ns.length<=10000:=by exact xlB hc
 refine wpAny_mono (omA (ex:=ex) hL (X.keeps keeps) (B.G.T.keeps keeps) S hB hi hlen) (λv s' ⟨h1,h2,h3,h4⟩=>?_) λ_ _ x=>x
 subst h1
 refine GoodW.toG ⟨.inl ⟨.bool true,.bool true,[],rfl,λcls=>rfl,.bool true,?_,λ_=>⟨List.nodup_nil,λa ha=>(nomatch ha)⟩⟩,h2,h4,h3.trans hg⟩
 wrow_post
theorem nhA (hL:∀l:List Nat,fH l=true->l.length<=27->Law l)(said:rwL.wellSaid=true):rwL.Holds:=by
 obtain⟨d,kwd,hdef,hp,hk⟩:=fwA
 obtain⟨o1,k5⟩:=Bool.and_eq_true_iff.mp hdB
 obtain⟨k5,k6⟩:=Bool.and_eq_true_iff.mp k5
 obtain⟨hsame,hu,ha,hap,hm⟩:=frees_parts k5
 refine⟨said,promised,⟨⟨⟨rfl,rfl,rfl,rfl,rfl,by decide+kernel⟩,o1,rfl⟩,promised.witness,λw=>⟨(seA w).1,λs' hs'=>?_⟩⟩⟩
 obtain⟨s₀,hf,hg0,s,B⟩:=(seA w).2 s' hs'
 refine⟨s₀,hf,hg0,s,B.ran,λn hn=>?_,λx hx=>(nomatch hx),λx hx=>(nomatch hx),?_⟩
 ·obtain rfl:n="law":=oH hn
  exact pinned_of_view B.isNs B.G hdef hp hk
 refine ClaimW.callFrom_of_specG (c:=rwL.toRowW.claim) (tree:=λvs=>do match <-nsGet mainNs rwL.name with
   |some f=>do ret (<-PySem.call f vs)
   |none=>unsupported "claim.caller:no-such-global") B.asleep B.gens λargs hpre hlay ord hord=>?_
 obtain⟨⟨vs,s₁⟩,hlaid⟩:=Option.isSome_iff_exists.mp (layAllW_isSome (P:=w.params) (ord:=ord) B.G.has args rwL.args s (pre_splitW hpre).1)
 have keeps:=layAllW_keeps _ _ _ hlaid
 have hal:=layAllW_rest _ _ _ hlaid
 obtain⟨as,hrd,hin,hold⟩:=reads_layAllW hord _ _ _ hlaid hlay s₁.heap (λ_ _ e=>e)
 have L:Laid rwL.records w s s₁ args vs as:=⟨⟨ord,hord,hlaid⟩,hrd,hin,hold,keeps,hal.1.trans B.gens,hal.2.2.1⟩
 obtain⟨ex,X,_⟩:=B.K
 refine⟨vs,s₁,hlaid,wpAny_bind ((looks_nsIn (X.keeps keeps) (efB w.params ex)).here ?_)⟩
 refine wpAny_bind (wpAny_mono (jiA hL B hpre hlay L.reads L.well (L.low B.G.low) keeps L.gens) (λv s' g=>wpAny_pure ⟨_,rfl,?_⟩) λ_ _ x=>x.elim)
 have z:=g.laid (c:=rwL.toRowW.claim) hsame (List.isEmpty_iff.mp k6) (ident_freeW hu ha hap) L
 exact⟨z.1,z.2.1,z.2.2,λq=>(nomatch q)⟩
theorem holds_all (hL:∀l:List Nat,fH l=true->l.length<=27->Law l):PySem.Challenge.rw_ji0048_01.Holds:=⟨xyA,nhA hL (row_said xyA)⟩
set_option tactic.hygienic false
end Mine
open PySem PySem.W PyProof.Rows
theorem PySem.Challenge.cw_ji0048_01_holds : PySem.Challenge.rw_ji0048_01.Holds :=
  Mine.holds_all Mine.law_all
