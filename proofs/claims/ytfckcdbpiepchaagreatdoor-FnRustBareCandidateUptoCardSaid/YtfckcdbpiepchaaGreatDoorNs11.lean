import Derived.Test.YtfckcdbpiepchaaGreatDoorNs07
namespace Go.Proofs.YtfckcdbpiepchaaGreatDoor
open Go.RowKit
set_option maxRecDepth 100000
set_option maxHeartbeats 8000000
set_option linter.all false
def relL (k:Nat):Bool:=k == 5||k == 7||k == 20
def relY (k:Nat):Bool:=k == 1||k == 5||k == 15||k == 18
def relN (k:Nat):Bool:=k == 5||k == 11||k == 12||k == 15||k == 16||k == 19||k == 20
def relF (k:Nat):Bool:=k == 15||k == 20
inductive gc:ya->ya->Prop
 | mk {k:Nat} {l l0:UInt8} {nm nm0:List UInt8} {n n0:Nat} {f f0:Bool} {a a0:List ya} :
   (relL k=true->l=l0)->(relY k=true->nm=nm0)->(relN k=true->n=n0)->(relF k=true->f=f0)->a.length=a0.length->(∀ i,i < a.length->gc (a.getD i .zero) (a0.getD i .zero))->
   gc (.mk k l nm n f a) (.mk k l0 nm0 n0 f0 a0)
inductive Rt:Sm->Nat->Nat->ya->Prop
 | crate {d b:Nat} {l:UInt8} {nm:List UInt8} {n:Nat} {f:Bool} : zh nm=true->n < 4611686018427387904->Rt .path (d+1) b (.mk 1 l nm n f [])
 | impl {d b:Nat} {l:UInt8} {nm:List UInt8} {n:Nat} {f:Bool} {p t:ya} : n < 4611686018427387904->Rt .path d 0 p->Rt .type d b t->Rt .path (d+1) b (.mk 2 l nm n f [p,t])
 | timpl {d b:Nat} {l:UInt8} {nm:List UInt8} {n:Nat} {f:Bool} {p t q:ya} : n < 4611686018427387904->Rt .path d 0 p->Rt .type d b t->Rt .path d b q->Rt .path (d+1) b (.mk 3 l nm n f [p,t,q])
 | tdef {d b:Nat} {l:UInt8} {nm:List UInt8} {n:Nat} {f:Bool} {t q:ya} : n < 4611686018427387904->Rt .type d b t->Rt .path d b q->Rt .path (d+1) b (.mk 4 l nm n f [t,q])
 | nested {d b:Nat} {l:UInt8} {nm:List UInt8} {n:Nat} {f:Bool} {p:ya} : n < 4611686018427387904->
   ((97<=l.toNat/\l.toNat<=122/\zh nm=true)\/((l=67\/l=83)/\(nm=[]\/zh nm=true)))->Rt .path d b p->Rt .path (d+1) b (.mk 5 l nm n f [p])
 | gen {d b:Nat} {l:UInt8} {nm:List UInt8} {n:Nat} {f:Bool} {p:ya} {a:List ya} : n < 4611686018427387904->a≠[]->Rt .path d b p->(∀ i,i < a.length->Rt .arg d b (a.getD i .zero))->Rt .path (d+1) b (.mk 6 l nm n f (p::a))
 | tpath {d b:Nat} {t:ya} : Rt .path (d+1) b t->Rt .type (d+1) b t
 | basic {d b:Nat} {l:UInt8} {nm:List UInt8} {n:Nat} {f:Bool} {x:List UInt8} : kw l=some x->Rt .type (d+1) b (.mk 7 l nm n f [])
 | array {d b:Nat} {l:UInt8} {nm:List UInt8} {n:Nat} {f:Bool} {t c:ya} : Rt .type d b t->Rt .const d b c->Rt .type (d+1) b (.mk 8 l nm n f [t,c])
 | slice {d b:Nat} {l:UInt8} {nm:List UInt8} {n:Nat} {f:Bool} {t:ya} : Rt .type d b t->Rt .type (d+1) b (.mk 9 l nm n f [t])
 | tuple {d b:Nat} {l:UInt8} {nm:List UInt8} {n:Nat} {f:Bool} {a:List ya} : (∀ i,i < a.length->Rt .type d b (a.getD i .zero))->Rt .type (d+1) b (.mk 10 l nm n f a)
 | ref {d b k:Nat} {l:UInt8} {nm:List UInt8} {n:Nat} {f:Bool} {t:ya} : k=11\/k=12->n<=b->Rt .type d b t->Rt .type (d+1) b (.mk k l nm n f [t])
 | ptr {d b k:Nat} {l:UInt8} {nm:List UInt8} {n:Nat} {f:Bool} {t:ya} : k=13\/k=14->Rt .type d b t->Rt .type (d+1) b (.mk k l nm n f [t])
 | fn {d b:Nat} {l:UInt8} {nm:List UInt8} {n:Nat} {f:Bool} {a:List ya} {t:ya} : b+n<=20->ybe nm=true->ya8 t=false->(∀ i,i < a.length->Rt .type d (b+n) (a.getD i .zero))->Rt .type d (b+n) t->
   Rt .type (d+1) b (.mk 15 l nm n f (a++[t]))
 | dyn {d b:Nat} {l:UInt8} {nm:List UInt8} {n m:Nat} {f:Bool} {a:List ya} {l2:UInt8} {nm2:List UInt8} {f2:Bool} : b+n<=20->a≠[]->(∀ i,i < a.length->Rt .bound d (b+n) (a.getD i .zero))->m<=b->
   Rt .type (d+1) b (.mk 16 l nm n f (a++[.mk 19 l2 nm2 m f2 []]))
 | life {d b:Nat} {l:UInt8} {nm:List UInt8} {n:Nat} {f:Bool} : n<=b->Rt .arg d b (.mk 19 l nm n f [])
 | argC {d b:Nat} {t:ya} : Rt .const d b t->Rt .arg d b t
 | argT {d b:Nat} {t:ya} : Rt .type d b t->Rt .arg d b t
 | hole {d b:Nat} {l:UInt8} {nm:List UInt8} {n:Nat} {f:Bool} : Rt .const (d+1) b (.mk 21 l nm n f [])
 | num {d b:Nat} {l:UInt8} {nm:List UInt8} {n:Nat} {f:Bool} : qv l n f=true->n < 18446744073709551616->Rt .const (d+1) b (.mk 20 l nm n f [])
 | bound {e b:Nat} {l:UInt8} {nm:List UInt8} {n:Nat} {f:Bool} {p:ya} {a:List ya} : Rt .path (e+1) b p->(∀ i,i < a.length->∃ nm2 n2 f2 l2 t,a.getD i .zero=.mk 18 l2 nm2 n2 f2 [t]/\zh nm2=true)->
   (∀ i,i < a.length->Rt .type e b ((a.getD i .zero).kids.getD 0 .zero))->Rt .bound (e+2) b (.mk 17 l nm n f (p::a))
theorem vy {s:List UInt8}{lim a b:Nat}(c:lim<=s.length)(d:a<=lim)(hb:b<=lim)(h:Vw s lim a=Vw s lim b):a=b:=by
 have:=congrArg List.length h;rw[jw c,jw c] at this;omega
theorem kj {s:List UInt8}{sg:Nat}{hr:Bool}{lim:Nat}{md:Sm}{d ar b k:Nat}{t:ya}{k':Nat}(h:Sp s sg hr lim md d ar b k t k')(a:hr=true)(c:md=.path):t.kind<=6:=by
 cases h with
 | crate h=>show 1<=6;omega
 | impl h=>show 2<=6;omega
 | timpl h=>show 3<=6;omega
 | tdef h=>show 4<=6;omega
 | nested h=>show 5<=6;omega
 | gen h=>show 6<=6;omega
 | _=>first|(cases a;done)|(cases c;done)
def jz (c:UInt8):Nat:=
 if c=67 then 1 else if c=77 then 2 else if c=88 then 3 else if c=89 then 4 else if c=78 then 5 else if c=73 then 6
 else if c=65 then 8 else if c=83 then 9 else if c=84 then 10 else if c=82 then 11 else if c=81 then 12 else if c=80 then 13 else if c=79 then 14 else if c=70 then 15 else if c=68 then 16 else if(kw c).isSome then 7 else 0
theorem yjk {l:UInt8}{x:List UInt8}(h:kw l=some x):jz l=7:=by
 have b:=yc6 h;unfold jz;have a:∀ c:UInt8,c.toNat < 97->¬ l=c:=fun c e d=>by rw[d] at b;omega
 rw[if_neg (a _ (by decide)),if_neg (a _ (by decide)),if_neg (a _ (by decide)),if_neg (a _ (by decide)),if_neg (a _ (by decide)),if_neg (a _ (by decide)),if_neg (a _ (by decide)),if_neg (a _ (by decide)),if_neg (a _ (by decide)),if_neg (a _ (by decide)),if_neg (a _ (by decide)),if_neg (a _ (by decide)),if_neg (a _ (by decide)),if_neg (a _ (by decide)),if_neg (a _ (by decide)),h]
 rfl
theorem j7 {s:List UInt8}{sg:Nat}{hr:Bool}{lim:Nat}{md:Sm}{d ar b k:Nat}{t:ya}{k':Nat}(h:Sp s sg hr lim md d ar b k t k')(c:hr=true)(a:md=.path\/md=.type):t.kind=jz (s.getD k 0):=by
 induction h with
 | here=>cases c
 | back=>cases c
 | tpath _ g=>exact g rfl (.inl rfl)
 | basic e f=>rw[e.2,yjk f];rfl
 | ref h=>rcases h with⟨rfl,h⟩|⟨rfl,h⟩<;>rw[h.2]<;>rfl
 | ptr h=>rcases h with⟨rfl,h⟩|⟨rfl,h⟩<;>rw[h.2]<;>rfl
 | crate h=>rw[h.2];rfl
 | impl h=>rw[h.2];rfl
 | timpl h=>rw[h.2];rfl
 | tdef h=>rw[h.2];rfl
 | nested h=>rw[h.2];rfl
 | gen h=>rw[h.2];rfl
 | array h=>rw[h.2];rfl
 | slice h=>rw[h.2];rfl
 | tuple h=>rw[h.2];rfl
 | fn h=>rw[h.2];rfl
 | dyn h=>rw[h.2];rfl
 | _=>rcases a with a|a<;>cases a
theorem yob {s:List UInt8}{sg:Nat}{hr:Bool}{lim:Nat}{md:Sm}{d ar b k:Nat}{t:ya}{k':Nat}(h:Sp s sg hr lim md d ar b k t k')(e:hr=true)(l:md≠.arg)(g:md≠.bound):s.getD k 0≠66:=by
 intro a
 cases md with
 | path=>
  have c:=j7 h e (.inl rfl);rw[a] at c;have f:=ydh h e rfl;rw[a] at f;exact absurd f (by decide)
 | type=>
  have c:=j7 h e (.inr rfl);rw[a] at c;have i:jz 66=0:=by decide
  rw[i] at c
  cases h with
  | tpath h=>have f:=ydh h rfl rfl;rw[a] at f;exact absurd f (by decide)
  | ref h=>rcases h with⟨rfl,h⟩|⟨rfl,h⟩<;>(rw[h.2] at a;exact absurd a (by decide))
  | ptr h=>rcases h with⟨rfl,h⟩|⟨rfl,h⟩<;>(rw[h.2] at a;exact absurd a (by decide))
  | basic=>exact absurd c (by simp[ya.kind])
  | array=>exact absurd c (by simp[ya.kind])
  | slice=>exact absurd c (by simp[ya.kind])
  | tuple=>exact absurd c (by simp[ya.kind])
  | fn=>exact absurd c (by simp[ya.kind])
  | dyn=>exact absurd c (by simp[ya.kind])
  | _=>cases e
 | arg=>exact l rfl
 | bound=>exact g rfl
 | const=>
  cases h with
  | hole h=>rw[h.2] at a;exact absurd a (by decide)
  | num h _ _ _ _ _ j=>rw[h.2] at a;subst a;exact absurd j (by unfold qv yx;simp)
  | _=>cases e
theorem yg9 {a a0:List ya}{ks b:Nat->Nat}(c:Nat->Prop)(k:ks 0=b 0)(h:∀ i,i < a.length->i < a0.length->ks i=b i->ks (i+1)=b (i+1)/\gc (a.getD i .zero) (a0.getD i .zero))
  (m:∀ i,i < a.length->¬ c (ks i)) (g:∀ i,i < a0.length->¬ c (b i)) (l:c (ks a.length)) (f:c (b a0.length)) :
  a.length=a0.length/\ks a.length=b a0.length/\∀ i,i < a.length->ks i=b i/\gc (a.getD i .zero) (a0.getD i .zero):=by
 have e:∀ i,i<=a.length->i<=a0.length->ks i=b i:=by
  intro i
  induction i with
  | zero=>exact fun _ _=>k
  | succ i n=>exact fun d o=>(h i (by omega) (by omega) (n (by omega) (by omega))).1
 have j:a.length=a0.length:=by
  rcases Nat.lt_trichotomy a.length a0.length with d|d|d
  ·exact absurd (by rw[<-e _ (Nat.le_refl _) (Nat.le_of_lt d)];exact l) (g _ d)
  ·exact d
  ·exact absurd (by rw[e _ (Nat.le_of_lt d) (Nat.le_refl _)];exact f) (m _ d)
 exact⟨j,by rw[e _ (Nat.le_refl _) (by omega),j],fun i hi=>⟨e i (by omega) (by omega),(h i hi (by omega) (e i (by omega) (by omega))).2⟩⟩
theorem ymf {s:List UInt8}{sg c lim ar b k n k1 ar0 b0 n0 k2:Nat}(m:lim<=s.length)(h:ydd s sg lim ar b k n k1)(e:ydd s c lim ar0 b0 k n0 k2):n=n0/\k1=k2:=by
 rcases h with⟨rfl,rfl,f⟩|⟨f,i,j,l,_⟩
 ·rcases e with⟨rfl,rfl,a⟩|⟨a,d,g3,g4,_⟩
  ·exact⟨rfl,rfl⟩
  ·exact absurd d f
 ·rcases e with⟨rfl,rfl,a⟩|⟨a,d,g3,g4,_⟩
  ·exact absurd i a
  ·rw[j] at g3
   obtain⟨o,g⟩:=Prod.mk.inj (Option.some.inj g3);exact⟨by omega,vy m l g4 g⟩
theorem ywd {s:List UInt8}{lim k k1 k2:Nat}{nm nm0:List UInt8}(j:lim<=s.length)(h:ymn s lim k nm k1)(d:ymn s lim k nm0 k2):nm=nm0/\k1=k2:=by
 rcases h with⟨rfl,rfl,c⟩|⟨rfl,c,f,rfl⟩|⟨z,c,f,g,i,rfl,_⟩
 ·rcases d with⟨rfl,rfl,a⟩|⟨rfl,a,b,rfl⟩|⟨z0,a,b,g3,g4,rfl,_⟩
  ·exact⟨rfl,rfl⟩
  ·exact absurd a c
  ·exact absurd a c
 ·rcases d with⟨rfl,rfl,a⟩|⟨rfl,a,b,rfl⟩|⟨z0,a,b,g3,g4,rfl,_⟩
  ·exact absurd c a
  ·exact⟨rfl,rfl⟩
  ·exact absurd f b
 ·rcases d with⟨rfl,rfl,a⟩|⟨rfl,a,b,rfl⟩|⟨z0,a,b,g3,g4,rfl,_⟩
  ·exact absurd c a
  ·exact absurd b f
  ·rw[g] at g3
   have e:=Option.some.inj (Option.some.inj g3);simp only[Prod.mk.injEq] at e;exact⟨by rw[e.1],vy j i g4 e.2.2⟩
theorem yjp {a a0:List ya}{t t0:ya}(c:a.length=a0.length)(h:∀ i,i < a.length->gc (a.getD i .zero) (a0.getD i .zero))(e:gc t t0) :
  (a++[t]).length=(a0++[t0]).length/\∀ i,i < (a++[t]).length->gc ((a++[t]).getD i .zero) ((a0++[t0]).getD i .zero):=by
 refine⟨by simp[c],fun i hi=>?_⟩
 rcases Nat.lt_or_ge i a.length with b|b
 ·rw[lgd,lgd,List.getElem?_append_left b,List.getElem?_append_left (by omega),<-lgd,<-lgd]
  exact h i b
 ·have d:i=a.length:=by simp at hi;omega
  subst d;rw[lgd,lgd,List.getElem?_append_right (Nat.le_refl _),List.getElem?_append_right (by omega),c]
  simpa using e
theorem yh7 {t t0:ya}(h:gc t t0):∀ i,i < [t].length->gc ([t].getD i .zero) ([t0].getD i .zero):=by
 intro i hi
 match i,hi with
 | 0,_=>exact h
theorem yny {t t0 p a:ya}(h:gc t t0)(b:gc p a):∀ i,i < [t,p].length->gc ([t,p].getD i .zero) ([t0,a].getD i .zero):=by
 intro i hi
 match i,hi with
 | 0,_=>exact h
 | 1,_=>exact b
theorem yy5 {t t0 p a q b:ya}(h:gc t t0)(c:gc p a)(d:gc q b):∀ i,i < [t,p,q].length->gc ([t,p,q].getD i .zero) ([t0,a,b].getD i .zero):=by
 intro i hi
 match i,hi with
 | 0,_=>exact h
 | 1,_=>exact c
 | 2,_=>exact d
theorem yh6 {p b:ya}{a a0:List ya}(h:gc p b)(c:∀ i,i < a.length->gc (a.getD i .zero) (a0.getD i .zero)):∀ i,i < (p::a).length->gc ((p::a).getD i .zero) ((b::a0).getD i .zero):=by
 intro i hi
 cases i with
 | zero=>exact h
 | succ i=>exact c i (by simpa using hi)
theorem ypv {s:List UInt8}{lim b b0 k n n0 k1 k2:Nat}(p:lim<=s.length)(h:yic s lim b k n k1)(f:yic s lim b0 k n0 k2)(d:s.getD k1 0≠76)(a:s.getD k2 0≠76):n=n0/\k1=k2:=by
 rcases h with⟨rfl,rfl⟩|⟨l,m,o,q⟩
 ·rcases f with⟨rfl,rfl⟩|⟨g4,c,e,j⟩
  ·exact⟨rfl,rfl⟩
  ·exact absurd g4.2 d
 ·rcases f with⟨rfl,rfl⟩|⟨g4,c,e,j⟩
  ·exact absurd l.2 a
  ·rw[m] at c
   obtain⟨g,i⟩:=Prod.mk.inj (Option.some.inj c);exact⟨Int.ofNat.inj g,vy p o e i⟩
theorem ys1 {s:List UInt8}{lim k1 k2 k3:Nat}{f f0:Bool}(h:(f=true/\Ch s lim k1 85/\k2=k1+1)\/(f=false/\¬ Ch s lim k1 85/\k2=k1))(a:(f0=true/\Ch s lim k1 85/\k3=k1+1)\/(f0=false/\¬ Ch s lim k1 85/\k3=k1)):f=f0/\k2=k3:=by
 rcases h with⟨rfl,h,rfl⟩|⟨rfl,h,rfl⟩
 ·rcases a with⟨rfl,g,rfl⟩|⟨rfl,g,rfl⟩
  ·exact⟨rfl,rfl⟩
  ·exact absurd h g
 ·rcases a with⟨rfl,g,rfl⟩|⟨rfl,g,rfl⟩
  ·exact absurd g h
  ·exact⟨rfl,rfl⟩
theorem yz {P:Prop}{k:Nat}{f:Nat->Bool}(h:f k=false):f k=true->P:=fun a=>by rw[h] at a;cases a
theorem yxn {s:List UInt8}{sg:Nat}{hr:Bool}{lim:Nat}{md:Sm}{d ar b k:Nat}{t:ya}{k':Nat}(h:Sp s sg hr lim md d ar b k t k')(m:lim<=s.length) :
  ∀ {q d0 ar0 b0:Nat} {t0:ya} {z:Nat},Sp s q hr lim md d0 ar0 b0 k t0 z->k'=z/\gc t t0:=by
 induction h with
 | here h H=>
  intro q d0 ar0 b0 t0 z c
  cases c with
  | here c=>exact H m c
  | back v r g3=>exact absurd g3.2 (yob h rfl v r)
 | back o w y A I W X H=>
  intro q d0 ar0 b0 t0 z c
  cases c with
  | here c=>exact absurd y.2 (yob c rfl o w)
  | back v r g3 g4 G T R=>
   rw[A] at g4;obtain⟨Y,L⟩:=Prod.mk.inj (Option.some.inj g4);have S:=Int.ofNat.inj Y;subst S;exact⟨vy m I G L,(H (by have:=y.1;omega) R).2⟩
 | crate o w y A=>
  intro q d0 ar0 b0 t0 z c;have j:=j7 c rfl (.inl rfl);rw[o.2] at j
  cases c with
  | crate v r g3 g4=>
   rw[w] at r;have e:=Option.some.inj (Option.some.inj r);simp only[Prod.mk.injEq] at e;exact⟨vy m y g3 e.2.2,.mk (yz rfl) (fun _=>e.2.1) (yz rfl) (yz rfl) rfl (fun i hi=>by simp at hi)⟩
  | _=>exact absurd j (by simp[ya.kind,jz])
 | impl o w y A I u x=>
  intro q d0 ar0 b0 t0 z c;have j:=j7 c rfl (.inl rfl);rw[o.2] at j
  cases c with
  | impl v r g3 g4 G=>
   rw[w] at r;obtain⟨-,L⟩:=Prod.mk.inj (Option.some.inj r);have S:=vy m y g3 L;subst S;obtain⟨D,C⟩:=u m g4;subst D;obtain⟨M,K⟩:=x m G;exact⟨M,.mk (yz rfl) (yz rfl) (yz rfl) (yz rfl) rfl (yny C K)⟩
  | _=>exact absurd j (by simp[ya.kind,jz])
 | timpl o w y A I W u x ae=>
  intro q d0 ar0 b0 t0 z c;have j:=j7 c rfl (.inl rfl);rw[o.2] at j
  cases c with
  | timpl v r g3 g4 G T=>
   rw[w] at r;obtain⟨-,L⟩:=Prod.mk.inj (Option.some.inj r);have S:=vy m y g3 L;subst S;obtain⟨D,C⟩:=u m g4;subst D;obtain⟨M,K⟩:=x m G;subst M;obtain⟨e6,A3⟩:=ae m T;exact⟨e6,.mk (yz rfl) (yz rfl) (yz rfl) (yz rfl) rfl (yy5 C K A3)⟩
  | _=>exact absurd j (by simp[ya.kind,jz])
 | tdef o A I u x=>
  intro q d0 ar0 b0 t0 z c;have j:=j7 c rfl (.inl rfl);rw[o.2] at j
  cases c with
  | tdef v g4 G=>
   obtain⟨D,C⟩:=u m g4;subst D;obtain⟨M,K⟩:=x m G;exact⟨M,.mk (yz rfl) (yz rfl) (yz rfl) (yz rfl) rfl (yny C K)⟩
  | _=>exact absurd j (by simp[ya.kind,jz])
 | nested o w y A I W H=>
  intro q d0 ar0 b0 t0 z c;have j:=j7 c rfl (.inl rfl);rw[o.2] at j
  cases c with
  | nested v r g3 g4 G T=>
   obtain⟨D,C⟩:=H m g3;subst D;rw[A] at g4;have e:=Option.some.inj (Option.some.inj g4);simp only[Prod.mk.injEq] at e;exact⟨vy m I G e.2.2,.mk (fun _=>w.2.symm.trans r.2) (fun _=>e.2.1) (fun _=>Int.ofNat.inj e.1) (yz rfl) rfl (yh7 C)⟩
  | _=>exact absurd j (by simp[ya.kind,jz])
 | gen o w y A u x=>
  intro q d0 ar0 b0 t0 z c;have j:=j7 c rfl (.inl rfl);rw[o.2] at j
  cases c with
  | gen v r g3 g4=>
   obtain⟨D,C⟩:=u m r;obtain⟨O,P,Q⟩:=yg9 (fun k=>Ch s _ k 69) D (fun i hi B J=>x i hi m (by rw[J];exact g3 i B)) (fun i hi E=>gy (qm (y i hi) m).2.2.2 E.2) (fun i hi E=>gy (qm (g3 i hi) m).2.2.2 E.2) A g4;exact⟨by rw[P],.mk (yz rfl) (yz rfl) (yz rfl) (yz rfl) (by simp[O]) (yh6 C fun i hi=>(Q i hi).2)⟩
  | _=>exact absurd j (by simp[ya.kind,jz])
 | tpath h H=>
  intro q d0 ar0 b0 t0 z c;have j:=(j7 h rfl (.inl rfl)).trans (j7 c rfl (.inr rfl)).symm;have N:=kj h rfl rfl;rw[j] at N
  cases c with
  | tpath g=>exact H m g
  | ref g=>rcases g with⟨rfl,_⟩|⟨rfl,_⟩<;>exact absurd N (by simp[ya.kind])
  | ptr g=>rcases g with⟨rfl,_⟩|⟨rfl,_⟩<;>exact absurd N (by simp[ya.kind])
  | _=>exact absurd N (by simp[ya.kind])
 | basic o w=>
  intro q d0 ar0 b0 t0 z c;have j:=j7 c rfl (.inr rfl);rw[o.2,yjk w] at j
  cases c with
  | basic v r=>exact⟨rfl,.mk (fun _=>o.2.symm.trans v.2) (yz rfl) (yz rfl) (yz rfl) rfl (fun i hi=>by simp at hi)⟩
  | tpath g=>have:=kj g rfl rfl;omega
  | ref g=>rcases g with⟨rfl,_⟩|⟨rfl,_⟩<;>exact absurd j (by simp[ya.kind])
  | ptr g=>rcases g with⟨rfl,_⟩|⟨rfl,_⟩<;>exact absurd j (by simp[ya.kind])
  | _=>exact absurd j (by simp[ya.kind])
 | array o w y u x=>
  intro q d0 ar0 b0 t0 z c;have j:=j7 c rfl (.inr rfl);rw[o.2,show jz 65=8 from rfl] at j
  cases c with
  | array v r g3=>
   obtain⟨D,C⟩:=u m r;subst D;obtain⟨M,K⟩:=x m g3;exact⟨M,.mk (yz rfl) (yz rfl) (yz rfl) (yz rfl) rfl (yny C K)⟩
  | tpath g=>have:=kj g rfl rfl;omega
  | ref g=>rcases g with⟨rfl,_⟩|⟨rfl,_⟩<;>exact absurd j (by simp[ya.kind])
  | ptr g=>rcases g with⟨rfl,_⟩|⟨rfl,_⟩<;>exact absurd j (by simp[ya.kind])
  | _=>exact absurd j (by simp[ya.kind])
 | slice o w u=>
  intro q d0 ar0 b0 t0 z c;have j:=j7 c rfl (.inr rfl);rw[o.2,show jz 83=9 from rfl] at j
  cases c with
  | slice v r=>
   obtain⟨D,C⟩:=u m r;exact⟨D,.mk (yz rfl) (yz rfl) (yz rfl) (yz rfl) rfl (yh7 C)⟩
  | tpath g=>have:=kj g rfl rfl;omega
  | ref g=>rcases g with⟨rfl,_⟩|⟨rfl,_⟩<;>exact absurd j (by simp[ya.kind])
  | ptr g=>rcases g with⟨rfl,_⟩|⟨rfl,_⟩<;>exact absurd j (by simp[ya.kind])
  | _=>exact absurd j (by simp[ya.kind])
 | tuple o w y A x=>
  intro q d0 ar0 b0 t0 z c;have j:=j7 c rfl (.inr rfl);rw[o.2,show jz 84=10 from rfl] at j
  cases c with
  | tuple v r g3 g4=>
   obtain⟨O,P,Q⟩:=yg9 (fun k=>Ch s _ k 69) (w.trans r.symm) (fun i hi B J=>x i hi m (by rw[J];exact g3 i B)) (fun i hi E=>gy (qm (y i hi) m).2.2.2 E.2) (fun i hi E=>gy (qm (g3 i hi) m).2.2.2 E.2) A g4;exact⟨by rw[P],.mk (yz rfl) (yz rfl) (yz rfl) (yz rfl) O (fun i hi=>(Q i hi).2)⟩
  | tpath g=>have:=kj g rfl rfl;omega
  | ref g=>rcases g with⟨rfl,_⟩|⟨rfl,_⟩<;>exact absurd j (by simp[ya.kind])
  | ptr g=>rcases g with⟨rfl,_⟩|⟨rfl,_⟩<;>exact absurd j (by simp[ya.kind])
  | _=>exact absurd j (by simp[ya.kind])
 | @ref lim d ar b k l nm n f t kk k1 k' o w y u=>
  intro q d0 ar0 b0 t0 z c;have j:=j7 c rfl (.inr rfl);have U:jz (s.getD k 0)=kk:=by rcases o with⟨rfl,o⟩|⟨rfl,o⟩<;>rw[o.2]<;>rfl
  have F:kk=11\/kk=12:=by rcases o with⟨h,_⟩|⟨h,_⟩<;>omega
  rw[U] at j
  cases c with
  | ref v r g3=>
   obtain rfl:kk=_:=j.symm;obtain⟨rfl,rfl⟩:=ypv m w r (yaa y m).1 (yaa g3 m).1;obtain⟨D,C⟩:=u m g3;exact⟨D,.mk (by rcases F with rfl|rfl<;>exact yz rfl) (by rcases F with rfl|rfl<;>exact yz rfl) (fun _=>rfl) (by rcases F with rfl|rfl<;>exact yz rfl) rfl (yh7 C)⟩
  | tpath g=>have:=kj g rfl rfl;omega
  | ptr g=>rcases g with⟨rfl,_⟩|⟨rfl,_⟩<;>(have:_=kk:=j;simp[ya.kind] at this;omega)
  | _=>(have:_=kk:=j;simp[ya.kind] at this;omega)
 | @ptr lim d ar b k l nm n f t kk k' o y u=>
  intro q d0 ar0 b0 t0 z c;have j:=j7 c rfl (.inr rfl);have U:jz (s.getD k 0)=kk:=by rcases o with⟨rfl,o⟩|⟨rfl,o⟩<;>rw[o.2]<;>rfl
  have F:kk=13\/kk=14:=by rcases o with⟨h,_⟩|⟨h,_⟩<;>omega
  rw[U] at j
  cases c with
  | ptr v g3=>
   obtain rfl:kk=_:=j.symm;obtain⟨D,C⟩:=u m g3;exact⟨D,.mk (by rcases F with rfl|rfl<;>exact yz rfl) (by rcases F with rfl|rfl<;>exact yz rfl) (by rcases F with rfl|rfl<;>exact yz rfl) (by rcases F with rfl|rfl<;>exact yz rfl) rfl (yh7 C)⟩
  | tpath g=>have:=kj g rfl rfl;omega
  | ref g=>rcases g with⟨rfl,_⟩|⟨rfl,_⟩<;>(have:_=kk:=j;simp[ya.kind] at this;omega)
  | _=>(have:_=kk:=j;simp[ya.kind] at this;omega)
 | fn o w y A I W X h8 h9 ad u x=>
  intro q d0 ar0 b0 t0 z c;have j:=j7 c rfl (.inr rfl);rw[o.2,show jz 70=15 from rfl] at j
  cases c with
  | fn v r g3 g4 G T R g8 g9 ac=>
   obtain⟨rfl,rfl⟩:=ymf m w r;have hf:=ys1 y g3;obtain⟨rfl,rfl⟩:=hf;obtain⟨rfl,e0⟩:=ywd m A g4;obtain⟨O,P,Q⟩:=yg9 (fun k=>Ch s _ k 69) e0 (fun i hi B J=>u i hi m (by rw[J];exact G i B)) (fun i hi E=>gy (qm (I i hi) m).2.2.2 E.2) (fun i hi E=>gy (qm (G i hi) m).2.2.2 E.2) W T;obtain⟨M,K⟩:=x m (by rw[P];exact R);obtain⟨z1,z2⟩:=yjp O (fun i hi=>(Q i hi).2) K;exact⟨M,.mk (yz rfl) (fun _=>rfl) (fun _=>rfl) (fun _=>rfl) z1 z2⟩
  | tpath g=>have:=kj g rfl rfl;omega
  | ref g=>rcases g with⟨rfl,_⟩|⟨rfl,_⟩<;>exact absurd j (by simp[ya.kind])
  | ptr g=>rcases g with⟨rfl,_⟩|⟨rfl,_⟩<;>exact absurd j (by simp[ya.kind])
  | _=>exact absurd j (by simp[ya.kind])
 | dyn o w y A I W X h8 h9 ad u=>
  intro q d0 ar0 b0 t0 z c;have j:=j7 c rfl (.inr rfl);rw[o.2,show jz 68=16 from rfl] at j
  cases c with
  | dyn v r g3 g4 G T R g8 g9 ac=>
   obtain⟨rfl,e0⟩:=ymf m w r;obtain⟨O,P,Q⟩:=yg9 (fun k=>Ch s _ k 69) e0 (fun i hi B J=>u i hi m (by rw[J];exact g4 i B)) (fun i hi E=>gy (qm (A i hi) m).2.2.2 E.2) (fun i hi E=>gy (qm (g4 i hi) m).2.2.2 E.2) I G;rw[P,R] at X;obtain⟨Y,L⟩:=Prod.mk.inj (Option.some.inj X);have S:=Int.ofNat.inj Y;subst S;obtain⟨z1,z2⟩:=yjp O (fun i hi=>(Q i hi).2) (.mk (k:=19) (a:=[]) (a0:=[]) (yz rfl) (yz rfl) (fun _=>rfl) (yz rfl) rfl (fun i hi=>absurd hi (Nat.not_lt_zero _)));exact⟨(vy m g8 h8 L).symm,.mk (yz rfl) (yz rfl) (fun _=>rfl) (yz rfl) z1 z2⟩
  | tpath g=>have:=kj g rfl rfl;omega
  | ref g=>rcases g with⟨rfl,_⟩|⟨rfl,_⟩<;>exact absurd j (by simp[ya.kind])
  | ptr g=>rcases g with⟨rfl,_⟩|⟨rfl,_⟩<;>exact absurd j (by simp[ya.kind])
  | _=>exact absurd j (by simp[ya.kind])
 | life o w y A=>
  intro q d0 ar0 b0 t0 z c
  cases c with
  | life v r g3 g4=>
   rw[w] at r;obtain⟨Y,L⟩:=Prod.mk.inj (Option.some.inj r);exact⟨vy m y g3 L,.mk (yz rfl) (yz rfl) (fun _=>Int.ofNat.inj Y) (yz rfl) rfl (fun i hi=>by simp at hi)⟩
  | argC v=>exact absurd (o.2.symm.trans v.2) (by decide)
  | argT g=>exact absurd o.2 (yaa g m).1
 | argC o w H=>
  intro q d0 ar0 b0 t0 z c
  cases c with
  | life v=>exact absurd (o.2.symm.trans v.2) (by decide)
  | argC v r=>exact H m r
  | argT g=>exact absurd o.2 (yaa g m).2
 | argT h H=>
  intro q d0 ar0 b0 t0 z c
  cases c with
  | life v=>exact absurd v.2 (yaa h m).1
  | argC v r=>exact absurd v.2 (yaa h m).2
  | argT g=>exact H m g
 | hole o=>
  intro q d0 ar0 b0 t0 z c
  cases c with
  | hole v=>exact⟨rfl,.mk (yz rfl) (yz rfl) (yz rfl) (yz rfl) rfl (fun i hi=>by simp at hi)⟩
  | num v _ _ _ _ _ R=>
   have e:=o.2.symm.trans v.2;subst e;exact absurd R (by unfold qv yx;simp)
 | num o w y A I W X=>
  intro q d0 ar0 b0 t0 z c
  cases c with
  | hole v=>
   have e:=v.2.symm.trans o.2;subst e;exact absurd X (by unfold qv yx;simp)
  | num v r g3 g4 G T R=>
   have Z:=o.2.symm.trans v.2
   rcases w with⟨rfl,w,rfl⟩|⟨rfl,w,rfl⟩
   ·rcases r with⟨rfl,r,rfl⟩|⟨rfl,r,rfl⟩
    ·rw[y] at g3
     have e:=Option.some.inj g3;simp only[Prod.mk.injEq] at e;exact⟨vy m A g4 e.2.2,.mk (fun _=>Z) (yz rfl) (fun _=>e.2.1) (fun _=>rfl) rfl (fun i hi=>by simp at hi)⟩
    ·exact absurd w r
   ·rcases r with⟨rfl,r,rfl⟩|⟨rfl,r,rfl⟩
    ·exact absurd r w
    ·rw[y] at g3
     have e:=Option.some.inj g3;simp only[Prod.mk.injEq] at e;exact⟨vy m A g4 e.2.2,.mk (fun _=>Z) (yz rfl) (fun _=>e.2.1) (fun _=>rfl) rfl (fun i hi=>by simp at hi)⟩
 | @bound lim d e ar b k l nm n f p a ks ms J o w y A u x=>
  intro q d0 ar0 b0 t0 z c
  cases c with
  | @bound _ d9 e9 _ _ _ l9 au n9 f9 p9 a0 aa aq ge v r g3 g4=>
   obtain⟨D,C⟩:=u m v;have V:∀ i,i < a.length->i < a0.length->ks i=aa i->ks (i+1)=aa (i+1)/\gc (a.getD i .zero) (a0.getD i .zero):=fun i hi B J=>by
    obtain⟨y1,y2,nm2,n2,f2,l2,t2,u2,y3,y4,y5⟩:=w i hi;obtain⟨v1,v2,nm3,n3,f3,l3,t3,u3,v3,v4,v5⟩:=r i B;rw[J,v5] at y5;have e:=Option.some.inj (Option.some.inj y5);simp only[Prod.mk.injEq] at e;have em:=vy m v2 y2 e.2.2;have H:=x i hi m (by rw[<-em];exact g3 i B);rw[y3,v3] at H;exact⟨H.1,by rw[y3,v3];exact .mk (yz rfl) (fun _=>e.1.symm) (yz rfl) (yz rfl) rfl (yh7 H.2)⟩
   obtain⟨O,P,Q⟩:=yg9 (fun k=>¬ Ch s _ k 112) D V (fun i hi E=>E (w i hi).1) (fun i hi E=>E (r i hi).1) A g4;exact⟨P,.mk (yz rfl) (yz rfl) (yz rfl) (yz rfl) (by simp[O]) (yh6 C fun i hi=>(Q i hi).2)⟩
end Go.Proofs.YtfckcdbpiepchaaGreatDoor
