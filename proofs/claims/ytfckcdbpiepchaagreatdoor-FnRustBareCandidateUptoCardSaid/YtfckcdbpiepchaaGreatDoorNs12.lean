import Derived.Test.YtfckcdbpiepchaaGreatDoorNs10
import Derived.Test.YtfckcdbpiepchaaGreatDoorNs11
namespace Go.Proofs.YtfckcdbpiepchaaGreatDoor
open Go.RowKit
set_option maxRecDepth 100000
set_option maxHeartbeats 8000000
set_option linter.all false
theorem yby {t t0:ya}(h:gc t t0):t.kind=t0.kind:=by cases h;rfl
theorem ywa {t t0:ya}(h:gc t t0):isU t=isU t0:=by
 cases h with
 | @mk k l l0 nm nm0 n n0 f f0 a a0 c d e g i j=>
  unfold isU
  show(k == 7&&l == 117)=(k == 7&&l0 == 117)
  by_cases b:k=7
  ·subst b;rw[c rfl]
  ·have:(k == 7)=false:=by simpa using b
   rw[this];rfl
theorem km {md:Sm}{d b:Nat}{t:ya}(h:Rt md d b t):(md=.path->t.kind<=6)/\(md=.type->t.kind<=16)/\(md=.const->t.kind=20\/t.kind=21):=by
 induction h with
 | tpath _ a=>exact⟨fun h=>(by cases h),fun _=>Nat.le_trans (a.1 rfl) (by omega),fun h=>by cases h⟩
 | ref h _ _ _=>exact⟨fun h=>(by cases h),fun _=>(by rcases h with rfl|rfl<;>simp[ya.kind]),fun h=>by cases h⟩
 | ptr h _ _=>exact⟨fun h=>(by cases h),fun _=>(by rcases h with rfl|rfl<;>simp[ya.kind]),fun h=>by cases h⟩
 | _=>exact⟨fun h=>(by first|(cases h;done)|simp[ya.kind]),fun h=>(by first|(cases h;done)|simp[ya.kind]),fun h=>(by first|(cases h;done)|simp[ya.kind])⟩
theorem ye1 {s:List UInt8}{sg:Nat}{hr:Bool}{lim:Nat}{md:Sm}{d ar b k:Nat}{t:ya}{k':Nat}(h:Sp s sg hr lim md d ar b k t k'):(md=.path->t.kind<=6)/\(md=.type->t.kind<=16)/\(md=.const->t.kind=20\/t.kind=21):=by
 induction h with
 | here _ a=>exact a
 | back _ _ _ _ _ _ _ a=>exact a
 | tpath _ a=>exact⟨fun h=>(by cases h),fun _=>Nat.le_trans (a.1 rfl) (by omega),fun h=>by cases h⟩
 | ref h _ _ _=>exact⟨fun h=>(by cases h),fun _=>(by rcases h with⟨rfl,_⟩|⟨rfl,_⟩<;>simp[ya.kind]),fun h=>by cases h⟩
 | ptr h _ _=>exact⟨fun h=>(by cases h),fun _=>(by rcases h with⟨rfl,_⟩|⟨rfl,_⟩<;>simp[ya.kind]),fun h=>by cases h⟩
 | _=>exact⟨fun h=>(by first|(cases h;done)|simp[ya.kind]),fun h=>(by first|(cases h;done)|simp[ya.kind]),fun h=>(by first|(cases h;done)|simp[ya.kind])⟩
theorem yjo {a a0:List ya}{t t0:ya}(c:(a++[t]).length=(a0++[t0]).length) (h:∀ i,i < (a++[t]).length->gc ((a++[t]).getD i .zero) ((a0++[t0]).getD i .zero)) :
  a.length=a0.length/\(∀ i,i < a.length->gc (a.getD i .zero) (a0.getD i .zero))/\gc t t0:=by
 have b:a.length=a0.length:=by simpa using c
 refine⟨b,fun i hi=>?_,?_⟩
 ·have:=h i (by simp;omega)
  rwa[lgd,lgd,List.getElem?_append_left hi,List.getElem?_append_left (by omega),<-lgd,<-lgd] at this
 ·have:=h a.length (by simp)
  rw[lgd,lgd,List.getElem?_append_right (Nat.le_refl _),List.getElem?_append_right (by omega),b] at this
  simpa using this
theorem yhu {s:List UInt8}{sg lim ar b k n k' sg1 ar1 b1:Nat}(h:ydd s sg lim ar b k n k')(g:ar1+b1+sg1<=ar+b+sg):ydd s sg1 lim ar1 b1 k n k':=by
 rcases h with h|⟨a,c,d,e,f⟩
 ·exact .inl h
 ·exact .inr ⟨a,c,d,e,by omega⟩
theorem yq8 {s:List UInt8}{sg:Nat}{hr:Bool}{lim:Nat}{md:Sm}{d ar b k:Nat}{t0:ya}{k':Nat}(h:Sp s sg hr lim md d ar b k t0 k') :
  ∀ {t:ya} {d1 ar1 b1 sg1:Nat},gc t t0->Rt md d1 b1 t->ar1+b1+sg1<=ar+b+sg->Sp s sg1 hr lim md d1 ar1 b1 k t k':=by
 induction h with
 | here _ D=>intro t d1 ar1 b1 sg1 c f j;exact .here (D c f j)
 | back n q v r y z _ D=>intro t d1 ar1 b1 sg1 c f j;exact .back n q v r y z (D c f j)
 | crate n q v r=>
  intro t d1 ar1 b1 sg1 c f j
  cases c with
  | mk a1 a2 a3 a4 a5 a6=>
   cases f with
   | crate u w=>have e:=a2 rfl;subst e;exact .crate n q v r
 | impl n q v r y l o=>
  intro t d1 ar1 b1 sg1 c f j
  cases c with
  | mk a1 a2 a3 a4 a5 a6=>
   cases f with
   | impl u w A=>exact .impl n q v (l (a6 0 (by simp)) w (by omega)) (o (a6 1 (by simp)) A j)
 | timpl n q v r y z l o Q=>
  intro t d1 ar1 b1 sg1 c f j
  cases c with
  | mk a1 a2 a3 a4 a5 a6=>
   cases f with
   | timpl u w A G=>exact .timpl n q v (l (a6 0 (by simp)) w (by omega)) (o (a6 1 (by simp)) A j) (Q (a6 2 (by simp)) G j)
 | tdef n r y l o=>
  intro t d1 ar1 b1 sg1 c f j
  cases c with
  | mk a1 a2 a3 a4 a5 a6=>
   cases f with
   | tdef _ w A=>exact .tdef n (l (a6 0 (by simp)) w j) (o (a6 1 (by simp)) A j)
 | nested n q v r y z D=>
  intro t d1 ar1 b1 sg1 c f j
  cases c with
  | mk a1 a2 a3 a4 a5 a6=>
   cases f with
   | nested u w A=>
    have F:=a1 rfl;have J:=a2 rfl;have B:=a3 rfl;subst F J B;exact .nested n q (D (a6 0 (by simp)) A j) r y z
 | @gen _ _ _ _ _ _ _ _ _ p0 a0 ks n q v r l o=>
  intro t d1 ar1 b1 sg1 c f j
  cases c with
  | mk a1 a2 a3 a4 a5 a6=>
   cases f with
   | @gen _ _ _ _ _ _ p a _ T u w=>
    have O:a.length=a0.length:=by simpa using a5
    rw[<-O] at r |-;exact .gen n (l (a6 0 (by simp)) u j) (fun i hi=>o i (by omega) (a6 (i+1) (by simpa using hi)) (w i hi) j) r
 | tpath h D=>
  intro t d1 ar1 b1 sg1 c f j;have x:=(ye1 h).1 rfl;rw[<-yby c] at x
  cases f with
  | tpath g=>exact .tpath (D c g j)
  | ref g=>rcases g with rfl|rfl<;>exact absurd x (by simp[ya.kind])
  | ptr g=>rcases g with rfl|rfl<;>exact absurd x (by simp[ya.kind])
  | _=>exact absurd x (by simp[ya.kind])
 | basic n q=>
  intro t d1 ar1 b1 sg1 c f j
  cases c with
  | mk a1 a2 a3 a4 a5 a6=>
   have F:=a1 rfl;subst F
   cases f with
   | basic u=>exact .basic n q
   | tpath g=>cases g
   | ref g=>omega
   | ptr g=>omega
 | array n q v l o=>
  intro t d1 ar1 b1 sg1 c f j
  cases c with
  | mk a1 a2 a3 a4 a5 a6=>
   cases f with
   | array u w=>exact .array n (l (a6 0 (by simp)) u j) (o (a6 1 (by simp)) w j)
   | tpath g=>cases g
   | ref g=>omega
   | ptr g=>omega
 | slice n q l=>
  intro t d1 ar1 b1 sg1 c f j
  cases c with
  | mk a1 a2 a3 a4 a5 a6=>
   cases f with
   | slice u=>exact .slice n (l (a6 0 (by simp)) u j)
   | tpath g=>cases g
   | ref g=>omega
   | ptr g=>omega
 | @tuple _ _ _ _ _ _ _ _ _ a0 ks n q v r o=>
  intro t d1 ar1 b1 sg1 c f j
  cases c with
  | @mk _ _ _ _ _ _ _ _ _ a _ a1 a2 a3 a4 a5 a6=>
   cases f with
   | tuple u=>
    rw[<-a5] at r |-;exact .tuple n q (fun i hi=>o i (by omega) (a6 i hi) (u i hi) j) r
   | tpath g=>cases g
   | ref g=>omega
   | ptr g=>omega
 | ref n q v l=>
  intro t d1 ar1 b1 sg1 c f j;have x:t.kind=11\/t.kind=12:=by rw[yby c];rcases n with⟨rfl,_⟩|⟨rfl,_⟩<;>simp[ya.kind]
  cases c with
  | mk a1 a2 a3 a4 a5 a6=>
   cases f with
   | ref T u w=>
    have B:=a3 (by rcases T with rfl|rfl<;>rfl)
    subst B;refine .ref n ?_ (l (a6 0 (by simp)) w j)
    rcases q with q|⟨r,y,z,E⟩
    ·exact .inl q
    ·exact .inr ⟨r,y,z,u⟩
   | tpath g=>have:=(km g).1 rfl;omega
   | ptr g=>(simp only[ya.kind] at x;omega)
   | _=>exact absurd x (by simp[ya.kind])
 | ptr n v l=>
  intro t d1 ar1 b1 sg1 c f j;have x:t.kind=13\/t.kind=14:=by rw[yby c];rcases n with⟨rfl,_⟩|⟨rfl,_⟩<;>simp[ya.kind]
  cases c with
  | mk a1 a2 a3 a4 a5 a6=>
   cases f with
   | ptr T w=>exact .ptr n (l (a6 0 (by simp)) w j)
   | tpath g=>have:=(km g).1 rfl;omega
   | ref g=>(simp only[ya.kind] at x;omega)
   | _=>exact absurd x (by simp[ya.kind])
 | @fn _ _ _ _ _ _ _ _ _ a0 t0 k1 k2 ks _ n q v r y z E X N M l o=>
  intro t d1 ar1 b1 sg1 c f j;generalize P:a0++[t0]=x0 at c
  cases c with
  | mk a1 a2 a3 a4 a5 a6=>
   subst P;have J:=a2 rfl;have B:=a3 rfl;have K:=a4 rfl;subst J B K
   cases f with
   | @fn _ _ _ _ _ _ a t1 u w A G r5=>
    obtain⟨R,S,H⟩:=yjo a5 a6;rw[<-R] at z E N o;exact .fn n (yhu q j) v r (fun i hi=>l i (by omega) (S i hi) (G i hi) (by omega)) z (o H r5 (by omega)) A (fun hu=>N ((ywa H).symm.trans hu)) u
   | tpath g=>cases g
   | ref g=>omega
   | ptr g=>omega
 | @dyn _ _ _ _ _ _ _ _ m _ a0 l2 nm2 f2 ks _ n q v r y z E X N M l=>
  intro t d1 ar1 b1 sg1 c f j;generalize P:a0++[.mk 19 l2 nm2 m f2 []]=x0 at c
  cases c with
  | mk a1 a2 a3 a4 a5 a6=>
   subst P;have B:=a3 rfl;subst B
   cases f with
   | @dyn _ _ _ _ _ _ _ a l3 nm3 f3 u w A G=>
    obtain⟨R,S,H⟩:=yjo a5 a6;rw[<-R] at y z E
    cases H with
    | mk b1 V b3 b4 b5 W=>
     have L:=b3 rfl;subst L;exact .dyn n (yhu q j) w (fun i hi=>l i (by omega) (S i hi) (A i hi) (by omega)) y z E X G u
   | tpath g=>cases g
   | ref g=>omega
   | ptr g=>omega
 | life n q v r=>
  intro t d1 ar1 b1 sg1 c f j
  cases c with
  | mk a1 a2 a3 a4 a5 a6=>
   have B:=a3 rfl;subst B
   cases f with
   | life u=>exact .life n q v u
   | argC g=>cases g
   | argT g=>have:=(km g).2.1 rfl;simp[ya.kind] at this
 | argC n h D=>
  intro t d1 ar1 b1 sg1 c f j;have x:=(ye1 h).2.2 rfl;rw[<-yby c] at x
  cases f with
  | life u=>simp[ya.kind] at x
  | argC g=>exact .argC n (D c g j)
  | argT g=>have:=(km g).2.1 rfl;omega
 | argT h D=>
  intro t d1 ar1 b1 sg1 c f j;have x:=(ye1 h).2.1 rfl;rw[<-yby c] at x
  cases f with
  | life u=>simp[ya.kind] at x
  | argC g=>have:=(km g).2.2 rfl;omega
  | argT g=>exact .argT (D c g j)
 | hole n=>
  intro t d1 ar1 b1 sg1 c f j
  cases c with
  | mk a1 a2 a3 a4 a5 a6=>
   cases f with
   | hole=>exact .hole n
 | num n q v r y z E=>
  intro t d1 ar1 b1 sg1 c f j
  cases c with
  | mk a1 a2 a3 a4 a5 a6=>
   have F:=a1 rfl;have B:=a3 rfl;have K:=a4 rfl;subst F B K
   cases f with
   | num u=>exact .num n q v r y z E
 | @bound _ _ _ _ _ _ _ _ _ _ p0 a0 ks ms he n q v r l o=>
  intro t d1 ar1 b1 sg1 c f j
  cases c with
  | mk a1 a2 a3 a4 a5 a6=>
   cases f with
   | @bound L _ _ _ _ _ p a u w A=>
    have O:a.length=a0.length:=by simpa using a5
    rw[<-O] at r |-;refine .bound (ms:=ms) (Nat.le_succ L) (l (a6 0 (by simp)) u j) (fun i hi=>?_) (fun i hi=>?_) r
    ·obtain⟨Z,y2,nm2,n2,f2,l2,t2,Y,U,y4,y5⟩:=q i (by omega)
     obtain⟨nm3,n3,f3,l3,t3,I,y7⟩:=w i hi;have C:gc (a.getD i .zero) (a0.getD i .zero):=a6 (i+1) (by simpa using hi);rw[I,U] at C
     cases C with
     | mk _ V _ _ _ _=>
      have e:=V rfl;subst e;exact⟨Z,y2,nm3,n3,f3,l3,t3,Y,I,y4,y5⟩
    ·obtain⟨Z,y2,nm2,n2,f2,l2,t2,Y,U,y4,y5⟩:=q i (by omega)
     obtain⟨nm3,n3,f3,l3,t3,I,y7⟩:=w i hi;have C:gc (a.getD i .zero) (a0.getD i .zero):=a6 (i+1) (by simpa using hi);refine o i (by omega) ?_ (A i hi) j;rw[I,U] at C |-
     cases C with
     | mk _ _ _ _ _ W=>exact W 0 (by simp)
theorem yo {w:World}{k:Nat}{l:UInt8}{nm:List UInt8}{n:Nat}{f:Bool}{kids:List ya}{v:Value}(h:yg w (.mk k l nm n f kids) v)(r:1<=k) :
  ∃ ao cap,v=.agg #[.int .i64 k,.int .u8 l.toNat,.string ⟨nm.toArray⟩,.int .u64 n,.bool f,.slice ao kids.length cap]/\qz w ao cap kids/\n < 18446744073709551616/\nm.length<=maxLen:=by
 cases h with
 | @mk kv _ _ _ _ _ _ ao cap V d e g j m p a q=>
 obtain rfl:kv=(k:Int):=by rcases d with⟨d,_⟩|⟨d,_⟩;exact d;omega
 refine⟨ao,cap,rfl,⟨g,j,p,fun i b o hi c=>⟨V i 0,V i 1,V i 2,V i 3,V i 4,V i 5,?_,?_,?_,?_,?_,?_,q i hi⟩⟩,e,m⟩
 ·exact a i b o 0 hi c (by omega)
 ·exact a i b o 1 hi c (by omega)
 ·exact a i b o 2 hi c (by omega)
 ·exact a i b o 3 hi c (by omega)
 ·exact a i b o 4 hi c (by omega)
 ·exact a i b o 5 hi c (by omega)
theorem yze {w a:World}{k B:Nat}{l:UInt8}{nm:List UInt8}{n:Nat}{f:Bool}{kids:List ya}{v:Value}(h:yg w (.mk k l nm n f kids) v)(b:1<=k)(hB:B=w.heap.size)(g:w.heap.size<=a.heap.size) :
  ∃ ao cap,v=.agg #[.int .i64 k,.int .u8 l.toNat,.string ⟨nm.toArray⟩,.int .u64 n,.bool f,.slice ao kids.length cap]/\qz w ao cap kids/\n < 18446744073709551616/\nm.length<=maxLen/\kids.length<=cap/\cap<=2^63-1/\B<=a.heap.size:=by
 obtain⟨ao,cap,e,hK,d,c⟩:=yo h b;exact⟨ao,cap,e,hK,d,c,hK.c1,hK.c2,by omega⟩
theorem xz {w:World}{b o cap:Nat}{p:ya}{a:List ya}(h:qz w (some ⟨b,o,none⟩) cap (p::a)):qz w (some ⟨b,o+6,none⟩) (cap-1) a:=by
 have k:=h.c1;have q:=h.c2;simp only[List.length_cons] at k;refine⟨by omega,by omega,fun _=>⟨b,o+6,rfl⟩,fun i n o' hi l=>?_⟩
 cases l
 obtain⟨v0,v1,v2,v3,v4,v5,c,d,e,f,g,j,m⟩:=h.el (i+1) b o (by simpa using hi) rfl;rw[show o+(i+1)*6=o+6+i*6 by omega] at c d e f g j;exact⟨v0,v1,v2,v3,v4,v5,c,d,e,f,g,j,m⟩
theorem vk {w:World}{ao:Option Addr}{cap:Nat}{t:ya}{a:List ya}(h:qz w ao cap (a++[t])):qz w ao cap a:=by
 have k:=h.c1;simp only[List.length_append,List.length_cons,List.length_nil] at k;refine⟨by omega,h.c2,fun _=>h.nn (by simp),fun i b o hi l=>?_⟩;obtain⟨v0,v1,v2,v3,v4,v5,c,d,e,f,g,j,m⟩:=h.el i b o (by simp;omega) l;refine⟨v0,v1,v2,v3,v4,v5,c,d,e,f,g,j,?_⟩
 rwa[lgd,List.getElem?_append_left hi,<-lgd] at m
theorem yxk {b:Nat}{v:Bool}{l:UInt8}{nm:List UInt8}{n:Nat}{f:Bool}{p:ya}{a:List ya}{x:List UInt8}{T:List (List UInt8)}(O:T.length=a.length)(k:a.length<=1000)(P:∀ i,i < a.length->ymm b (a.getD i .zero) (T.getD i []))(j:b<=20)
  (Z:x.length<=100000000) (X:(zl [44,32] T).length<=100000000) (m:yam b v p x):yam b v (.mk 6 l nm n f (p::a)) (x++(if v then [58,58] else [])++[60]++zl [44,32] T++[62]):=by
 intro w tv h;obtain⟨ao,cap,rfl,hK,Y,S⟩:=yo h (by omega);obtain⟨q,r,rfl⟩:=hK.nn (by simp);have E:=hK.c1;have F:=hK.c2;unfold maxLen at F;obtain⟨v0,v1,v2,v3,v4,v5,t,u,A,B,C,D,s⟩:=hK.el 0 q r (by simp) rfl;simp only[List.length_cons,Nat.zero_mul,Nat.add_zero] at E t u A B C D;have f0:=fun o=>yi t o;have U:=fun o=>yi u o;have f2:=fun o=>yi A o;have f3:=fun o=>yi B o;have V:=fun o=>yi C o;have W:=fun o=>yi D o;have Q:∀ x,(ovr (w.alloc (.cells #[.int .i64 6,.int .u8 l.toNat,.string ⟨nm.toArray⟩,.int .u64 n,.bool f,.slice (some ⟨q,r,none⟩) (a.length+1) cap] 28)) x).cell? ⟨w.heap.size,5,none⟩=some (.slice (some ⟨q,r,none⟩) (a.length+1) cap):=fun x=>zn _ _ _ _ _ rfl x;have N:=lh (xz hK);have d:=lh O;have g:=lh P;clear O P;clear h hK t u A B C D
 by_cases R:cap=1
 ·subst R
  obtain rfl:a=[]:=List.eq_nil_of_length_eq_zero (by omega);simp only[List.length_nil,Nat.zero_add] at Q;have M:∀ w:World,qz w (some ⟨q,r,none⟩) 0 []:=fun w=>⟨by simp,by unfold maxLen;omega,fun h=>absurd rfl h,fun i b o hi=>by simp at hi⟩
  cases v with
  | true=>
   go_enter Tryz.func38,Tryz.ntmps38
   go_wp2_with fail
   refine(m _ _ (by rw[yb];exact s.ovr _)).mono ?_;rintro e J ⟨rfl,y,rfl⟩
   go_wp2_with fail
   refine(yd2 (T:=T) (M _) d.out k g.out j).mono ?_;rintro e K ⟨I,z,rfl,rfl,c⟩;obtain⟨G,H,rfl,-⟩:=id c
   go_wp2_with fail
   refine(zj (sep:=[44,32]) c (by omega) (by simp)).mono ?_;rintro e L ⟨rfl,rfl⟩;go_wp2;go_ret;refine⟨?_,_,by rw[yb,yd,yd]⟩;simp
  | false=>
   go_enter Tryz.func38,Tryz.ntmps38
   go_wp2_with fail
   refine(m _ _ (by rw[yb];exact s.ovr _)).mono ?_;rintro e J ⟨rfl,y,rfl⟩
   go_wp2_with fail
   refine(yd2 (T:=T) (M _) d.out k g.out j).mono ?_;rintro e K ⟨I,z,rfl,rfl,c⟩;obtain⟨G,H,rfl,-⟩:=id c
   go_wp2_with fail
   refine(zj (sep:=[44,32]) c (by omega) (by simp)).mono ?_;rintro e L ⟨rfl,rfl⟩;go_wp2;go_ret;refine⟨?_,_,by rw[yb,yd,yd]⟩;simp
 ·cases v with
  | true=>
   go_enter Tryz.func38,Tryz.ntmps38
   go_wp2_with fail
   refine(m _ _ (by rw[yb];exact s.ovr _)).mono ?_;rintro e J ⟨rfl,y,rfl⟩
   go_wp2_with fail
   refine(yd2 (T:=T) ?hK d.out k g.out j).mono ?_
   case hK=>rw[yb,yd];exact N.out.ovr _
   rintro e K ⟨I,z,rfl,rfl,c⟩;obtain⟨G,H,rfl,-⟩:=id c
   go_wp2_with fail
   refine(zj (sep:=[44,32]) c (by omega) (by simp)).mono ?_;rintro e L ⟨rfl,rfl⟩;go_wp2;go_ret;refine⟨?_,_,by rw[yb,yd,yd]⟩;simp
  | false=>
   go_enter Tryz.func38,Tryz.ntmps38
   go_wp2_with fail
   refine(m _ _ (by rw[yb];exact s.ovr _)).mono ?_;rintro e J ⟨rfl,y,rfl⟩
   go_wp2_with fail
   refine(yd2 (T:=T) ?hK d.out k g.out j).mono ?_
   case hK=>rw[yb,yd];exact N.out.ovr _
   rintro e K ⟨I,z,rfl,rfl,c⟩;obtain⟨G,H,rfl,-⟩:=id c
   go_wp2_with fail
   refine(zj (sep:=[44,32]) c (by omega) (by simp)).mono ?_;rintro e L ⟨rfl,rfl⟩;go_wp2;go_ret;refine⟨?_,_,by rw[yb,yd,yd]⟩;simp
theorem yq3 {b:Nat}{l:UInt8}{nm:List UInt8}{n:Nat}{f:Bool}{x:List UInt8}(c:yhz l=x):gb b (.mk 7 l nm n f []) x:=by
 intro w r h
 cases h with
 | @mk kv _ _ _ _ _ _ ao cap V a m o p q d g i=>
 obtain rfl:kv=7:=by rcases a with⟨a,_⟩|⟨a,_⟩;exact a;omega
 clear a d g i
 by_cases j:0 < n
 ·skip
  have hb:=ya4 (w:=w) l;rw[c] at hb
  go_enter Tryz.func47,Tryz.ntmps47
  go_wp2_with fail
  refine(ya4 l).mono ?_;rintro e k ⟨rfl,rfl⟩;rw[c];go_wp2;go_ret;exact⟨rfl,_,yb _ _⟩
 ·skip
  have hb:=ya4 (w:=w) l;rw[c] at hb
  go_enter Tryz.func47,Tryz.ntmps47
  go_wp2_with fail
  refine(ya4 l).mono ?_;rintro e k ⟨rfl,rfl⟩;rw[c];go_wp2;go_ret;exact⟨rfl,_,yb _ _⟩
theorem yq2 {b:Nat}{l:UInt8}{nm:List UInt8}{n:Nat}{f:Bool}{t:ya}{x:List UInt8}(Q:x.length<=100000000)(k:gb b t x):gb b (.mk 9 l nm n f [t]) ([91]++x++[93]):=by
 intro w R h
 cases h with
 | @mk kv _ _ _ _ _ _ ao cap V g N K O P i d j=>
 obtain rfl:kv=9:=by rcases g with⟨g,_⟩|⟨g,_⟩;exact g;omega
 obtain⟨a,c,rfl⟩:=i (by simp);have m:∀ o,(w.alloc o).cell? ⟨a,c,none⟩=some (V 0 0):=fun o=>yi (d 0 a c 0 (by simp) rfl (by omega)) o;have E:∀ x,(ovr w x).cell? ⟨a,c,none⟩=some (V 0 0):=fun x=>yf (d 0 a c 0 (by simp) rfl (by omega)) x;have v:∀ o x,(ovr (w.alloc o) x).cell? ⟨a,c,none⟩=some (V 0 0):=fun o x=>yk (d 0 a c 0 (by simp) rfl (by omega)) o x;have p:∀ o,(w.alloc o).cell? ⟨a,c+1,none⟩=some (V 0 1):=fun o=>yi (d 0 a c 1 (by simp) rfl (by omega)) o;have F:∀ x,(ovr w x).cell? ⟨a,c+1,none⟩=some (V 0 1):=fun x=>yf (d 0 a c 1 (by simp) rfl (by omega)) x;have z:∀ o x,(ovr (w.alloc o) x).cell? ⟨a,c+1,none⟩=some (V 0 1):=fun o x=>yk (d 0 a c 1 (by simp) rfl (by omega)) o x;have q:∀ o,(w.alloc o).cell? ⟨a,c+2,none⟩=some (V 0 2):=fun o=>yi (d 0 a c 2 (by simp) rfl (by omega)) o;have G:∀ x,(ovr w x).cell? ⟨a,c+2,none⟩=some (V 0 2):=fun x=>yf (d 0 a c 2 (by simp) rfl (by omega)) x;have A:∀ o x,(ovr (w.alloc o) x).cell? ⟨a,c+2,none⟩=some (V 0 2):=fun o x=>yk (d 0 a c 2 (by simp) rfl (by omega)) o x;have r:∀ o,(w.alloc o).cell? ⟨a,c+3,none⟩=some (V 0 3):=fun o=>yi (d 0 a c 3 (by simp) rfl (by omega)) o;have H:∀ x,(ovr w x).cell? ⟨a,c+3,none⟩=some (V 0 3):=fun x=>yf (d 0 a c 3 (by simp) rfl (by omega)) x;have B:∀ o x,(ovr (w.alloc o) x).cell? ⟨a,c+3,none⟩=some (V 0 3):=fun o x=>yk (d 0 a c 3 (by simp) rfl (by omega)) o x;have s:∀ o,(w.alloc o).cell? ⟨a,c+4,none⟩=some (V 0 4):=fun o=>yi (d 0 a c 4 (by simp) rfl (by omega)) o;have I:∀ x,(ovr w x).cell? ⟨a,c+4,none⟩=some (V 0 4):=fun x=>yf (d 0 a c 4 (by simp) rfl (by omega)) x;have C:∀ o x,(ovr (w.alloc o) x).cell? ⟨a,c+4,none⟩=some (V 0 4):=fun o x=>yk (d 0 a c 4 (by simp) rfl (by omega)) o x;have u:∀ o,(w.alloc o).cell? ⟨a,c+5,none⟩=some (V 0 5):=fun o=>yi (d 0 a c 5 (by simp) rfl (by omega)) o;have J:∀ x,(ovr w x).cell? ⟨a,c+5,none⟩=some (V 0 5):=fun x=>yf (d 0 a c 5 (by simp) rfl (by omega)) x;have D:∀ o x,(ovr (w.alloc o) x).cell? ⟨a,c+5,none⟩=some (V 0 5):=fun o x=>yk (d 0 a c 5 (by simp) rfl (by omega)) o x;have t0:yg w t (.agg #[V 0 0,V 0 1,V 0 2,V 0 3,V 0 4,V 0 5]):=j 0 (by simp);simp only[List.length_cons,List.length_nil] at K;clear g i d j
 by_cases L:0 < n
 ·skip
  go_enter Tryz.func47,Tryz.ntmps47
  go_wp2_with fail
  refine(k _ _ (by rw[yb];exact t0.ovr _)).mono ?_;rintro e M ⟨rfl,y,rfl⟩;go_wp2;go_ret;refine⟨?_,_,by rw[yb,yd]⟩;simp
 ·skip
  go_enter Tryz.func47,Tryz.ntmps47
  go_wp2_with fail
  refine(k _ _ (by rw[yb];exact t0.ovr _)).mono ?_;rintro e M ⟨rfl,y,rfl⟩;go_wp2;go_ret;refine⟨?_,_,by rw[yb,yd]⟩;simp
theorem yul {b:Nat}{l:UInt8}{nm:List UInt8}{n:Nat}{f:Bool}{t:ya}{x:List UInt8}(Q:x.length<=100000000)(k:gb b t x):gb b (.mk 13 l nm n f [t]) ([42,99,111,110,115,116,32]++x):=by
 intro w R h
 cases h with
 | @mk kv _ _ _ _ _ _ ao cap V g N K O P i d j=>
 obtain rfl:kv=13:=by rcases g with⟨g,_⟩|⟨g,_⟩;exact g;omega
 obtain⟨a,c,rfl⟩:=i (by simp);have m:∀ o,(w.alloc o).cell? ⟨a,c,none⟩=some (V 0 0):=fun o=>yi (d 0 a c 0 (by simp) rfl (by omega)) o;have E:∀ x,(ovr w x).cell? ⟨a,c,none⟩=some (V 0 0):=fun x=>yf (d 0 a c 0 (by simp) rfl (by omega)) x;have v:∀ o x,(ovr (w.alloc o) x).cell? ⟨a,c,none⟩=some (V 0 0):=fun o x=>yk (d 0 a c 0 (by simp) rfl (by omega)) o x;have p:∀ o,(w.alloc o).cell? ⟨a,c+1,none⟩=some (V 0 1):=fun o=>yi (d 0 a c 1 (by simp) rfl (by omega)) o;have F:∀ x,(ovr w x).cell? ⟨a,c+1,none⟩=some (V 0 1):=fun x=>yf (d 0 a c 1 (by simp) rfl (by omega)) x;have z:∀ o x,(ovr (w.alloc o) x).cell? ⟨a,c+1,none⟩=some (V 0 1):=fun o x=>yk (d 0 a c 1 (by simp) rfl (by omega)) o x;have q:∀ o,(w.alloc o).cell? ⟨a,c+2,none⟩=some (V 0 2):=fun o=>yi (d 0 a c 2 (by simp) rfl (by omega)) o;have G:∀ x,(ovr w x).cell? ⟨a,c+2,none⟩=some (V 0 2):=fun x=>yf (d 0 a c 2 (by simp) rfl (by omega)) x;have A:∀ o x,(ovr (w.alloc o) x).cell? ⟨a,c+2,none⟩=some (V 0 2):=fun o x=>yk (d 0 a c 2 (by simp) rfl (by omega)) o x;have r:∀ o,(w.alloc o).cell? ⟨a,c+3,none⟩=some (V 0 3):=fun o=>yi (d 0 a c 3 (by simp) rfl (by omega)) o;have H:∀ x,(ovr w x).cell? ⟨a,c+3,none⟩=some (V 0 3):=fun x=>yf (d 0 a c 3 (by simp) rfl (by omega)) x;have B:∀ o x,(ovr (w.alloc o) x).cell? ⟨a,c+3,none⟩=some (V 0 3):=fun o x=>yk (d 0 a c 3 (by simp) rfl (by omega)) o x;have s:∀ o,(w.alloc o).cell? ⟨a,c+4,none⟩=some (V 0 4):=fun o=>yi (d 0 a c 4 (by simp) rfl (by omega)) o;have I:∀ x,(ovr w x).cell? ⟨a,c+4,none⟩=some (V 0 4):=fun x=>yf (d 0 a c 4 (by simp) rfl (by omega)) x;have C:∀ o x,(ovr (w.alloc o) x).cell? ⟨a,c+4,none⟩=some (V 0 4):=fun o x=>yk (d 0 a c 4 (by simp) rfl (by omega)) o x;have u:∀ o,(w.alloc o).cell? ⟨a,c+5,none⟩=some (V 0 5):=fun o=>yi (d 0 a c 5 (by simp) rfl (by omega)) o;have J:∀ x,(ovr w x).cell? ⟨a,c+5,none⟩=some (V 0 5):=fun x=>yf (d 0 a c 5 (by simp) rfl (by omega)) x;have D:∀ o x,(ovr (w.alloc o) x).cell? ⟨a,c+5,none⟩=some (V 0 5):=fun o x=>yk (d 0 a c 5 (by simp) rfl (by omega)) o x;have t0:yg w t (.agg #[V 0 0,V 0 1,V 0 2,V 0 3,V 0 4,V 0 5]):=j 0 (by simp);simp only[List.length_cons,List.length_nil] at K;clear g i d j
 by_cases L:0 < n
 ·skip
  go_enter Tryz.func47,Tryz.ntmps47
  go_wp2_with fail
  refine(k _ _ (by rw[yb];exact t0.ovr _)).mono ?_;rintro e M ⟨rfl,y,rfl⟩;go_wp2;go_ret;refine⟨?_,_,by rw[yb,yd]⟩;simp
 ·skip
  go_enter Tryz.func47,Tryz.ntmps47
  go_wp2_with fail
  refine(k _ _ (by rw[yb];exact t0.ovr _)).mono ?_;rintro e M ⟨rfl,y,rfl⟩;go_wp2;go_ret;refine⟨?_,_,by rw[yb,yd]⟩;simp
theorem yuk {b:Nat}{l:UInt8}{nm:List UInt8}{n:Nat}{f:Bool}{t:ya}{x:List UInt8}(Q:x.length<=100000000)(k:gb b t x):gb b (.mk 14 l nm n f [t]) ([42,109,117,116,32]++x):=by
 intro w R h
 cases h with
 | @mk kv _ _ _ _ _ _ ao cap V g N K O P i d j=>
 obtain rfl:kv=14:=by rcases g with⟨g,_⟩|⟨g,_⟩;exact g;omega
 obtain⟨a,c,rfl⟩:=i (by simp);have m:∀ o,(w.alloc o).cell? ⟨a,c,none⟩=some (V 0 0):=fun o=>yi (d 0 a c 0 (by simp) rfl (by omega)) o;have E:∀ x,(ovr w x).cell? ⟨a,c,none⟩=some (V 0 0):=fun x=>yf (d 0 a c 0 (by simp) rfl (by omega)) x;have v:∀ o x,(ovr (w.alloc o) x).cell? ⟨a,c,none⟩=some (V 0 0):=fun o x=>yk (d 0 a c 0 (by simp) rfl (by omega)) o x;have p:∀ o,(w.alloc o).cell? ⟨a,c+1,none⟩=some (V 0 1):=fun o=>yi (d 0 a c 1 (by simp) rfl (by omega)) o;have F:∀ x,(ovr w x).cell? ⟨a,c+1,none⟩=some (V 0 1):=fun x=>yf (d 0 a c 1 (by simp) rfl (by omega)) x;have z:∀ o x,(ovr (w.alloc o) x).cell? ⟨a,c+1,none⟩=some (V 0 1):=fun o x=>yk (d 0 a c 1 (by simp) rfl (by omega)) o x;have q:∀ o,(w.alloc o).cell? ⟨a,c+2,none⟩=some (V 0 2):=fun o=>yi (d 0 a c 2 (by simp) rfl (by omega)) o;have G:∀ x,(ovr w x).cell? ⟨a,c+2,none⟩=some (V 0 2):=fun x=>yf (d 0 a c 2 (by simp) rfl (by omega)) x;have A:∀ o x,(ovr (w.alloc o) x).cell? ⟨a,c+2,none⟩=some (V 0 2):=fun o x=>yk (d 0 a c 2 (by simp) rfl (by omega)) o x;have r:∀ o,(w.alloc o).cell? ⟨a,c+3,none⟩=some (V 0 3):=fun o=>yi (d 0 a c 3 (by simp) rfl (by omega)) o;have H:∀ x,(ovr w x).cell? ⟨a,c+3,none⟩=some (V 0 3):=fun x=>yf (d 0 a c 3 (by simp) rfl (by omega)) x;have B:∀ o x,(ovr (w.alloc o) x).cell? ⟨a,c+3,none⟩=some (V 0 3):=fun o x=>yk (d 0 a c 3 (by simp) rfl (by omega)) o x;have s:∀ o,(w.alloc o).cell? ⟨a,c+4,none⟩=some (V 0 4):=fun o=>yi (d 0 a c 4 (by simp) rfl (by omega)) o;have I:∀ x,(ovr w x).cell? ⟨a,c+4,none⟩=some (V 0 4):=fun x=>yf (d 0 a c 4 (by simp) rfl (by omega)) x;have C:∀ o x,(ovr (w.alloc o) x).cell? ⟨a,c+4,none⟩=some (V 0 4):=fun o x=>yk (d 0 a c 4 (by simp) rfl (by omega)) o x;have u:∀ o,(w.alloc o).cell? ⟨a,c+5,none⟩=some (V 0 5):=fun o=>yi (d 0 a c 5 (by simp) rfl (by omega)) o;have J:∀ x,(ovr w x).cell? ⟨a,c+5,none⟩=some (V 0 5):=fun x=>yf (d 0 a c 5 (by simp) rfl (by omega)) x;have D:∀ o x,(ovr (w.alloc o) x).cell? ⟨a,c+5,none⟩=some (V 0 5):=fun o x=>yk (d 0 a c 5 (by simp) rfl (by omega)) o x;have t0:yg w t (.agg #[V 0 0,V 0 1,V 0 2,V 0 3,V 0 4,V 0 5]):=j 0 (by simp);simp only[List.length_cons,List.length_nil] at K;clear g i d j
 by_cases L:0 < n
 ·skip
  go_enter Tryz.func47,Tryz.ntmps47
  go_wp2_with fail
  refine(k _ _ (by rw[yb];exact t0.ovr _)).mono ?_;rintro e M ⟨rfl,y,rfl⟩;go_wp2;go_ret;refine⟨?_,_,by rw[yb,yd]⟩;simp
 ·skip
  go_enter Tryz.func47,Tryz.ntmps47
  go_wp2_with fail
  refine(k _ _ (by rw[yb];exact t0.ovr _)).mono ?_;rintro e M ⟨rfl,y,rfl⟩;go_wp2;go_ret;refine⟨?_,_,by rw[yb,yd]⟩;simp
theorem yxi {b:Nat}{l:UInt8}{nm:List UInt8}{n:Nat}{f:Bool}{t:ya}{x:List UInt8}(hx:x.length<=100000000)(hn:n<=b)(C:b<=20)(K:gb b t x):gb b (.mk 11 l nm n f [t]) ([38]++(if n=0 then [] else zc n b++[32])++[]++x):=by
 intro w tv h
 cases h with
 | @mk kv _ _ _ _ _ _ ao cap V i h2 Z h4 h5 I g J=>
 obtain rfl:kv=11:=by rcases i with⟨i,_⟩|⟨i,_⟩;exact i;omega
 obtain⟨a,c,rfl⟩:=I (by simp);have L:∀ o,(w.alloc o).cell? ⟨a,c,none⟩=some (V 0 0):=fun o=>yi (g 0 a c 0 (by simp) rfl (by omega)) o;have p:∀ x,(ovr w x).cell? ⟨a,c,none⟩=some (V 0 0):=fun x=>yf (g 0 a c 0 (by simp) rfl (by omega)) x;have S:∀ o x,(ovr (w.alloc o) x).cell? ⟨a,c,none⟩=some (V 0 0):=fun o x=>yk (g 0 a c 0 (by simp) rfl (by omega)) o x;have M:∀ o,(w.alloc o).cell? ⟨a,c+1,none⟩=some (V 0 1):=fun o=>yi (g 0 a c 1 (by simp) rfl (by omega)) o;have q:∀ x,(ovr w x).cell? ⟨a,c+1,none⟩=some (V 0 1):=fun x=>yf (g 0 a c 1 (by simp) rfl (by omega)) x;have T:∀ o x,(ovr (w.alloc o) x).cell? ⟨a,c+1,none⟩=some (V 0 1):=fun o x=>yk (g 0 a c 1 (by simp) rfl (by omega)) o x;have N:∀ o,(w.alloc o).cell? ⟨a,c+2,none⟩=some (V 0 2):=fun o=>yi (g 0 a c 2 (by simp) rfl (by omega)) o;have r:∀ x,(ovr w x).cell? ⟨a,c+2,none⟩=some (V 0 2):=fun x=>yf (g 0 a c 2 (by simp) rfl (by omega)) x;have U:∀ o x,(ovr (w.alloc o) x).cell? ⟨a,c+2,none⟩=some (V 0 2):=fun o x=>yk (g 0 a c 2 (by simp) rfl (by omega)) o x;have O:∀ o,(w.alloc o).cell? ⟨a,c+3,none⟩=some (V 0 3):=fun o=>yi (g 0 a c 3 (by simp) rfl (by omega)) o;have s:∀ x,(ovr w x).cell? ⟨a,c+3,none⟩=some (V 0 3):=fun x=>yf (g 0 a c 3 (by simp) rfl (by omega)) x;have W:∀ o x,(ovr (w.alloc o) x).cell? ⟨a,c+3,none⟩=some (V 0 3):=fun o x=>yk (g 0 a c 3 (by simp) rfl (by omega)) o x;have P:∀ o,(w.alloc o).cell? ⟨a,c+4,none⟩=some (V 0 4):=fun o=>yi (g 0 a c 4 (by simp) rfl (by omega)) o;have v:∀ x,(ovr w x).cell? ⟨a,c+4,none⟩=some (V 0 4):=fun x=>yf (g 0 a c 4 (by simp) rfl (by omega)) x;have X:∀ o x,(ovr (w.alloc o) x).cell? ⟨a,c+4,none⟩=some (V 0 4):=fun o x=>yk (g 0 a c 4 (by simp) rfl (by omega)) o x;have Q:∀ o,(w.alloc o).cell? ⟨a,c+5,none⟩=some (V 0 5):=fun o=>yi (g 0 a c 5 (by simp) rfl (by omega)) o;have A:∀ x,(ovr w x).cell? ⟨a,c+5,none⟩=some (V 0 5):=fun x=>yf (g 0 a c 5 (by simp) rfl (by omega)) x;have Y:∀ o x,(ovr (w.alloc o) x).cell? ⟨a,c+5,none⟩=some (V 0 5):=fun o x=>yk (g 0 a c 5 (by simp) rfl (by omega)) o x;have t0:yg w t (.agg #[V 0 0,V 0 1,V 0 2,V 0 3,V 0 4,V 0 5]):=J 0 (by simp);simp only[List.length_cons,List.length_nil] at Z;clear i I g J
 by_cases m:n=0
 ·have E:¬ 0 < n:=by omega
  go_enter Tryz.func47,Tryz.ntmps47
  go_wp2_with fail
  refine(K _ _ (by rw[yb];exact t0.ovr _)).mono ?_;rintro e R ⟨rfl,y,rfl⟩;go_wp2;go_ret;refine⟨?_,_,by rw[yb,yd]⟩;simp[m]
 ·have E:0 < n:=by omega
  have D:=yac n b
  go_enter Tryz.func47,Tryz.ntmps47
  go_wp2_with fail
  refine(yad hn C).mono ?_;rintro e R ⟨rfl,y,rfl⟩;generalize k:zc n b=lt at D |-;have B:=lh k;clear k;rw[yb,yd];have F:∀ (j:Nat) (u:Value),(#[.int .i64 11,.int .u8 l.toNat,.string ⟨nm.toArray⟩,.int .u64 n,.bool f,.slice (some ⟨a,c,none⟩) 1 cap]:Array Value)[j]? = some u->(ovr w ⟨y.d,#[.cells #[.int .i64 11,.int .u8 l.toNat,.string ⟨nm.toArray⟩,.int .u64 n,.bool f,.slice (some ⟨a,c,none⟩) 1 cap] 28]++y.h⟩).cell? ⟨w.heap.size,j,none⟩=some u:=fun j u hj=>by rw[<-yd w ⟨w.drawn,_⟩ y,<-yb];exact zn _ _ _ _ _ hj y
  have G:=F 0 _ rfl;have H:=F 5 _ rfl;have q0:=p ⟨y.d,#[.cells #[.int .i64 11,.int .u8 l.toNat,.string ⟨nm.toArray⟩,.int .u64 n,.bool f,.slice (some ⟨a,c,none⟩) 1 cap] 28]++y.h⟩;have q1:=q ⟨y.d,#[.cells #[.int .i64 11,.int .u8 l.toNat,.string ⟨nm.toArray⟩,.int .u64 n,.bool f,.slice (some ⟨a,c,none⟩) 1 cap] 28]++y.h⟩;have q2:=r ⟨y.d,#[.cells #[.int .i64 11,.int .u8 l.toNat,.string ⟨nm.toArray⟩,.int .u64 n,.bool f,.slice (some ⟨a,c,none⟩) 1 cap] 28]++y.h⟩;have q3:=s ⟨y.d,#[.cells #[.int .i64 11,.int .u8 l.toNat,.string ⟨nm.toArray⟩,.int .u64 n,.bool f,.slice (some ⟨a,c,none⟩) 1 cap] 28]++y.h⟩;have q4:=v ⟨y.d,#[.cells #[.int .i64 11,.int .u8 l.toNat,.string ⟨nm.toArray⟩,.int .u64 n,.bool f,.slice (some ⟨a,c,none⟩) 1 cap] 28]++y.h⟩;have q5:=A ⟨y.d,#[.cells #[.int .i64 11,.int .u8 l.toNat,.string ⟨nm.toArray⟩,.int .u64 n,.bool f,.slice (some ⟨a,c,none⟩) 1 cap] 28]++y.h⟩;clear F;generalize Xt.mk _ _=x1 at G H q0 q1 q2 q3 q4 q5 |-
  go_wp2_with fail
  refine(K _ _ (t0.ovr _)).mono ?_;rintro e R ⟨rfl,z,rfl⟩;go_wp2;go_ret;refine⟨?_,_,by rw[yd]⟩;simp[m,B.out]
theorem yxj {b:Nat}{l:UInt8}{nm:List UInt8}{n:Nat}{f:Bool}{t:ya}{x:List UInt8}(hx:x.length<=100000000)(hn:n<=b)(C:b<=20)(K:gb b t x):gb b (.mk 12 l nm n f [t]) ([38]++(if n=0 then [] else zc n b++[32])++[109,117,116,32]++x):=by
 intro w tv h
 cases h with
 | @mk kv _ _ _ _ _ _ ao cap V i h2 Z h4 h5 I g J=>
 obtain rfl:kv=12:=by rcases i with⟨i,_⟩|⟨i,_⟩;exact i;omega
 obtain⟨a,c,rfl⟩:=I (by simp);have L:∀ o,(w.alloc o).cell? ⟨a,c,none⟩=some (V 0 0):=fun o=>yi (g 0 a c 0 (by simp) rfl (by omega)) o;have p:∀ x,(ovr w x).cell? ⟨a,c,none⟩=some (V 0 0):=fun x=>yf (g 0 a c 0 (by simp) rfl (by omega)) x;have S:∀ o x,(ovr (w.alloc o) x).cell? ⟨a,c,none⟩=some (V 0 0):=fun o x=>yk (g 0 a c 0 (by simp) rfl (by omega)) o x;have M:∀ o,(w.alloc o).cell? ⟨a,c+1,none⟩=some (V 0 1):=fun o=>yi (g 0 a c 1 (by simp) rfl (by omega)) o;have q:∀ x,(ovr w x).cell? ⟨a,c+1,none⟩=some (V 0 1):=fun x=>yf (g 0 a c 1 (by simp) rfl (by omega)) x;have T:∀ o x,(ovr (w.alloc o) x).cell? ⟨a,c+1,none⟩=some (V 0 1):=fun o x=>yk (g 0 a c 1 (by simp) rfl (by omega)) o x;have N:∀ o,(w.alloc o).cell? ⟨a,c+2,none⟩=some (V 0 2):=fun o=>yi (g 0 a c 2 (by simp) rfl (by omega)) o;have r:∀ x,(ovr w x).cell? ⟨a,c+2,none⟩=some (V 0 2):=fun x=>yf (g 0 a c 2 (by simp) rfl (by omega)) x;have U:∀ o x,(ovr (w.alloc o) x).cell? ⟨a,c+2,none⟩=some (V 0 2):=fun o x=>yk (g 0 a c 2 (by simp) rfl (by omega)) o x;have O:∀ o,(w.alloc o).cell? ⟨a,c+3,none⟩=some (V 0 3):=fun o=>yi (g 0 a c 3 (by simp) rfl (by omega)) o;have s:∀ x,(ovr w x).cell? ⟨a,c+3,none⟩=some (V 0 3):=fun x=>yf (g 0 a c 3 (by simp) rfl (by omega)) x;have W:∀ o x,(ovr (w.alloc o) x).cell? ⟨a,c+3,none⟩=some (V 0 3):=fun o x=>yk (g 0 a c 3 (by simp) rfl (by omega)) o x;have P:∀ o,(w.alloc o).cell? ⟨a,c+4,none⟩=some (V 0 4):=fun o=>yi (g 0 a c 4 (by simp) rfl (by omega)) o;have v:∀ x,(ovr w x).cell? ⟨a,c+4,none⟩=some (V 0 4):=fun x=>yf (g 0 a c 4 (by simp) rfl (by omega)) x;have X:∀ o x,(ovr (w.alloc o) x).cell? ⟨a,c+4,none⟩=some (V 0 4):=fun o x=>yk (g 0 a c 4 (by simp) rfl (by omega)) o x;have Q:∀ o,(w.alloc o).cell? ⟨a,c+5,none⟩=some (V 0 5):=fun o=>yi (g 0 a c 5 (by simp) rfl (by omega)) o;have A:∀ x,(ovr w x).cell? ⟨a,c+5,none⟩=some (V 0 5):=fun x=>yf (g 0 a c 5 (by simp) rfl (by omega)) x;have Y:∀ o x,(ovr (w.alloc o) x).cell? ⟨a,c+5,none⟩=some (V 0 5):=fun o x=>yk (g 0 a c 5 (by simp) rfl (by omega)) o x;have t0:yg w t (.agg #[V 0 0,V 0 1,V 0 2,V 0 3,V 0 4,V 0 5]):=J 0 (by simp);simp only[List.length_cons,List.length_nil] at Z;clear i I g J
 by_cases m:n=0
 ·have E:¬ 0 < n:=by omega
  go_enter Tryz.func47,Tryz.ntmps47
  go_wp2_with fail
  refine(K _ _ (by rw[yb];exact t0.ovr _)).mono ?_;rintro e R ⟨rfl,y,rfl⟩;go_wp2;go_ret;refine⟨?_,_,by rw[yb,yd]⟩;simp[m]
 ·have E:0 < n:=by omega
  have D:=yac n b
  go_enter Tryz.func47,Tryz.ntmps47
  go_wp2_with fail
  refine(yad hn C).mono ?_;rintro e R ⟨rfl,y,rfl⟩;generalize k:zc n b=lt at D |-;have B:=lh k;clear k;rw[yb,yd];have F:∀ (j:Nat) (u:Value),(#[.int .i64 12,.int .u8 l.toNat,.string ⟨nm.toArray⟩,.int .u64 n,.bool f,.slice (some ⟨a,c,none⟩) 1 cap]:Array Value)[j]? = some u->(ovr w ⟨y.d,#[.cells #[.int .i64 12,.int .u8 l.toNat,.string ⟨nm.toArray⟩,.int .u64 n,.bool f,.slice (some ⟨a,c,none⟩) 1 cap] 28]++y.h⟩).cell? ⟨w.heap.size,j,none⟩=some u:=fun j u hj=>by rw[<-yd w ⟨w.drawn,_⟩ y,<-yb];exact zn _ _ _ _ _ hj y
  have G:=F 0 _ rfl;have H:=F 5 _ rfl;have q0:=p ⟨y.d,#[.cells #[.int .i64 12,.int .u8 l.toNat,.string ⟨nm.toArray⟩,.int .u64 n,.bool f,.slice (some ⟨a,c,none⟩) 1 cap] 28]++y.h⟩;have q1:=q ⟨y.d,#[.cells #[.int .i64 12,.int .u8 l.toNat,.string ⟨nm.toArray⟩,.int .u64 n,.bool f,.slice (some ⟨a,c,none⟩) 1 cap] 28]++y.h⟩;have q2:=r ⟨y.d,#[.cells #[.int .i64 12,.int .u8 l.toNat,.string ⟨nm.toArray⟩,.int .u64 n,.bool f,.slice (some ⟨a,c,none⟩) 1 cap] 28]++y.h⟩;have q3:=s ⟨y.d,#[.cells #[.int .i64 12,.int .u8 l.toNat,.string ⟨nm.toArray⟩,.int .u64 n,.bool f,.slice (some ⟨a,c,none⟩) 1 cap] 28]++y.h⟩;have q4:=v ⟨y.d,#[.cells #[.int .i64 12,.int .u8 l.toNat,.string ⟨nm.toArray⟩,.int .u64 n,.bool f,.slice (some ⟨a,c,none⟩) 1 cap] 28]++y.h⟩;have q5:=A ⟨y.d,#[.cells #[.int .i64 12,.int .u8 l.toNat,.string ⟨nm.toArray⟩,.int .u64 n,.bool f,.slice (some ⟨a,c,none⟩) 1 cap] 28]++y.h⟩;clear F;generalize Xt.mk _ _=x1 at G H q0 q1 q2 q3 q4 q5 |-
  go_wp2_with fail
  refine(K _ _ (t0.ovr _)).mono ?_;rintro e R ⟨rfl,z,rfl⟩;go_wp2;go_ret;refine⟨?_,_,by rw[yd]⟩;simp[m,B.out]
theorem yq4 {b:Nat}{l:UInt8}{nm:List UInt8}{n:Nat}{f:Bool}{t c:ya}{x y:List UInt8}(hx:x.length<=100000000)(hy:y.length<=100000000)(q:gb b t x)(hk:c.kind=20\/c.kind=21)(hc:c.kind=20->c.letter=99->c.num<=255)(m:yeb c=y):gb b (.mk 8 l nm n f [t,c]) ([91]++x++[59,32]++y++[93]):=by
 intro w tv h
 cases h with
 | @mk kv _ _ _ _ _ _ ao cap V i h2 h3 h4 h5 p g k=>
 obtain rfl:kv=8:=by rcases i with⟨i,_⟩|⟨i,_⟩;exact i;omega
 obtain⟨a,d,rfl⟩:=p (by simp);have r:∀ o,(w.alloc o).cell? ⟨a,d,none⟩=some (V 0 0):=fun o=>yi (g 0 a d 0 (by simp) rfl (by omega)) o;have X:∀ x,(ovr w x).cell? ⟨a,d,none⟩=some (V 0 0):=fun x=>yf (g 0 a d 0 (by simp) rfl (by omega)) x;have K:∀ o x,(ovr (w.alloc o) x).cell? ⟨a,d,none⟩=some (V 0 0):=fun o x=>yk (g 0 a d 0 (by simp) rfl (by omega)) o x;have s:∀ o,(w.alloc o).cell? ⟨a,d+1,none⟩=some (V 0 1):=fun o=>yi (g 0 a d 1 (by simp) rfl (by omega)) o;have Y:∀ x,(ovr w x).cell? ⟨a,d+1,none⟩=some (V 0 1):=fun x=>yf (g 0 a d 1 (by simp) rfl (by omega)) x;have L:∀ o x,(ovr (w.alloc o) x).cell? ⟨a,d+1,none⟩=some (V 0 1):=fun o x=>yk (g 0 a d 1 (by simp) rfl (by omega)) o x;have u:∀ o,(w.alloc o).cell? ⟨a,d+2,none⟩=some (V 0 2):=fun o=>yi (g 0 a d 2 (by simp) rfl (by omega)) o;have Z:∀ x,(ovr w x).cell? ⟨a,d+2,none⟩=some (V 0 2):=fun x=>yf (g 0 a d 2 (by simp) rfl (by omega)) x;have M:∀ o x,(ovr (w.alloc o) x).cell? ⟨a,d+2,none⟩=some (V 0 2):=fun o x=>yk (g 0 a d 2 (by simp) rfl (by omega)) o x;have A:∀ o,(w.alloc o).cell? ⟨a,d+3,none⟩=some (V 0 3):=fun o=>yi (g 0 a d 3 (by simp) rfl (by omega)) o;have aa:∀ x,(ovr w x).cell? ⟨a,d+3,none⟩=some (V 0 3):=fun x=>yf (g 0 a d 3 (by simp) rfl (by omega)) x;have N:∀ o x,(ovr (w.alloc o) x).cell? ⟨a,d+3,none⟩=some (V 0 3):=fun o x=>yk (g 0 a d 3 (by simp) rfl (by omega)) o x;have B:∀ o,(w.alloc o).cell? ⟨a,d+4,none⟩=some (V 0 4):=fun o=>yi (g 0 a d 4 (by simp) rfl (by omega)) o;have ab:∀ x,(ovr w x).cell? ⟨a,d+4,none⟩=some (V 0 4):=fun x=>yf (g 0 a d 4 (by simp) rfl (by omega)) x;have O:∀ o x,(ovr (w.alloc o) x).cell? ⟨a,d+4,none⟩=some (V 0 4):=fun o x=>yk (g 0 a d 4 (by simp) rfl (by omega)) o x;have C:∀ o,(w.alloc o).cell? ⟨a,d+5,none⟩=some (V 0 5):=fun o=>yi (g 0 a d 5 (by simp) rfl (by omega)) o;have ac:∀ x,(ovr w x).cell? ⟨a,d+5,none⟩=some (V 0 5):=fun x=>yf (g 0 a d 5 (by simp) rfl (by omega)) x;have P:∀ o x,(ovr (w.alloc o) x).cell? ⟨a,d+5,none⟩=some (V 0 5):=fun o x=>yk (g 0 a d 5 (by simp) rfl (by omega)) o x;have t0:yg w t (.agg #[V 0 0,V 0 1,V 0 2,V 0 3,V 0 4,V 0 5]):=k 0 (by simp);have D:∀ o,(w.alloc o).cell? ⟨a,d+6,none⟩=some (V 1 0):=fun o=>yi (g 1 a d 0 (by simp) rfl (by omega)) o;have ad:∀ x,(ovr w x).cell? ⟨a,d+6,none⟩=some (V 1 0):=fun x=>yf (g 1 a d 0 (by simp) rfl (by omega)) x;have Q:∀ o x,(ovr (w.alloc o) x).cell? ⟨a,d+6,none⟩=some (V 1 0):=fun o x=>yk (g 1 a d 0 (by simp) rfl (by omega)) o x;have E:∀ o,(w.alloc o).cell? ⟨a,d+7,none⟩=some (V 1 1):=fun o=>yi (g 1 a d 1 (by simp) rfl (by omega)) o;have ae:∀ x,(ovr w x).cell? ⟨a,d+7,none⟩=some (V 1 1):=fun x=>yf (g 1 a d 1 (by simp) rfl (by omega)) x;have R:∀ o x,(ovr (w.alloc o) x).cell? ⟨a,d+7,none⟩=some (V 1 1):=fun o x=>yk (g 1 a d 1 (by simp) rfl (by omega)) o x;have F:∀ o,(w.alloc o).cell? ⟨a,d+8,none⟩=some (V 1 2):=fun o=>yi (g 1 a d 2 (by simp) rfl (by omega)) o;have af:∀ x,(ovr w x).cell? ⟨a,d+8,none⟩=some (V 1 2):=fun x=>yf (g 1 a d 2 (by simp) rfl (by omega)) x;have S:∀ o x,(ovr (w.alloc o) x).cell? ⟨a,d+8,none⟩=some (V 1 2):=fun o x=>yk (g 1 a d 2 (by simp) rfl (by omega)) o x;have G:∀ o,(w.alloc o).cell? ⟨a,d+9,none⟩=some (V 1 3):=fun o=>yi (g 1 a d 3 (by simp) rfl (by omega)) o;have ag:∀ x,(ovr w x).cell? ⟨a,d+9,none⟩=some (V 1 3):=fun x=>yf (g 1 a d 3 (by simp) rfl (by omega)) x;have T:∀ o x,(ovr (w.alloc o) x).cell? ⟨a,d+9,none⟩=some (V 1 3):=fun o x=>yk (g 1 a d 3 (by simp) rfl (by omega)) o x;have H:∀ o,(w.alloc o).cell? ⟨a,d+10,none⟩=some (V 1 4):=fun o=>yi (g 1 a d 4 (by simp) rfl (by omega)) o;have ah:∀ x,(ovr w x).cell? ⟨a,d+10,none⟩=some (V 1 4):=fun x=>yf (g 1 a d 4 (by simp) rfl (by omega)) x;have U:∀ o x,(ovr (w.alloc o) x).cell? ⟨a,d+10,none⟩=some (V 1 4):=fun o x=>yk (g 1 a d 4 (by simp) rfl (by omega)) o x;have I:∀ o,(w.alloc o).cell? ⟨a,d+11,none⟩=some (V 1 5):=fun o=>yi (g 1 a d 5 (by simp) rfl (by omega)) o
 have ai:∀ x,(ovr w x).cell? ⟨a,d+11,none⟩=some (V 1 5):=fun x=>yf (g 1 a d 5 (by simp) rfl (by omega)) x;have W:∀ o x,(ovr (w.alloc o) x).cell? ⟨a,d+11,none⟩=some (V 1 5):=fun o x=>yk (g 1 a d 5 (by simp) rfl (by omega)) o x;have J:yg w c (.agg #[V 1 0,V 1 1,V 1 2,V 1 3,V 1 4,V 1 5]):=k 1 (by simp);simp only[List.length_cons,List.length_nil] at h3;have b5:∀ x,(ovr (w.alloc (.cells #[.int .i64 8,.int .u8 l.toNat,.string ⟨nm.toArray⟩,.int .u64 n,.bool f,.slice (some ⟨a,d,none⟩) 2 cap] 28)) x).cell? ⟨w.heap.size,5,none⟩=some (.slice (some ⟨a,d,none⟩) 2 cap):=fun x=>zn _ _ _ _ _ rfl x;clear i p g k;have j:∀ w v,yg w c v->Calls Tryz.prog 76 #[v] w fun e w'=>Rtn w (.string ⟨y.toArray⟩) e w':=fun w v h=>by rw[<-m];exact ydk h hk hc
 by_cases am:0 < n
 ·skip
  go_enter Tryz.func47,Tryz.ntmps47
  go_wp2;refine yao (by kernel_rfl) (by kernel_rfl) ?_
  repeat(go_big_quiet_step (first|exact ybn (q _ _ (by rw[yb,yd];exact t0.ovr _))|exact ybn (j _ _ (by rw[yb,yd];exact J.ovr _))))
  refine wpQuiet_nil ?_;rintro _ ⟨z,rfl⟩;go_wp2;go_ret;refine⟨?_,_,by rw[yb,yd]⟩;simp
 ·skip
  go_enter Tryz.func47,Tryz.ntmps47
  go_wp2;refine yao (by kernel_rfl) (by kernel_rfl) ?_
  repeat(go_big_quiet_step (first|exact ybn (q _ _ (by rw[yb,yd];exact t0.ovr _))|exact ybn (j _ _ (by rw[yb,yd];exact J.ovr _))))
  refine wpQuiet_nil ?_;rintro _ ⟨z,rfl⟩;go_wp2;go_ret;refine⟨?_,_,by rw[yb,yd]⟩;simp
theorem yq1 {b:Nat}{l:UInt8}{nm:List UInt8}{n:Nat}{f:Bool}{a:List ya}{T:List (List UInt8)}(A:T.length=a.length)(m:a.length<=1000)(B:∀ i,i < a.length->gb b (a.getD i .zero) (T.getD i []))(E:(zl [44,32] T).length<=100000000) :
  gb b (.mk 10 l nm n f a) ([40]++zl [44,32] T++(if a.length=1 then [44] else [])++[41]):=by
 intro w G h;obtain⟨ao,cap,rfl,hK,F,D⟩:=yo h (by omega);have C:=hK.c1;have p:=hK.c2;unfold maxLen at p;have o:=lh hK;have g:=lh A;have j:=lh B;clear A B h hK
 by_cases k:a.length=1
 ·have r:((a.length:Int) == 1)=true:=by simp;omega
  have c:=lh k;clear k
  by_cases q:0 < n
  ·skip
   go_enter Tryz.func47,Tryz.ntmps47
   go_wp2_with fail
   refine(jb (T:=T) ?hK g.out m j.out).mono ?_
   case hK=>rw[yb];exact o.out.ovr _
   rintro e x ⟨v,z,rfl,rfl,d⟩;obtain⟨t,u,rfl,-⟩:=id d
   go_wp2_with fail
   refine(zj (sep:=[44,32]) d (by omega) (by simp)).mono ?_;rintro e y ⟨rfl,rfl⟩;have s:(ovr (w.alloc (.cells #[.int .i64 10,.int .u8 l.toNat,.string ⟨nm.toArray⟩,.int .u64 n,.bool f,.slice ao a.length cap] 28)) z).cell? ⟨w.heap.size,5,none⟩=some (.slice ao a.length cap):=zn _ _ _ _ _ rfl z;go_wp2;go_ret;refine⟨?_,_,by rw[yb,yd]⟩;simp[c.out]
  ·skip
   go_enter Tryz.func47,Tryz.ntmps47
   go_wp2_with fail
   refine(jb (T:=T) ?hK g.out m j.out).mono ?_
   case hK=>rw[yb];exact o.out.ovr _
   rintro e x ⟨v,z,rfl,rfl,d⟩;obtain⟨t,u,rfl,-⟩:=id d
   go_wp2_with fail
   refine(zj (sep:=[44,32]) d (by omega) (by simp)).mono ?_;rintro e y ⟨rfl,rfl⟩;have s:(ovr (w.alloc (.cells #[.int .i64 10,.int .u8 l.toNat,.string ⟨nm.toArray⟩,.int .u64 n,.bool f,.slice ao a.length cap] 28)) z).cell? ⟨w.heap.size,5,none⟩=some (.slice ao a.length cap):=zn _ _ _ _ _ rfl z;go_wp2;go_ret;refine⟨?_,_,by rw[yb,yd]⟩;simp[c.out]
 ·have r:((a.length:Int) == 1)=false:=by simp;omega
  have c:=lh k;clear k
  by_cases q:0 < n
  ·skip
   go_enter Tryz.func47,Tryz.ntmps47
   go_wp2_with fail
   refine(jb (T:=T) ?hK g.out m j.out).mono ?_
   case hK=>rw[yb];exact o.out.ovr _
   rintro e x ⟨v,z,rfl,rfl,d⟩;obtain⟨t,u,rfl,-⟩:=id d
   go_wp2_with fail
   refine(zj (sep:=[44,32]) d (by omega) (by simp)).mono ?_;rintro e y ⟨rfl,rfl⟩;have s:(ovr (w.alloc (.cells #[.int .i64 10,.int .u8 l.toNat,.string ⟨nm.toArray⟩,.int .u64 n,.bool f,.slice ao a.length cap] 28)) z).cell? ⟨w.heap.size,5,none⟩=some (.slice ao a.length cap):=zn _ _ _ _ _ rfl z;go_wp2;go_ret;refine⟨?_,_,by rw[yb,yd]⟩;simp[c.out]
  ·skip
   go_enter Tryz.func47,Tryz.ntmps47
   go_wp2_with fail
   refine(jb (T:=T) ?hK g.out m j.out).mono ?_
   case hK=>rw[yb];exact o.out.ovr _
   rintro e x ⟨v,z,rfl,rfl,d⟩;obtain⟨t,u,rfl,-⟩:=id d
   go_wp2_with fail
   refine(zj (sep:=[44,32]) d (by omega) (by simp)).mono ?_;rintro e y ⟨rfl,rfl⟩;have s:(ovr (w.alloc (.cells #[.int .i64 10,.int .u8 l.toNat,.string ⟨nm.toArray⟩,.int .u64 n,.bool f,.slice ao a.length cap] 28)) z).cell? ⟨w.heap.size,5,none⟩=some (.slice ao a.length cap):=zn _ _ _ _ _ rfl z;go_wp2;go_ret;refine⟨?_,_,by rw[yb,yd]⟩;simp[c.out]
end Go.Proofs.YtfckcdbpiepchaaGreatDoor
