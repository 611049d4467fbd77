import Derived.Test.YtfckcdbpiepchaaGreatDoorNs09
namespace Go.Proofs.YtfckcdbpiepchaaGreatDoor
open Go.RowKit
set_option maxRecDepth 100000
set_option maxHeartbeats 8000000
set_option linter.all false
def ygc (x:List UInt8):Prop:=∃ d,x.getLast? = some d/\d≠32
theorem qw (x:List UInt8){y:List UInt8}(h:ygc y):ygc (x++y):=by
 obtain⟨d,a,b⟩:=h;exact⟨d,by rw[List.getLast?_append,a];rfl,b⟩
theorem yc3 {n:List UInt8}(h:yan n):ygc n:=by
 have b:=h.la
 cases a:n.getLast? with
 | none=>exact absurd (List.getLast?_eq_none_iff.1 a) h.ne
 | some d=>exact⟨d,a,fun hd=>b (by rw[a,hd])⟩
theorem gd {d:UInt8}(h:d≠32):ygc [d]:=⟨d,rfl,h⟩
theorem ykz {ng:Bool}{md:Md}{b:Nat}{t:ya}{x:List UInt8}(h:qq ng md b t x)(a:(∃ v,md=.path v)\/md=.bound):ygc x:=by
 cases h with
 | crate h=>exact yc3 h
 | impl _ _=>exact qw _ (gd (by decide))
 | timpl _ _ _=>exact qw _ (gd (by decide))
 | tdef _ _=>exact qw _ (gd (by decide))
 | small _ h _=>exact qw _ (yc3 h)
 | special _ _ _ _=>
  refine qw _ ?_;rw[show ∀ n,(35::(Lib.decDigits n++[125]))=(35::Lib.decDigits n)++[125] from fun _=>rfl];exact qw _ (gd (by decide))
 | gen _ _ _=>exact qw _ (gd (by decide))
 | bound0 h=>
  cases h with
  | crate h=>exact yc3 h
  | impl _ _=>exact qw _ (gd (by decide))
  | timpl _ _ _=>exact qw _ (gd (by decide))
  | tdef _ _=>exact qw _ (gd (by decide))
  | small _ h _=>exact qw _ (yc3 h)
  | special _ _ _ _=>
   refine qw _ ?_;rw[show ∀ n,(35::(Lib.decDigits n++[125]))=(35::Lib.decDigits n)++[125] from fun _=>rfl];exact qw _ (gd (by decide))
  | gen _ _ _=>exact qw _ (gd (by decide))
 | boundP _ _ _ _ _ _=>exact qw _ (gd (by decide))
 | boundG _ _ _ _ _ _ _=>exact qw _ (gd (by decide))
 | _=>rcases a with⟨v,a⟩|a<;>cases a
theorem yni (sep:List UInt8):∀ (xs:List (List UInt8)),xs≠[]->(∀ i,i < xs.length->ygc (xs.getD i []))->ygc (zl sep xs)
 | [],h,_=>absurd rfl h
 | x::l,_,h=>by
  unfold zl
  by_cases a:l=[]
  ·subst a;simpa using h 0 (by simp)
  ·refine qw _ ?_
   obtain⟨b,y,rfl⟩:∃ b y,l=b++[y]:=⟨l.dropLast,l.getLast a,(List.dropLast_concat_getLast a).symm⟩;have c:=h (b.length+1) (by simp);rw[List.map_append,List.flatten_append];refine qw _ ?_;simp only[List.map_cons,List.map_nil,List.flatten_cons,List.flatten_nil,List.append_nil];refine qw _ ?_
   simpa using c
theorem yna (sep x:List UInt8)(l:List (List UInt8)):zl sep (x::l)=x++(if l=[] then [] else sep++zl sep l):=by
 unfold zl
 congr 1
 cases l with
 | nil=>rfl
 | cons y l=>simp
theorem yra (sep:List UInt8)(l:List (List UInt8))(h:l≠[]):sep++zl sep l=(l.map fun y=>sep++y).flatten:=by
 cases l with
 | nil=>exact absurd rfl h
 | cons x l=>simp[zl]
def yeh (started:Bool)(its:List (List UInt8))(i:Nat):List UInt8:=
 if its.length<=i then [] else(if started then [44,32] else [60])++zl [44,32] (its.drop i)
theorem ynt (st:Bool)(a:List (List UInt8))(i:Nat)(h:i < a.length):yeh st a i=(if st then [44,32] else [60])++a.getD i []++yeh true a (i+1):=by
 have hd:a.drop i=a.getD i []::a.drop (i+1):=by
  rw[List.drop_eq_getElem_cons h,lgd,lge h];rfl
 unfold yeh;rw[if_neg (by omega),hd,yna]
 by_cases b:a.length<=i+1
 ·rw[if_pos b,if_pos (List.drop_eq_nil_of_le b)];simp
 ·have c:¬ a.drop (i+1)=[]:=fun h=>by have:=List.drop_eq_nil_iff.1 h;omega
  rw[if_neg b,if_neg c];simp
theorem yjj {ng:Bool}{s:List UInt8}{lim ar b N w:Nat}{a:List ya}{ks ms:Nat->Nat}{xs:List (List UInt8)}
  (A:∀ i,i < a.length->Ch s lim (ks i) 112/\ms i<=lim/\∃ nm2 n2 f2 l2 t u,a.getD i .zero=.mk 18 l2 nm2 n2 f2 [t]/\yan nm2/\vn (Vw s lim (ks i+1))=some (some (nm2,u,Vw s lim (ms i))))
  (hi:∀ i,i < a.length->yf1 ng s lim ar b (ms i) ((a.getD i .zero).kids.getD 0 .zero) (ks (i+1)) .type w (xs.getD i [])) (y:w<=N) (B:∀ i,i < a.length->ks i < ks (i+1)) (x:¬ Ch s lim (ks a.length) 112) :
  ∀ (j i m:Nat) (c:Bool) (st:RS),i+j=a.length->lim < ks i+m->At s lim ar b (ks i) st->st.nogen=ng->st.out.length+2000*((a.drop i).map ya.wt).sum+100<=35184372088832->
   ∃ g,xu (jg N) m c st=some (some (g,c||decide (i < a.length)))/\Wd st g (yeh c ((List.range a.length).map fun i=>(a.getD i .zero).name++[32,61,32]++xs.getD i []) i) (2000*((a.drop i).map ya.wt).sum)/\At s lim ar b (ks a.length) g
 | 0,i,m,c,st,M,V,f,p,hb=>by
  obtain rfl:i=a.length:=by omega
  obtain⟨m,rfl⟩:∃ m',m=m'+1:=⟨m-1,by have:=f.pl;omega⟩;unfold xu;rw[if_neg (f.nch x)];refine⟨st,by simp,((Wd.refl st).eq ?_).mono (Nat.zero_le _),f⟩;unfold yeh;rw[if_pos (by simp)]
 | j+1,i,m,c,st,M,V,f,p,hb=>by
  have d:i < a.length:=by omega
  obtain⟨n,O,nm2,n2,f2,l2,t,u,o,P,Q⟩:=A i d;obtain⟨m,rfl⟩:∃ m',m=m'+1:=⟨m-1,by have:=n.1;omega⟩;have hw:(a.getD i .zero).wt=1+t.wt:=by rw[o,zd];simp
  have S:(a.getD i .zero).kids.getD 0 .zero=t:=by rw[o];rfl
  rw[yks d,hw] at hb |-;have W:=yei t;have z:=hi i d;rw[S] at z;obtain⟨C,v⟩:=j0 (.refl st) f (k':=ks i+1) n.1;have R:∃ e,(if c=true then wS [44,32] (st.go (Vw s lim (ks i+1))) else wS [60] (st.go (Vw s lim (ks i+1))))=some (some e)/\Wd st e (if c then [44,32] else [60]) 2/\At s lim ar b (ks i+1) e:=by
   cases c with
   | true=>
    obtain⟨e,k,l,h⟩:=zi [44,32] 2 C v (by simp) (by omega);exact⟨e,k,(l.mono (by omega)).eq (by simp),h⟩
   | false=>
    obtain⟨e,k,l,h⟩:=zi [60] 1 C v (by simp) (by omega);exact⟨e,k,(l.mono (by omega)).eq (by simp),h⟩
  obtain⟨e,k,l,h⟩:=R;obtain⟨Z,D⟩:=j0 l h O;obtain⟨s4,I,w4,E⟩:=zi nm2 1000 Z D P.le (by omega);obtain⟨s5,J,w5,F⟩:=zi [32,61,32] 3 w4 E (by simp) (by omega);obtain⟨X,g6,K,r,G⟩:=vp (N:=N) z y p w5 F (by omega);have U:=r.ln;have T:=B i d;obtain⟨Y,L,w7,H⟩:=yjj A hi y B x j (i+1) m true X (by omega) (by omega) G (r.ng.trans p) (by omega);unfold xu;rw[if_pos (by rw[f.ch n];rfl),show st.str.tail=Vw s lim (ks i+1) by rw[f.ch n];rfl,k,bindM_ok,h.str,Q];dsimp only;rw[I,bindM_ok,J,bindM_ok,K,bindM_ok,L];refine⟨Y,by simp[d],((r.trans w7).mono (by omega)).eq ?_,H⟩;rw[ynt c _ i (by simp;exact d)];have q:((List.range a.length).map fun i=>(a.getD i .zero).name++[32,61,32]++xs.getD i []).getD i []=nm2++[32,61,32]++xs.getD i []:=by
   rw[lgd,List.getElem?_map,List.getElem?_range d];simp only[Option.map_some,Option.getD_some];rw[o];rfl
  rw[q];simp only[List.append_assoc]
theorem yvn {ng:Bool}{s:List UInt8}{lim d e ar b k:Nat}{l:UInt8}{nm:List UInt8}{n:Nat}{f:Bool}{p:ya}{a:List ya}{ks ms:Nat->Nat}
  (he:e<=d) (hp:j6 ng s false lim .path d ar b k p (ks 0))
  (T:∀ i,i < a.length->Ch s lim (ks i) 112/\ms i<=lim/\∃ nm2 n2 f2 l2 t u,a.getD i .zero=.mk 18 l2 nm2 n2 f2 [t]/\yan nm2/\vn (Vw s lim (ks i+1))=some (some (nm2,u,Vw s lim (ms i))))
  (ha:∀ i,i < a.length->j6 ng s false lim .type e ar b (ms i) ((a.getD i .zero).kids.getD 0 .zero) (ks (i+1))) (hh:∀ i,i < a.length->ks i < ks (i+1)) (hE:¬ Ch s lim (ks a.length) 112) :
  j6 ng s true lim .bound (d+1) ar b k (.mk 17 l nm n f (p::a)) (ks a.length):=by
 obtain⟨xs,V,A⟩:=x8 (P:=fun i x=>qq ng .type b ((a.getD i .zero).kids.getD 0 .zero) x/\yf1 ng s lim ar b (ms i) ((a.getD i .zero).kids.getD 0 .zero) (ks (i+1)) .type (3*e+lev false) x) a.length ha;obtain⟨ao,y,X,ry⟩:=hp;have z:∀ i t,i < a.length->(a.getD i .zero).kids=[t]->qq ng .type b t (xs.getD i []):=by
  intro i t hi ht;have:=(A i hi).1;rw[ht] at this;exact this
 have w:∀ i,i < a.length->∃ nm2 n2 f2 l2 t,a.getD i .zero=.mk 18 l2 nm2 n2 f2 [t]/\yan nm2:=by
  intro i hi;obtain⟨_,_,nm2,n2,f2,l2,t,u,h3,h4,_⟩:=T i hi;exact⟨nm2,n2,f2,l2,t,h3,h4⟩
 have j:((List.range a.length).map fun i=>(a.getD i .zero).name++[32,61,32]++xs.getD i []).length=a.length:=by simp
 have hT:∃ x,qq ng .bound b (.mk 17 l nm n f (p::a)) x/\x=y++yeh (decide (p.kind=6)) ((List.range a.length).map fun i=>(a.getD i .zero).name++[32,61,32]++xs.getD i []) 0++(if(decide (p.kind=6)||decide (0 < a.length))=true then [62] else []):=by
  by_cases o:a=[]
  ·subst o
   rcases X with⟨D,R⟩|⟨l6,nm6,n6,f6,q,c,ys,xq,rfl,I,L,K,rfl⟩
   ·exact⟨y,.bound0 R,by simp[D,yeh]⟩
   ·exact⟨_,.bound0 (.gen I L K),by simp[ya.kind,yeh]⟩
  ·have G:0 < a.length:=List.length_pos_iff.2 o
   have J:((List.range a.length).map fun i=>(a.getD i .zero).name++[32,61,32]++xs.getD i [])≠[]:=fun h=>by rw[h] at j;simp at j;omega
   have W:¬ ((List.range a.length).map fun i=>(a.getD i .zero).name++[32,61,32]++xs.getD i []).length<=0:=by rw[j];omega
   rcases X with⟨D,R⟩|⟨l6,nm6,n6,f6,q,c,ys,xq,rfl,I,L,K,rfl⟩
   ·refine⟨_,.boundP D o V w z R,?_⟩
    unfold yeh;rw[if_neg W];simp[D,G]
   ·refine⟨_,.boundG I L K o V w z,?_⟩
    unfold yeh;rw[if_neg W];simp only[ya.kind,List.drop_zero,decide_true,Bool.true_or,if_true];rw[yra _ _ J,List.map_map]
    rfl
 obtain⟨x,sx,M⟩:=hT;refine⟨x,sx,fun N st hN hA U hb=>?_⟩;unfold lev at *;simp only[if_false,Bool.false_eq_true] at *;rw[zd] at *;simp only[List.map_cons,List.sum_cons] at *;have au:=yei p;obtain⟨Q,g,e1,m,C⟩:=ry N st (by omega) hA U (by omega);have r:∃ Y,Wd st Q Y (2000*p.wt-100):=by
  rcases m with⟨_,m⟩|⟨_,m⟩
  ·exact⟨_,m⟩
  ·exact⟨_,m⟩
 obtain⟨Y,r⟩:=r;have ak:=r.ln;have ap:=C.pl;obtain⟨v,e2,E,S⟩:=yjj (N:=N) T (fun i hi=>(A i hi).2) (by omega) hh hE a.length 0 (Q.str.length+1) g Q (by omega) (by rw[C.str,jw C.ll];omega) C (r.ng.trans U) (by simp only[List.drop_zero];omega);simp only[List.drop_zero] at E;have F:∃ z3,(∃ B,(if(g||decide (0 < a.length))=true then wS [62] v else some (some v))=some (some B)/\Wd v B z3 1/\At s lim ar b (ks a.length) B)/\z3=(if(g||decide (0 < a.length))=true then [62] else []):=by
  have al:=E.ln
  by_cases o:(g||decide (0 < a.length))=true
  ·rw[if_pos o,if_pos o]
   exact⟨_,⟨_,ybl (by simp;omega),ya9 v [62],S.wr _⟩,rfl⟩
  ·rw[if_neg o,if_neg o]
   exact⟨_,⟨v,rfl,(Wd.refl v).mono (by omega),S⟩,rfl⟩
 obtain⟨z3,⟨B,e3,F,Z⟩,O⟩:=F;refine⟨B,?_,?_,Z⟩
 ·unfold xd
  rw[e1,bindM_ok,e2,bindM_ok];exact e3
 ·rcases m with⟨H,m⟩|⟨ho,m⟩
  ·refine(((m.trans E).trans F).mono (by omega)).eq ?_
   rw[M,O,H]
  ·exact(((m.trans E).trans F).mono (by omega)).any ho x
theorem g_dyn {ng:Bool}{s:List UInt8}{sg:Nat}{lim d ar b k:Nat}{l:UInt8}{nm:List UInt8}{n m:Nat}{f:Bool}{a:List ya}{l2:UInt8}{nm2:List UInt8}{f2:Bool}{ks:Nat->Nat}{k':Nat}
  (Z:Ch s lim k 68) (hB:ydd s sg lim ar b (k+1) n (ks 0)) (u:a≠[]) (ha:∀ i,i < a.length->j6 ng s true lim .bound d ar (b+n) (ks i) (a.getD i .zero) (ks (i+1)))
  (hh:∀ i,i < a.length->ks i < lim/\s.getD (ks i) 0≠69/\ks i < ks (i+1)) (J:Ch s lim (ks a.length) 69) (Y:Ch s lim (ks a.length+1) 76) (hv:b62 (Vw s lim (ks a.length+2))=some ((m:Int),Vw s lim k')) (hk:k'<=lim) (hm:m<=b) (I:b+n<=20) :
  j6 ng s true lim .type (d+1) ar b k (.mk 16 l nm n f (a++[.mk 19 l2 nm2 m f2 []])) k':=by
 obtain⟨xs,D,j⟩:=x8 (P:=fun i x=>qq ng .bound (b+n) (a.getD i .zero) x/\ytz xd ng s lim ar (b+n) (ks i) (a.getD i .zero) (ks (i+1)) (3*d+2) x) a.length ha;refine⟨_,.dyn (by omega) hm u D (fun i hi=>(j i hi).1),fun N st hN o K hb=>?_⟩;unfold lev at *;simp only[if_true] at *;obtain⟨N,rfl⟩:∃ M,N=M+1:=⟨N-1,by omega⟩
 show ∃ a4 g,gw (jg N) st=_/\_
 rw[zd] at *;simp only[List.map_append,List.map_nil,List.map_cons,List.sum_append,List.sum_nil,List.sum_cons,zd] at *;obtain⟨w1,A1⟩:=j0 (.refl st) o (k':=k+1) Z.1;obtain⟨s2,e2,w2,A2⟩:=zi [100,121,110,32] 4 w1 A1 (by simp) (by omega);have az:=w2.ln;obtain⟨s3,e3,z,B⟩:=yhs A2 hB I (by omega);have z:=w2.trans z;have a0:=z.ln;have a2:=B.pl;obtain⟨S,e4,F,V⟩:=ydm (sep:=[32,43,32]) (ng:=ng) D (by simp) (fun i h st o K hb=>(j i h).2 N st (by omega) o K hb) hh J a.length 0 (s3.str.length+1) s3 (by omega) (by rw[B.str,jw B.ll];omega) B (z.ng.trans K) (by simp only[List.drop_zero];omega);simp only[List.drop_zero] at F;have F:Wd st S (([]++[100,121,110,32])++qh n b++zl [32,43,32] xs) _:=z.trans F;obtain⟨w5,W⟩:=j0 F V (k':=ks a.length+1) J.1;have t:ylz (jg N) (st.go (Vw s lim (k+1)))=some (some (S.go (Vw s lim (ks a.length+1)))):=by
  unfold ylz;rw[e2,bindM_ok,e3,bindM_ok,e4,bindM_ok,yfx V J]
 obtain⟨p,O⟩:∃ p,S.go (Vw s lim (ks a.length+1))=p:=⟨_,rfl⟩;rw[O] at t w5 W;have U:Wd st { p with life:=st.life } _ _:=w5.post (Wd.same (b:={ p with life:=st.life }) rfl rfl rfl rfl rfl);have C:At s lim ar b (ks a.length+1) { p with life:=st.life }:=W.life' _ o.life o.b20;obtain⟨e,v⟩:∃ e,({ p with life:=st.life } : RS)=e:=⟨_,rfl⟩;rw[v] at U C;have Q:xs≠[]:=fun h=>by rw[h] at D;exact u (List.length_eq_zero_iff.1 D.symm)
 have r:ygc (([]++[100,121,110,32])++qh n b++zl [32,43,32] xs):=qw _ (yni _ _ Q fun i hi=>ykz (j i (by omega)).1 (.inr rfl));have h7:∃ y,yc4 e=some (some y)/\Wd st y ((([]++[100,121,110,32])++qh n b++zl [32,43,32] xs)++(if m=0 then [] else [32,43,32]++zc m b)) (0+4+90+2000*(a.map ya.wt).sum+5)/\At s lim ar b k' y:=by
  obtain⟨A,q⟩:=j0 U C (k':=k') hk;unfold yc4;rw[if_pos (by rw[C.ch Y];rfl),show e.str.tail=Vw s lim (ks a.length+2) by rw[C.ch Y];rfl,hv];dsimp only;rw[if_neg (by omega)]
  by_cases X:m=0
  ·rw[if_pos (by omega),if_pos X]
   exact⟨_,rfl,(A.mono (by omega)).eq (by simp),q⟩
  ·rw[if_neg (by omega),if_neg X]
   have h8:∃ E,(if e.last=32 then some (some (e.go (Vw s lim k'))) else wS [32] (e.go (Vw s lim k')))=some (some E)/\Wd st E ((([]++[100,121,110,32])++qh n b++zl [32,43,32] xs)++[32]) (0+4+90+2000*(a.map ya.wt).sum+0+0+0+1)/\At s lim ar b k' E:=by
    by_cases c:e.last=32
    ·rw[if_pos c]
     refine⟨_,rfl,(A.over_add ?_ [32]).mono (by omega),q⟩
     show e.skip=true\/e.over
     by_cases w:e.skip=true
     ·exact .inl w
     ·right
      apply Classical.byContradiction
      intro L;have:=(U.la (by simpa using w) L).1 c;obtain⟨dd,h1,h2⟩:=r;unfold ycy at this;rw[h1] at this;exact h2 this
    ·rw[if_neg c]
     exact zi [32] 1 (A.mono (by omega)) q (by simp) (by omega)
   obtain⟨E,e8,w8,A8⟩:=h8;obtain⟨s9,e9,w9,A9⟩:=zi [43,32] 2 w8 A8 (by simp) (by omega);have a1:=w9.ln;obtain⟨R,H,T,G⟩:=ye7 A9 hm (by omega);rw[e8,bindM_ok,e9,bindM_ok,H];exact⟨R,rfl,((w9.trans T).mono (by omega)).eq (by simp),G⟩
 obtain⟨y,e7,A,q⟩:=h7;unfold gw;rw[o.ch Z];dsimp only;rw[if_neg (by decide),if_neg (by decide),if_neg (by decide),if_neg (by decide),if_neg (by decide),if_neg (by decide),if_neg (by decide),if_neg (by decide),if_neg (by decide),if_neg (by decide),if_pos rfl,t,bindM_ok,v,e7];exact⟨y,false,rfl,(A.mono (by omega)).eq (by simp),q⟩
theorem yyj {ng:Bool}{s:List UInt8}{lim d ar b k:Nat}{l:UInt8}{nm:List UInt8}{n:Nat}{f:Bool}{k':Nat}
  (j:Ch s lim k 76) (p:b62 (Vw s lim (k+1))=some ((n:Int),Vw s lim k')) (m:k'<=lim) (c:n<=b):j6 ng s true lim .arg d ar b k (.mk 19 l nm n f []) k':=by
 refine⟨_,.life c,fun N st t a u hb=>?_⟩;rw[zd] at *;simp only[List.map_nil,List.sum_nil] at *;obtain⟨e,g⟩:=j0 (.refl st) a m;have o:=e.ln;obtain⟨q,i,r,h⟩:=ye7 g c (by omega);unfold yb7;rw[a.ch j];dsimp only;rw[if_pos rfl,p];exact⟨q,i,((e.trans r).mono (by omega)).eq (by simp),h⟩
theorem yyp {ng:Bool}{s:List UInt8}{lim d ar b k:Nat}{t:ya}{k':Nat}(c:Ch s lim k 75)(h:j6 ng s false lim .const d ar b (k+1) t k'):j6 ng s true lim .arg d ar b k t k':=by
 obtain⟨x,sx,j⟩:=h;refine⟨x,.argC sx,fun N st p a i hb=>?_⟩;unfold lev at *;simp only[if_false,Bool.false_eq_true] at *;obtain⟨m,e⟩:=j0 (.refl st) a (k':=k+1) c.1;obtain⟨l,o,g,n,f⟩:=vp (N:=N) j (by omega) i m e (by omega);unfold yb7;rw[a.ch c];dsimp only;rw[if_neg (by decide),if_pos rfl,g];exact⟨l,rfl,(n.mono (by omega)).eq (by simp),f⟩
theorem yyo {ng:Bool}{s:List UInt8}{lim d ar b k:Nat}{t:ya}{k':Nat}(l:k < lim)(g:s.getD k 0≠76)(i:s.getD k 0≠75)(h:j6 ng s false lim .type d ar b k t k'):j6 ng s true lim .arg d ar b k t k':=by
 obtain⟨x,sx,m⟩:=h;refine⟨x,.argT sx,fun N st q a j hb=>?_⟩;unfold lev at *;simp only[if_false,Bool.false_eq_true] at *;obtain⟨n,p,f,o,e⟩:=m N st (by omega) a j hb;unfold yb7;rw[a.ch (c:=s.getD k 0) ⟨l,rfl⟩];dsimp only;rw[if_neg g,if_neg i,f];exact⟨n,rfl,o,e⟩
theorem yyl {ng:Bool}{s:List UInt8}{lim d ar b k:Nat}{l:UInt8}{nm:List UInt8}{n:Nat}{f:Bool}(c:Ch s lim k 112):j6 ng s true lim .const (d+1) ar b k (.mk 21 l nm n f []) (k+1):=by
 refine⟨_,.hole,fun N st q a r hb=>?_⟩;obtain⟨N,rfl⟩:∃ M,N=M+1:=⟨N-1,by omega⟩
 show ∃ m g,ybv (jg N) st=_/\_
 rw[zd] at *;simp only[List.map_nil,List.sum_nil] at *;obtain⟨o,e⟩:=j0 (.refl st) a (k':=k+1) c.1;obtain⟨j,i,p,h⟩:=zi [95] 1 o e (by simp) (by omega);unfold ybv;rw[a.ch c];dsimp only;rw[if_neg (by decide),if_pos rfl,i];exact⟨j,false,rfl,(p.mono (by omega)).eq (by simp),h⟩
theorem ytl (l:UInt8)(h:(yx l).1≠0):(l≠98/\l≠99/\l≠66/\l≠112)/\xt l=if(yx l).2 then 1 else 2:=by
 refine⟨⟨?_,?_,?_,?_⟩,?_⟩
 ·rintro rfl;exact h rfl
 ·rintro rfl;exact h rfl
 ·rintro rfl;exact h rfl
 ·rintro rfl;exact h rfl
 ·unfold yx at h |-
  unfold xt;generalize l.toNat=m at *
  split<;>simp_all
theorem ytc (n:Nat):Lib.decDigits n≠[]/\(Lib.decDigits n).getLast?≠some 32:=by
 have a:=Lib.decDigits_length n;have c:=Lib.nDigits_pos n;refine⟨fun h=>by rw[h] at a;simp at a;omega,fun h=>?_⟩;have b:=List.mem_of_getLast? h;rw[Lib.decDigits_eq,List.mem_map] at b;obtain⟨i,_,hi⟩:=b;unfold Lib.dg at hi;have:=congrArg UInt8.toNat hi;rw[UInt8.toNat_ofNat'] at this;have d:n / 10 ^ (Lib.nDigits n-1-i) % 10 < 10:=Nat.mod_lt _ (by omega);simp at this;omega
theorem g_num {ng:Bool}{s:List UInt8}{lim d ar b k:Nat}{l:UInt8}{nm:List UInt8}{n:Nat}{f:Bool}{k1 g k':Nat}
  (R:Ch s lim k l) (v:(f=true/\Ch s lim (k+1) 110/\k1=k+2)\/(f=false/\¬ Ch s lim (k+1) 110/\k1=k+1)) (S:j5 (Vw s lim k1) 0 0=some (g,n,Vw s lim k')) (hk:k'<=lim) (h1:1<=g) (z:g<=16) (a:qv l n f=true) :
  j6 ng s true lim .const (d+1) ar b k (.mk 20 l nm n f []) k':=by
 refine⟨_,.num a,fun N st hN A hg hb=>?_⟩;obtain⟨N,rfl⟩:∃ M,N=M+1:=⟨N-1,by omega⟩
 show ∃ al g,ybv (jg N) st=_/\_
 rw[zd] at *;simp only[List.map_nil,List.sum_nil] at *;obtain⟨L,B⟩:=(ylr _ 0 0 _ _ _ S z).2 (by omega) (by omega);have E:n < 18446744073709551616:=Nat.lt_of_lt_of_le L (Nat.le_trans (Nat.pow_le_pow_right (by omega) z) (by decide));have p:(f=true->xt l=1)/\xt l≠0/\l≠66/\l≠112:=by
  unfold qv at a
  by_cases c:l=98
  ·subst c;simp at a;exact⟨fun h=>by rw[h] at a;simp at a,by decide,by decide,by decide⟩
  ·by_cases e:l=99
   ·subst e;simp at a;exact⟨fun h=>by rw[h] at a;simp at a,by decide,by decide,by decide⟩
   ·rw[if_neg c,if_neg e] at a
    dsimp only at a
    split at a
    ·cases a
    ·rename_i y
     obtain⟨⟨_,_,q3,q4⟩,F⟩:=ytl l y;refine⟨fun h=>?_,?_,q3,q4⟩
     ·rw[F]
      split at a
      ·rw[h] at a;simp at a
      ·rename_i Y;rw[if_pos (by simpa using Y)]
     ·rw[F];split<;>decide
 have hS:∃ o,(if xt l=1/\(Vw s lim (k+1)).head? = some 110 then wS [45] (st.go (Vw s lim (k+1)).tail) else some (some (st.go (Vw s lim (k+1)))))=some (some o)/\Wd st o (if f then [45] else []) 1/\At s lim ar b k1 o:=by
  rcases v with⟨rfl,v,rfl⟩|⟨rfl,v,rfl⟩
  ·obtain⟨P,H⟩:=j0 (.refl st) A (k':=k+2) v.1
   rw[if_pos ⟨p.1 rfl,by rw[v.vw A.ll];rfl⟩,show(Vw s lim (k+1)).tail=Vw s lim (k+2) by rw[v.vw A.ll];rfl];obtain⟨o,J,Q,I⟩:=zi [45] 1 P H (by simp) (by omega);exact⟨o,J,(Q.mono (by omega)).eq (by simp),I⟩
  ·obtain⟨P,H⟩:=j0 (.refl st) A (k':=k+1) R.1
   have O:(Vw s lim (k+1)).head?≠some 110:=by have:=H.nch v;exact this
   rw[if_neg (fun h=>O h.2)];exact⟨_,rfl,P.mono (by omega),H⟩
 obtain⟨o,J,Q,I⟩:=hS;obtain⟨G,j⟩:=j0 Q I hk;have ae:=G.ln;have C:∃ i,gt (xt l) o=some (some i)/\Wd st i (gv l n f) 30/\At s lim ar b k' i:=by
  unfold gt;rw[I.str,S];dsimp only;rw[if_neg (by omega)];have D:xt l≠3->xt l≠4->l≠98->l≠99->∃ i,(if xt l=3 then yji n g (o.go (Vw s lim k')) else if xt l=4 then yjh n g (o.go (Vw s lim k')) else yll n g (o.go (Vw s lim k')))=some (some i)/\Wd st i (gv l n f) 30/\At s lim ar b k' i:=by
   intro Z h4 c e;rw[if_neg Z,if_neg h4];unfold yll;rw[if_neg (by omega)];have ac:=yag n E;obtain⟨q1,q2⟩:=ytc n;obtain⟨s7,X,w7,z1,z2,z3,z4,z5⟩:=yrn (st:=o.go (Vw s lim k')) (t:=Lib.decDigits n) (l:=48) (by omega) (by decide) q1 q2;refine⟨s7,X,((G.trans w7).mono (by omega)).eq ?_,⟨z1.trans j.str,z2.trans j.off,z3.trans j.orig,z4.trans j.life,j.pl,j.ll,j.b20,fun h=>z5.trans (j.ard h)⟩⟩;unfold gv;rw[if_neg c,if_neg e]
   cases f<;>rfl
  by_cases c:l=98
  ·subst c
   rw[if_pos (by decide)];have m:n<=1/\f=false:=by unfold qv at a;simp at a;exact a
   have w:¬ 1 < g:=fun h=>by
    have:=B h;have:16<=16 ^ (g-1):=by
     obtain⟨q,rfl⟩:∃ q,g=q+2:=⟨g-2,by omega⟩
     show 16<=16 ^ (q+1)
     rw[Nat.pow_succ];have:0 < 16 ^ q:=Nat.pow_pos (by omega);omega
    omega
   unfold yji;rw[if_neg w];obtain⟨m,rfl⟩:=m
   by_cases y:n=0
   ·rw[if_pos y]
    obtain⟨i,u,x,r⟩:=zi [102,97,108,115,101] 5 G j (by simp) (by omega);exact⟨i,u,(x.mono (by omega)).eq (by unfold gv;rw[if_pos (show(98:UInt8)=98 from rfl),if_neg (show ¬ n=1 by omega)];rfl),r⟩
   ·rw[if_neg y,if_pos (by omega)]
    obtain⟨i,u,x,r⟩:=zi [116,114,117,101] 4 G j (by simp) (by omega);exact⟨i,u,(x.mono (by omega)).eq (by unfold gv;rw[if_pos (show(98:UInt8)=98 from rfl),if_pos (show n=1 by omega)];rfl),r⟩
  ·by_cases e:l=99
   ·subst e
    rw[if_neg (by decide),if_pos (by decide)];have m:(32<=n/\n<=126/\n≠39/\n≠34/\n≠92)/\f=false:=by unfold qv at a;simpa using a
    have w:¬ 6 < g:=fun h=>by
     have:=B (by omega);have:16 ^ 2<=16 ^ (g-1):=Nat.pow_le_pow_right (by omega) (by omega);omega
    unfold yjh;rw[if_neg w];obtain⟨m,rfl⟩:=m;obtain⟨i,u,x,r⟩:=zi [39] 1 G j (by simp) (by omega);obtain⟨s5,V,w5,T⟩:=zi [UInt8.ofNat n] 1 x r (by simp) (by omega);obtain⟨s6,W,w6,U⟩:=zi [39] 1 w5 T (by simp) (by omega);rw[u,bindM_ok,if_pos (by omega),V,bindM_ok,W];exact⟨s6,rfl,(w6.mono (by omega)).eq (by unfold gv;rw[if_neg (show ¬ (99:UInt8)=98 by decide),if_pos (show(99:UInt8)=99 from rfl)];rfl),U⟩
   ·have K:(yx l).1≠0:=by
     intro y;unfold qv at a;rw[if_neg c,if_neg e] at a;dsimp only at a;rw[if_pos y] at a;cases a
    obtain⟨_,F⟩:=ytl l K;exact D (by rw[F];split<;>decide) (by rw[F];split<;>decide) c e
 obtain⟨i,u,x,r⟩:=C;unfold ybv;rw[A.ch R];dsimp only;rw[if_neg p.2.2.1,if_neg p.2.2.2,if_neg p.2.1,J,bindM_ok,u];exact⟨i,false,rfl,x.mono (by omega),r⟩
theorem yq9 {s:List UInt8}{sg:Nat}{hr:Bool}{lim:Nat}{md:Sm}{d ar b k:Nat}{t:ya}{k':Nat}(h:Sp s sg hr lim md d ar b k t k')(a:hr=true)(c:md≠.arg):0 < d:=by
 cases h<;>first|(cases a;done)|exact Nat.succ_pos _|exact absurd rfl c
theorem yxm {ng:Bool}{s:List UInt8}{sg:Nat}{hr:Bool}{lim:Nat}{md:Sm}{d ar b k:Nat}{t:ya}{k':Nat}(h:Sp s sg hr lim md d ar b k t k')(a:lim<=s.length):j6 ng s hr lim md d ar b k t k':=by
 induction h with
 | here _ m=>exact yym (m a)
 | back c e j l n q o m=>exact yyn c e j l n q (yq9 o rfl c) (m (by have:=j.1;omega))
 | crate c e j l=>exact yvm c e j l
 | impl c e j _ _ f g=>exact yyk c e j (f a) (g a)
 | timpl c e j _ _ _ f g x=>exact yvk c e j (f a) (g a) (x a)
 | tdef c _ _ f g=>exact yyi c (f a) (g a)
 | nested c e _ j l n m=>exact ysw c e (m a) j l n
 | gen c _ e j f g=>exact g_gen c (f a) (fun i hi=>g i hi a) (fun i hi=>⟨(qm (e i hi) a).1,gy (qm (e i hi) a).2.2.2,(qm (e i hi) a).2.1⟩) j
 | tpath h m=>exact yvj (qm h a).1 (ydh h rfl rfl) (m a)
 | basic c e=>exact yvo c e
 | array c _ _ f g=>exact yvp c (f a) (g a)
 | slice c _ m=>exact yvl c (m a)
 | tuple c A e j g=>exact yvi c A (fun i hi=>g i hi a) (fun i hi=>⟨(qm (e i hi) a).1,gy (qm (e i hi) a).2.2.2,(qm (e i hi) a).2.1⟩) j
 | ref c e j m=>exact g_ref c e (yaa j a).1 (qm j a).1 (m a)
 | ptr c _ m=>exact g_ptr c (m a)
 | fn c e j l r n p q o w f g=>
  refine g_fn c e j l (fun i hi=>f i hi a) (fun i hi=>⟨(qm (r i hi) a).1,gy (qm (r i hi) a).2.2.2,(qm (r i hi) a).2.1⟩) n (g a) q (fun v=>⟨o v,?_⟩) (fun v y=>?_) w
  ·exact(sp_u p rfl (o v).2 (.inr (by rw[(o v).2];decide))).2
  ·have:=(sp_u p rfl y (.inr (by rw[y];decide))).1
   rw[v] at this;cases this
 | dyn c e j l n q o w r p f=>exact g_dyn c e j (fun i hi=>f i hi a) (fun i hi=>⟨(qm (l i hi) a).1,gy (qm (l i hi) a).2.2.2,(qm (l i hi) a).2.1⟩) n q o w r p
 | life c e j l=>exact yyj c e j l
 | argC c _ m=>exact yyp c (m a)
 | argT h m=>exact yyo (qm h a).1 (yaa h a).1 (yaa h a).2 (m a)
 | hole c=>exact yyl c
 | num c e j l n q o=>exact g_num c e j l n q o
 | bound B _ e j l f g=>
  refine yvn B (f a) e (fun i hi=>g i hi a) (fun i hi=>?_) l;obtain⟨n,q,nm2,n2,f2,l2,t,u,o,w,r⟩:=e i hi;have z:=ydf r;rw[jw a,jw a] at z;have:=(qm (j i hi) a).2.1;have:=n.1;omega
end Go.Proofs.YtfckcdbpiepchaaGreatDoor
