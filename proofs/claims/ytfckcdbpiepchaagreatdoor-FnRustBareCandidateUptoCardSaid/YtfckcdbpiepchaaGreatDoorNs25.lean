import Derived.Test.YtfckcdbpiepchaaGreatDoorNs13
import Derived.Test.YtfckcdbpiepchaaGreatDoorNs24
namespace Go.Proofs.YtfckcdbpiepchaaGreatDoor
open Go.RowKit
set_option maxRecDepth 100000
set_option maxHeartbeats 8000000
set_option linter.all false
theorem ytw {l:UInt8}{x:List UInt8}(h:kw l=some x):gr .type l=true/\kt l=false/\l≠95:=by
 have a:=yc6 h;refine⟨?_,?_,?_⟩
 ·simp only[gr,h,Option.isSome_some];simp
 ·unfold kt;exact decide_eq_false (by omega)
 ·rintro rfl;exact absurd a.1 (by decide)
theorem yt9 {s:List UInt8}{W:WS}(m:W.out <+: s)(h:Pc)(d b:Nat){l:UInt8}{nm:List UInt8}{n:Nat}{f:Bool}{x:List UInt8}(g:kw l=some x):qg s W (yc h (.mk 7 l nm n f [])) true .type (d+1) b (.mk 7 l nm n f []):=by
 obtain⟨b1,i,j⟩:=ytw g;have hw:∀ w,yc h (.mk 7 l nm n f []) w=w.put [l]:=fun w=>rfl;refine⟨fun w=>by rw[hw];exact yj _ _,fun w=>by rw[hw];exact kq w b1 i j,fun ar w k hb e a=>?_⟩;rw[hw] at e a |-;refine⟨(za _ _).2.2.2,qe k _,fun sg lim c=>?_⟩;obtain⟨o,p⟩:=kp m e c.ll c.el;rw[p];exact .basic o g
theorem yua {s:List UInt8}{W:WS}(r:W.out <+: s)(g:Pc){d b:Nat}{l:UInt8}{nm:List UInt8}{n:Nat}{f:Bool}{t c:ya}
  (j:qg s W (g 0 t) false .type d b t) (e:qg s W (g 0 c) false .const d b c):qg s W (yc g (.mk 8 l nm n f [t,c])) true .type (d+1) b (.mk 8 l nm n f [t,c]):=by
 have hw:∀ w,yc g (.mk 8 l nm n f [t,c]) w=g 0 c (g 0 t (w.put [65])):=fun w=>by simp[yc,ya.kind,ya.kids,zk]
 refine⟨fun w=>by rw[hw];exact(((yj _ _)).trans (j.ext _)).trans (e.ext _),fun w=>by rw[hw];exact(((kq w (by decide) (by decide) (by decide))).trans (j.ext _)).trans (e.ext _),fun ar w v hb h i=>?_⟩;rw[hw] at h i |-;have p:=j.res ar (w.put [65]) (qe v _) ((za _ _).2.2.2.trans hb) ((e.ext _).trans h) ((e.beg _).fl r h);have q:=e.res ar (g 0 t (w.put [65])) p.inv (p.bd.trans ((za _ _).2.2.2.trans hb)) h i;refine⟨q.bd.trans (p.bd.trans (za _ _).2.2.2),q.inv,fun sg lim m=>?_⟩;have u:=p.sp sg lim (m.sub ((yj _ _)).o.length_le (e.ext _).o.length_le (xc (e.ext _).k));have z:=q.sp sg lim (m.sub (((yj _ _)).trans (j.ext _)).o.length_le (Nat.le_refl _) (Nat.le_refl _));have a:=(j.ext (w.put [65])).trans (e.ext _);obtain⟨y,x⟩:=kp r (a.trans h) m.ll (Nat.le_trans a.o.length_le m.el);rw[x] at u;exact .array y u z
theorem yn7 {s:List UInt8}{W:WS}(y:W.out <+: s){f:WS->WS}{g:WS->WS}{c:UInt8}{d b:Nat}{t x:ya}(n:∀ w,f w=g (w.put [c]))(i:gr .type c=true)(j:kt c=false)(l:c≠95)
  (e:qg s W g false .type d b t) (p:∀ sg lim ar k k',Ch s lim k c->Sp s sg false lim .type d ar b (k+1) t k'->Sp s sg true lim .type (d+1) ar b k x k'):qg s W f true .type (d+1) b x:=by
 refine⟨fun w=>by rw[n];exact(yj _ _).trans (e.ext _),fun w=>by rw[n];exact(kq w i j l).trans (e.ext _),fun ar w u hb m a=>?_⟩;rw[n] at m a |-;have q:=e.res ar (w.put [c]) (qe u _) ((za _ _).2.2.2.trans hb) m a;refine⟨q.bd.trans (za _ _).2.2.2,q.inv,fun sg lim h=>?_⟩;have r:=q.sp sg lim (h.sub ((yj _ _)).o.length_le (Nat.le_refl _) (Nat.le_refl _));obtain⟨z,v⟩:=kp y ((e.ext _).trans m) h.ll (Nat.le_trans (e.ext _).o.length_le h.el);rw[v] at r;exact p sg lim ar _ _ z r
theorem yt6 {s:List UInt8}{W:WS}(e:W.out <+: s)(a:Pc){d b:Nat}{l:UInt8}{nm:List UInt8}{n:Nat}{f:Bool}{t:ya}
  (g:qg s W (a 0 t) false .type d b t):qg s W (yc a (.mk 9 l nm n f [t])) true .type (d+1) b (.mk 9 l nm n f [t]):=
 yn7 e (c:=83) (fun w=>by simp[yc,ya.kind,ya.kids,zk]) (by decide) (by decide) (by decide) g fun _ _ _ _ _=>.slice
theorem w_ptr {s:List UInt8}{W:WS}(a:W.out <+: s)(g:Pc){d b k:Nat}{l:UInt8}{nm:List UInt8}{n:Nat}{f:Bool}{t:ya}(i:k=13\/k=14)
  (e:qg s W (g 0 t) false .type d b t):qg s W (yc g (.mk k l nm n f [t])) true .type (d+1) b (.mk k l nm n f [t]):=by
 rcases i with rfl|rfl
 ·exact yn7 a (c:=80) (fun w=>by simp[yc,ya.kind,ya.kids,zk]) (by decide) (by decide) (by decide) e fun _ _ _ _ _ h=>.ptr (.inl ⟨rfl,h⟩)
 ·exact yn7 a (c:=79) (fun w=>by simp[yc,ya.kind,ya.kids,zk]) (by decide) (by decide) (by decide) e fun _ _ _ _ _ h=>.ptr (.inr ⟨rfl,h⟩)
theorem w_ref {s:List UInt8}{W:WS}(A:W.out <+: s)(v:Pc){d b k:Nat}{l:UInt8}{nm:List UInt8}{n:Nat}{f:Bool}{t:ya}(x:k=11\/k=12)(H:n<=b)(z:n<=4611686018427387904)
  (q:qg s W (v 0 t) false .type d b t):qg s W (yc v (.mk k l nm n f [t])) true .type (d+1) b (.mk k l nm n f [t]):=by
 obtain⟨c,j,e,g,i,p⟩:∃ c:UInt8,c=zk k/\gr .type c=true/\kt c=false/\c≠95/\∀ lim kk,Ch s lim kk c->(k=11/\Ch s lim kk 82)\/(k=12/\Ch s lim kk 81):=by
  rcases x with rfl|rfl
  ·exact⟨82,rfl,by decide,by decide,by decide,fun _ _ h=>.inl ⟨rfl,h⟩⟩
  ·exact⟨81,rfl,by decide,by decide,by decide,fun _ _ h=>.inr ⟨rfl,h⟩⟩
 by_cases F:n=0
 ·subst F
  exact yn7 A (c:=c) (fun w=>by rcases x with rfl|rfl<;>(rw[j];simp[yc,ya.kind,ya.kids,ya.num])) e g i q fun _ lim _ kk _ h=>.ref (p lim kk h) (.inl ⟨rfl,rfl⟩)
 ·have hw:∀ w,yc v (.mk k l nm n f [t]) w=v 0 t ((w.put [c]).put (76::jd n)):=fun w=>by
   have:0 < n:=by omega
   rcases x with rfl|rfl<;>(rw[j];simp[yc,ya.kind,ya.kids,ya.num,this])
  refine⟨fun w=>by rw[hw];exact((yj _ _).trans (yj _ _)).trans (q.ext _),fun w=>by rw[hw];exact((kq w e g i).trans (yj _ _)).trans (q.ext _),fun ar w G hb u m=>?_⟩;rw[hw] at u m |-;have B:=q.res ar ((w.put [c]).put (76::jd n)) (qe (qe G _) _) ((za _ _).2.2.2.trans ((za _ _).2.2.2.trans hb)) u m;refine⟨B.bd.trans ((za _ _).2.2.2.trans (za _ _).2.2.2),B.inv,fun sg lim a=>?_⟩;have L:=B.sp sg lim (a.sub ((yj _ _).trans (yj _ _)).o.length_le (Nat.le_refl _) (Nat.le_refl _));have r:=(q.ext ((w.put [c]).put (76::jd n)));have C:=(yj (w.put [c]) (76::jd n)).trans r;obtain⟨I,y⟩:=kp A (C.trans u) a.ll (Nat.le_trans C.o.length_le a.el);obtain⟨D,E,-⟩:=vq A (r.trans u) rfl (lim:=lim) (Nat.le_trans r.o.length_le a.el);rw[y] at D;obtain⟨J,K⟩:=ya3 a.ll D;refine .ref (p lim _ I) (.inr ⟨J,?_,?_,H⟩) L
  ·rw[K,yjn n _ z,E]
  ·rw[E];exact Nat.le_trans r.o.length_le a.el
theorem yt4 {s:List UInt8}{W:WS}(p:W.out <+: s)(c:Pc){d b:Nat}{l:UInt8}{nm:List UInt8}{n:Nat}{f:Bool}{a:List ya}
  (y:∀ i,i < a.length->qg s W (c 0 (a.getD i .zero)) false .type d b (a.getD i .zero)):qg s W (yc c (.mk 10 l nm n f a)) true .type (d+1) b (.mk 10 l nm n f a):=by
 have hw:∀ w,yc c (.mk 10 l nm n f a) w=(a.foldl (fun w t=>c 0 t w) (w.put [84])).put [69]:=fun w=>by simp[yc,ya.kind,ya.kids,zk]
 have r:∀ (m:List ya) (w:WS),(∀ i,i < m.length->∀ w,Ext w (c 0 (m.getD i .zero) w))->Ext w (m.foldl (fun w t=>c 0 t w) w):=by
  intro m
  induction m with
  | nil=>exact fun w _=>.refl w
  | cons x m F=>exact fun w h=>(h 0 (by simp) w).trans (F _ fun i hi=>h (i+1) (by simpa using hi))
 have e:∀ w:WS,Ext w (a.foldl (fun w t=>c 0 t w) w):=fun w=>r a w fun i hi w=>(y i hi).ext w;refine⟨fun w=>by rw[hw];exact((yj _ _).trans (e _)).trans (yj _ _),fun w=>by rw[hw];exact((kq w (by decide) (by decide) (by decide)).trans (e _)).trans (yj _ _),fun ar w E hb k u=>?_⟩;rw[hw] at k u |-;have j:=(yj _ _).trans k;obtain⟨A,B,L,K,C,v,D⟩:=yff (f:=fun w t=>c 0 t w) p a y ar (w.put [84]) (qe E _) ((za _ _).2.2.2.trans hb) j (ycx p k);refine⟨(za _ _).2.2.2.trans (A.trans (za _ _).2.2.2),qe B _,fun sg lim g=>?_⟩;have q:vo ((a.foldl (fun w t=>c 0 t w) (w.put [84])).put [69]).backs=vo (a.foldl (fun w t=>c 0 t w) (w.put [84])).backs:=by rw[(za _ _).2.2.1]
 rw[q] at g;have J:=D sg lim (g.sub (yj _ _).o.length_le (yj _ _).o.length_le (Nat.le_refl _));obtain⟨G,H⟩:=kp p ((e _).trans j) g.ll (Nat.le_trans ((e _).trans (yj _ _)).o.length_le g.el);obtain⟨z,I⟩:=kp p k g.ll g.el;rw[I,<-v];rw[<-v] at z;exact .tuple (ks:=fun i=>y8 s lim (K i)) G (by rw[<-H,<-C]) J z
theorem yi0 {l:UInt8}{n:Nat}{f:Bool}(h:qv l n f=true):97<=l.toNat/\l.toNat<=122:=by
 unfold qv at h
 by_cases b:l=98
 ·subst b;decide
 ·by_cases c:l=99
  ·subst c;decide
  ·rw[if_neg b,if_neg c] at h
   dsimp only at h
   split at h
   ·cases h
   ·rename_i d
    unfold yx at d
    split at d<;>first|(rename_i a;rw[a];omega)|(rename_i a;rcases a with a|a|a<;>(rw[a];omega))|exact absurd rfl d
theorem w_num {s:List UInt8}{W:WS}(y:W.out <+: s)(F:Pc)(d b:Nat){l:UInt8}{nm:List UInt8}{n:Nat}{f:Bool}(E:qv l n f=true)(C:n < 18446744073709551616):qg s W (yc F (.mk 20 l nm n f [])) true .const (d+1) b (.mk 20 l nm n f []):=by
 have z:=yi0 E;have I:kt l=false:=by unfold kt;exact decide_eq_false (by omega)
 have J:l≠95:=by rintro rfl;exact absurd z.1 (by decide)
 have b1:gr .const l=true:=by
  show(l != 69)=true
  simp only[bne_iff_ne];rintro rfl;exact absurd z.1 (by decide)
 have q:=yi5 15 n (by simpa using C);have a:=ylp n;obtain⟨i,m,j⟩:∃ c r,qi n++[95]=c::r:=by cases h:qi n++[95] with|nil=>simp at h|cons c r=>exact⟨c,r,rfl⟩
 cases f with
 | false=>
  have hw:∀ w,yc F (.mk 20 l nm n false []) w=(w.put [l]).put (qi n++[95]):=fun w=>by simp[yc,ya.kind,ya.flag,ya.letter,ya.num]
  refine⟨fun w=>by rw[hw];exact(yj _ _).trans (yj _ _),fun w=>by rw[hw];exact(kq w b1 I J).trans (yj _ _),fun ar w B hb p t=>?_⟩;rw[hw] at p t |-;refine⟨(za _ _).2.2.2.trans (za _ _).2.2.2,qe (qe B _) _,fun sg lim e=>?_⟩;have v:=yj (w.put [l]) (qi n++[95]);obtain⟨G,u⟩:=kp y (v.trans p) e.ll (Nat.le_trans v.o.length_le e.el);obtain⟨A,H,-⟩:=vq y p (by rw[j]) (lim:=lim) e.el;rw[u] at A;have g:Vw s lim (y8 s lim w+1)=qi n++95::Vw s lim ((w.put [l]).put (qi n++[95])).out.length:=by
   rw[A,show i::(m++Vw s lim ((w.put [l]).put (qi n++[95])).out.length)=(i::m)++Vw s lim ((w.put [l]).put (qi n++[95])).out.length from rfl,<-j];simp
  rw[H];refine .num G (.inr ⟨rfl,fun h=>?_,rfl⟩) (by rw[g];exact ywl n _ C) (by exact e.el) a q E;have Q:=h.2;obtain⟨P,U,N⟩:∃ c r,qi n=c::r:=by cases h:qi n with|nil=>rw[h] at a;simp at a|cons c r=>exact⟨c,r,rfl⟩
  rw[N] at g;have M:=(ya3 e.ll g).1.2;rw[Q] at M;have R:∀ n c r,qi n=c::r->c≠110:=by
   intro n
   induction n using Nat.strongRecOn with
   | _ n T=>
    intro c r h;have S:∀ k,k < 16->yhc k≠110:=by decide
    rw[qi] at h
    split at h
    ·rename_i L
     obtain⟨rfl,_⟩:=List.cons.inj h;exact S n L
    ·rename_i L
     cases D:qi (n / 16) with
     | nil=>have:=ylp (n / 16);rw[D] at this;simp at this
     | cons c2 V=>
      rw[D] at h;obtain⟨rfl,_⟩:=List.cons.inj h;exact T (n / 16) (by omega) _ _ D
  exact R n P U N M.symm
 | true=>
  have hw:∀ w,yc F (.mk 20 l nm n true []) w=((w.put [l]).put [110]).put (qi n++[95]):=fun w=>by simp[yc,ya.kind,ya.flag,ya.letter,ya.num]
  refine⟨fun w=>by rw[hw];exact((yj _ _).trans (yj _ _)).trans (yj _ _),fun w=>by rw[hw];exact((kq w b1 I J).trans (yj _ _)).trans (yj _ _),fun ar w B hb p t=>?_⟩;rw[hw] at p t |-;refine⟨(za _ _).2.2.2.trans ((za _ _).2.2.2.trans (za _ _).2.2.2),qe (qe (qe B _) _) _,fun sg lim e=>?_⟩;have v:=yj ((w.put [l]).put [110]) (qi n++[95]);have K:=(yj (w.put [l]) [110]).trans v;obtain⟨G,u⟩:=kp y (K.trans p) e.ll (Nat.le_trans K.o.length_le e.el);obtain⟨O,x⟩:=kp y (v.trans p) e.ll (Nat.le_trans v.o.length_le e.el);obtain⟨A,H,-⟩:=vq y p (by rw[j]) (lim:=lim) e.el;rw[u] at O x;rw[x] at A;have g:Vw s lim (y8 s lim w+2)=qi n++95::Vw s lim (((w.put [l]).put [110]).put (qi n++[95])).out.length:=by
   rw[A,show i::(m++Vw s lim (((w.put [l]).put [110]).put (qi n++[95])).out.length)=(i::m)++Vw s lim (((w.put [l]).put [110]).put (qi n++[95])).out.length from rfl,<-j];simp
  rw[H];exact .num G (.inl ⟨rfl,O,rfl⟩) (by rw[g];exact ywl n _ C) (by exact e.el) a q E
theorem yw0 {s:List UInt8}{W:WS}(i:W.out <+: s)(g:Pc)(d b:Nat){l:UInt8}{nm:List UInt8}{n:Nat}{f:Bool} : qg s W (yc g (.mk 21 l nm n f [])) true .const (d+1) b (.mk 21 l nm n f []):=by
 have hw:∀ w,yc g (.mk 21 l nm n f []) w=w.put [112]:=fun w=>rfl;refine⟨fun w=>by rw[hw];exact yj _ _,fun w=>by rw[hw];exact kq w (by decide) (by decide) (by decide),fun ar w h hb e a=>?_⟩;rw[hw] at e a |-;refine⟨(za _ _).2.2.2,qe h _,fun sg lim c=>?_⟩;obtain⟨j,k⟩:=kp i e c.ll c.el;rw[k];exact .hole j
theorem ywy {s:List UInt8}{W:WS}(m:W.out <+: s)(h:ya->WS->WS){d b:Nat}{l:UInt8}{nm:List UInt8}{n:Nat}{f:Bool}(k:n<=b)(e:n<=4611686018427387904):qg s W (vb h (.mk 19 l nm n f [])) true .arg d b (.mk 19 l nm n f []):=by
 have hw:∀ w,vb h (.mk 19 l nm n f []) w=w.put (76::jd n):=fun w=>rfl;refine⟨fun w=>by rw[hw];exact yj _ _,fun w=>by rw[hw];exact kq w (by decide) (by decide) (by decide),fun ar w j hb g c=>?_⟩;rw[hw] at g c |-;refine⟨(za _ _).2.2.2,qe j _,fun sg lim a=>?_⟩;obtain⟨o,i,-⟩:=vq m g rfl (lim:=lim) a.el;obtain⟨p,q⟩:=ya3 a.ll o;exact .life p (by rw[q,yjn n _ e,i]) (by rw[i];exact a.el) k
theorem yw2 {s:List UInt8}{W:WS}(l:W.out <+: s)(e:ya->WS->WS){d b:Nat}{t:ya}(h:t.kind=20\/t.kind=21)(c:qg s W (e t) false .const d b t):qg s W (vb e t) true .arg d b t:=by
 have hw:∀ w,vb e t w=e t (w.put [75]):=fun w=>by
  unfold vb;rw[if_neg (by omega),if_pos h]
 refine⟨fun w=>by rw[hw];exact(yj _ _).trans (c.ext _),fun w=>by rw[hw];exact(kq w (by decide) (by decide) (by decide)).trans (c.ext _),fun ar w k hb g a=>?_⟩;rw[hw] at g a |-;have i:=c.res ar (w.put [75]) (qe k _) ((za _ _).2.2.2.trans hb) g a;refine⟨i.bd.trans (za _ _).2.2.2,i.inv,fun sg lim f=>?_⟩;have j:=i.sp sg lim (f.sub ((yj _ _)).o.length_le (Nat.le_refl _) (Nat.le_refl _));obtain⟨m,h⟩:=kp l ((c.ext _).trans g) f.ll (Nat.le_trans (c.ext _).o.length_le f.el);rw[h] at j;exact .argC m j
theorem yw1 {s:List UInt8}{W:WS}(e:ya->WS->WS){d b:Nat}{t:ya}(n:t.kind<=16)(f:qg s W (e t) false .type d b t):qg s W (vb e t) true .arg d b t:=by
 have hw:∀ w,vb e t w=e t w:=fun w=>by
  unfold vb;rw[if_neg (by omega),if_neg (by omega)]
 refine⟨fun w=>by rw[hw];exact f.ext _,fun w=>?_,fun ar w m hb g a=>?_⟩
 ·rw[hw]
  obtain⟨c,r,i,j,k,l⟩:=f.beg w;exact⟨c,r,yls i,j,k,l⟩
 ·rw[hw] at g a |-
  exact(f.res ar w m hb g a).map fun sg lim _ h=>.argT h
structure yid (s:List UInt8)(W:WS)(f:WS->WS)(Q:Nat->Nat->WS->WS->Prop)(N:WS->Prop)(tb:Nat):Prop where
 ext:∀ w,Ext w (f w)
 beg:∀ w,Ext (f w) W->N w
 res:∀ w,Ink s W w->w.bound=tb->Ext (f w) W->N (f w)->(f w).bound=w.bound/\Ink s W (f w)/\∀ sg lim,yf2 s W w.out.length (f w).out.length (vo (f w).backs) sg lim->Q sg lim w (f w)
theorem yav {f:WS->ya->WS} : ∀ (m:List ya) (w:WS),(∀ i,i < m.length->∀ w,Ext w (f w (m.getD i .zero)))->Ext w (m.foldl f w)
 | [],w,_=>.refl w
 | x::m,w,h=>(h 0 (by simp) w).trans (yav m _ fun i hi=>h (i+1) (by simpa using hi))
theorem yhe {s:List UInt8}{W:WS}{f:WS->ya->WS}{Q:ya->Nat->Nat->WS->WS->Prop}{N:WS->Prop}{tb:Nat} : ∀ (a:List ya),(∀ i,i < a.length->yid s W (fun w=>f w (a.getD i .zero)) (Q (a.getD i .zero)) N tb)->
  ∀ w,Ink s W w->w.bound=tb->Ext (a.foldl f w) W->N (a.foldl f w)->
   (a.foldl f w).bound=w.bound/\Ink s W (a.foldl f w)/\Ext w (a.foldl f w)/\∃ c:Nat->WS,c 0=w/\c a.length=a.foldl f w/\
    ∀ sg lim,yf2 s W w.out.length (a.foldl f w).out.length (vo (a.foldl f w).backs) sg lim->∀ i,i < a.length->Q (a.getD i .zero) sg lim (c i) (c (i+1))
 | [],q,w,j,hb,d,b=>⟨rfl,j,.refl w,fun _=>w,rfl,rfl,fun sg lim m i hi=>by simp at hi⟩
 | t::l,q,w,j,hb,d,b=>by
  rw[List.foldl_cons] at d b |-;have g:yid s W (fun w=>f w t) (Q t) N tb:=q 0 (by simp);have e:∀ i,i < l.length->yid s W (fun w=>f w (l.getD i .zero)) (Q (l.getD i .zero)) N tb:=fun i hi=>q (i+1) (by simpa using hi);have n:Ext (f w t) (l.foldl f (f w t)):=yav l _ fun i hi w=>(e i hi).ext w;have p:N (f w t):=by
   cases l with
   | nil=>exact b
   | cons x l=>
    refine(e 0 (by simp)).beg (f w t) (Ext.trans ?_ d);exact yav l _ fun i hi w=>(e (i+1) (by simpa using hi)).ext w
  obtain⟨r,B,C⟩:=g.res w j hb (n.trans d) p;obtain⟨u,v,h,c,y,z,A⟩:=yhe l e (f w t) B (r.trans hb) d b;refine⟨u.trans r,v,(g.ext w).trans h,fun i=>match i with|0=>w|i+1=>c i,rfl,z,?_⟩
  intro sg lim m i hi
  cases i with
  | zero=>
   have:Q t sg lim w (f w t):=C sg lim (m.sub (Nat.le_refl _) h.o.length_le (xc h.k));rw[<-y] at this;exact this
  | succ i=>exact A sg lim (m.sub (g.ext w).o.length_le (Nat.le_refl _) (Nat.le_refl _)) i (by simpa using hi)
def Nx (W v:WS):Prop:=∃ c r,c≠112/\kt c=false/\c≠95/\Ext (v.put (c::r)) W
theorem Nx.fl {s:List UInt8}{W v:WS}(h:Nx W v)(a:W.out <+: s):Fl s v:=by
 obtain⟨c,r,_,_,_,h⟩:=h;exact ycx a h
theorem Nx.no {s:List UInt8}{W v:WS}(h:Nx W v)(j:W.out <+: s)(lim:Nat):¬ Ch s lim (y8 s lim v) 112:=by
 obtain⟨c,r,e,f,b,g⟩:=h;have a:=g.o.trans j;unfold WS.put at a;dsimp only at a;rw[if_neg (by rw[f];simp;exact fun _=>b),List.nil_append] at a;have d:=ybu a;have i:y8 s lim v=v.out.length:=by
  unfold y8;rw[if_neg (fun h=>b (by rw[<-h.2.2,d]))]
 rw[i];intro h;exact e (by rw[<-d,h.2])
theorem yt8 (hP:xm){s:List UInt8}{W:WS}(F:W.out <+: s)(q h:ya->WS->WS){d e b ar:Nat}{l:UInt8}{nm:List UInt8}{n:Nat}{f:Bool}{p:ya}{a:List ya}(P:e<=d)(K:qg s W (q p) false .path d b p)
  (T:∀ i,i < a.length->∃ nm2 n2 f2 l2 t,a.getD i .zero=.mk 18 l2 nm2 n2 f2 [t]/\zh nm2=true) (ht:∀ i,i < a.length->qg s W (h ((a.getD i .zero).kids.getD 0 .zero)) false .type e b ((a.getD i .zero).kids.getD 0 .zero)) :
  yid s W (wBd q h (.mk 17 l nm n f (p::a))) (fun sg lim w v=>Sp s sg true lim .bound (d+1) ar b (y8 s lim w) (.mk 17 l nm n f (p::a)) (y8 s lim v)) (Nx W) (ar+b):=by
 have hw:∀ w,wBd q h (.mk 17 l nm n f (p::a)) w=a.foldl (ya6 h) (q p w):=fun w=>rfl;have I:∀ i,i < a.length->yid s W (fun w=>ya6 h w (a.getD i .zero)) (fun sg lim w v=>Ch s lim (y8 s lim w) 112/\y8 s lim (w.put (112::vr (a.getD i .zero).name))<=lim/\
   (∃ u,vn (Vw s lim (y8 s lim w+1))=some (some ((a.getD i .zero).name,u,Vw s lim (y8 s lim (w.put (112::vr (a.getD i .zero).name))))))/\
   Sp s sg false lim .type e ar b (y8 s lim (w.put (112::vr (a.getD i .zero).name))) ((a.getD i .zero).kids.getD 0 .zero) (y8 s lim v)) (Fl s) (ar+b):=by
  intro i hi;obtain⟨nm2,n2,f2,l2,t,B,C⟩:=T i hi;have J:(a.getD i .zero).name=nm2:=by rw[B];rfl
  have g:=ht i hi;rw[J];have y:∀ w,ya6 h w (a.getD i .zero)=h ((a.getD i .zero).kids.getD 0 .zero) (w.put (112::vr nm2)):=fun w=>by unfold ya6;rw[J]
  refine⟨fun w=>by rw[y];exact(yj _ _).trans (g.ext _),fun w m=>?_,fun w O hb m j=>?_⟩
  ·rw[y] at m
   exact ycx F ((g.ext _).trans m)
  ·rw[y] at m j |-
   have r:=g.res ar (w.put (112::vr nm2)) (qe O _) ((za _ _).2.2.2.trans hb) m j;refine⟨r.bd.trans (za _ _).2.2.2,r.inv,fun sg lim z=>?_⟩;have S:=r.sp sg lim (z.sub (yj _ _).o.length_le (Nat.le_refl _) (Nat.le_refl _));have N:=g.ext (w.put (112::vr nm2));obtain⟨R,G,-⟩:=vq F (N.trans m) rfl (lim:=lim) (Nat.le_trans N.o.length_le z.el);obtain⟨L,U⟩:=ya3 z.ll R;obtain⟨u,hu⟩:=yjv hP nm2 (Vw s lim (w.put (112::vr nm2)).out.length) C;exact⟨L,by rw[G];exact Nat.le_trans N.o.length_le z.el,⟨u,by rw[U,G];exact hu⟩,S⟩
 have A:∀ w:WS,Ext w (a.foldl (ya6 h) w):=fun w=>yav a w fun i hi w=>(I i hi).ext w;refine⟨fun w=>by rw[hw];exact(K.ext _).trans (A _),fun w m=>?_,fun w O hb m j=>?_⟩
 ·rw[hw] at m
  obtain⟨c,r,h0,B,C,H⟩:=K.beg w;exact⟨c,r,by rintro rfl;exact absurd h0 (by decide),B,C,(H.trans (A _)).trans m⟩
 ·rw[hw] at m j |-
  have D:Fl s (q p w):=by
   cases a with
   | nil=>exact j.fl F
   | cons x Z=>
    refine(I 0 (by simp)).beg _ (Ext.trans ?_ m);exact yav Z _ fun i hi w=>(I (i+1) (by simpa using hi)).ext w
  have M:=K.res ar w O hb ((A _).trans m) D;obtain⟨B,C,H,X,h4,h5,h6⟩:=yhe (f:=ya6 h) (Q:=fun t sg lim w v=>Ch s lim (y8 s lim w) 112/\y8 s lim (w.put (112::vr t.name))<=lim/\
   (∃ u,vn (Vw s lim (y8 s lim w+1))=some (some (t.name,u,Vw s lim (y8 s lim (w.put (112::vr t.name))))))/\
   Sp s sg false lim .type e ar b (y8 s lim (w.put (112::vr t.name))) (t.kids.getD 0 .zero) (y8 s lim v)) a I (q p w) M.inv (M.bd.trans hb) m (j.fl F)
  refine⟨B.trans M.bd,C,fun sg lim z=>?_⟩;have S:=M.sp sg lim (z.sub (Nat.le_refl _) H.o.length_le (xc H.k));have V:=h6 sg lim (z.sub (K.ext _).o.length_le (Nat.le_refl _) (Nat.le_refl _));have E:=j.no F lim;rw[<-h5] at E |-;refine .bound (ks:=fun i=>y8 s lim (X i)) (ms:=fun i=>y8 s lim ((X i).put (112::vr (a.getD i .zero).name))) P (by rw[h4];exact S) (fun i hi=>?_) (fun i hi=>(V i hi).2.2.2) E;obtain⟨R,G,⟨u,L⟩,U⟩:=V i hi;obtain⟨nm2,n2,f2,l2,t,Y,y2⟩:=T i hi;have J:(a.getD i .zero).name=nm2:=by rw[Y];rfl
  rw[J] at G L |-;exact⟨R,G,nm2,n2,f2,l2,t,u,Y,ycl y2,L⟩
theorem yo2 {s:List UInt8}{w W:WS}{n ar b a0 j B sg lim:Nat}(q:W.out <+: s)(l:Ext (w.bind n) W)(hb:w.bound=ar+b)(v:n<=4611686018427387904)(g:yf2 s W a0 j B sg lim)(m:a0<=w.out.length)(k:(w.bind n).out.length<=j)
  (d:n=0->¬ Ch s lim (y8 s lim (w.bind n)) 71):ydd s sg lim ar b (y8 s lim w) n (y8 s lim (w.bind n)):=by
 by_cases f:n=0
 ·subst f
  have hw:w.bind 0=w:=rfl;rw[hw] at d |-;exact .inl ⟨rfl,rfl,d rfl⟩
 ·have hw:w.bind n={ w.put (71::jd (n-1)) with bound:=(w.put (71::jd (n-1))).bound+n,bounds:=(w.put (71::jd (n-1))).bounds++[⟨(w.put (71::jd (n-1))).out.length,(w.put (71::jd (n-1))).bound+n⟩] }:=by
   unfold WS.bind vc;dsimp only;rw[if_neg f,if_neg f]
  have h:Ext (w.put (71::jd (n-1))) W:=by
   refine Ext.trans ?_ l;rw[hw];exact⟨List.prefix_rfl,List.prefix_rfl,List.prefix_rfl,List.prefix_append _ _,List.prefix_rfl⟩
  have e:(w.bind n).out=(w.put (71::jd (n-1))).out:=by rw[hw]
  have p:y8 s lim (w.bind n)=y8 s lim (w.put (71::jd (n-1))):=by rw[hw];rfl
  have a:(w.put (71::jd (n-1))).out.length<=lim:=by rw[<-e];exact Nat.le_trans k g.el
  obtain⟨r,i,-⟩:=vq q h rfl (lim:=lim) a;obtain⟨t,u⟩:=ya3 g.ll r;have c:(⟨(w.put (71::jd (n-1))).out.length,(w.put (71::jd (n-1))).bound+n⟩:Bd)∈W.bounds:=by
   refine l.b.subset ?_;rw[hw];simp
  have hr:=g.rm _ c (Nat.le_trans m (yj _ _).o.length_le) (by rw[<-e];exact k);dsimp only at hr;rw[(za _ _).2.2.2,hb] at hr;rw[p];refine .inr ⟨by omega,t,?_,by rw[i];exact a,by rw[i];omega⟩;rw[u,yjn (n-1) _ (by omega),i]
  congr 2
  omega
theorem yy6 {s:List UInt8}{w v W:WS}{nm:List UInt8}(B:W.out <+: s)(A:Ext v W)(i:v=if nm=[] then w else w.put (75::qs nm))(n:ybe nm=true){lim:Nat}(g:lim<=s.length)(a:v.out.length<=lim)(m:nm=[]->¬ Ch s lim (y8 s lim w) 75) :
  ymn s lim (y8 s lim w) nm (y8 s lim v)/\(nm≠[]->Ch s lim (y8 s lim w) 75):=by
 by_cases b:nm=[]
 ·rw[if_pos b] at i
  subst i;exact⟨.inl ⟨b,rfl,m b⟩,fun h=>absurd b h⟩
 ·rw[if_neg b] at i
  obtain⟨C,o,-⟩:=vq B A i (lim:=lim) a;obtain⟨p,f⟩:=ya3 g C;refine⟨.inr ?_,fun _=>p⟩
  by_cases d:nm=[67]
  ·subst d
   have q:Vw s lim (y8 s lim w+1)=67::Vw s lim v.out.length:=f;obtain⟨j,D⟩:=ya3 g q;refine .inl ⟨rfl,p,j,?_⟩;have k:y8 s lim w+1+1<=lim:=j.1;rw[o];exact vy g a k D.symm
  ·have y:qs nm=vr (nm.map fun c=>if c=45 then 95 else c):=by unfold qs;rw[if_neg d]
   obtain⟨z,k,t,u⟩:=yqy nm (Vw s lim v.out.length) n b d;rw[y] at f;refine .inr ⟨z,p,?_,by rw[f,o];exact k,by rw[o];exact a,t,u,b⟩;obtain⟨c,r,x,e⟩:=yd6 (nm.map fun c=>if c=45 then 95 else c);rw[x] at f;obtain⟨j,-⟩:=ya3 g f;intro h;have l:=j.2.symm.trans h.2
   rcases e with e|e
   ·exact(yow e).2.2.1 l
   ·rw[e] at l;exact absurd l (by decide)
theorem w_fn {s:List UInt8}{W:WS}(B:W.out <+: s)(q:Pc){d b:Nat}{l:UInt8}{nm:List UInt8}{n:Nat}{f:Bool}{a:List ya}{t:ya}(aj:b+n<=20)(ap:ybe nm=true)(aq:ya8 t=false)
  (ha:∀ i,i < a.length->qg s W (q 0 (a.getD i .zero)) false .type d (b+n) (a.getD i .zero)) (ht:qg s W (q 0 t) false .type d (b+n) t) (hu:isU t=true->∀ w,Ext (w.put [117]) (q 0 t w)) :
  qg s W (yc q (.mk 15 l nm n f (a++[t]))) true .type (d+1) b (.mk 15 l nm n f (a++[t])):=by
 have hw:∀ w,∃ e j g p m,e=(w.put [70]).bind n/\j=(if f=true then e.put [85] else e)/\g=(if nm=[] then j else j.put (75::qs nm))/\p=(a.foldl (fun w t=>q 0 t w) g).put [69]/\m=q 0 t p/\
   yc q (.mk 15 l nm n f (a++[t])) w={ m with bound:=m.bound-n }:=fun w=>
  ⟨_,_,_,_,_,rfl,rfl,rfl,rfl,rfl,by
   have h1:(a++[t]).dropLast=a:=List.dropLast_concat;have h2:(a++[t]).getLastD .zero=t:=by simp
   unfold yc;simp only[ya.kids,h1,h2]
   rfl⟩
 have ao:∀ w:WS,Ext w (a.foldl (fun w t=>q 0 t w) w):=fun w=>yav a w fun i hi w=>(ha i hi).ext w;have D:∀ w e j g p m:WS,e=(w.put [70]).bind n->j=(if f=true then e.put [85] else e)->g=(if nm=[] then j else j.put (75::qs nm))->p=(a.foldl (fun w t=>q 0 t w) g).put [69]->m=q 0 t p->
   Ext (w.put [70]) e/\Ext e j/\Ext j g/\Ext g (a.foldl (fun w t=>q 0 t w) g)/\Ext (a.foldl (fun w t=>q 0 t w) g) p/\Ext p m:=by
  rintro w e j g p m rfl rfl rfl rfl rfl;exact⟨ya1 _ _,j8 (yj _ _) (.refl _),j8 (.refl _) (yj _ _),ao _,yj _ _,ht.ext _⟩
 refine⟨fun w=>?_,fun w=>?_,fun ar w hI hb he aa=>?_⟩
 ·obtain⟨e,j,g,p,m,x,r,v,y,z,P⟩:=hw w
  obtain⟨L,I,M,N,J,K⟩:=D w e j g p m x r v y z;rw[P];exact((yj w [70]).trans (L.trans (I.trans (M.trans (N.trans (J.trans K)))))).trans (yep _ _)
 ·obtain⟨e,j,g,p,m,x,r,v,y,z,P⟩:=hw w
  obtain⟨L,I,M,N,J,K⟩:=D w e j g p m x r v y z;rw[P];exact(kq w (by decide) (by decide) (by decide)).trans ((L.trans (I.trans (M.trans (N.trans (J.trans K))))).trans (yep _ _))
 ·obtain⟨e,j,g,p,m,x,r,v,y,z,P⟩:=hw w
  obtain⟨L,I,M,N,J,K⟩:=D w e j g p m x r v y z;rw[P] at he aa |-;have G:Ext m W:=(yep _ _).trans he;have F:=K.trans G;have Z:=J.trans F;have Y:=N.trans Z;have E:=M.trans Y;have an:=I.trans E;have ab:Fl s m:=aa;have ak:Ink s W (w.put [70]):=qe hI _;have S:(w.put [70]).bound=ar+b:=(za _ _).2.2.2.trans hb;have Q:Ink s W e:=by rw[x];exact ylk ak _
  have T:e.bound=ar+(b+n):=by rw[x,(yfl _ _).2.2.2,S];omega
  have R:Ink s W j:=by rw[r];split;exact qe Q _;exact Q
  have U:j.bound=ar+(b+n):=by rw[r];split;exact(za _ _).2.2.2.trans T;exact T
  have al:Ink s W g:=by rw[v];split;exact R;exact qe R _
  have V:g.bound=ar+(b+n):=by rw[v];split;exact U;exact(za _ _).2.2.2.trans U
  have ac:Fl s (a.foldl (fun w t=>q 0 t w) g):=ycx B (by rw[<-y];exact F);obtain⟨h1,h2,h3,ws,h4,h5,h6⟩:=yff (f:=fun w t=>q 0 t w) B a ha ar g al V Z ac;have am:Ink s W p:=by rw[y];exact qe h2 _
  have X:p.bound=ar+(b+n):=by rw[y];exact(za _ _).2.2.2.trans (h1.trans V)
  have hr:=ht.res ar p am X (by rw[<-z];exact G) (by rw[<-z];exact ab);rw[<-z] at hr;refine⟨?_,hr.inv.grow rfl rfl (Nat.le_refl _) (Nat.le_refl _),fun sg lim u=>?_⟩
  ·show m.bound-n=w.bound
   rw[hr.bd,X,hb];omega
  ·have u:yf2 s W w.out.length m.out.length (vo m.backs) sg lim:=u
   show Sp s sg true lim .type (d+1) ar b (y8 s lim w) _ (y8 s lim m)
   have l0:=(yj w [70]).o.length_le;have l1:=L.o.length_le;have l2:=I.o.length_le;have l3:=M.o.length_le;have l4:=N.o.length_le;have l5:=J.o.length_le;have l6:=K.o.length_le;have a8:=u.el;have st:=hr.sp sg lim (u.sub (by omega) (Nat.le_refl _) (Nat.le_refl _));have si:=h6 sg lim (u.sub (by omega) (by omega) (xc (J.trans K).k));obtain⟨p1,p2⟩:=kp B ((L.trans (I.trans E))) u.ll (by omega);obtain⟨p3,p4⟩:=kp (w:=a.foldl (fun w t=>q 0 t w) g) (c:=69) B (by rw[<-y];exact F) u.ll (by rw[<-y];omega);rw[<-y] at p4;rw[<-h5] at p3 p4;have H:s.getD (y8 s lim g) 0≠71/\s.getD (y8 s lim g) 0≠85/\s.getD (y8 s lim g) 0≠75:=by
    rw[<-h4]
    rcases Nat.eq_zero_or_pos a.length with A|A
    ·rw[A] at p3
     rw[p3.2];exact⟨by decide,by decide,by decide⟩
    ·have hh:=(qm (si 0 A) u.ll).2.2.2
     refine⟨?_,?_,?_⟩<;>(intro h;rw[h] at hh;exact absurd hh (by decide))
   obtain⟨a1,a2⟩:=yy6 (lim:=lim) B Y v ap u.ll (by omega) (fun A=>by rw[if_pos A] at v;rw[<-v];exact fun h=>H.2.2 h.2);have C:s.getD (y8 s lim j) 0≠71/\s.getD (y8 s lim j) 0≠85:=by
    by_cases A:nm=[]
    ·rw[if_pos A] at v;rw[<-v];exact⟨H.1,H.2.1⟩
    ·rw[(a2 A).2];exact⟨by decide,by decide⟩
   have hU:(f=true/\Ch s lim (y8 s lim e) 85/\y8 s lim j=y8 s lim e+1)\/(f=false/\¬ Ch s lim (y8 s lim e) 85/\y8 s lim j=y8 s lim e):=by
    cases f with
    | true=>
     rw[if_pos rfl] at r;obtain⟨O,y2⟩:=kp (w:=e) (c:=85) B (by rw[<-r];exact E) u.ll (by rw[<-r];omega);rw[<-r] at y2;exact .inl ⟨rfl,O,y2⟩
    | false=>
     rw[if_neg (by decide)] at r;rw[r] at C;exact .inr ⟨rfl,fun h=>C.2 h.2,by rw[r]⟩
   have ah:¬ Ch s lim (y8 s lim e) 71:=by
    rcases hU with⟨_,O,_⟩|⟨_,_,y2⟩
    ·intro h;exact absurd (O.2.symm.trans h.2) (by decide)
    ·rw[<-y2];exact fun h=>C.1 h.2
   have hB:=yo2 (w:=w.put [70]) (n:=n) B (by rw[<-x];exact an) S (by omega) u l0 (by rw[<-x];omega) (fun _=>by rw[<-x];exact ah);rw[<-x,p2] at hB;rw[p4] at st;refine .fn (ks:=fun i=>y8 s lim (ws i)) p1 hB hU (by rw[h4];exact a1) si p3 st aq (fun au=>?_) aj;have hx:=hu au p;rw[<-z] at hx;obtain⟨O,_⟩:=kp B (hx.trans G) u.ll (Nat.le_trans hx.o.length_le u.el);rw[p4] at O;exact O
theorem w_dyn {s:List UInt8}{W:WS}(L:W.out <+: s)(j:Pc){d b:Nat}{l:UInt8}{nm:List UInt8}{n m:Nat}{f:Bool}{a:List ya}{l2:UInt8}{nm2:List UInt8}{f2:Bool}(N:b+n<=20)(I:a≠[])(hm:m<=b)
  (ha:∀ i,i < a.length->∀ ar,yid s W (wBd (j 1) (j 2) (a.getD i .zero)) (fun sg lim w v=>Sp s sg true lim .bound d ar (b+n) (y8 s lim w) (a.getD i .zero) (y8 s lim v)) (Nx W) (ar+(b+n))) :
  qg s W (yc j (.mk 16 l nm n f (a++[.mk 19 l2 nm2 m f2 []]))) true .type (d+1) b (.mk 16 l nm n f (a++[.mk 19 l2 nm2 m f2 []])):=by
 have hw:∀ w,∃ e c g,e=(w.put [68]).bind n/\c=a.foldl (fun w t=>wBd (j 1) (j 2) t w) e/\g=({ c with bound:=c.bound-n } : WS).put [69]/\
   yc j (.mk 16 l nm n f (a++[.mk 19 l2 nm2 m f2 []])) w=g.put (76::jd m):=fun w=>
  ⟨_,_,_,rfl,rfl,rfl,by
   have J:(a++[ya.mk 19 l2 nm2 m f2 []]).dropLast=a:=List.dropLast_concat;have K:(a++[ya.mk 19 l2 nm2 m f2 []]).getLastD .zero=ya.mk 19 l2 nm2 m f2 []:=by simp
   unfold yc;simp only[ya.kids,J,K]
   rfl⟩
 have S:∀ w:WS,Ext w (a.foldl (fun w t=>wBd (j 1) (j 2) t w) w):=fun w=>yav a w fun i hi w=>(ha i hi 0).ext w;have y:∀ w e c g:WS,e=(w.put [68]).bind n->c=a.foldl (fun w t=>wBd (j 1) (j 2) t w) e->g=({ c with bound:=c.bound-n } : WS).put [69]->
   Ext (w.put [68]) e/\Ext e c/\Ext c g:=by
  rintro w e c g rfl rfl rfl;exact⟨ya1 _ _,S _,(yep _ _).trans (yj _ _)⟩
 refine⟨fun w=>?_,fun w=>?_,fun ar w hI hb R T=>?_⟩
 ·obtain⟨e,c,g,p,u,q,C⟩:=hw w
  obtain⟨A,B,z⟩:=y w e c g p u q;rw[C];exact((yj w [68]).trans (A.trans (B.trans z))).trans (yj _ _)
 ·obtain⟨e,c,g,p,u,q,C⟩:=hw w
  obtain⟨A,B,z⟩:=y w e c g p u q;rw[C];exact(kq w (by decide) (by decide) (by decide)).trans ((A.trans (B.trans z)).trans (yj _ _))
 ·obtain⟨e,c,g,p,u,q,C⟩:=hw w
  obtain⟨A,B,z⟩:=y w e c g p u q;rw[C] at R T |-;have H:=(yj _ _).trans R;have G:=z.trans H;have F:=B.trans G;have O:Ink s W (w.put [68]):=qe hI _;have D:(w.put [68]).bound=ar+b:=(za _ _).2.2.2.trans hb;have P:Ink s W e:=by rw[p];exact ylk O _
  have E:e.bound=ar+(b+n):=by rw[p,(yfl _ _).2.2.2,D];omega
  have x:Ext (c.put [69]) W:=by
   refine Ext.trans ?_ H;rw[q];exact⟨List.prefix_rfl,List.prefix_rfl,List.prefix_rfl,List.prefix_rfl,List.prefix_rfl⟩
  have V:Nx W c:=⟨69,[],by decide,by decide,by decide,x⟩;obtain⟨J,K,h3,Y,Z,h5,h6⟩:=yhe (f:=fun w t=>wBd (j 1) (j 2) t w) (Q:=fun t sg lim w v=>Sp s sg true lim .bound d ar (b+n) (y8 s lim w) t (y8 s lim v)) a (fun i hi=>ha i hi ar) e P E (by rw[<-u];exact G) (by rw[<-u];exact V);rw[<-u] at J K h3 h5 h6;refine⟨?_,?_,fun sg lim r=>?_⟩
  ·rw[(za _ _).2.2.2,q,(za _ _).2.2.2]
   show c.bound-n=w.bound
   rw[J,E,hb];omega
  ·refine qe ?_ _
   rw[q];exact qe (show Ink s W ({ c with bound:=c.bound-n } : WS) from K.grow rfl rfl (Nat.le_refl _) (Nat.le_refl _)) _
  ·have l0:=(yj w [68]).o.length_le
   have l1:=A.o.length_le;have l2:=B.o.length_le;have l3:=z.o.length_le;have l4:=(yj g (76::jd m)).o.length_le;have al:=r.el;have si:=h6 sg lim (r.sub (by omega) (by omega) (xc (z.trans (yj _ _)).k));obtain⟨p1,p2⟩:=kp L (A.trans F) r.ll (by omega);have am:(c.put [69]).out.length=g.out.length:=by rw[q];rfl
   obtain⟨p3,X⟩:=kp L x r.ll (by omega);have U:y8 s lim (c.put [69])=y8 s lim g:=by rw[q];rfl
   rw[U] at X;rw[<-h5] at p3 X;obtain⟨p5,p6,-⟩:=vq L R rfl (lim:=lim) r.el;obtain⟨p7,p8⟩:=ya3 r.ll p5;have M:¬ Ch s lim (y8 s lim e) 71:=by
    intro h;have hh:=(qm (si 0 (List.length_pos_iff.2 I)) r.ll).2.2.2;rw[Z,h.2] at hh;exact absurd hh (by decide)
   have hB:=yo2 (w:=w.put [68]) (n:=n) L (by rw[<-p];exact F) D (by omega) r l0 (by rw[<-p];omega) (fun _=>by rw[<-p];exact M);rw[<-p,p2] at hB;rw[X] at p7 p8;refine .dyn (ks:=fun i=>y8 s lim (Y i)) p1 (by rw[Z];exact hB) I si p3 p7 (by rw[show y8 s lim (Y a.length)+2=y8 s lim (Y a.length)+1+1 from rfl,p8,yjn m _ (by omega),p6]) (by rw[p6];exact r.el) hm N
def ptc (md:Sm):Prop:=md=.path\/md=.type\/md=.const
theorem yre {md:Sm}{d b:Nat}{t:ya}(h:Rt md d b t)(c:ptc md):Rt (ka t.kind) d b t:=by
 obtain⟨k1,k2,k3⟩:=km h
 rcases c with rfl|rfl|rfl
 ·have:=k1 rfl
  unfold ka;rw[if_pos this];exact h
 ·have:=k2 rfl
  by_cases a:t.kind<=6
  ·unfold ka;rw[if_pos a]
   cases h with
   | tpath g=>exact g
   | ref g=>rcases g with rfl|rfl<;>simp[ya.kind] at a
   | ptr g=>rcases g with rfl|rfl<;>simp[ya.kind] at a
   | _=>simp[ya.kind] at a
  ·unfold ka;rw[if_neg a,if_pos this];exact h
 ·have:=k3 rfl
  unfold ka;rw[if_neg (by omega),if_neg (by omega)];exact h
theorem sp_bm {s:List UInt8}{sg:Nat}{lim:Nat}{md:Sm}{d ar b k:Nat}{t:ya}{k':Nat}(h:Sp s sg true lim md d ar b k t k')(c:ptc md):Sp s sg true lim (ka t.kind) d ar b k t k':=by
 obtain⟨k1,k2,k3⟩:=ye1 h
 rcases c with rfl|rfl|rfl
 ·have:=k1 rfl
  unfold ka;rw[if_pos this];exact h
 ·have:=k2 rfl
  by_cases a:t.kind<=6
  ·unfold ka;rw[if_pos a]
   cases h with
   | tpath g=>exact g
   | ref g=>rcases g with⟨rfl,_⟩|⟨rfl,_⟩<;>simp[ya.kind] at a
   | ptr g=>rcases g with⟨rfl,_⟩|⟨rfl,_⟩<;>simp[ya.kind] at a
   | _=>simp[ya.kind] at a
  ·unfold ka;rw[if_neg a,if_pos this];exact h
 ·have:=k3 rfl
  unfold ka;rw[if_neg (by omega),if_neg (by omega)];exact h
theorem sp_up {s:List UInt8}{sg:Nat}{lim:Nat}{md:Sm}{d ar b k:Nat}{t:ya}{k':Nat}(h:Sp s sg true lim (ka t.kind) d ar b k t k')(f:ptc md)(c:Rt md d b t):Sp s sg true lim md d ar b k t k':=by
 obtain⟨k1,k2,k3⟩:=km c
 rcases f with rfl|rfl|rfl
 ·have:=k1 rfl
  unfold ka at h;rw[if_pos this] at h;exact h
 ·have:=k2 rfl
  by_cases a:t.kind<=6
  ·unfold ka at h;rw[if_pos a] at h
   have hd:=yq9 h rfl nofun;obtain⟨e,rfl⟩:∃ e,d=e+1:=⟨d-1,by omega⟩;exact .tpath h
  ·unfold ka at h;rw[if_neg a,if_pos this] at h;exact h
 ·have:=k3 rfl
  unfold ka at h;rw[if_neg (by omega),if_neg (by omega)] at h;exact h
theorem yhh {how:List Int}{u:List UInt8} : ∀ {l:List (List UInt8×Nat)} {n m k:Nat},zr how u l n=(some m,k)->∃ i,i < l.length/\l.getD i ([],0)=(u,m)/\1 < u.length
 | [],n,m,k,h=>by simp[zr] at h
 | (b,c)::r,n,m,k,h=>by
  have hr:∀ {n},zr how u r n=(some m,k)->∃ i,i < ((b,c)::r).length/\((b,c)::r).getD i ([],0)=(u,m)/\1 < u.length:=by
   intro n h;obtain⟨i,a,d,e⟩:=yhh h;exact⟨i+1,by simpa using a,d,e⟩
  unfold zr at h
  split at h
  ·rename_i a
   split at h
   ·exact hr h
   ·split at h
    ·simp at h
     exact⟨0,by simp,by show(b,c)=(u,m);rw[a.1,h.1],a.2⟩
    ·exact hr h
  ·exact hr h
theorem ylw {how:List Int}{u:List UInt8}(h:¬ 1 < u.length):∀ (l:List (List UInt8×Nat)) (n:Nat),(zr how u l n).1=none
 | [],n=>rfl
 | (b,c)::r,n=>by
  unfold zr;rw[if_neg (fun a=>h a.2)];exact ylw h r n
theorem ymx {md:Sm}{d b:Nat}{t:ya}(h:Rt md d b t)(a:ptc md):∃ e,d=e+1:=by
 rcases a with rfl|rfl|rfl<;>cases h<;>exact⟨_,rfl⟩
def ywe (pl:Bool):Prop:=pl=false->∀ (md:Sm) (d b:Nat) (t:ya) (f:Nat) (t0:ya) (b0:Nat),ptc md->Rt md d b t->b<=20->Rt (ka t0.kind) f b0 t0->b0<=20->(wPl f t0 .zero).out=(wPl d t .zero).out->1 < (wPl d t .zero).out.length->ka t0.kind=ka t.kind/\gc t t0
def yt0 (pl:Bool)(W:WS):Prop:=pl=false->∀ r∈W.backs,∀ bd∈W.bounds,r.to_<=bd.at_->bd.at_<=r.at_->bd.at_+bd.all+vo W.backs < r.at_
theorem ykc {s:List UInt8}{W:WS}(hs:W.out <+: s){pl:Bool}(hl:pl=false->s.length<=4611686018427387904)(how:List Int)(hD:ywe pl)(hM:yt0 pl W){md:Sm}{d b:Nat}{t:ya}(G:ptc md)(U:Rt md (d+1) b t)(K:b<=20)
  (h:qg s W (yc (fun j t w=>wGo pl how (d-j) t w) t) true md (d+1) b t):qg s W (wGo pl how (d+1) t) false md (d+1) b t:=by
 have L:gr md 66=true:=by rcases G with rfl|rfl|rfl<;>decide
 have Q:md≠.arg/\md≠.bound:=by rcases G with rfl|rfl|rfl<;>exact⟨nofun,nofun⟩
 cases pl with
 | true=>
  have hw:∀ w,wGo true how (d+1) t w=yc (fun j t w=>wGo true how (d-j) t w) t w:=fun w=>by rw[wGo,if_pos rfl]
  refine⟨fun w=>by rw[hw];exact h.ext w,fun w=>by rw[hw];exact h.beg w,fun ar w M hb n a=>?_⟩;rw[hw] at n a |-;exact(h.res ar w M hb n a).map fun sg lim _ h=>.here h
 | false=>
  have hl:=hl rfl;obtain⟨u,X⟩:∃ u,u=(wPl (d+1) t .zero).out:=⟨_,rfl⟩;have hw:∀ w,wGo false how (d+1) t w=(match (zr how u (w.texts.zip w.marks) w.used).1 with
   | some m=>({ w with used:=(zr how u (w.texts.zip w.marks) w.used).2,backs:=w.backs++[⟨w.out.length,m,w.bound⟩] } : WS).put (66::jd m)
   | none=>{ yc (fun j t w=>wGo false how (d-j) t w) t { w with used:=(zr how u (w.texts.zip w.marks) w.used).2 } with texts:=(yc (fun j t w=>wGo false how (d-j) t w) t { w with used:=(zr how u (w.texts.zip w.marks) w.used).2 }).texts++[u],marks:=(yc (fun j t w=>wGo false how (d-j) t w) t { w with used:=(zr how u (w.texts.zip w.marks) w.used).2 }).marks++[w.out.length] }):=by
   intro w;rw[wGo,if_neg (by decide),<-X]
   rfl
  refine⟨fun w=>ys8 _ _ _ _ _,fun w=>?_,fun ar w M hb n a=>?_⟩
  ·rw[hw]
   cases V:(zr how u (w.texts.zip w.marks) w.used).1 with
   | some m=>exact⟨66,jd m,L,by decide,by decide,⟨List.prefix_rfl,List.prefix_rfl,List.prefix_rfl,List.prefix_rfl,List.prefix_append _ _⟩⟩
   | none=>
    obtain⟨c,r,h0,y,J,D⟩:=h.beg { w with used:=(zr how u (w.texts.zip w.marks) w.used).2 };exact⟨c,r,h0,y,J,⟨D.o,D.t.trans (List.prefix_append _ _),D.m.trans (List.prefix_append _ _),D.b,D.k⟩⟩
  ·rw[hw] at n a |-
   cases V:(zr how u (w.texts.zip w.marks) w.used).1 with
   | some m=>
    rw[V] at n a;dsimp only at n a |-;obtain⟨v,l⟩:∃ v:WS,v={ w with used:=(zr how u (w.texts.zip w.marks) w.used).2,backs:=w.backs++[⟨w.out.length,m,w.bound⟩] }:=⟨_,rfl⟩;rw[<-l] at n a |-;have e:v.out=w.out:=by rw[l]
    have B:v.bound=w.bound:=by rw[l]
    have I:v.backs=w.backs++[⟨w.out.length,m,w.bound⟩]:=by rw[l]
    have H:v.empty=w.empty:=by rw[l]
    obtain⟨i,F,O,ae⟩:=yhh (show zr how u (w.texts.zip w.marks) w.used=(some m,(zr how u (w.texts.zip w.marks) w.used).2) by rw[<-V]);have P:i < w.texts.length:=by rw[List.length_zip] at F;omega
    have af:i < w.marks.length:=by rw[List.length_zip] at F;omega
    have C:w.texts.getD i []=u/\w.marks.getD i 0=m:=by
     rw[lgd,lge F,List.getElem_zip] at O;rw[lgd,lgd,lge P,lge af]
     simpa using O
    obtain⟨y,f,t0,ar0,b0,J,⟨D,aa⟩,h4⟩:=M.old i P;rw[C.1] at J;rw[C.2] at y h4;have E:Ink s W v:=M.grow (by rw[l]) (by rw[l]) (by rw[e];exact Nat.le_refl _) (by rw[I];exact xc (List.prefix_append _ _));refine⟨(za _ _).2.2.2.trans B,qe E _,fun sg lim x=>?_⟩;have S:vo (w.backs++[⟨w.out.length,m,w.bound⟩])=vo w.backs+w.bound:=by unfold vo;simp
    have ac:=x.sm;rw[(za _ _).2.2.1,I,S] at ac;obtain⟨N,ad⟩:=hD rfl md (d+1) b t f t0 b0 G U K D aa (by rw[<-J,X]) (by rw[<-X];exact ae);have ag:(⟨w.out.length,m,w.bound⟩:Bk)∈W.backs:=by
     refine n.k.subset ?_;rw[(za _ _).2.2.1,I];simp
    have p:=(yj v (66::jd m)).o.length_le;rw[e] at p;have av:=x.el;have ax:=x.ll;obtain⟨k2,h5⟩:=h4 (sg+w.bound) w.out.length ⟨by omega,Nat.le_refl _,fun bd ab y1 y2=>by
      have:=hM rfl _ ag bd ab y1 y2;dsimp only at this
      omega,by omega⟩
    have h6:=yq8 h5 (t:=t) (d1:=d+1) (ar1:=ar) (b1:=b) (sg1:=sg) ad (by rw[N];exact yre U G) (by omega);rw[N] at h6;have h7:=sp_up h6 G U;have g:Beg md v (v.put (66::jd m)):=kq v L (by decide) (by decide);have A:y8 s lim v=y8 s lim w:=by unfold y8;rw[e,H]
    have q:=g.k0 hs n lim;rw[A,e] at q;obtain⟨p1,p2,-⟩:=vq hs n rfl (lim:=lim) x.el;rw[A,q] at p1;obtain⟨p3,p4⟩:=ya3 x.ll p1;rw[q];exact .back Q.1 Q.2 p3 (by rw[p4,yjn m _ (by omega),p2]) (by rw[p2];exact x.el) y h7
   | none=>
    rw[V] at n a;dsimp only at n a |-;obtain⟨v,l⟩:∃ v:WS,v={ w with used:=(zr how u (w.texts.zip w.marks) w.used).2 }:=⟨_,rfl⟩;rw[<-l] at n a |-;have e:v.out=w.out:=by rw[l]
    have B:v.bound=w.bound:=by rw[l]
    have H:v.empty=w.empty:=by rw[l]
    have E:Ink s W v:=M.grow (by rw[l]) (by rw[l]) (by rw[e];exact Nat.le_refl _) (by rw[l];exact Nat.le_refl _);obtain⟨z,C⟩:∃ z,z=yc (fun j t w=>wGo false how (d-j) t w) t v:=⟨_,rfl⟩;have T:Ext z W:=by
     refine Ext.trans ?_ n;rw[<-C];exact⟨List.prefix_rfl,List.prefix_append _ _,List.prefix_append _ _,List.prefix_rfl,List.prefix_rfl⟩
    have hr:=h.res ar v E (B.trans hb) (by rw[<-C];exact T) (by rw[<-C] at a |-;exact a);have g:=h.beg v;rw[<-C] at hr g;rw[<-C];have A:∀ lim,y8 s lim v=y8 s lim w:=fun lim=>by unfold y8;rw[e,H]
    have q:=fun lim=>g.k0 hs T lim;have R:∀ sg lim,yf2 s W w.out.length z.out.length (vo z.backs) sg lim->Sp s sg true lim md (d+1) ar b w.out.length t (y8 s lim z):=by
     intro sg lim x;have:=hr.sp sg lim (by rw[e];exact x);rw[q,e] at this;exact this
    have p:=g.len;rw[e] at p;refine⟨hr.bd.trans B,⟨by simp[hr.inv.ln],fun i hi=>?_⟩,fun sg lim x=>?_⟩
    ·have aw:i < z.texts.length+1:=by simpa using hi
     rcases Nat.lt_or_ge i z.texts.length with y|y
     ·have J:i < z.marks.length:=by rw[<-hr.inv.ln];exact y
      have Y:(z.texts++[u]).getD i []=z.texts.getD i []:=by rw[lgd,List.getElem?_append_left y,<-lgd]
      have Z:(z.marks++[w.out.length]).getD i 0=z.marks.getD i 0:=by rw[lgd,List.getElem?_append_left J,<-lgd]
      show(z.marks++[w.out.length]).getD i 0 < z.out.length/\∃ f t0 ar0 b0,(z.texts++[u]).getD i []=(wPl f t0 .zero).out/\(Rt (ka t0.kind) f b0 t0/\b0<=20)/\∀ sg lim,yf2 s W ((z.marks++[w.out.length]).getD i 0) z.out.length (vo z.backs) sg lim->∃ k',Sp s sg true lim (ka t0.kind) f ar0 b0 ((z.marks++[w.out.length]).getD i 0) t0 k'
      rw[Y,Z];exact hr.inv.old i y
     ·obtain rfl:i=z.texts.length:=by omega
      have Y:(z.texts++[u]).getD z.texts.length []=u:=by rw[lgd,List.getElem?_append_right (Nat.le_refl _)];simp
      have Z:(z.marks++[w.out.length]).getD z.texts.length 0=w.out.length:=by rw[hr.inv.ln,lgd,List.getElem?_append_right (Nat.le_refl _)];simp
      show(z.marks++[w.out.length]).getD z.texts.length 0 < z.out.length/\∃ f t0 ar0 b0,(z.texts++[u]).getD z.texts.length []=(wPl f t0 .zero).out/\(Rt (ka t0.kind) f b0 t0/\b0<=20)/\∀ sg lim,yf2 s W ((z.marks++[w.out.length]).getD z.texts.length 0) z.out.length (vo z.backs) sg lim->∃ k',Sp s sg true lim (ka t0.kind) f ar0 b0 ((z.marks++[w.out.length]).getD z.texts.length 0) t0 k'
      rw[Y,Z];exact⟨p,d+1,t,ar,b,X,⟨yre U G,K⟩,fun sg lim x=>⟨_,sp_bm (R sg lim x) G⟩⟩
    ·have:=R sg lim x
     rw[show y8 s lim w=w.out.length by rw[<-A,q,e]];exact .here this
theorem go_u {pl:Bool}(how:List Int){d b:Nat}{t:ya}(i:Rt .type d b t)(g:isU t=true)(w:WS):Ext (w.put [117]) (wGo pl how d t w):=by
 have f:t.kind=7/\t.letter=117:=by unfold isU at g;simpa using g
 obtain⟨e,rfl⟩:=ymx i (.inr (.inl rfl));have a:∀ h w,yc h t w=w.put [117]:=by
  intro h w;unfold yc;rw[if_neg (by omega),if_neg (by omega),if_neg (by omega),if_neg (by omega),if_neg (by omega),if_neg (by omega),if_pos f.1,f.2]
 have c:¬ 1 < (wPl (e+1) t .zero).out.length:=by
  rw[wPl,a]
  decide
 rw[wGo];refine j8 (by rw[a];exact .refl _) ?_;dsimp only;have j:(zr how (wPl (e+1) t .zero).out (w.texts.zip w.marks) w.used).1=none:=ylw c _ _;rw[j];dsimp only;rw[a];exact⟨List.prefix_rfl,List.prefix_append _ _,List.prefix_append _ _,List.prefix_rfl,List.prefix_rfl⟩
def Mt (s:List UInt8)(W:WS)(pl:Bool)(how:List Int)(md:Sm)(d b:Nat)(t:ya):Prop:=
 match md with
 | .arg=>qg s W (vb (wGo pl how d) t) true .arg d b t
 | .bound=>∃ e,d=e+2/\∀ ar,yid s W (wBd (wGo pl how (e+1)) (wGo pl how e) t) (fun sg lim w v=>Sp s sg true lim .bound d ar b (y8 s lim w) t (y8 s lim v)) (Nx W) (ar+b)
 | md=>∃ e,d=e+1/\qg s W (yc (fun j t w=>wGo pl how (e-j) t w) t) true md d b t
theorem ylg {s:List UInt8}{W:WS}(j:W.out <+: s){pl:Bool}(i:pl=false->s.length<=4611686018427387904)(how:List Int)(c:ywe pl)(f:yt0 pl W){md:Sm}{d b:Nat}{t:ya}(k:ptc md)(g:Rt md d b t)(a:b<=20)
  (h:Mt s W pl how md d b t):qg s W (wGo pl how d t) false md d b t:=by
 rcases k with rfl|rfl|rfl
 ·obtain⟨e,rfl,h⟩:=h;exact ykc j i how c f (.inl rfl) g a h
 ·obtain⟨e,rfl,h⟩:=h;exact ykc j i how c f (.inr (.inl rfl)) g a h
 ·obtain⟨e,rfl,h⟩:=h;exact ykc j i how c f (.inr (.inr rfl)) g a h
theorem ywh (y:xm){s:List UInt8}{W:WS}(q:W.out <+: s){pl:Bool}(F:pl=false->s.length<=4611686018427387904)(how:List Int)(D:ywe pl)(E:yt0 pl W){md:Sm}{d b:Nat}{t:ya}(z:Rt md d b t)(g:b<=20):Mt s W pl how md d b t:=by
 have P:∀ {md:Sm} {d b:Nat} {t:ya},ptc md->Rt md d b t->b<=20->Mt s W pl how md d b t->qg s W (wGo pl how d t) false md d b t:=fun G z g h=>ylg q F how D E G z g h;have x:ptc .path:=.inl rfl;have pt:ptc .type:=.inr (.inl rfl);have C:ptc .const:=.inr (.inr rfl)
 induction z with
 | crate j o=>exact⟨_,rfl,yt7 y q _ _ _ j o⟩
 | impl j o u k i2=>exact⟨_,rfl,ywz q _ j (P x o (by omega) (k (by omega))) (P pt u g (i2 g))⟩
 | timpl j o u v k i2 i3=>exact⟨_,rfl,yt5 q _ j (P x o (by omega) (k (by omega))) (P pt u g (i2 g)) (P x v g (i3 g))⟩
 | tdef _ u v i2 i3=>exact⟨_,rfl,ywx q _ (P pt u g (i2 g)) (P x v g (i3 g))⟩
 | nested j o u k=>exact⟨_,rfl,yqv y q _ j o (P x u g (k g))⟩
 | gen j o u v k i2=>exact⟨_,rfl,w_gen q _ o (P x u g (k g)) fun i hi=>i2 i hi g⟩
 | tpath h I=>
  obtain⟨e,A,j⟩:=I g;refine⟨e,A,j.ext,fun w=>?_,fun ar w J K L M=>(j.res ar w J K L M).map fun sg lim _ h=>.tpath h⟩;obtain⟨c,r,z0,N,z2,z3⟩:=j.beg w;exact⟨c,r,yiz z0,N,z2,z3⟩
 | basic j=>exact⟨_,rfl,yt9 q _ _ _ j⟩
 | array j o k i2=>exact⟨_,rfl,yua q _ (P pt j g (k g)) (P C o g (i2 g))⟩
 | slice j k=>exact⟨_,rfl,yt6 q _ (P pt j g (k g))⟩
 | tuple j k=>exact⟨_,rfl,yt4 q _ fun i hi=>P pt (j i hi) g (k i hi g)⟩
 | ref j o u k=>exact⟨_,rfl,w_ref q _ j o (by omega) (P pt u g (k g))⟩
 | ptr j u k=>exact⟨_,rfl,w_ptr q _ j (P pt u g (k g))⟩
 | fn j o u v B k i2=>exact⟨_,rfl,w_fn q _ j o u (fun i hi=>P pt (v i hi) j (k i hi j)) (P pt B j (i2 j)) (fun H w=>go_u how B H w)⟩
 | @dyn d b l nm n m f a l2 nm2 f2 j o u v k=>
  refine⟨d,rfl,w_dyn q _ j o v fun i hi ar=>?_⟩;obtain⟨e,A,h⟩:=k i hi j;subst A;exact h ar
 | life j=>exact ywy q _ j (by omega)
 | argC j k=>exact yw2 q _ ((km j).2.2 rfl) (P C j g (k g))
 | argT j k=>exact yw1 _ ((km j).2.1 rfl) (P pt j g (k g))
 | hole=>exact⟨_,rfl,yw0 q _ _ _⟩
 | num j o=>exact⟨_,rfl,w_num q _ _ _ j o⟩
 | @bound e b l nm n f p a j o u k i2=>exact⟨e,rfl,fun ar=>yt8 y q _ _ (by omega) (P x j g (k g)) o fun i hi=>P pt (u i hi) g (i2 i hi g)⟩
end Go.Proofs.YtfckcdbpiepchaaGreatDoor
