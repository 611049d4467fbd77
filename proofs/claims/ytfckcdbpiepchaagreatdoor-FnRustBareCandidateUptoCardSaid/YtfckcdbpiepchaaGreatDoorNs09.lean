import Derived.Test.YtfckcdbpiepchaaGreatDoorNs07
import Derived.Test.YtfckcdbpiepchaaGreatDoorNs08
import Derived.Lib.ItoaLen
import Derived.Laws.RangeAny
import Derived.Laws.RangeString
namespace Go.Proofs.YtfckcdbpiepchaaGreatDoor
open Go.RowKit
set_option maxRecDepth 100000
set_option maxHeartbeats 8000000
set_option linter.all false
theorem zi {s:List UInt8}{lim ar d k n:Nat}{a b:RS}{x:List UInt8}(t:List UInt8)(m:Nat)(w:Wd a b x n)(A:At s lim ar d k b)(e:t.length<=m)(hb:a.out.length+n+m<=35184372088832) :
  ∃ c,wS t b=some (some c)/\Wd a c (x++t) (n+m)/\At s lim ar d k c:=
 ⟨b.wr t,ybl (by have:=w.ln;omega),(w.trans (ya9 b t)).mono (by omega),A.wr t⟩
theorem vp {ng:Bool}{s:List UInt8}{lim ar d k k' n N f:Nat}{a b:RS}{x y:List UInt8}{t:ya}{i:Kd}(h:yf1 ng s lim ar d k t k' i f y)(l:f<=N)(m:a.nogen=ng)(w:Wd a b x n)(A:At s lim ar d k b)
  (hb:a.out.length+n+2000*t.wt<=35184372088832):∃ c g,jg N i b=some (some (c,g))/\Wd a c (x++y) (n+(2000*t.wt-100))/\At s lim ar d k' c:=by
 obtain⟨c,g,e,o,j⟩:=h N b l A (w.ng.trans m) (by have:=w.ln;omega);exact⟨c,g,e,w.trans o,j⟩
theorem j0 {s:List UInt8}{lim ar c k k' n:Nat}{a b:RS}{x:List UInt8}(w:Wd a b x n)(A:At s lim ar c k b)(d:k'<=lim):Wd a (b.go (Vw s lim k')) x n/\At s lim ar c k' (b.go (Vw s lim k')):=
 ⟨w.post (ygx b _),A.go d⟩
theorem yag (n:Nat)(h:n < 18446744073709551616):(Lib.decDigits n).length<=20:=by
 rw[Lib.decDigits_length];exact Lib.nDigits_le20 n h
theorem yvm {ng:Bool}{s:List UInt8}{lim d ar b k:Nat}{l:UInt8}{nm:List UInt8}{n:Nat}{f:Bool}{k':Nat}{z:Int}
  (a:Ch s lim k 67) (hi:idN (Vw s lim (k+1))=some (some (z,nm,Vw s lim k'))) (o:k'<=lim) (h:yan nm):j6 ng s true lim .path (d+1) ar b k (.mk 1 l nm n f []) k':=by
 refine ylt a.1 (by rw[a.2];decide) (by rw[a.2];decide) (by simp[ya.kind]) (by omega) fun v=>⟨nm,.crate h,fun N st e c u hb=>?_⟩;obtain⟨N,rfl⟩:∃ M,N=M+1:=⟨N-1,by unfold lev at e;simp at e;omega⟩
 show ∃ q g,xi (jg N) v st=_/\_
 rw[zd] at *;simp only[List.map_nil,List.sum_nil] at *;obtain⟨r,i⟩:=j0 (.refl st) c o;obtain⟨p,m,t,j⟩:=zi nm 1000 r i h.le (by omega);unfold xi;rw[c.ch a];dsimp only;rw[if_pos rfl,hi];dsimp only;rw[m];exact⟨p,false,rfl,t.mono (by omega),j⟩
theorem ylm {ng:Bool}{s:List UInt8}{lim ar b k k1 k2 N i:Nat}{z:Int}{p:ya}{y:List UInt8}{st:RS}(f:At s lim ar b k st)(hd:ybf (Vw s lim k)=some (z,Vw s lim k1))(n:k1<=lim)
  (h:yf1 ng s lim (ar+b) 0 k1 p k2 (.path false) i y) (l:i<=N) (m:st.nogen=ng) (hb:st.out.length+2000*p.wt<=35184372088832) :
  ∃ a,yee (jg N) st=some (some a)/\Wd st a [] 0/\At s lim ar b k2 a:=by
 have d:=f.go n;obtain⟨j,g,e,w,c⟩:=h N { st.go (Vw s lim k1) with skip:=true } l ⟨d.str,d.off,d.orig,by show st.life=_;rw[f.life];omega,d.pl,d.ll,by omega,fun _=>rfl⟩ m hb;unfold yee;rw[f.str,hd];dsimp only;rw[e];refine⟨{ j with skip:=st.skip },rfl,Wd.same w.ng w.mx rfl (w.o1 rfl) (w.l1 rfl),⟨c.str,c.off,c.orig,by show j.life=_;rw[c.life];omega,c.pl,c.ll,f.b20,f.ard⟩⟩
theorem yyk {ng:Bool}{s:List UInt8}{lim d ar b k:Nat}{l:UInt8}{nm:List UInt8}{n:Nat}{f:Bool}{k' k1 k2:Nat}{z:Int}{p t:ya}
  (a:Ch s lim k 77) (hi:ybf (Vw s lim (k+1))=some (z,Vw s lim k1)) (B:k1<=lim) (C:j6 ng s false lim .path d (ar+b) 0 k1 p k2) (D:j6 ng s false lim .type d ar b k2 t k') :
  j6 ng s true lim .path (d+1) ar b k (.mk 2 l nm n f [p,t]) k':=by
 refine ylt a.1 (by rw[a.2];decide) (by rw[a.2];decide) (by simp[ya.kind]) (by omega) fun v=>?_;obtain⟨y,I,F⟩:=C.1 false;obtain⟨x,sx,E⟩:=D;refine⟨_,.impl I sx,fun N st e c h hb=>?_⟩;obtain⟨N,rfl⟩:∃ M,N=M+1:=⟨N-1,by unfold lev at e;simp at e;omega⟩;unfold lev at *;simp only[if_true,if_false,Bool.false_eq_true] at *
 show ∃ H g,xi (jg N) v st=_/\_
 rw[zd] at *;simp only[List.map_nil,List.sum_nil,List.map_cons,List.sum_cons] at *;obtain⟨J,i⟩:=j0 (.refl st) c (k':=k+1) a.1;obtain⟨Q,r,K,j⟩:=ylm (N:=N) i hi B F (by omega) h (by show st.out.length+_<=_;omega);obtain⟨R,u,L,m⟩:=zi [60] 1 (J.trans K) j (by simp) (by omega);obtain⟨S,g4,w,O,o⟩:=vp (N:=N) E (by omega) h L m (by omega);obtain⟨G,A,P,q⟩:=zi [62] 1 O o (by simp) (by omega);unfold xi;rw[c.ch a];dsimp only;rw[if_neg (by decide),if_pos rfl,r,bindM_ok,u,bindM_ok,w,bindM_ok,A];exact⟨G,false,rfl,(P.mono (by omega)).eq (by simp),q⟩
theorem yvk {ng:Bool}{s:List UInt8}{lim d ar b k:Nat}{l:UInt8}{nm:List UInt8}{n:Nat}{f:Bool}{k' k1 k2 k3:Nat}{z:Int}{p t q:ya}
  (a:Ch s lim k 88) (hi:ybf (Vw s lim (k+1))=some (z,Vw s lim k1)) (H:k1<=lim) (I:j6 ng s false lim .path d (ar+b) 0 k1 p k2) (K:j6 ng s false lim .type d ar b k2 t k3) (J:j6 ng s false lim .path d ar b k3 q k') :
  j6 ng s true lim .path (d+1) ar b k (.mk 3 l nm n f [p,t,q]) k':=by
 refine ylt a.1 (by rw[a.2];decide) (by rw[a.2];decide) (by simp[ya.kind]) (by omega) fun v=>?_;obtain⟨y,T,P⟩:=I.1 false;obtain⟨x,sx,O⟩:=K;obtain⟨u,S,L⟩:=J.1 false;refine⟨_,.timpl T sx S,fun N st h e c hb=>?_⟩;obtain⟨N,rfl⟩:∃ M,N=M+1:=⟨N-1,by unfold lev at h;simp at h;omega⟩;unfold lev at *;simp only[if_true,if_false,Bool.false_eq_true] at *
 show ∃ R g,xi (jg N) v st=_/\_
 rw[zd] at *;simp only[List.map_nil,List.sum_nil,List.map_cons,List.sum_cons] at *;obtain⟨U,i⟩:=j0 (.refl st) e (k':=k+1) a.1;obtain⟨s2,B,V,j⟩:=ylm (N:=N) i hi H P (by omega) c (by show st.out.length+_<=_;omega);obtain⟨s3,C,W,m⟩:=zi [60] 1 (U.trans V) j (by simp) (by omega);obtain⟨s4,g4,D,X,o⟩:=vp (N:=N) O (by omega) c W m (by omega);obtain⟨s5,E,Y,r⟩:=zi [32,97,115,32] 4 X o (by simp) (by omega);obtain⟨s6,g6,F,Z,w⟩:=vp (N:=N) L (by omega) c Y r (by omega);obtain⟨Q,G,w7,A⟩:=zi [62] 1 Z w (by simp) (by omega);unfold xi;rw[e.ch a];dsimp only;rw[if_neg (by decide),if_neg (by decide),if_pos rfl,B,bindM_ok,C,bindM_ok,D,bindM_ok,E,bindM_ok,F,bindM_ok,G];exact⟨Q,false,rfl,(w7.mono (by omega)).eq (by simp),A⟩
theorem yyi {ng:Bool}{s:List UInt8}{lim d ar b k:Nat}{l:UInt8}{nm:List UInt8}{n:Nat}{f:Bool}{k' k3:Nat}{t q:ya}
  (a:Ch s lim k 89) (D:j6 ng s false lim .type d ar b (k+1) t k3) (C:j6 ng s false lim .path d ar b k3 q k') :
  j6 ng s true lim .path (d+1) ar b k (.mk 4 l nm n f [t,q]) k':=by
 refine ylt a.1 (by rw[a.2];decide) (by rw[a.2];decide) (by simp[ya.kind]) (by omega) fun v=>?_;obtain⟨x,sx,F⟩:=D;obtain⟨u,I,E⟩:=C.1 false;refine⟨_,.tdef sx I,fun N st e c h hb=>?_⟩;obtain⟨N,rfl⟩:∃ M,N=M+1:=⟨N-1,by unfold lev at e;simp at e;omega⟩;unfold lev at *;simp only[if_true,if_false,Bool.false_eq_true] at *
 show ∃ H g,xi (jg N) v st=_/\_
 rw[zd] at *;simp only[List.map_nil,List.sum_nil,List.map_cons,List.sum_cons] at *;obtain⟨J,i⟩:=j0 (.refl st) c (k':=k+1) a.1;obtain⟨S,w,K,j⟩:=zi [60] 1 J i (by simp) (by omega);obtain⟨T,g4,y,L,m⟩:=vp (N:=N) F (by omega) h K j (by omega);obtain⟨U,z,O,o⟩:=zi [32,97,115,32] 4 L m (by simp) (by omega);obtain⟨V,R,A,P,p⟩:=vp (N:=N) E (by omega) h O o (by omega);obtain⟨G,B,Q,r⟩:=zi [62] 1 P p (by simp) (by omega);unfold xi;rw[c.ch a];dsimp only;rw[if_neg (by decide),if_neg (by decide),if_neg (by decide),if_pos rfl,w,bindM_ok,y,bindM_ok,z,bindM_ok,A,bindM_ok,B];exact⟨G,false,rfl,(Q.mono (by omega)).eq (by simp),r⟩
theorem ysw {ng:Bool}{s:List UInt8}{lim d ar b k:Nat}{l:UInt8}{nm:List UInt8}{n:Nat}{f:Bool}{k' k1:Nat}{p:ya}
  (u:Ch s lim k 78) (a:Ch s lim (k+1) l) (hp:j6 ng s false lim .path d ar b (k+2) p k1) (hi:idN (Vw s lim k1)=some (some ((n:Int),nm,Vw s lim k'))) (U:k'<=lim)
  (c:(97<=l.toNat/\l.toNat<=122/\yan nm)\/((l=67\/l=83)/\(nm=[]\/yan nm)/\n<=9223372036854775807)):j6 ng s true lim .path (d+1) ar b k (.mk 5 l nm n f [p]) k':=by
 refine ylt u.1 (by rw[u.2];decide) (by rw[u.2];decide) (by simp[ya.kind]) (by omega) fun v=>?_;obtain⟨x,sx,W⟩:=hp.1 v;unfold lev at *;simp only[if_true,if_false,Bool.false_eq_true] at *
 rcases c with⟨r,q,c⟩|⟨A,c,K⟩
 ·refine⟨_,.small ⟨r,q⟩ c sx,fun N st hN i I hb=>?_⟩
  obtain⟨N,rfl⟩:∃ M,N=M+1:=⟨N-1,by omega⟩
  show ∃ P g,xi (jg N) v st=_/\_
  rw[zd] at *;simp only[List.map_nil,List.sum_nil,List.map_cons,List.sum_cons] at *;obtain⟨Q,C⟩:=j0 (.refl st) i (k':=k+2) a.1;obtain⟨s2,g2,F,R,o⟩:=vp (N:=N) W (by omega) I Q C (by omega);obtain⟨S,D⟩:=j0 R o U;obtain⟨O,G,T,E⟩:=zi [58,58] 2 S D (by simp) (by omega);obtain⟨m,j,B,y⟩:=zi nm 1000 T E c.le (by omega);unfold xi;rw[i.ch u,a.vw i.ll];dsimp only;rw[if_neg (by decide),if_neg (by decide),if_neg (by decide),if_neg (by decide),if_pos rfl,if_neg (by simp;omega),F,bindM_ok,o.str,hi];dsimp only;unfold yck;rw[if_pos r,G,bindM_ok,j];exact⟨m,false,rfl,(B.mono (by omega)).eq (by simp),y⟩
 ·refine⟨_,.special A c K sx,fun N st hN i I hb=>?_⟩
  obtain⟨N,rfl⟩:∃ M,N=M+1:=⟨N-1,by omega⟩
  show ∃ P g,xi (jg N) v st=_/\_
  rw[zd] at *;simp only[List.map_nil,List.sum_nil,List.map_cons,List.sum_cons] at *;have J:nm.length<=1000:=by
   rcases c with rfl|c
   ·simp
   ·exact c.le
  have aj:=yag n (by omega);obtain⟨Q,C⟩:=j0 (.refl st) i (k':=k+2) a.1;obtain⟨s2,g2,F,R,o⟩:=vp (N:=N) W (by omega) I Q C (by omega);obtain⟨S,D⟩:=j0 R o U;obtain⟨O,G,T,E⟩:=zi [58,58,123] 3 S D (by simp) (by omega);obtain⟨m,j,B,y⟩:=zi (if l=67 then [99,108,111,115,117,114,101] else [115,104,105,109]) 7 T E (by split<;>simp) (by omega)
  have h6:∃ w,(if nm=[] then some (some m) else ye (wS [58] m) fun s=>wS nm s)=some (some w)/\Wd st w (([]++x++[58,58,123]++if l=67 then [99,108,111,115,117,114,101] else [115,104,105,109])++(if nm=[] then [] else 58::nm)) (0+(2000*p.wt-100)+3+7+1001)/\At s lim ar b k' w:=by
   by_cases z:nm=[]
   ·rw[if_pos z,if_pos z]
    exact⟨m,rfl,(B.mono (by omega)).eq (by simp),y⟩
   ·rw[if_neg z,if_neg z]
    obtain⟨V,f1,v1,B1⟩:=zi [58] 1 B y (by simp) (by omega);obtain⟨L,f2,v2,B2⟩:=zi nm 1000 v1 B1 J (by omega);rw[f1,bindM_ok,f2];exact⟨L,rfl,(v2.mono (by omega)).eq (by simp),B2⟩
  obtain⟨w,e6,Y,e⟩:=h6;have ai:(35::(Lib.decDigits n++[125])).length<=22:=by simp;omega
  have ak:=Y.ln;obtain⟨X,e7,w7,V,L,q3,q4,q5⟩:=yrn (st:=w) (t:=35::(Lib.decDigits n++[125])) (l:=125) (by omega) (by decide) (by simp) (by simp[List.getLast?_cons]);have Z:At s lim ar b k' X:=⟨V.trans e.str,L.trans e.off,q3.trans e.orig,q4.trans e.life,e.pl,e.ll,e.b20,fun h=>q5.trans (e.ard h)⟩;unfold xi;rw[i.ch u,a.vw i.ll];dsimp only;rw[if_neg (by decide),if_neg (by decide),if_neg (by decide),if_neg (by decide),if_pos rfl,if_neg (by rcases A with rfl|rfl<;>simp),F,bindM_ok,o.str,hi]
  dsimp only;unfold yck;have H:(if l=67 then wS [99,108,111,115,117,114,101] O else if l=83 then wS [115,104,105,109] O else none)=some (some m):=by
   rcases A with rfl|rfl
   ·rw[if_pos rfl];rw[if_pos rfl] at j;exact j
   ·rw[if_neg (by decide),if_pos rfl];rw[if_neg (by decide)] at j;exact j
  rw[if_neg (by rcases A with rfl|rfl<;>decide),G,bindM_ok,H,bindM_ok,e6,bindM_ok,if_neg (by omega),Int.toNat_natCast,e7]
  exact⟨X,false,rfl,((Y.trans w7).mono (by omega)).eq (by simp),Z⟩
theorem yi8 {ng:Bool}{s:List UInt8}{lim d ar b N:Nat}{a:List ya}{ks:Nat->Nat}{xs:List (List UInt8)}{st:RS}(r:xs.length=a.length)
  (hi:∀ i,i < a.length->ytz yb7 ng s lim ar b (ks i) (a.getD i .zero) (ks (i+1)) (3*d+1) (xs.getD i [])) (q:∀ i,i < a.length->ks i < lim/\s.getD (ks i) 0≠69/\ks i < ks (i+1)) (o:Ch s lim (ks a.length) 69)
  (p:3*d+1<=N) (c:At s lim ar b (ks 0) st) (f:st.nogen=ng) (hb:st.out.length+2000*(a.map ya.wt).sum+100<=35184372088832) :
  ∃ j,ycd (jg N) st=some (some j)/\Wd st j (if ng then [] else zl [44,32] xs) (2000*(a.map ya.wt).sum)/\At s lim ar b (ks a.length) j:=by
 have g:=jw (k:=ks 0) c.ll;have t:=c.pl;unfold ycd
 cases ng with
 | true=>
  rw[if_pos f];obtain⟨n,m,l,e⟩:=ydm (sep:=[44,32]) (ng:=true) r (by simp) (fun i h st c f hb=>hi i h N st p c f hb) q o a.length 0 (st.str.length+1) { st with skip:=true } (by omega) (by rw[c.str,g];omega)
   ⟨c.str,c.off,c.orig,c.life,c.pl,c.ll,c.b20,fun _=>rfl⟩ f hb
  rw[m];exact⟨{ n with skip:=st.skip },rfl,(show Wd st { n with skip:=st.skip } [] 0 from Wd.same l.ng l.mx rfl (l.o1 rfl) (l.l1 rfl)).mono (Nat.zero_le _),⟨e.str,e.off,e.orig,e.life,e.pl,e.ll,e.b20,c.ard⟩⟩
 | false=>
  rw[if_neg (by rw[f];decide)];obtain⟨n,m,l,e⟩:=ydm (sep:=[44,32]) (ng:=false) r (by simp) (fun i h st c f hb=>hi i h N st p c f hb) q o a.length 0 (st.str.length+1) st (by omega) (by rw[c.str,g];omega) c f hb;rw[m];exact⟨_,rfl,l,e⟩
theorem g_gen {ng:Bool}{s:List UInt8}{lim d ar b k:Nat}{l:UInt8}{nm:List UInt8}{n:Nat}{f:Bool}{p:ya}{a:List ya}{ks:Nat->Nat}
  (u:Ch s lim k 73) (T:j6 ng s false lim .path d ar b (k+1) p (ks 0)) (Y:∀ i,i < a.length->j6 ng s true lim .arg d ar b (ks i) (a.getD i .zero) (ks (i+1)))
  (S:∀ i,i < a.length->ks i < lim/\s.getD (ks i) 0≠69/\ks i < ks (i+1)) (h:Ch s lim (ks a.length) 69) :
  j6 ng s true lim .path (d+1) ar b k (.mk 6 l nm n f (p::a)) (ks a.length+1):=by
 obtain⟨xs,w,c⟩:=x8 (P:=fun i x=>qq ng .arg b (a.getD i .zero) x/\ytz yb7 ng s lim ar b (ks i) (a.getD i .zero) (ks (i+1)) (3*d+1) x) a.length Y;unfold j6 lev at *;simp only[if_true,if_false,Bool.false_eq_true] at *
 constructor
 ·intro v
  obtain⟨x,sx,J⟩:=T.1 v;refine⟨_,.gen w (fun i hi=>(c i hi).1) sx,fun N st X m o hb=>?_⟩;obtain⟨N,rfl⟩:∃ M,N=M+1:=⟨N-1,by omega⟩
  show ∃ K g,xi (jg N) v st=_/\_
  rw[zd] at *;simp only[List.map_cons,List.sum_cons] at *;obtain⟨L,A⟩:=j0 (.refl st) m (k':=k+1) u.1;obtain⟨y,V,E,z,r⟩:=vp (N:=N) J (by omega) o L A (by omega);have W:∃ j,(if v=true then wS [58,58] y else some (some y))=some (some j)/\Wd st j (([]++x)++(if v then [58,58] else [])) (0+(2000*p.wt-100)+2)/\At s lim ar b (ks 0) j:=by
   cases v with
   | true=>obtain⟨j,F,O,B⟩:=zi [58,58] 2 z r (by simp) (by omega);exact⟨j,F,O,B⟩
   | false=>exact⟨y,rfl,(z.mono (by omega)).eq (by simp),r⟩
  obtain⟨j,F,O,B⟩:=W;obtain⟨Z,G,e,C⟩:=zi [60] 1 O B (by simp) (by omega);have I:=e.ln;obtain⟨s5,H,q,t⟩:=yi8 (N:=N) w (fun i hi=>(c i hi).2) S h (by omega) C (e.ng.trans o) (by omega);have q:=e.trans q;obtain⟨s6,U,w6,R⟩:=zi [62] 1 q t (by simp) (by omega);obtain⟨Q,D⟩:=j0 w6 R (k':=ks a.length+1) h.1;unfold xi;rw[m.ch u];dsimp only;rw[if_neg (by decide),if_neg (by decide),if_neg (by decide),if_neg (by decide),if_neg (by decide),if_pos rfl,E,bindM_ok,F,bindM_ok,G,bindM_ok,H,bindM_ok,U,bindM_ok,yfx R h];exact⟨_,false,rfl,(Q.mono (by omega)).eq (by simp),D⟩
 ·obtain⟨x,sx,J⟩:=T.1 false
  refine⟨x++[60]++(if ng then [] else zl [44,32] xs),.inr ⟨l,nm,n,f,p,a,xs,x,rfl,w,fun i hi=>(c i hi).1,sx,rfl⟩,fun N st X m o hb=>?_⟩;obtain⟨N,rfl⟩:∃ M,N=M+1:=⟨N-1,by omega⟩
  show ∃ K g,yg1 (jg N) st=_/\_
  rw[zd] at *;simp only[List.map_cons,List.sum_cons] at *;obtain⟨L,A⟩:=j0 (.refl st) m (k':=k+1) u.1;obtain⟨y,V,E,z,r⟩:=vp (N:=N) J (by omega) o L A (by omega);obtain⟨Z,G,e,C⟩:=zi [60] 1 z r (by simp) (by omega);have I:=e.ln;obtain⟨s5,H,q,t⟩:=yi8 (N:=N) w (fun i hi=>(c i hi).2) S h (by omega) C (e.ng.trans o) (by omega);obtain⟨Q,D⟩:=j0 (e.trans q) t (k':=ks a.length+1) h.1;unfold yg1;rw[m.ch u];dsimp only;rw[if_pos rfl,E,bindM_ok,G,bindM_ok,H,bindM_ok,yfx t h,bindM_ok];exact⟨_,true,rfl,.inl ⟨rfl,(Q.mono (by omega)).eq (by simp)⟩,D⟩
theorem yfo {x:Int}(a:0<=x)(b:x<=9223372036854775807):wrap64 x=x:=by unfold wrap64;omega
theorem yoe (k:Nat):∀ (l:List UInt8) (p w s b:Int) (x:Int) (r:List UInt8),k<=8->(10:Int) ^ k<=w->Go.Proofs.YtfckcdbpiepchaaGreatDoor.rd l p w s b=some (x,r)->l.length<=r.length+(9-k)
 | [],_,_,_,_,_,_,_,_,h=>by simp[Go.Proofs.YtfckcdbpiepchaaGreatDoor.rd] at h
 | c::l,p,w,s,b,x,r,g,hw,h=>by
  unfold Go.Proofs.YtfckcdbpiepchaaGreatDoor.rd at h
  split at h
  ·cases h
  ·split at h
   ·split at h
    ·cases h;simp;omega
    ·cases h
   ·split at h
    ·cases h
    ·rename_i f
     have e:k<=7:=by
      rcases Nat.lt_or_ge k 8 with d|d
      ·omega
      ·obtain rfl:k=8:=by omega
       rw[show(10:Int) ^ 8=100000000 by decide] at hw;omega
     have i:=yel p b;have a:(10:Int) ^ (k+1)<=w*(36-thr p b):=by
      rw[Int.pow_succ];exact Int.mul_le_mul hw (by omega) (by omega) (Int.le_trans (Int.pow_nonneg (by omega)) hw)
     have:=yoe (k+1) l _ _ _ _ x r (by omega) a h;simp;omega
theorem yl4:∀ (n:Nat)(l:List Int)(d:List UInt8)(a p b:Int)(r:List Int),dec n l d a p b=some r->d.length+9*l.length<=9*r.length
 | n,l,[],a,p,b,r,h=>by
  have:some l=some r:=by rw[<-h];cases n<;>rfl
  cases this;simp
 | 0,l,_::_,a,p,b,r,h=>by simp[dec] at h
 | n+1,l,x::xs,a,p,b,r,h=>by
  unfold dec at h
  cases c:Go.Proofs.YtfckcdbpiepchaaGreatDoor.rd (x::xs) 1 1 p b with
  | none=>rw[c] at h;cases h
  | some f=>
   obtain⟨s,r'⟩:=f;have e:=yoe 0 _ _ _ _ _ _ _ (by omega) (by omega) c;simp only[c] at h
   split at h
   ·have:=yl4 n _ _ _ _ _ r h
    rw[yas] at this;simp at *;omega
   ·cases h
theorem ynj (r:Int):1<=(Utf8.encode r).size:=by
 unfold Utf8.encode;dsimp only
 repeat' split
 all_goals (simp[ByteArray.size])
theorem ysy (l:List Int):∀ b:ByteArray,b.size+l.length<=(l.foldl (fun b c=>b++Utf8.encode c) b).size:=by
 induction l with
 | nil=>intro b;simp
 | cons c l d=>
  intro b;have a:=d (b++Utf8.encode c);have e:=ynj c;rw[List.foldl_cons,List.length_cons];rw[ByteArray.size_append] at a;omega
theorem u8_ge (l:List Int):l.length<=(u8 l).length:=by
 have:=ysy l ByteArray.empty;have h:(u8 l).length=(runesBytes l).size:=by unfold u8;rw[Array.length_toList];rfl
 rw[h];unfold runesBytes;have a:ByteArray.empty.size=0:=rfl;omega
theorem ytg (l:List UInt8):-1<=ybb l/\ybb l < l.length:=yhm l l.length
theorem yms {l t:List UInt8}{p:Bool}(h:ydg l p=some t):l.length<=11*t.length+2:=by
 unfold ydg at h
 split at h
 ·cases h
 ·split at h
  ·cases h;omega
  ·split at h
   ·cases h
   ·cases hd:yaf (ybc l) (yak l) with
    | none=>rw[hd] at h;cases h
    | some out=>
     rw[hd] at h;simp at h;subst h;have a:=yl4 _ _ _ _ _ _ _ (show dec (yak l).length (vi (ybc l)) (yak l) 128 0 72=some out from hd);have b:=u8_ge out;have c:(vi (ybc l)).length=(ybc l).length:=by unfold vi;simp
     have d:l.length<=(ybc l).length+(yak l).length+1:=by
      have e:=ytg l;unfold ybc yak
      split
      ·simp;omega
      ·simp;omega
     omega
theorem yor (s:ByteArray)(k:Nat)(h:k < s.size):s.get! k=s[k]'h:=by
 have a:k < s.data.size:=h
 show s.data[k]! = s.data[k]
 rw[getElem!_pos s.data k a]
theorem yox (s:ByteArray)(k:Nat)(h:k < s.size):1<=(Utf8.decode s k).2:=by
 by_cases a:(s[k]'h).toNat < 128
 ·rw[Go.decode_ascii s k h a];exact Nat.le_refl _
 ·exact(Go.decode_high s k h (by omega)).2
theorem ywp (s:ByteArray)(k:Nat):(Utf8.decode s k).2<=4/\(1 < (Utf8.decode s k).2->k+((Utf8.decode s k).2-1) < s.size/\(s.get! (k+((Utf8.decode s k).2-1))).toNat / 64=2):=by
 unfold Utf8.decode;dsimp only
 repeat' split
 all_goals (rename_i h;simp_all)
 all_goals omega
theorem yjg (s:ByteArray):∀ (f k:Nat),s.size<=k+f->s.size<=k+4*(xf s f k).length
 | 0,k,h=>by simp[xf];omega
 | f+1,k,h=>by
  unfold xf
  split
  ·have a:=(ywp s k).1
   have b:1<=(Utf8.decode s k).2:=yox s k ‹_›;have:=yjg s f (k+(Utf8.decode s k).2) (by omega);rw[List.length_cons];omega
  ·simp;omega
theorem yhp (s:ByteArray):∀ (f k:Nat),s.size<=k+f->k < s.size->(s.get! (s.size-1)).toNat=32->(32:Int)∈xf s f k
 | 0,k,h,hk,_=>by omega
 | f+1,k,h,hk,a=>by
  unfold xf;rw[if_pos hk];have e:=ywp s k;have j:1<=(Utf8.decode s k).2:=yox s k hk
  rcases Nat.lt_or_ge (k+(Utf8.decode s k).2) s.size with c|c
  ·exact List.mem_cons_of_mem _ (yhp s f _ (by omega) c a)
  ·rcases Nat.lt_or_ge 1 (Utf8.decode s k).2 with d|d
   ·obtain⟨l,g⟩:=e.2 d
    rw[show k+((Utf8.decode s k).2-1)=s.size-1 by omega,a] at g;omega
   ·have b:k=s.size-1:=by omega
    have i:(s[k]'hk).toNat=32:=by rw[<-yor s k hk,b];exact a
    rw[Go.decode_ascii s k hk (by omega),i];exact List.mem_cons_self
theorem ycl {n:List UInt8}(h:zh n=true):yan n:=by
 unfold zh at h
 split at h
 ·rename_i d
  unfold jr at d;rw[Bool.and_eq_true] at d;refine⟨fun e=>by rw[e] at d;simp at d,of_decide_eq_true h,fun f=>?_⟩;have:=List.all_eq_true.1 d.1 32 (List.mem_of_getLast? f);exact absurd this (by decide)
 ·cases b:ga n with
  | none=>rw[b] at h;cases h
  | some l=>
   rw[b] at h;simp only[Bool.and_eq_true,decide_eq_true_eq] at h;obtain⟨⟨f,o⟩,j⟩:=h;unfold ga at b
   split at b
   ·obtain rfl:=Option.some.inj b
    have a:(⟨n.toArray⟩:ByteArray).size=n.length:=by simp[ByteArray.size]
    have c:n≠[]:=fun e=>f (by rw[e];rfl);have k:=yjg ⟨n.toArray⟩ n.length 0 (by rw[a];omega);refine⟨c,by rw[a] at k;omega,fun g=>?_⟩;have i:0 < n.length:=List.length_pos_iff.2 c;have m:=yhp ⟨n.toArray⟩ n.length 0 (by rw[a];omega) (by rw[a];omega) (by
     rw[a,yor _ _ (by rw[a];omega)];rw[List.getLast?_eq_getElem?,lge (by omega)] at g;have:=Option.some.inj g
     show(n.toArray[n.length-1]'(by simp;omega)).toNat=32
     simp[this])
    have:=List.all_eq_true.1 j _ m;exact absurd this (by decide)
   ·cases b
theorem ye9 (c:UInt8):x7 (c.toNat:Int)=kt c:=by
 unfold x7 kt;congr 1;simp only[eq_iff_iff];omega
theorem yuc (c:Int)(l:List Int):∀ b:ByteArray,((c::l).foldl (fun b c=>b++Utf8.encode c) b).data.toList=b.data.toList++(Utf8.encode c).data.toList++(l.foldl (fun b c=>b++Utf8.encode c) ByteArray.empty).data.toList:=by
 have a:∀ (l:List Int) (b:ByteArray),(l.foldl (fun b c=>b++Utf8.encode c) b).data.toList=b.data.toList++(l.foldl (fun b c=>b++Utf8.encode c) ByteArray.empty).data.toList:=by
  intro l
  induction l with
  | nil=>intro b;simp
  | cons d l e=>
   intro b;rw[List.foldl_cons,List.foldl_cons,e (b++Utf8.encode d),e (ByteArray.empty++Utf8.encode d)];simp
 intro b;rw[List.foldl_cons,a l (b++Utf8.encode c)];simp
theorem yn8 (l:List Int):u8 l=(l.map fun c=>(Utf8.encode c).data.toList).flatten:=by
 induction l with
 | nil=>rfl
 | cons c l a=>
  unfold u8 runesBytes;rw[yuc c l ByteArray.empty];simp only[List.map_cons,List.flatten_cons];rw[<-a]
  rfl
theorem ymt {l t:List UInt8}{u:Bool}(h:ydg l u=some t):l.all yr=true:=by
 unfold ydg at h
 cases a:l.all yr with
 | true=>rfl
 | false=>rw[a] at h;simp at h
theorem yvj {ng:Bool}{s:List UInt8}{lim d ar b k:Nat}{t:ya}{k':Nat}(m:k < lim)(a:yb4 (s.getD k 0)=true)(h:j6 ng s true lim .path (d+1) ar b k t k'):j6 ng s true lim .type (d+1) ar b k t k':=by
 obtain⟨x,sx,n⟩:=h.1 false;refine⟨x,.path sx,fun N st o i l hb=>?_⟩;unfold lev at *;simp only[if_true] at *;obtain⟨N,rfl⟩:∃ M,N=M+1:=⟨N-1,by omega⟩;obtain⟨f,g,e,w,A⟩:=n N st (by omega) i l hb;refine⟨f,g,?_,w,A⟩
 show gw (jg N) st=_
 unfold gw;rw[i.ch (c:=s.getD k 0) ⟨m,rfl⟩];dsimp only;rw[<-e];unfold yb4 at a;simp only[Bool.or_eq_true,beq_iff_eq] at a;have j:¬ (97<=(s.getD k 0).toNat/\(s.getD k 0).toNat<=122):=by rcases a with((((h|h)|h)|h)|h)|h<;>rw[h]<;>decide
 rw[if_neg j,if_pos (by rcases a with((((h|h)|h)|h)|h)|h<;>rw[h]<;>decide)]
theorem yvo {ng:Bool}{s:List UInt8}{lim d ar b k:Nat}{l:UInt8}{nm:List UInt8}{n:Nat}{f:Bool}{x:List UInt8}(e:Ch s lim k l)(a:kw l=some x):j6 ng s true lim .type (d+1) ar b k (.mk 7 l nm n f []) (k+1):=by
 refine⟨x,.basic a,fun N st h c t hb=>?_⟩;obtain⟨N,rfl⟩:∃ M,N=M+1:=⟨N-1,by unfold lev at h;simp at h;omega⟩
 show ∃ p g,gw (jg N) st=_/\_
 rw[zd] at *;simp only[List.map_nil,List.sum_nil] at *;obtain⟨q,i⟩:=j0 (.refl st) c (k':=k+1) e.1;obtain⟨o,m,r,j⟩:=zi x 5 q i (yh0 a).2 (by omega);unfold gw;rw[c.ch e];dsimp only;rw[if_pos (yc6 a)];unfold yev;rw[c.ch e];dsimp only;rw[a];dsimp only;rw[m];exact⟨o,false,rfl,r.mono (by omega),j⟩
theorem yvp {ng:Bool}{s:List UInt8}{lim d ar b k:Nat}{l:UInt8}{nm:List UInt8}{n:Nat}{f:Bool}{t c:ya}{k1 k':Nat}
  (h:Ch s lim k 65) (C:j6 ng s false lim .type d ar b (k+1) t k1) (B:j6 ng s false lim .const d ar b k1 c k'):j6 ng s true lim .type (d+1) ar b k (.mk 8 l nm n f [t,c]) k':=by
 obtain⟨x,sx,D⟩:=C;obtain⟨y,H,E⟩:=B;refine⟨_,.array sx H,fun N st e a i hb=>?_⟩;obtain⟨N,rfl⟩:∃ M,N=M+1:=⟨N-1,by unfold lev at e;simp at e;omega⟩;unfold lev at *;simp only[if_true,if_false,Bool.false_eq_true] at *
 show ∃ G g,gw (jg N) st=_/\_
 rw[zd] at *;simp only[List.map_nil,List.sum_nil,List.map_cons,List.sum_cons] at *;obtain⟨I,j⟩:=j0 (.refl st) a (k':=k+1) h.1;obtain⟨R,u,J,m⟩:=zi [91] 1 I j (by simp) (by omega);obtain⟨S,g4,v,K,o⟩:=vp (N:=N) D (by omega) i J m (by omega);obtain⟨T,w,L,p⟩:=zi [59,32] 2 K o (by simp) (by omega);obtain⟨U,Q,z,O,q⟩:=vp (N:=N) E (by omega) i L p (by omega);obtain⟨F,A,P,r⟩:=zi [93] 1 O q (by simp) (by omega);unfold gw;rw[a.ch h];dsimp only;rw[if_neg (by decide),if_neg (by decide),if_pos rfl,u,bindM_ok,v,bindM_ok,w,bindM_ok,z,bindM_ok,A];exact⟨F,false,rfl,(P.mono (by omega)).eq (by simp),r⟩
theorem yvl {ng:Bool}{s:List UInt8}{lim d ar b k:Nat}{l:UInt8}{nm:List UInt8}{n:Nat}{f:Bool}{t:ya}{k':Nat}
  (e:Ch s lim k 83) (u:j6 ng s false lim .type d ar b (k+1) t k'):j6 ng s true lim .type (d+1) ar b k (.mk 9 l nm n f [t]) k':=by
 obtain⟨x,sx,v⟩:=u;refine⟨_,.slice sx,fun N st c a r hb=>?_⟩;obtain⟨N,rfl⟩:∃ M,N=M+1:=⟨N-1,by unfold lev at c;simp at c;omega⟩;unfold lev at *;simp only[if_true,if_false,Bool.false_eq_true] at *
 show ∃ y g,gw (jg N) st=_/\_
 rw[zd] at *;simp only[List.map_nil,List.sum_nil,List.map_cons,List.sum_cons] at *;obtain⟨z,h⟩:=j0 (.refl st) a (k':=k+1) e.1;obtain⟨D,o,A,i⟩:=zi [91] 1 z h (by simp) (by omega);obtain⟨E,g4,p,B,j⟩:=vp (N:=N) v (by omega) r A i (by omega);obtain⟨w,q,C,m⟩:=zi [93] 1 B j (by simp) (by omega);unfold gw;rw[a.ch e];dsimp only;rw[if_neg (by decide),if_neg (by decide),if_neg (by decide),if_pos rfl,o,bindM_ok,p,bindM_ok,q];exact⟨w,false,rfl,(C.mono (by omega)).eq (by simp),m⟩
theorem yiq {ng:Bool}{s:List UInt8}{lim ar b N l:Nat}{a:List ya}{ks:Nat->Nat}{xs:List (List UInt8)}{st:RS}(t:xs.length=a.length)
  (hi:∀ i,i < a.length->yf1 ng s lim ar b (ks i) (a.getD i .zero) (ks (i+1)) .type l (xs.getD i [])) (q:∀ i,i < a.length->ks i < lim/\s.getD (ks i) 0≠69/\ks i < ks (i+1)) (o:Ch s lim (ks a.length) 69)
  (p:l<=N) (d:At s lim ar b (ks 0) st) (j:st.nogen=ng) (hb:st.out.length+2000*(a.map ya.wt).sum+100<=35184372088832) :
  ∃ c,ycu (jg N) st=some (some (c,a.length))/\Wd st c (zl [44,32] xs) (2000*(a.map ya.wt).sum)/\At s lim ar b (ks a.length) c:=by
 have f:=jw (k:=ks 0) d.ll;have r:=d.pl;unfold ycu;obtain⟨v,n,u,m⟩:=ydm (item:=fun s=>ye (jg N .type s) fun z=>some (some z.1)) (sep:=[44,32]) (ng:=ng) t (by simp) (fun i h st d j hb=>by
  obtain⟨c,g,e,w,A⟩:=hi i h N st p d j hb;exact⟨c,by rw[e];rfl,w,A⟩) q o a.length 0 (st.str.length+1) st (by omega) (by rw[d.str,f];omega) d j hb
 exact⟨_,n,u,m⟩
theorem yvi {ng:Bool}{s:List UInt8}{lim d ar b k:Nat}{l:UInt8}{nm:List UInt8}{n:Nat}{f:Bool}{a:List ya}{ks:Nat->Nat}
  (u:Ch s lim k 84) (F:ks 0=k+1) (H:∀ i,i < a.length->j6 ng s false lim .type d ar b (ks i) (a.getD i .zero) (ks (i+1)))
  (J:∀ i,i < a.length->ks i < lim/\s.getD (ks i) 0≠69/\ks i < ks (i+1)) (m:Ch s lim (ks a.length) 69) :
  j6 ng s true lim .type (d+1) ar b k (.mk 10 l nm n f a) (ks a.length+1):=by
 obtain⟨xs,v,c⟩:=x8 (P:=fun i x=>qq ng .type b (a.getD i .zero) x/\yf1 ng s lim ar b (ks i) (a.getD i .zero) (ks (i+1)) .type (3*d+lev false) x) a.length H;refine⟨_,.tuple v (fun i hi=>(c i hi).1),fun N st T t I hb=>?_⟩;unfold lev at *;simp only[if_true,if_false,Bool.false_eq_true] at *;obtain⟨N,rfl⟩:∃ M,N=M+1:=⟨N-1,by omega⟩
 show ∃ L g,gw (jg N) st=_/\_
 rw[zd] at *;obtain⟨O,w⟩:=j0 (.refl st) t (k':=k+1) u.1;obtain⟨U,B,p,y⟩:=zi [40] 1 O w (by simp) (by omega);have K:=p.ln;obtain⟨o,C,j,q⟩:=yiq (N:=N) v (fun i hi=>(c i hi).2) J m (by omega) (by rw[F];exact y) (p.ng.trans I) (by omega);have j:=p.trans j;have G:∃ h,(if a.length=1 then wS [44] o else some (some o))=some (some h)/\Wd st h (([]++[40]++zl [44,32] xs)++(if a.length=1 then [44] else [])) (0+1+2000*(a.map ya.wt).sum+1)/\At s lim ar b (ks a.length) h:=by
  by_cases e:a.length=1
  ·rw[if_pos e,if_pos e]
   exact zi [44] 1 j q (by simp) (by omega)
  ·rw[if_neg e,if_neg e]
   exact⟨o,rfl,(j.mono (by omega)).eq (by simp),q⟩
 obtain⟨h,D,Q,z⟩:=G;obtain⟨V,E,R,r⟩:=zi [41] 1 Q z (by simp) (by omega);obtain⟨S,A⟩:=j0 R r (k':=ks a.length+1) m.1;unfold gw;rw[t.ch u];dsimp only;rw[if_neg (by decide),if_neg (by decide),if_neg (by decide),if_neg (by decide),if_pos rfl,B,bindM_ok,C,bindM_ok,D,bindM_ok,E,bindM_ok,yfx r m];exact⟨_,false,rfl,(S.mono (by omega)).eq (by simp),A⟩
theorem yrj {s:List UInt8}{lim ar b k n k1:Nat}{a st:RS}{x:List UInt8}{c:Nat}(w:Wd a st x c)(d:At s lim ar b k st)(t:yic s lim b k n k1)(f:s.getD k1 0≠76)(y:k1 < lim)(hb:a.out.length+c+3<=35184372088832) :
  ∃ e,(if st.str.head? = some 76 then
   match b62 st.str.tail with
   | none=>some none
   | some (v,m)=>if v < 0 then none else if v=0 then some (some (st.go m)) else ye (yb3 v (st.go m)) fun s=>wS [32] s
  else some (some st))=some (some e)/\Wd a e (x++(if n=0 then [] else zc n b++[32])) (c+3)/\At s lim ar b k1 e:=by
 rcases t with⟨rfl,rfl⟩|⟨l,B,u,A⟩
 ·rw[if_neg (d.nch (fun h=>f h.2)),if_pos rfl]
  exact⟨st,rfl,(w.mono (by omega)).eq (by simp),d⟩
 ·obtain⟨g,i⟩:=j0 w d u
  rw[if_pos (by rw[d.ch l];rfl),show st.str.tail=Vw s lim (k+1) by rw[d.ch l];rfl,B];dsimp only;rw[if_neg (by omega)]
  by_cases j:n=0
  ·rw[if_pos (by omega),if_pos j]
   exact⟨_,rfl,(g.mono (by omega)).eq (by simp),i⟩
  ·rw[if_neg (by omega),if_neg j]
   have z:=g.ln;obtain⟨e,q,D,o⟩:=ye7 i A (by omega);obtain⟨C,r,E,p⟩:=zi [32] 1 (g.trans D) o (by simp) (by omega);rw[q,bindM_ok,r];exact⟨C,rfl,(E.mono (by omega)).eq (by simp),p⟩
theorem g_ref {ng:Bool}{s:List UInt8}{lim d ar b k:Nat}{l:UInt8}{nm:List UInt8}{n:Nat}{f:Bool}{t:ya}{kk k1 k':Nat}
  (a:(kk=11/\Ch s lim k 82)\/(kk=12/\Ch s lim k 81)) (v:yic s lim b (k+1) n k1) (p:s.getD k1 0≠76) (j:k1 < lim) (O:j6 ng s false lim .type d ar b k1 t k'):j6 ng s true lim .type (d+1) ar b k (.mk kk l nm n f [t]) k':=by
 obtain⟨x,sx,P⟩:=O;have o:n<=b:=by rcases v with⟨rfl,_⟩|⟨_,_,_,h⟩<;>omega
 refine⟨_,.ref (by rcases a with⟨h,_⟩|⟨h,_⟩<;>omega) o sx,fun N st w i L hb=>?_⟩
 obtain⟨N,rfl⟩:∃ M,N=M+1:=⟨N-1,by unfold lev at w;simp at w;omega⟩;unfold lev at *;simp only[if_true,if_false,Bool.false_eq_true] at *
 show ∃ Q g,gw (jg N) st=_/\_
 rw[zd] at *;simp only[List.map_nil,List.sum_nil,List.map_cons,List.sum_cons] at *;have m:k+1<=lim:=by rcases a with⟨_,h⟩|⟨_,h⟩<;>exact h.1
 obtain⟨R,C⟩:=j0 (.refl st) i (k':=k+1) m;obtain⟨V,G,S,D⟩:=zi [38] 1 R C (by simp) (by omega);obtain⟨q,H,B,r⟩:=yrj S D v p j (by omega);have K:∃ e,(if decide (kk=12)=true then wS [109,117,116,32] q else some (some q))=some (some e)/\Wd st e (([]++[38]++(if n=0 then [] else zc n b++[32]))++(if kk=12 then [109,117,116,32] else [])) (0+1+3+4)/\At s lim ar b k1 e:=by
  by_cases c:kk=12
  ·rw[if_pos (by simpa using c),if_pos c]
   exact zi [109,117,116,32] 4 B r (by simp) (by omega)
  ·rw[if_neg (by simpa using c),if_neg c]
   exact⟨q,rfl,(B.mono (by omega)).eq (by simp),r⟩
 obtain⟨e,I,T,E⟩:=K;obtain⟨A,u,J,U,F⟩:=vp (N:=N) P (by omega) L T E (by omega);have y:yih (jg N) (decide (kk=12)) (st.go (Vw s lim (k+1)))=some (some (A,u)):=by
  unfold yih;rw[G,bindM_ok];refine(congrArg (fun z=>ye z _) H).trans ?_;rw[bindM_ok,I,bindM_ok,J]
 refine⟨A,u,?_,(U.mono (by omega)).eq (by simp),F⟩
 rcases a with⟨rfl,a⟩|⟨rfl,a⟩
 ·unfold gw
  rw[i.ch a];dsimp only;rw[if_neg (by decide),if_neg (by decide),if_neg (by decide),if_neg (by decide),if_neg (by decide),if_pos rfl];exact y
 ·unfold gw
  rw[i.ch a];dsimp only;rw[if_neg (by decide),if_neg (by decide),if_neg (by decide),if_neg (by decide),if_neg (by decide),if_neg (by decide),if_pos rfl];exact y
theorem g_ptr {ng:Bool}{s:List UInt8}{lim d ar b k:Nat}{l:UInt8}{nm:List UInt8}{n:Nat}{f:Bool}{t:ya}{kk k':Nat}
  (a:(kk=13/\Ch s lim k 80)\/(kk=14/\Ch s lim k 79)) (B:j6 ng s false lim .type d ar b (k+1) t k'):j6 ng s true lim .type (d+1) ar b k (.mk kk l nm n f [t]) k':=by
 obtain⟨x,sx,z⟩:=B;refine⟨_,.ptr (by rcases a with⟨h,_⟩|⟨h,_⟩<;>omega) sx,fun N st w o y hb=>?_⟩
 obtain⟨N,rfl⟩:∃ M,N=M+1:=⟨N-1,by unfold lev at w;simp at w;omega⟩;unfold lev at *;simp only[if_true,if_false,Bool.false_eq_true] at *
 show ∃ D g,gw (jg N) st=_/\_
 rw[zd] at *;simp only[List.map_nil,List.sum_nil,List.map_cons,List.sum_cons] at *;have p:k+1<=lim:=by rcases a with⟨_,h⟩|⟨_,h⟩<;>exact h.1
 obtain⟨A,v⟩:=j0 (.refl st) o (k':=k+1) p
 rcases a with⟨rfl,a⟩|⟨rfl,a⟩
 ·obtain⟨C,i,r,c⟩:=zi [42,99,111,110,115,116,32] 7 A v (by simp) (by omega)
  obtain⟨q,m,j,u,e⟩:=vp (N:=N) z (by omega) y r c (by omega);refine⟨q,m,?_,(u.mono (by omega)).eq (by simp),e⟩;unfold gw;rw[o.ch a];dsimp only;rw[if_neg (by decide),if_neg (by decide),if_neg (by decide),if_neg (by decide),if_neg (by decide),if_neg (by decide),if_neg (by decide),if_pos rfl,i,bindM_ok,j]
 ·obtain⟨C,i,r,c⟩:=zi [42,109,117,116,32] 5 A v (by simp) (by omega)
  obtain⟨q,m,j,u,e⟩:=vp (N:=N) z (by omega) y r c (by omega);refine⟨q,m,?_,(u.mono (by omega)).eq (by simp),e⟩;unfold gw;rw[o.ch a];dsimp only;rw[if_neg (by decide),if_neg (by decide),if_neg (by decide),if_neg (by decide),if_neg (by decide),if_neg (by decide),if_neg (by decide),if_neg (by decide),if_pos rfl,i,bindM_ok,j]
theorem g_fn {ng:Bool}{s:List UInt8}{sg:Nat}{lim d ar b k:Nat}{l:UInt8}{nm:List UInt8}{n:Nat}{f:Bool}{a:List ya}{t:ya}{k1 k2:Nat}{ks:Nat->Nat}{k':Nat}
  (S:Ch s lim k 70) (hB:ydd s sg lim ar b (k+1) n k1) (c:(f=true/\Ch s lim k1 85/\k2=k1+1)\/(f=false/\¬ Ch s lim k1 85/\k2=k1)) (R:ymn s lim k2 nm (ks 0))
  (ha:∀ i,i < a.length->j6 ng s false lim .type d ar (b+n) (ks i) (a.getD i .zero) (ks (i+1))) (hh:∀ i,i < a.length->ks i < lim/\s.getD (ks i) 0≠69/\ks i < ks (i+1)) (E:Ch s lim (ks a.length) 69)
  (ht:j6 ng s false lim .type d ar (b+n) (ks a.length+1) t k') (hu:ya8 t=false) (G:isU t=true->Ch s lim (ks a.length+1) 117/\k'=ks a.length+1+1) (H:isU t=false->s.getD (ks a.length+1) 0≠117) (D:b+n<=20) :
  j6 ng s true lim .type (d+1) ar b k (.mk 15 l nm n f (a++[t])) k':=by
 obtain⟨xs,U,q⟩:=x8 (P:=fun i x=>qq ng .type (b+n) (a.getD i .zero) x/\yf1 ng s lim ar (b+n) (ks i) (a.getD i .zero) (ks (i+1)) .type (3*d+lev false) x) a.length ha;obtain⟨y,sy,ry⟩:=ht;have F:nm.length<=20:=by
  rcases R with⟨rfl,_⟩|⟨rfl,_⟩|⟨z,_,_,_,_,rfl,h,_⟩
  ·simp
  ·simp
  ·rw[List.length_map];exact h
 refine⟨_,.fn (by omega) F U (fun i hi=>(q i hi).1) sy hu,fun N st hN u T hb=>?_⟩;unfold lev at *;simp only[if_true,if_false,Bool.false_eq_true] at *;obtain⟨N,rfl⟩:∃ M,N=M+1:=⟨N-1,by omega⟩
 show ∃ a0 g,gw (jg N) st=_/\_
 rw[zd] at *;simp only[List.map_append,List.map_nil,List.map_cons,List.sum_append,List.sum_nil,List.sum_cons] at *;obtain⟨V,X⟩:=j0 (.refl st) u (k':=k+1) S.1;have ap:=V.ln;obtain⟨j,e2,w,o⟩:=yhs X hB D (by omega);have w:=V.trans w;have h3:∃ v,(if j.str.head? = some 85 then wS [117,110,115,97,102,101,32] (j.go j.str.tail) else some (some j))=some (some v)/\Wd st v (([]++qh n b)++(if f then [117,110,115,97,102,101,32] else [])) (0+90+7)/\At s lim ar (b+n) k2 v:=by
  rcases c with⟨rfl,c,rfl⟩|⟨rfl,c,rfl⟩
  ·rw[if_pos (by rw[o.ch c];rfl),show j.str.tail=Vw s lim (k1+1) by rw[o.ch c];rfl]
   obtain⟨A,B⟩:=j0 w o (k':=k1+1) c.1;exact zi [117,110,115,97,102,101,32] 7 A B (by simp) (by omega)
  ·rw[if_neg (o.nch c)]
   exact⟨j,rfl,(w.mono (by omega)).eq (by simp),o⟩
 obtain⟨v,e3,A,B⟩:=h3;have aq:=A.ln;obtain⟨s4,e4,J,Y⟩:=ywc B R (by omega);have J:=A.trans J;obtain⟨s5,e5,K,Z⟩:=zi [102,110,40] 3 J Y (by simp) (by omega);have au:=K.ln;obtain⟨s6,e6,L,Q⟩:=yiq (N:=N) U (fun i hi=>(q i hi).2) hh E (by omega) Z (K.ng.trans T) (by omega);have L:=K.trans L;obtain⟨w7,A7⟩:=j0 L Q (k':=ks a.length+1) E.1;obtain⟨r,e8,W,p⟩:=zi [41] 1 w7 A7 (by simp) (by omega);have h9:∃ m,(if r.str.head? = some 117 then some (some (r.go r.str.tail)) else ye (wS [32,45,62,32] r) fun s=>ye (jg N .type s) fun z=>some (some z.1))=some (some m)/\
   Wd st m (([]++qh n b++(if f then [117,110,115,97,102,101,32] else [])++kr nm++[102,110,40]++zl [44,32] xs++[41])++(if isU t then [] else [32,45,62,32]++y)) (0+90+7+60+3+2000*(a.map ya.wt).sum+1+4+(2000*t.wt-100))/\At s lim ar (b+n) k' m:=by
  cases hi:isU t with
  | true=>
   obtain⟨e,I⟩:=G hi;rw[if_pos (by rw[p.ch e];rfl),show r.str.tail=Vw s lim (ks a.length+1+1) by rw[p.ch e];rfl];obtain⟨O,C⟩:=j0 W p (k':=ks a.length+1+1) e.1;exact⟨_,rfl,(O.mono (by omega)).eq (by simp),by rw[I];exact C⟩
  | false=>
   rw[if_neg (p.nch (fun h=>H hi h.2))];obtain⟨q1,f1,v1,B1⟩:=zi [32,45,62,32] 4 W p (by simp) (by omega);obtain⟨q2,g2,f2,v2,B2⟩:=vp (N:=N) ry (by omega) T v1 B1 (by omega);rw[f1,bindM_ok,f2,bindM_ok];exact⟨q2,rfl,(v2.mono (by omega)).eq (by simp),B2⟩
 obtain⟨m,e9,O,C⟩:=h9;have hm:fnM (jg N) (st.go (Vw s lim (k+1)))=some (some m):=by
  unfold fnM;rw[e2,bindM_ok,e3,bindM_ok,e4,bindM_ok,e5,bindM_ok,e6,bindM_ok,yfx Q E,bindM_ok,e8,bindM_ok,e9]
 unfold gw;rw[u.ch S];dsimp only;rw[if_neg (by decide),if_neg (by decide),if_neg (by decide),if_neg (by decide),if_neg (by decide),if_neg (by decide),if_neg (by decide),if_neg (by decide),if_neg (by decide),if_pos rfl,hm,bindM_ok];exact⟨_,false,rfl,(((O.post (Wd.same (b:={ m with life:=st.life }) rfl rfl rfl rfl rfl)).mono (by omega))).eq (by simp),C.life' _ u.life u.b20⟩
end Go.Proofs.YtfckcdbpiepchaaGreatDoor
