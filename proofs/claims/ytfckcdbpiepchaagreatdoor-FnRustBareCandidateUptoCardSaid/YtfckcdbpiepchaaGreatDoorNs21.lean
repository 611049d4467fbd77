import Derived.Test.YtfckcdbpiepchaaGreatDoorNs20
namespace Go.Proofs.YtfckcdbpiepchaaGreatDoor
open Go.RowKit
set_option maxRecDepth 100000
set_option maxHeartbeats 8000000
set_option linter.all false
theorem lp2 {w0:World}{B p d:Nat}(E:LkE w0 B p d){b l:Nat}{c:UInt8}{nm:List UInt8}{n:Nat}{f:Bool}{kids:List ya}{v:Value}{w:World}(hb:b<=20)(hl:l<=300)(u:yg w0 (.mk 2 c nm n f kids) v)(s:Sml (.mk 2 c nm n f kids))(h:Below B w0 w)(Q:jc w B p l)(S:n < 4611686018427387904) :
  Calls Tryz.prog 53 #[.pointer (some ⟨p,0,none⟩),v,.int .i64 d,.int .i64 b] w fun e w'=>qj B p w (qr (yl d) b (.mk 2 c nm n f kids) l) e w':=by
 obtain⟨ao,cap,rfl,hK,hn,ae,I,ac,t⟩:=yze u (by omega) E.hB h.size;have hB:=E.hB;have D:=lh hK;have N:=lh s;have y:=lh E;have M:=lh h;have U:=lh Q;obtain⟨R,g⟩:∃ R,R=qr (yl d) b (.mk 2 c nm n f kids) l:=⟨_,rfl⟩;rw[<-g];replace g:R=z8 (yl d) b 2 c nm n kids l:=g;unfold z8 at g;clear hK s E h Q u hB;have hg:¬ (4611686018427387904:Int)<=(n:Int):=by omega
 rw[if_neg (by omega)] at g;rw[if_neg (by omega)] at g;rw[if_pos rfl] at g
 by_cases a:kids.length=2
 ·obtain⟨q0,q1,rfl⟩:=yg7 a
  clear a;have o:=lh g;clear g;obtain⟨kb,ko,rfl⟩:=D.out.nn (by simp);obtain⟨af,ag,ah,ai,aj,ak,O,t0⟩:=D.out.k0;have Y:=lh t0;have W:=lh (N.out.kid 0 (by simp) rfl);have G:=lh O;clear t0 O;obtain⟨al,am,v12,an,ap,aq,P,T⟩:=D.out.k1;have Z:=lh T;have X:=lh (N.out.kid 1 (by simp) rfl);have H:=lh P;clear T P;simp only[List.length_cons,List.length_nil] at I;obtain⟨z0,z1,z2,z3,z4,z5⟩:=G.out.un y.out.hB M.out t
  go_enter Tryz.func53,Tryz.ntmps53
  go_wp2_with fail
  refine j3 (want:=0) (b:=0) y.out (by omega) (by omega) hl Y.out W.out (M.out.alloc t _) (U.out.alloc _) (fun w1 l1 q k b1 K g1=>?_) (fun w1 q k=>?_)
  ·have i:=lh ((Fr.alloc B w _).trans k);have x:=lh q;have A:=lh K
   have F:=lh b1;have J:=k.cell (ym w _);have V:=lh J;obtain⟨x0,x1,x2,x3,x4,x5⟩:=yn J;obtain⟨y0,y1,y2,y3,y4,y5⟩:=H.out.at y.out.hB b1;clear J q k b1 K
   go_wp2_with fail
   refine j3 (want:=1) (b:=b) y.out (by omega) hb g1 Z.out X.out F.out A.out (fun w2 l2 r m b2 L g2=>?_) (fun w2 r m=>?_)
   ·have j:=lh (i.out.trans m);have z:=lh r;have C:=lh L
    clear r m b2 L;go_wp2;go_ret;exact .yes j.out (by rw[o.out];simp only[x.out,z.out,Option.bind_some]) C.out
   ·have j:=lh (i.out.trans m);have z:=lh r
    clear r m;go_wp2;go_ret;exact .no j.out (by rw[o.out];simp only[x.out,z.out,Option.bind_some,Option.bind_none])
  ·have i:=lh ((Fr.alloc B w _).trans k);have x:=lh q
   clear q k;go_wp2;go_ret;exact .no i.out (by rw[o.out];simp only[x.out,Option.bind_some,Option.bind_none])
 ·have hq:((kids.length:Int) == 2)=false:=by simp;omega
  have hr:R=none:=by
   rw[g]
   split
   ·simp at a
   ·rfl
  have o:=lh hr;clear g hr a
  go_enter Tryz.func53,Tryz.ntmps53
  go_wp2;go_ret
  exact .no (.alloc B w _) o.out
theorem lp3 {w0:World}{B p d:Nat}(E:LkE w0 B p d){b l:Nat}{c:UInt8}{nm:List UInt8}{n:Nat}{f:Bool}{kids:List ya}{v:Value}{w:World}(hb:b<=20)(hl:l<=300)(D:yg w0 (.mk 3 c nm n f kids) v)(A:Sml (.mk 3 c nm n f kids))(h:Below B w0 w)(hA:jc w B p l)(ad:n < 4611686018427387904) :
  Calls Tryz.prog 53 #[.pointer (some ⟨p,0,none⟩),v,.int .i64 d,.int .i64 b] w fun e w'=>qj B p w (qr (yl d) b (.mk 3 c nm n f kids) l) e w':=by
 obtain⟨ao,cap,rfl,hK,hn,av,U,ar,C⟩:=yze D (by omega) E.hB h.size;have hB:=E.hB;have G:=lh hK;have N:=lh A;have r:=lh E;have Y:=lh h;have HA:=lh hA;obtain⟨R,g⟩:∃ R,R=qr (yl d) b (.mk 3 c nm n f kids) l:=⟨_,rfl⟩;rw[<-g];replace g:R=z8 (yl d) b 3 c nm n kids l:=g;unfold z8 at g;clear hK A E h hA D hB;have hg:¬ (4611686018427387904:Int)<=(n:Int):=by omega
 rw[if_neg (by omega)] at g;rw[if_neg (by omega)] at g;rw[if_neg (by omega)] at g;rw[if_pos rfl] at g
 by_cases a:kids.length=3
 ·obtain⟨q0,q1,q2,rfl⟩:=ym9 a
  clear a;have s:=lh g;clear g;obtain⟨kb,ko,rfl⟩:=G.out.nn (by simp);obtain⟨aw,ax,ay,az,a0,a1,Z,t0⟩:=G.out.k0;have T0:=lh t0;have S0:=lh (N.out.kid 0 (by simp) rfl);have P:=lh Z;clear t0 Z;obtain⟨a2,a3,v12,a4,a5,a6,K1,t1⟩:=G.out.k1;have T1:=lh t1;have S1:=lh (N.out.kid 1 (by simp) rfl);have Q:=lh K1;clear t1 K1;obtain⟨v20,v21,a7,a8,a9,ba,K2,t2⟩:=G.out.k2;have T2:=lh t2;have S2:=lh (N.out.kid 2 (by simp) rfl);have S:=lh K2;clear t2 K2;simp only[List.length_cons,List.length_nil] at U;obtain⟨z0,z1,z2,z3,z4,z5⟩:=P.out.un r.out.hB Y.out C
  go_enter Tryz.func53,Tryz.ntmps53
  go_wp2_with fail
  refine j3 (want:=0) (b:=0) r.out (by omega) (by omega) hl T0.out S0.out (Y.out.alloc C _) (HA.out.alloc _) (fun w1 l1 x o b1 V g1=>?_) (fun w1 x o=>?_)
  ·have i:=lh ((Fr.alloc B w _).trans o);have u:=lh x;have I:=lh V
   have L:=lh b1;have m:=o.cell (ym w _);have O:=lh m;obtain⟨x0,x1,x2,x3,x4,x5⟩:=yn m;obtain⟨y0,y1,y2,y3,y4,y5⟩:=Q.out.at r.out.hB b1;clear m x o b1 V
   go_wp2_with fail
   refine j3 (want:=1) (b:=b) r.out (by omega) hb g1 T1.out S1.out L.out I.out (fun w2 l2 y q T W g2=>?_) (fun w2 y q=>?_)
   ·have j:=lh (i.out.trans q);have F:=lh y;have J:=lh W
    have M:=lh T;have m:=q.cell O.out;have ag:=lh m;obtain⟨x0,x1,x2,x3,x4,x5⟩:=yn m;obtain⟨y0,y1,y2,y3,y4,y5⟩:=S.out.at r.out.hB T;clear m y q T W
    go_wp2_with fail
    refine j3 (want:=0) (b:=b) r.out (by omega) hb g2 T2.out S2.out M.out J.out (fun w3 l3 z t b3 X g3=>?_) (fun w3 z t=>?_)
    ·have k:=lh (j.out.trans t);have H:=lh z;have K:=lh X
     clear z t b3 X;go_wp2;go_ret;exact .yes k.out (by rw[s.out];simp only[u.out,F.out,H.out,Option.bind_some]) K.out
    ·have k:=lh (j.out.trans t);have H:=lh z
     clear z t;go_wp2;go_ret;exact .no k.out (by rw[s.out];simp only[u.out,F.out,H.out,Option.bind_some,Option.bind_none])
   ·have j:=lh (i.out.trans q);have F:=lh y
    clear y q;go_wp2;go_ret;exact .no j.out (by rw[s.out];simp only[u.out,F.out,Option.bind_some,Option.bind_none])
  ·have i:=lh ((Fr.alloc B w _).trans o);have u:=lh x
   clear x o;go_wp2;go_ret;exact .no i.out (by rw[s.out];simp only[u.out,Option.bind_some,Option.bind_none])
 ·have hq:((kids.length:Int) == 3)=false:=by simp;omega
  have hr:R=none:=by
   rw[g]
   split
   ·simp at a
   ·rfl
  have s:=lh hr;clear g hr a
  go_enter Tryz.func53,Tryz.ntmps53
  go_wp2;go_ret
  exact .no (.alloc B w _) s.out
theorem lp4 {w0:World}{B p d:Nat}(E:LkE w0 B p d){b l:Nat}{c:UInt8}{nm:List UInt8}{n:Nat}{f:Bool}{kids:List ya}{v:Value}{w:World}(hb:b<=20)(hl:l<=300)(u:yg w0 (.mk 4 c nm n f kids) v)(s:Sml (.mk 4 c nm n f kids))(h:Below B w0 w)(Q:jc w B p l)(S:n < 4611686018427387904) :
  Calls Tryz.prog 53 #[.pointer (some ⟨p,0,none⟩),v,.int .i64 d,.int .i64 b] w fun e w'=>qj B p w (qr (yl d) b (.mk 4 c nm n f kids) l) e w':=by
 obtain⟨ao,cap,rfl,hK,hn,ae,I,ac,t⟩:=yze u (by omega) E.hB h.size;have hB:=E.hB;have D:=lh hK;have N:=lh s;have y:=lh E;have M:=lh h;have U:=lh Q;obtain⟨R,g⟩:∃ R,R=qr (yl d) b (.mk 4 c nm n f kids) l:=⟨_,rfl⟩;rw[<-g];replace g:R=z8 (yl d) b 4 c nm n kids l:=g;unfold z8 at g;clear hK s E h Q u hB;have hg:¬ (4611686018427387904:Int)<=(n:Int):=by omega
 rw[if_neg (by omega)] at g;rw[if_neg (by omega)] at g;rw[if_neg (by omega)] at g;rw[if_neg (by omega)] at g;rw[if_pos rfl] at g
 by_cases a:kids.length=2
 ·obtain⟨q0,q1,rfl⟩:=yg7 a
  clear a;have o:=lh g;clear g;obtain⟨kb,ko,rfl⟩:=D.out.nn (by simp);obtain⟨af,ag,ah,ai,aj,ak,O,t0⟩:=D.out.k0;have Y:=lh t0;have W:=lh (N.out.kid 0 (by simp) rfl);have G:=lh O;clear t0 O;obtain⟨al,am,v12,an,ap,aq,P,T⟩:=D.out.k1;have Z:=lh T;have X:=lh (N.out.kid 1 (by simp) rfl);have H:=lh P;clear T P;simp only[List.length_cons,List.length_nil] at I;obtain⟨z0,z1,z2,z3,z4,z5⟩:=G.out.un y.out.hB M.out t
  go_enter Tryz.func53,Tryz.ntmps53
  go_wp2_with fail
  refine j3 (want:=1) (b:=b) y.out (by omega) hb hl Y.out W.out (M.out.alloc t _) (U.out.alloc _) (fun w1 l1 q k b1 K g1=>?_) (fun w1 q k=>?_)
  ·have i:=lh ((Fr.alloc B w _).trans k);have x:=lh q;have A:=lh K
   have F:=lh b1;have J:=k.cell (ym w _);have V:=lh J;obtain⟨x0,x1,x2,x3,x4,x5⟩:=yn J;obtain⟨y0,y1,y2,y3,y4,y5⟩:=H.out.at y.out.hB b1;clear J q k b1 K
   go_wp2_with fail
   refine j3 (want:=0) (b:=b) y.out (by omega) hb g1 Z.out X.out F.out A.out (fun w2 l2 r m b2 L g2=>?_) (fun w2 r m=>?_)
   ·have j:=lh (i.out.trans m);have z:=lh r;have C:=lh L
    clear r m b2 L;go_wp2;go_ret;exact .yes j.out (by rw[o.out];simp only[x.out,z.out,Option.bind_some]) C.out
   ·have j:=lh (i.out.trans m);have z:=lh r
    clear r m;go_wp2;go_ret;exact .no j.out (by rw[o.out];simp only[x.out,z.out,Option.bind_some,Option.bind_none])
  ·have i:=lh ((Fr.alloc B w _).trans k);have x:=lh q
   clear q k;go_wp2;go_ret;exact .no i.out (by rw[o.out];simp only[x.out,Option.bind_some,Option.bind_none])
 ·have hq:((kids.length:Int) == 2)=false:=by simp;omega
  have hr:R=none:=by
   rw[g]
   split
   ·simp at a
   ·rfl
  have o:=lh hr;clear g hr a
  go_enter Tryz.func53,Tryz.ntmps53
  go_wp2;go_ret
  exact .no (.alloc B w _) o.out
theorem yx8 {w0:World}{B p d:Nat}{k b l:Nat}{c:UInt8}{nm:List UInt8}{n:Nat}{f:Bool}{kids:List ya}{v:Value}{w:World}(h:1<=k)(a:4611686018427387904<=n)(g:yg w0 (.mk k c nm n f kids) v) :
  Calls Tryz.prog 53 #[.pointer (some ⟨p,0,none⟩),v,.int .i64 d,.int .i64 b] w fun e w'=>qj B p w (qr (yl d) b (.mk k c nm n f kids) l) e w':=by
 obtain⟨ao,cap,rfl,hK,m,i⟩:=yo g h;have j:(4611686018427387904:Int)<=(n:Int):=by omega
 have hr:qr (yl d) b (.mk k c nm n f kids) l=none:=by
  show z8 (yl d) b k c nm n kids l=none
  unfold z8;rw[if_pos a]
 rw[hr];clear hr g hK a
 go_enter Tryz.func53,Tryz.ntmps53
 go_wp2;go_ret
 exact .no (.alloc B w _) rfl
theorem lp1 {w0:World}{B p d:Nat}(E:LkE w0 B p d){b l:Nat}{c:UInt8}{nm:List UInt8}{n:Nat}{f:Bool}{kids:List ya}{v:Value}{w:World}(hb:b<=20)(P:l<=300)(t:yg w0 (.mk 1 c nm n f kids) v)(r:Sml (.mk 1 c nm n f kids))(j:Below B w0 w)(D:jc w B p l)(F:n < 4611686018427387904) :
  Calls Tryz.prog 53 #[.pointer (some ⟨p,0,none⟩),v,.int .i64 d,.int .i64 b] w fun e w'=>qj B p w (qr (yl d) b (.mk 1 c nm n f kids) l) e w':=by
 obtain⟨ao,cap,rfl,hK,Q,K,I,J,s⟩:=yze t (by omega) E.hB j.size;have hB:=E.hB;have N:=lh hK;have C:=lh r;have z:=lh E;have A:=lh j;have H:=lh D;obtain⟨R,i⟩:∃ R,R=qr (yl d) b (.mk 1 c nm n f kids) l:=⟨_,rfl⟩;rw[<-i];replace i:R=z8 (yl d) b 1 c nm n kids l:=i;unfold z8 at i;clear hK r E j D t hB;have O:¬ (4611686018427387904:Int)<=(n:Int):=by omega
 rw[if_neg (by omega)] at i;rw[if_pos (show(1:Nat)=1 from rfl)] at i
 by_cases o:kids=[]
 ·have L:((kids.length:Int) == 0)=true:=by rw[o];rfl
  cases a:zh nm with
  | true=>
   have hr:R=some l:=by rw[i,if_pos ⟨o,a⟩]
   have q:=lh hr;clear hr i o;have m:=fun w y=>ze nm C.out.nm w y;rw[a] at m;have x:=lh a;clear a
   go_enter Tryz.func53,Tryz.ntmps53
   go_wp2_with fail
   refine(m _ (z.out.vtAt (A.out.alloc s _))).mono ?_;rintro e M ⟨rfl,g⟩;clear m;have k:=lh ((Fr.alloc B w _).trans (.of_below g));have u:=lh ((H.out.alloc _).below g);clear g;go_wp2;go_ret;exact .yes k.out q.out u.out
  | false=>
   have hr:R=none:=by rw[i,if_neg (fun h=>by rw[a] at h;cases h.2)]
   have q:=lh hr;clear hr i o;have m:=fun w y=>ze nm C.out.nm w y;rw[a] at m;have x:=lh a;clear a
   go_enter Tryz.func53,Tryz.ntmps53
   go_wp2_with fail
   refine(m _ (z.out.vtAt (A.out.alloc s _))).mono ?_;rintro e M ⟨rfl,g⟩;clear m;have k:=lh ((Fr.alloc B w _).trans (.of_below g));have G:=(Fr.of_below (B:=B) g).cell (ym w _);obtain⟨S,T,U,V,W,X⟩:=yn G;clear G g;go_wp2;go_ret;exact .no k.out q.out
 ·have L:((kids.length:Int) == 0)=false:=by rw[beq_eq_false_iff_ne];intro h;exact o (List.eq_nil_of_length_eq_zero (by omega))
  have hr:R=none:=by rw[i,if_neg (fun h=>o h.1)]
  have q:=lh hr;clear hr i o
  go_enter Tryz.func53,Tryz.ntmps53
  go_wp2;go_ret
  exact .no (.alloc B w _) q.out
theorem lp5at {w0:World}{B p d:Nat}(E:LkE w0 B p d){b l:Nat}{c:UInt8}{nm:List UInt8}{n:Nat}{f:Bool}{kids:List ya}{v:Value}{w:World}(hb:b<=20)(hl:l<=300)(A:yg w0 (.mk 5 c nm n f kids) v)(z:Sml (.mk 5 c nm n f kids))(k:Below B w0 w)(V:jc w B p l)(W:n < 4611686018427387904)(P:c=67)(h:zh nm=true) :
  Calls Tryz.prog 53 #[.pointer (some ⟨p,0,none⟩),v,.int .i64 d,.int .i64 b] w fun e w'=>qj B p w (qr (yl d) b (.mk 5 c nm n f kids) l) e w':=by
 obtain⟨ao,cap,rfl,hK,hn,ad,Q,ab,m⟩:=yze A (by omega) E.hB k.size;have hB:=E.hB;have T:=lh hK;have M:=lh z;have D:=lh E;have J:=lh k;have X:=lh V;obtain⟨R,g⟩:∃ R,R=qr (yl d) b (.mk 5 c nm n f kids) l:=⟨_,rfl⟩;rw[<-g];replace g:R=z8 (yl d) b 5 c nm n kids l:=g;unfold z8 at g;clear hK z E k V A hB;have hg:¬ (4611686018427387904:Int)<=(n:Int):=by omega
 rw[if_neg (by omega)] at g;rw[if_neg (show ¬ (5:Nat)=1 by decide)] at g;rw[if_neg (show ¬ (5:Nat)=2 by decide)] at g;rw[if_neg (show ¬ (5:Nat)=3 by decide)] at g;rw[if_neg (show ¬ (5:Nat)=4 by decide)] at g;rw[if_pos (show(5:Nat)=5 from rfl)] at g;have ae:((c.toNat:Int) == 67)=true:=by rw[P];rfl
 have y:c=67\/c=83:=.inl P;have r:gq c nm=true:=by unfold gq;rw[if_pos y,h];rfl
 clear P y
 by_cases i:kids.length=1
 ·obtain⟨q0,rfl⟩:=vh i
  clear i;replace g:R=yl d 0 b q0 l:=by rw[g];exact if_pos r
  have F:=lh g;clear g r;have o:=fun w O=>ze nm M.out.nm w O;rw[h] at o;have L:=lh h;clear h;obtain⟨kb,ko,rfl⟩:=T.out.nn (by simp);obtain⟨ag,ah,ai,aj,ak,al,U,t0⟩:=T.out.k0;have T0:=lh t0;have Z:=lh (M.out.kid 0 (by simp) rfl);have N:=lh U;clear t0 U;simp only[List.length_cons,List.length_nil] at Q
  go_enter Tryz.func53,Tryz.ntmps53
  go_wp2_with fail
  refine(o _ (D.out.vtAt (J.out.alloc m _))).mono ?_;rintro e C ⟨rfl,a⟩;clear o;have u:=lh ((Fr.alloc B w _).trans (.of_below a));have H:=lh ((X.out.alloc _).below a);have s:=(Fr.of_below (B:=B) a).cell (ym w _);have Y:=lh s;obtain⟨x0,x1,x2,x3,x4,x5⟩:=yn s;have q:Below B w0 C:=(J.out.alloc m _).trans ((Fr.of_below a).below (Nat.le_trans m (by simp)));have K:=lh q;obtain⟨y0,y1,y2,y3,y4,y5⟩:=N.out.at D.out.hB q;clear s a q;generalize C=W1 at *
  go_wp2_with fail
  refine j3 (want:=0) (b:=b) D.out (by omega) hb hl T0.out Z.out K.out H.out (fun C l1 x t b1 S g1=>?_) (fun C x t=>?_)
  ·have j:=lh (u.out.trans t);have G:=lh x;have I:=lh S
   clear x t b1 S;go_wp2;go_ret;exact .yes j.out (by rw[F.out];simp only[G.out,Option.bind_some]) I.out
  ·have j:=lh (u.out.trans t);have G:=lh x
   clear x t;go_wp2;go_ret;exact .no j.out (by rw[F.out];simp only[G.out,Option.bind_some,Option.bind_none])
 ·have hq:((kids.length:Int) == 1)=false:=by simp;omega
  have hr:R=none:=by
   rw[g]
   split
   ·simp at i
   ·rfl
  have F:=lh hr;clear g hr i;clear r;have o:=fun w O=>ze nm M.out.nm w O;rw[h] at o;have L:=lh h;clear h
  go_enter Tryz.func53,Tryz.ntmps53
  go_wp2_with fail
  refine(o _ (D.out.vtAt (J.out.alloc m _))).mono ?_;rintro e C ⟨rfl,a⟩;clear o;have j:=lh ((Fr.alloc B w _).trans (.of_below a));have s:=(Fr.of_below (B:=B) a).cell (ym w _);obtain⟨x0,x1,x2,x3,x4,x5⟩:=yn s;clear s a;go_wp2;go_ret;exact .no j.out F.out
theorem lp5ae {w0:World}{B p d:Nat}(E:LkE w0 B p d){b l:Nat}{c:UInt8}{nm:List UInt8}{n:Nat}{f:Bool}{kids:List ya}{v:Value}{w:World}(hb:b<=20)(hl:l<=300)(C:yg w0 (.mk 5 c nm n f kids) v)(A:Sml (.mk 5 c nm n f kids))(k:Below B w0 w)(W:jc w B p l)(Y:n < 4611686018427387904)(Q:c=67)(h:zh nm=false)(X:nm=[]) :
  Calls Tryz.prog 53 #[.pointer (some ⟨p,0,none⟩),v,.int .i64 d,.int .i64 b] w fun e w'=>qj B p w (qr (yl d) b (.mk 5 c nm n f kids) l) e w':=by
 obtain⟨ao,cap,rfl,hK,hn,af,S,ad,m⟩:=yze C (by omega) E.hB k.size;have hB:=E.hB;have U:=lh hK;have N:=lh A;have F:=lh E;have K:=lh k;have Z:=lh W;obtain⟨R,g⟩:∃ R,R=qr (yl d) b (.mk 5 c nm n f kids) l:=⟨_,rfl⟩;rw[<-g];replace g:R=z8 (yl d) b 5 c nm n kids l:=g;unfold z8 at g;clear hK A E k W C hB;have hg:¬ (4611686018427387904:Int)<=(n:Int):=by omega
 rw[if_neg (by omega)] at g;rw[if_neg (show ¬ (5:Nat)=1 by decide)] at g;rw[if_neg (show ¬ (5:Nat)=2 by decide)] at g;rw[if_neg (show ¬ (5:Nat)=3 by decide)] at g;rw[if_neg (show ¬ (5:Nat)=4 by decide)] at g;rw[if_pos (show(5:Nat)=5 from rfl)] at g;have ag:((c.toNat:Int) == 67)=true:=by rw[Q];rfl
 have y:c=67\/c=83:=.inl Q;have z:nm.isEmpty=true:=by rw[X];rfl
 have r:gq c nm=true:=by unfold gq;rw[if_pos y,h,z];rfl
 clear Q y X
 by_cases i:kids.length=1
 ·obtain⟨q0,rfl⟩:=vh i
  clear i;replace g:R=yl d 0 b q0 l:=by rw[g];exact if_pos r
  have G:=lh g;clear g r;have o:=fun w P=>ze nm N.out.nm w P;rw[h] at o;have M:=lh h;clear h;obtain⟨kb,ko,rfl⟩:=U.out.nn (by simp);obtain⟨ai,aj,ak,al,am,an,V,t0⟩:=U.out.k0;have T0:=lh t0;have S0:=lh (N.out.kid 0 (by simp) rfl);have O:=lh V;clear t0 V;simp only[List.length_cons,List.length_nil] at S
  go_enter Tryz.func53,Tryz.ntmps53
  go_wp2_with fail
  refine(o _ (F.out.vtAt (K.out.alloc m _))).mono ?_;rintro e D ⟨rfl,a⟩;clear o;have u:=lh ((Fr.alloc B w _).trans (.of_below a));have I:=lh ((Z.out.alloc _).below a);have s:=(Fr.of_below (B:=B) a).cell (ym w _);have aa:=lh s;obtain⟨x0,x1,x2,x3,x4,x5⟩:=yn s;have q:Below B w0 D:=(K.out.alloc m _).trans ((Fr.of_below a).below (Nat.le_trans m (by simp)));have L:=lh q;obtain⟨y0,y1,y2,y3,y4,y5⟩:=O.out.at F.out.hB q;clear s a q;generalize D=W1 at *
  go_wp2_with fail
  refine j3 (want:=0) (b:=b) F.out (by omega) hb hl T0.out S0.out L.out I.out (fun D l1 x t b1 T g1=>?_) (fun D x t=>?_)
  ·have j:=lh (u.out.trans t);have H:=lh x;have J:=lh T
   clear x t b1 T;go_wp2;go_ret;exact .yes j.out (by rw[G.out];simp only[H.out,Option.bind_some]) J.out
  ·have j:=lh (u.out.trans t);have H:=lh x
   clear x t;go_wp2;go_ret;exact .no j.out (by rw[G.out];simp only[H.out,Option.bind_some,Option.bind_none])
 ·have hq:((kids.length:Int) == 1)=false:=by simp;omega
  have hr:R=none:=by
   rw[g]
   split
   ·simp at i
   ·rfl
  have G:=lh hr;clear g hr i;clear r;have o:=fun w P=>ze nm N.out.nm w P;rw[h] at o;have M:=lh h;clear h
  go_enter Tryz.func53,Tryz.ntmps53
  go_wp2_with fail
  refine(o _ (F.out.vtAt (K.out.alloc m _))).mono ?_;rintro e D ⟨rfl,a⟩;clear o;have j:=lh ((Fr.alloc B w _).trans (.of_below a));have s:=(Fr.of_below (B:=B) a).cell (ym w _);obtain⟨x0,x1,x2,x3,x4,x5⟩:=yn s;clear s a;go_wp2;go_ret;exact .no j.out G.out
theorem lp5an {w0:World}{B p d:Nat}(E:LkE w0 B p d){b l:Nat}{c:UInt8}{nm:List UInt8}{n:Nat}{f:Bool}{kids:List ya}{v:Value}{w:World}(hb:b<=20)(hl:l<=300)(u:yg w0 (.mk 5 c nm n f kids) v)(s:Sml (.mk 5 c nm n f kids))(h:Below B w0 w)(D:jc w B p l)(G:n < 4611686018427387904)(y:c=67)(i:zh nm=false)(F:nm≠[]) :
  Calls Tryz.prog 53 #[.pointer (some ⟨p,0,none⟩),v,.int .i64 d,.int .i64 b] w fun e w'=>qj B p w (qr (yl d) b (.mk 5 c nm n f kids) l) e w':=by
 obtain⟨ao,cap,rfl,hK,hn,M,K,L,t⟩:=yze u (by omega) E.hB h.size;have hB:=E.hB;have Y:=lh hK;have I:=lh s;have z:=lh E;have A:=lh h;have X:=lh D;obtain⟨R,g⟩:∃ R,R=qr (yl d) b (.mk 5 c nm n f kids) l:=⟨_,rfl⟩;rw[<-g];replace g:R=z8 (yl d) b 5 c nm n kids l:=g;unfold z8 at g;clear hK s E h D u hB;have Z:¬ (4611686018427387904:Int)<=(n:Int):=by omega
 rw[if_neg (by omega)] at g;rw[if_neg (show ¬ (5:Nat)=1 by decide)] at g;rw[if_neg (show ¬ (5:Nat)=2 by decide)] at g;rw[if_neg (show ¬ (5:Nat)=3 by decide)] at g;rw[if_neg (show ¬ (5:Nat)=4 by decide)] at g;rw[if_pos (show(5:Nat)=5 from rfl)] at g;have O:((c.toNat:Int) == 67)=true:=by rw[y];rfl
 have o:c=67\/c=83:=.inl y;have q:nm.isEmpty=false:=by cases nm;exact absurd rfl F;rfl
 have r:gq c nm=false:=by unfold gq;rw[if_pos o,i,q];rfl
 clear y o F;have hr:R=none:=by
  rw[g]
  split
  ·rw[if_neg (by rw[r];decide)]
  ·rfl
 have C:=lh hr;clear g hr r;have m:=fun w J=>ze nm I.out.nm w J;rw[i] at m;have H:=lh i;clear i
 by_cases k:kids.length=1
 ·have N:((kids.length:Int) == 1)=true:=by rw[k];rfl
  clear k
  go_enter Tryz.func53,Tryz.ntmps53
  go_wp2_with fail
  refine(m _ (z.out.vtAt (A.out.alloc t _))).mono ?_;rintro e P ⟨rfl,a⟩;clear m;have j:=lh ((Fr.alloc B w _).trans (.of_below a));have x:=(Fr.of_below (B:=B) a).cell (ym w _);obtain⟨Q,S,T,U,V,W⟩:=yn x;clear x a;go_wp2;go_ret;exact .no j.out C.out
 ·have N:((kids.length:Int) == 1)=false:=by rw[beq_eq_false_iff_ne];omega
  clear k
  go_enter Tryz.func53,Tryz.ntmps53
  go_wp2_with fail
  refine(m _ (z.out.vtAt (A.out.alloc t _))).mono ?_;rintro e P ⟨rfl,a⟩;clear m;have j:=lh ((Fr.alloc B w _).trans (.of_below a));have x:=(Fr.of_below (B:=B) a).cell (ym w _);obtain⟨Q,S,T,U,V,W⟩:=yn x;clear x a;go_wp2;go_ret;exact .no j.out C.out
theorem lp5bt {w0:World}{B p d:Nat}(E:LkE w0 B p d){b l:Nat}{c:UInt8}{nm:List UInt8}{n:Nat}{f:Bool}{kids:List ya}{v:Value}{w:World}(hb:b<=20)(hl:l<=300)(A:yg w0 (.mk 5 c nm n f kids) v)(z:Sml (.mk 5 c nm n f kids))(k:Below B w0 w)(V:jc w B p l)(W:n < 4611686018427387904)(G:c=83)(h:zh nm=true) :
  Calls Tryz.prog 53 #[.pointer (some ⟨p,0,none⟩),v,.int .i64 d,.int .i64 b] w fun e w'=>qj B p w (qr (yl d) b (.mk 5 c nm n f kids) l) e w':=by
 obtain⟨ao,cap,rfl,hK,hn,ad,Q,ab,m⟩:=yze A (by omega) E.hB k.size;have hB:=E.hB;have T:=lh hK;have N:=lh z;have D:=lh E;have K:=lh k;have X:=lh V;obtain⟨R,g⟩:∃ R,R=qr (yl d) b (.mk 5 c nm n f kids) l:=⟨_,rfl⟩;rw[<-g];replace g:R=z8 (yl d) b 5 c nm n kids l:=g;unfold z8 at g;clear hK z E k V A hB;have hg:¬ (4611686018427387904:Int)<=(n:Int):=by omega
 rw[if_neg (by omega)] at g;rw[if_neg (show ¬ (5:Nat)=1 by decide)] at g;rw[if_neg (show ¬ (5:Nat)=2 by decide)] at g;rw[if_neg (show ¬ (5:Nat)=3 by decide)] at g;rw[if_neg (show ¬ (5:Nat)=4 by decide)] at g;rw[if_pos (show(5:Nat)=5 from rfl)] at g;have ae:((c.toNat:Int) == 67)=false:=by rw[G];rfl
 have af:((c.toNat:Int) == 83)=true:=by rw[G];rfl
 have y:c=67\/c=83:=.inr G;have r:gq c nm=true:=by unfold gq;rw[if_pos y,h];rfl
 clear G y
 by_cases i:kids.length=1
 ·obtain⟨q0,rfl⟩:=vh i
  clear i;replace g:R=yl d 0 b q0 l:=by rw[g];exact if_pos r
  have F:=lh g;clear g r;have o:=fun w P=>ze nm N.out.nm w P;rw[h] at o;have M:=lh h;clear h;obtain⟨kb,ko,rfl⟩:=T.out.nn (by simp);obtain⟨ah,ai,aj,ak,al,am,U,t0⟩:=T.out.k0;have T0:=lh t0;have Z:=lh (N.out.kid 0 (by simp) rfl);have O:=lh U;clear t0 U;simp only[List.length_cons,List.length_nil] at Q
  go_enter Tryz.func53,Tryz.ntmps53
  go_wp2_with fail
  refine(o _ (D.out.vtAt (K.out.alloc m _))).mono ?_;rintro e C ⟨rfl,a⟩;clear o;have u:=lh ((Fr.alloc B w _).trans (.of_below a));have I:=lh ((X.out.alloc _).below a);have s:=(Fr.of_below (B:=B) a).cell (ym w _);have Y:=lh s;obtain⟨x0,x1,x2,x3,x4,x5⟩:=yn s;have q:Below B w0 C:=(K.out.alloc m _).trans ((Fr.of_below a).below (Nat.le_trans m (by simp)));have L:=lh q;obtain⟨y0,y1,y2,y3,y4,y5⟩:=O.out.at D.out.hB q;clear s a q;generalize C=W1 at *
  go_wp2_with fail
  refine j3 (want:=0) (b:=b) D.out (by omega) hb hl T0.out Z.out L.out I.out (fun C l1 x t b1 S g1=>?_) (fun C x t=>?_)
  ·have j:=lh (u.out.trans t);have H:=lh x;have J:=lh S
   clear x t b1 S;go_wp2;go_ret;exact .yes j.out (by rw[F.out];simp only[H.out,Option.bind_some]) J.out
  ·have j:=lh (u.out.trans t);have H:=lh x
   clear x t;go_wp2;go_ret;exact .no j.out (by rw[F.out];simp only[H.out,Option.bind_some,Option.bind_none])
 ·have hq:((kids.length:Int) == 1)=false:=by simp;omega
  have hr:R=none:=by
   rw[g]
   split
   ·simp at i
   ·rfl
  have F:=lh hr;clear g hr i;clear r;have o:=fun w P=>ze nm N.out.nm w P;rw[h] at o;have M:=lh h;clear h
  go_enter Tryz.func53,Tryz.ntmps53
  go_wp2_with fail
  refine(o _ (D.out.vtAt (K.out.alloc m _))).mono ?_;rintro e C ⟨rfl,a⟩;clear o;have j:=lh ((Fr.alloc B w _).trans (.of_below a));have s:=(Fr.of_below (B:=B) a).cell (ym w _);obtain⟨x0,x1,x2,x3,x4,x5⟩:=yn s;clear s a;go_wp2;go_ret;exact .no j.out F.out
theorem lp5be {w0:World}{B p d:Nat}(E:LkE w0 B p d){b l:Nat}{c:UInt8}{nm:List UInt8}{n:Nat}{f:Bool}{kids:List ya}{v:Value}{w:World}(hb:b<=20)(hl:l<=300)(C:yg w0 (.mk 5 c nm n f kids) v)(A:Sml (.mk 5 c nm n f kids))(k:Below B w0 w)(W:jc w B p l)(Y:n < 4611686018427387904)(H:c=83)(h:zh nm=false)(X:nm=[]) :
  Calls Tryz.prog 53 #[.pointer (some ⟨p,0,none⟩),v,.int .i64 d,.int .i64 b] w fun e w'=>qj B p w (qr (yl d) b (.mk 5 c nm n f kids) l) e w':=by
 obtain⟨ao,cap,rfl,hK,hn,af,S,ad,m⟩:=yze C (by omega) E.hB k.size;have hB:=E.hB;have U:=lh hK;have O:=lh A;have F:=lh E;have L:=lh k;have Z:=lh W;obtain⟨R,g⟩:∃ R,R=qr (yl d) b (.mk 5 c nm n f kids) l:=⟨_,rfl⟩;rw[<-g];replace g:R=z8 (yl d) b 5 c nm n kids l:=g;unfold z8 at g;clear hK A E k W C hB;have hg:¬ (4611686018427387904:Int)<=(n:Int):=by omega
 rw[if_neg (by omega)] at g;rw[if_neg (show ¬ (5:Nat)=1 by decide)] at g;rw[if_neg (show ¬ (5:Nat)=2 by decide)] at g;rw[if_neg (show ¬ (5:Nat)=3 by decide)] at g;rw[if_neg (show ¬ (5:Nat)=4 by decide)] at g;rw[if_pos (show(5:Nat)=5 from rfl)] at g;have ag:((c.toNat:Int) == 67)=false:=by rw[H];rfl
 have ah:((c.toNat:Int) == 83)=true:=by rw[H];rfl
 have y:c=67\/c=83:=.inr H;have z:nm.isEmpty=true:=by rw[X];rfl
 have r:gq c nm=true:=by unfold gq;rw[if_pos y,h,z];rfl
 clear H y X
 by_cases i:kids.length=1
 ·obtain⟨q0,rfl⟩:=vh i
  clear i;replace g:R=yl d 0 b q0 l:=by rw[g];exact if_pos r
  have G:=lh g;clear g r;have o:=fun w Q=>ze nm O.out.nm w Q;rw[h] at o;have N:=lh h;clear h;obtain⟨kb,ko,rfl⟩:=U.out.nn (by simp);obtain⟨aj,ak,al,am,an,ap,V,t0⟩:=U.out.k0;have T0:=lh t0;have S0:=lh (O.out.kid 0 (by simp) rfl);have P:=lh V;clear t0 V;simp only[List.length_cons,List.length_nil] at S
  go_enter Tryz.func53,Tryz.ntmps53
  go_wp2_with fail
  refine(o _ (F.out.vtAt (L.out.alloc m _))).mono ?_;rintro e D ⟨rfl,a⟩;clear o;have u:=lh ((Fr.alloc B w _).trans (.of_below a));have J:=lh ((Z.out.alloc _).below a);have s:=(Fr.of_below (B:=B) a).cell (ym w _);have aa:=lh s;obtain⟨x0,x1,x2,x3,x4,x5⟩:=yn s;have q:Below B w0 D:=(L.out.alloc m _).trans ((Fr.of_below a).below (Nat.le_trans m (by simp)));have M:=lh q;obtain⟨y0,y1,y2,y3,y4,y5⟩:=P.out.at F.out.hB q;clear s a q;generalize D=W1 at *
  go_wp2_with fail
  refine j3 (want:=0) (b:=b) F.out (by omega) hb hl T0.out S0.out M.out J.out (fun D l1 x t b1 T g1=>?_) (fun D x t=>?_)
  ·have j:=lh (u.out.trans t);have I:=lh x;have K:=lh T
   clear x t b1 T;go_wp2;go_ret;exact .yes j.out (by rw[G.out];simp only[I.out,Option.bind_some]) K.out
  ·have j:=lh (u.out.trans t);have I:=lh x
   clear x t;go_wp2;go_ret;exact .no j.out (by rw[G.out];simp only[I.out,Option.bind_some,Option.bind_none])
 ·have hq:((kids.length:Int) == 1)=false:=by simp;omega
  have hr:R=none:=by
   rw[g]
   split
   ·simp at i
   ·rfl
  have G:=lh hr;clear g hr i;clear r;have o:=fun w Q=>ze nm O.out.nm w Q;rw[h] at o;have N:=lh h;clear h
  go_enter Tryz.func53,Tryz.ntmps53
  go_wp2_with fail
  refine(o _ (F.out.vtAt (L.out.alloc m _))).mono ?_;rintro e D ⟨rfl,a⟩;clear o;have j:=lh ((Fr.alloc B w _).trans (.of_below a));have s:=(Fr.of_below (B:=B) a).cell (ym w _);obtain⟨x0,x1,x2,x3,x4,x5⟩:=yn s;clear s a;go_wp2;go_ret;exact .no j.out G.out
theorem lp5bn {w0:World}{B p d:Nat}(E:LkE w0 B p d){b l:Nat}{c:UInt8}{nm:List UInt8}{n:Nat}{f:Bool}{kids:List ya}{v:Value}{w:World}(hb:b<=20)(hl:l<=300)(u:yg w0 (.mk 5 c nm n f kids) v)(s:Sml (.mk 5 c nm n f kids))(h:Below B w0 w)(D:jc w B p l)(G:n < 4611686018427387904)(y:c=83)(i:zh nm=false)(F:nm≠[]) :
  Calls Tryz.prog 53 #[.pointer (some ⟨p,0,none⟩),v,.int .i64 d,.int .i64 b] w fun e w'=>qj B p w (qr (yl d) b (.mk 5 c nm n f kids) l) e w':=by
 obtain⟨ao,cap,rfl,hK,hn,M,K,L,t⟩:=yze u (by omega) E.hB h.size;have hB:=E.hB;have Z:=lh hK;have I:=lh s;have z:=lh E;have A:=lh h;have Y:=lh D;obtain⟨R,g⟩:∃ R,R=qr (yl d) b (.mk 5 c nm n f kids) l:=⟨_,rfl⟩;rw[<-g];replace g:R=z8 (yl d) b 5 c nm n kids l:=g;unfold z8 at g;clear hK s E h D u hB;have hg:¬ (4611686018427387904:Int)<=(n:Int):=by omega
 rw[if_neg (by omega)] at g;rw[if_neg (show ¬ (5:Nat)=1 by decide)] at g;rw[if_neg (show ¬ (5:Nat)=2 by decide)] at g;rw[if_neg (show ¬ (5:Nat)=3 by decide)] at g;rw[if_neg (show ¬ (5:Nat)=4 by decide)] at g;rw[if_pos (show(5:Nat)=5 from rfl)] at g;have O:((c.toNat:Int) == 67)=false:=by rw[y];rfl
 have P:((c.toNat:Int) == 83)=true:=by rw[y];rfl
 have o:c=67\/c=83:=.inr y;have q:nm.isEmpty=false:=by cases nm;exact absurd rfl F;rfl
 have r:gq c nm=false:=by unfold gq;rw[if_pos o,i,q];rfl
 clear y o F;have hr:R=none:=by
  rw[g]
  split
  ·rw[if_neg (by rw[r];decide)]
  ·rfl
 have C:=lh hr;clear g hr r;have m:=fun w J=>ze nm I.out.nm w J;rw[i] at m;have H:=lh i;clear i
 by_cases k:kids.length=1
 ·have N:((kids.length:Int) == 1)=true:=by rw[k];rfl
  clear k
  go_enter Tryz.func53,Tryz.ntmps53
  go_wp2_with fail
  refine(m _ (z.out.vtAt (A.out.alloc t _))).mono ?_;rintro e Q ⟨rfl,a⟩;clear m;have j:=lh ((Fr.alloc B w _).trans (.of_below a));have x:=(Fr.of_below (B:=B) a).cell (ym w _);obtain⟨S,T,U,V,W,X⟩:=yn x;clear x a;go_wp2;go_ret;exact .no j.out C.out
 ·have N:((kids.length:Int) == 1)=false:=by rw[beq_eq_false_iff_ne];omega
  clear k
  go_enter Tryz.func53,Tryz.ntmps53
  go_wp2_with fail
  refine(m _ (z.out.vtAt (A.out.alloc t _))).mono ?_;rintro e Q ⟨rfl,a⟩;clear m;have j:=lh ((Fr.alloc B w _).trans (.of_below a));have x:=(Fr.of_below (B:=B) a).cell (ym w _);obtain⟨S,T,U,V,W,X⟩:=yn x;clear x a;go_wp2;go_ret;exact .no j.out C.out
theorem lp5ct {w0:World}{B p d:Nat}(E:LkE w0 B p d){b l:Nat}{c:UInt8}{nm:List UInt8}{n:Nat}{f:Bool}{kids:List ya}{v:Value}{w:World}(hb:b<=20)(hl:l<=300)(C:yg w0 (.mk 5 c nm n f kids) v)(A:Sml (.mk 5 c nm n f kids))(m:Below B w0 w)(W:jc w B p l)(X:n < 4611686018427387904)(H:97<=c.toNat/\c.toNat<=122)(i:zh nm=true) :
  Calls Tryz.prog 53 #[.pointer (some ⟨p,0,none⟩),v,.int .i64 d,.int .i64 b] w fun e w'=>qj B p w (qr (yl d) b (.mk 5 c nm n f kids) l) e w':=by
 obtain⟨ao,cap,rfl,hK,hn,af,S,ad,o⟩:=yze C (by omega) E.hB m.size;have hB:=E.hB;have U:=lh hK;have O:=lh A;have F:=lh E;have L:=lh m;have Z:=lh W;obtain⟨R,g⟩:∃ R,R=qr (yl d) b (.mk 5 c nm n f kids) l:=⟨_,rfl⟩;rw[<-g];replace g:R=z8 (yl d) b 5 c nm n kids l:=g;unfold z8 at g;clear hK A E m W C hB;have hg:¬ (4611686018427387904:Int)<=(n:Int):=by omega
 rw[if_neg (by omega)] at g;rw[if_neg (show ¬ (5:Nat)=1 by decide)] at g;rw[if_neg (show ¬ (5:Nat)=2 by decide)] at g;rw[if_neg (show ¬ (5:Nat)=3 by decide)] at g;rw[if_neg (show ¬ (5:Nat)=4 by decide)] at g;rw[if_pos (show(5:Nat)=5 from rfl)] at g;have ag:((c.toNat:Int) == 67)=false:=by rw[beq_eq_false_iff_ne];omega
 have ah:((c.toNat:Int) == 83)=false:=by rw[beq_eq_false_iff_ne];omega
 have ai:decide ((c.toNat:Int) < 97)=false:=by simp;omega
 have Y:decide (122 < (c.toNat:Int))=false:=by simp;omega
 have z:¬ (c=67\/c=83):=by rintro (h|h)<;>(rw[h] at H;exact absurd H (by decide))
 have s:gq c nm=true:=by unfold gq;rw[if_neg z,decide_eq_true H,i];rfl
 clear H z
 by_cases j:kids.length=1
 ·obtain⟨q0,rfl⟩:=vh j
  clear j;replace g:R=yl d 0 b q0 l:=by rw[g];exact if_pos s
  have G:=lh g;clear g s;have q:=fun w Q=>ze nm O.out.nm w Q;rw[i] at q;have N:=lh i;clear i;obtain⟨kb,ko,rfl⟩:=U.out.nn (by simp);obtain⟨ak,al,am,an,ap,aq,V,t0⟩:=U.out.k0;have T0:=lh t0;have S0:=lh (O.out.kid 0 (by simp) rfl);have P:=lh V;clear t0 V;simp only[List.length_cons,List.length_nil] at S
  go_enter Tryz.func53,Tryz.ntmps53
  go_wp2_with fail
  refine(q _ (F.out.vtAt (L.out.alloc o _))).mono ?_;rintro e D ⟨rfl,a⟩;clear q;have x:=lh ((Fr.alloc B w _).trans (.of_below a));have J:=lh ((Z.out.alloc _).below a);have t:=(Fr.of_below (B:=B) a).cell (ym w _);have aa:=lh t;obtain⟨x0,x1,x2,x3,x4,x5⟩:=yn t;have r:Below B w0 D:=(L.out.alloc o _).trans ((Fr.of_below a).below (Nat.le_trans o (by simp)));have M:=lh r;obtain⟨y0,y1,y2,y3,y4,y5⟩:=P.out.at F.out.hB r;clear t a r;generalize D=W1 at *
  go_wp2_with fail
  refine j3 (want:=0) (b:=b) F.out (by omega) hb hl T0.out S0.out M.out J.out (fun D l1 y u b1 T g1=>?_) (fun D y u=>?_)
  ·have k:=lh (x.out.trans u);have I:=lh y;have K:=lh T
   clear y u b1 T;go_wp2;go_ret;exact .yes k.out (by rw[G.out];simp only[I.out,Option.bind_some]) K.out
  ·have k:=lh (x.out.trans u);have I:=lh y
   clear y u;go_wp2;go_ret;exact .no k.out (by rw[G.out];simp only[I.out,Option.bind_some,Option.bind_none])
 ·have hq:((kids.length:Int) == 1)=false:=by simp;omega
  have hr:R=none:=by
   rw[g]
   split
   ·simp at j
   ·rfl
  have G:=lh hr;clear g hr j;clear s;have q:=fun w Q=>ze nm O.out.nm w Q;rw[i] at q;have N:=lh i;clear i
  go_enter Tryz.func53,Tryz.ntmps53
  go_wp2_with fail
  refine(q _ (F.out.vtAt (L.out.alloc o _))).mono ?_;rintro e D ⟨rfl,a⟩;clear q;have k:=lh ((Fr.alloc B w _).trans (.of_below a));have t:=(Fr.of_below (B:=B) a).cell (ym w _);obtain⟨x0,x1,x2,x3,x4,x5⟩:=yn t;clear t a;go_wp2;go_ret;exact .no k.out G.out
theorem lp5cn {w0:World}{B p d:Nat}(E:LkE w0 B p d){b l:Nat}{c:UInt8}{nm:List UInt8}{n:Nat}{f:Bool}{kids:List ya}{v:Value}{w:World}(hb:b<=20)(hl:l<=300)(u:yg w0 (.mk 5 c nm n f kids) v)(s:Sml (.mk 5 c nm n f kids))(i:Below B w0 w)(D:jc w B p l)(F:n < 4611686018427387904)(y:97<=c.toNat/\c.toNat<=122)(j:zh nm=false) :
  Calls Tryz.prog 53 #[.pointer (some ⟨p,0,none⟩),v,.int .i64 d,.int .i64 b] w fun e w'=>qj B p w (qr (yl d) b (.mk 5 c nm n f kids) l) e w':=by
 obtain⟨ao,cap,rfl,hK,hn,M,K,L,t⟩:=yze u (by omega) E.hB i.size;have hB:=E.hB;have HK:=lh hK;have I:=lh s;have z:=lh E;have A:=lh i;have Z:=lh D;obtain⟨R,g⟩:∃ R,R=qr (yl d) b (.mk 5 c nm n f kids) l:=⟨_,rfl⟩;rw[<-g];replace g:R=z8 (yl d) b 5 c nm n kids l:=g;unfold z8 at g;clear hK s E i D u hB;have hg:¬ (4611686018427387904:Int)<=(n:Int):=by omega
 rw[if_neg (by omega)] at g;rw[if_neg (show ¬ (5:Nat)=1 by decide)] at g;rw[if_neg (show ¬ (5:Nat)=2 by decide)] at g;rw[if_neg (show ¬ (5:Nat)=3 by decide)] at g;rw[if_neg (show ¬ (5:Nat)=4 by decide)] at g;rw[if_pos (show(5:Nat)=5 from rfl)] at g;have O:((c.toNat:Int) == 67)=false:=by rw[beq_eq_false_iff_ne];omega
 have P:((c.toNat:Int) == 83)=false:=by rw[beq_eq_false_iff_ne];omega
 have Q:decide ((c.toNat:Int) < 97)=false:=by simp;omega
 have G:decide (122 < (c.toNat:Int))=false:=by simp;omega
 have q:¬ (c=67\/c=83):=by rintro (h|h)<;>(rw[h] at y;exact absurd y (by decide))
 have r:gq c nm=false:=by unfold gq;rw[if_neg q,decide_eq_true y,j];rfl
 clear y q;have hr:R=none:=by
  rw[g]
  split
  ·rw[if_neg (by rw[r];decide)]
  ·rfl
 have C:=lh hr;clear g hr r;have o:=fun w J=>ze nm I.out.nm w J;rw[j] at o;have H:=lh j;clear j
 by_cases m:kids.length=1
 ·have N:((kids.length:Int) == 1)=true:=by rw[m];rfl
  clear m
  go_enter Tryz.func53,Tryz.ntmps53
  go_wp2_with fail
  refine(o _ (z.out.vtAt (A.out.alloc t _))).mono ?_;rintro e S ⟨rfl,a⟩;clear o;have k:=lh ((Fr.alloc B w _).trans (.of_below a));have x:=(Fr.of_below (B:=B) a).cell (ym w _);obtain⟨T,U,V,W,X,Y⟩:=yn x;clear x a;go_wp2;go_ret;exact .no k.out C.out
 ·have N:((kids.length:Int) == 1)=false:=by rw[beq_eq_false_iff_ne];omega
  clear m
  go_enter Tryz.func53,Tryz.ntmps53
  go_wp2_with fail
  refine(o _ (z.out.vtAt (A.out.alloc t _))).mono ?_;rintro e S ⟨rfl,a⟩;clear o;have k:=lh ((Fr.alloc B w _).trans (.of_below a));have x:=(Fr.of_below (B:=B) a).cell (ym w _);obtain⟨T,U,V,W,X,Y⟩:=yn x;clear x a;go_wp2;go_ret;exact .no k.out C.out
theorem lp5o {w0:World}{B p d:Nat}(E:LkE w0 B p d){b l:Nat}{c:UInt8}{nm:List UInt8}{n:Nat}{f:Bool}{kids:List ya}{v:Value}{w:World}(hb:b<=20)(hl:l<=300)(y:yg w0 (.mk 5 c nm n f kids) v)(x:Sml (.mk 5 c nm n f kids))(j:Below B w0 w)(N:jc w B p l)(O:n < 4611686018427387904)(q:c≠67)(r:c≠83)(D:¬ (97<=c.toNat/\c.toNat<=122)) :
  Calls Tryz.prog 53 #[.pointer (some ⟨p,0,none⟩),v,.int .i64 d,.int .i64 b] w fun e w'=>qj B p w (qr (yl d) b (.mk 5 c nm n f kids) l) e w':=by
 obtain⟨ao,cap,rfl,hK,hn,W,U,V,o⟩:=yze y (by omega) E.hB j.size;have hB:=E.hB;have HK:=lh hK;have S:=lh x;have z:=lh E;have A:=lh j;have Z:=lh N;obtain⟨R,i⟩:∃ R,R=qr (yl d) b (.mk 5 c nm n f kids) l:=⟨_,rfl⟩;rw[<-i];replace i:R=z8 (yl d) b 5 c nm n kids l:=i;unfold z8 at i;clear hK x E j N y hB;have hg:¬ (4611686018427387904:Int)<=(n:Int):=by omega
 rw[if_neg (by omega)] at i;rw[if_neg (show ¬ (5:Nat)=1 by decide)] at i;rw[if_neg (show ¬ (5:Nat)=2 by decide)] at i;rw[if_neg (show ¬ (5:Nat)=3 by decide)] at i;rw[if_neg (show ¬ (5:Nat)=4 by decide)] at i;rw[if_pos (show(5:Nat)=5 from rfl)] at i;have u:gq c nm=false:=by unfold gq;rw[if_neg (by rintro (h|h);exact q h;exact r h),decide_eq_false D];rfl
 have X:((c.toNat:Int) == 67)=false:=u8f (c:=67) (by omega) q;have Y:((c.toNat:Int) == 83)=false:=u8f (c:=83) (by omega) r;have hr:R=none:=by
  rw[i]
  split
  ·rw[if_neg (by rw[u];decide)]
  ·rfl
 have C:=lh hr;clear i hr u q r;obtain⟨bo,s⟩:∃ bo,zh nm=bo:=⟨_,rfl⟩;have m:=fun w T=>ze nm S.out.nm w T;rw[s] at m;have Q:=lh s;clear s
 by_cases t:c.toNat < 97
 ·have F:(c.toNat:Int) < 97:=by omega
  clear D t
  cases bo
  ·go_enter Tryz.func53,Tryz.ntmps53
   go_wp2_with fail
   refine(m _ (z.out.vtAt (A.out.alloc o _))).mono ?_;rintro e G ⟨rfl,a⟩;clear m;have g:=lh ((Fr.alloc B w _).trans (.of_below a));have k:=(Fr.of_below (B:=B) a).cell (ym w _);obtain⟨H,I,J,K,L,M⟩:=yn k;clear k a;go_wp2;go_ret;exact .no g.out C.out
  ·go_enter Tryz.func53,Tryz.ntmps53
   go_wp2_with fail
   refine(m _ (z.out.vtAt (A.out.alloc o _))).mono ?_;rintro e G ⟨rfl,a⟩;clear m;have g:=lh ((Fr.alloc B w _).trans (.of_below a));have k:=(Fr.of_below (B:=B) a).cell (ym w _);obtain⟨H,I,J,K,L,M⟩:=yn k;clear k a;go_wp2;go_ret;exact .no g.out C.out
 ·have F:¬ (c.toNat:Int) < 97:=by omega
  have P:122 < (c.toNat:Int):=by omega
  clear D t
  cases bo
  ·go_enter Tryz.func53,Tryz.ntmps53
   go_wp2_with fail
   refine(m _ (z.out.vtAt (A.out.alloc o _))).mono ?_;rintro e G ⟨rfl,a⟩;clear m;have g:=lh ((Fr.alloc B w _).trans (.of_below a));have k:=(Fr.of_below (B:=B) a).cell (ym w _);obtain⟨H,I,J,K,L,M⟩:=yn k;clear k a;go_wp2;go_ret;exact .no g.out C.out
  ·go_enter Tryz.func53,Tryz.ntmps53
   go_wp2_with fail
   refine(m _ (z.out.vtAt (A.out.alloc o _))).mono ?_;rintro e G ⟨rfl,a⟩;clear m;have g:=lh ((Fr.alloc B w _).trans (.of_below a));have k:=(Fr.of_below (B:=B) a).cell (ym w _);obtain⟨H,I,J,K,L,M⟩:=yn k;clear k a;go_wp2;go_ret;exact .no g.out C.out
theorem lp6 {w0:World}{B p d:Nat}(E:LkE w0 B p d){b l:Nat}{c:UInt8}{nm:List UInt8}{n:Nat}{f:Bool}{kids:List ya}{v:Value}{w:World}(hb:b<=20)(hl:l<=300)(z:yg w0 (.mk 6 c nm n f kids) v)(x:Sml (.mk 6 c nm n f kids))(j:Below B w0 w)(S:jc w B p l)(T:n < 4611686018427387904) :
  Calls Tryz.prog 53 #[.pointer (some ⟨p,0,none⟩),v,.int .i64 d,.int .i64 b] w fun e w'=>qj B p w (qr (yl d) b (.mk 6 c nm n f kids) l) e w':=by
 obtain⟨ao,cap,rfl,hK,hn,ae,K,ab,y⟩:=yze z (by omega) E.hB j.size;have hB:=E.hB;have H:=lh hK;have P:=lh x;have G:=lh E;have O:=lh j;have V:=lh S;obtain⟨R,h⟩:∃ R,R=qr (yl d) b (.mk 6 c nm n f kids) l:=⟨_,rfl⟩;rw[<-h];replace h:R=z8 (yl d) b 6 c nm n kids l:=h;unfold z8 at h;clear hK x E j S z hB;have hg:¬ (4611686018427387904:Int)<=(n:Int):=by omega
 rw[if_neg (by omega)] at h;rw[if_neg (show ¬ (6:Nat)=1 by decide)] at h;rw[if_neg (show ¬ (6:Nat)=2 by decide)] at h;rw[if_neg (show ¬ (6:Nat)=3 by decide)] at h;rw[if_neg (show ¬ (6:Nat)=4 by decide)] at h;rw[if_neg (show ¬ (6:Nat)=5 by decide)] at h
 by_cases g:2<=kids.length
 ·obtain⟨q0,U,r,rfl⟩:∃ a b r,kids=a::b::r:=by
   rcases kids with _|⟨a,_|⟨b,r⟩⟩
   ·simp at g
   ·simp at g
   ·exact⟨a,b,r,rfl⟩
  clear g;have s:=lh h;clear h;obtain⟨kb,ko,rfl⟩:=H.out.nn (by simp);obtain⟨ag,ah,ai,aj,ak,al,Q,t0⟩:=H.out.k0;have Y:=lh t0;have X:=lh (P.out.kid 0 (by simp) rfl);have J:=lh Q;clear t0 Q;simp only[List.length_cons] at K;obtain⟨z0,z1,z2,z3,z4,z5⟩:=J.out.un G.out.hB O.out y;have ac:((q0::U::r).length:Int)=(r.length:Int)+2:=by simp;omega
  go_enter Tryz.func53,Tryz.ntmps53
  go_wp2_with fail
  refine j3 (want:=0) (b:=b) G.out (by omega) hb hl Y.out X.out (O.out.alloc y _) (V.out.alloc _) (fun w1 l1 t o b1 M g1=>?_) (fun w1 t o=>?_)
  ·have k:=lh ((Fr.alloc B w _).trans o);have A:=lh t;have D:=lh M
   have I:=lh b1;have L:=o.cell (ym w _);have W:=lh L;obtain⟨x0,x1,x2,x3,x4,x5⟩:=yn L;clear L t o b1 M
   go_wp2_with fail
   refine yea (want:=2) (b:=b) (kids:=U::r) G.out (by omega) hb g1 (xz H.out) (fun i hi=>P.out.kid (i+1) (by simpa using hi) rfl) I.out D.out (fun w2 l2 u q Z N g2=>?_) (fun w2 u q=>?_)
   ·have m:=lh (k.out.trans q);have C:=lh u;have F:=lh N
    clear u q Z N;go_wp2;go_ret;exact .yes m.out (by rw[s.out];simp only[A.out,C.out,Option.bind_some]) F.out
   ·have m:=lh (k.out.trans q);have C:=lh u
    clear u q;go_wp2;go_ret;exact .no m.out (by rw[s.out];simp only[A.out,C.out,Option.bind_some])
  ·have k:=lh ((Fr.alloc B w _).trans o);have A:=lh t
   clear t o;go_wp2;go_ret;exact .no k.out (by rw[s.out];simp only[A.out,Option.bind_none])
 ·have hq:¬ (2:Int)<=(kids.length:Int):=by omega
  have hr:R=none:=by
   rw[h]
   split
   ·simp at g
   ·rfl
  have s:=lh hr;clear h hr g
  go_enter Tryz.func53,Tryz.ntmps53
  go_wp2;go_ret
  exact .no (.alloc B w _) s.out
theorem yx9 {w0:World}{B p d:Nat}(E:LkE w0 B p d):LkF w0 B p 53 d 1 6 (qr (yl d)):=by
 intro b t l v w u hb j e m a i;obtain⟨k,c,nm,n,f,kids⟩:=t;simp only[ya.kind] at u
 by_cases x:4611686018427387904<=n
 ·exact yx8 u.1 x e
 have g:n < 4611686018427387904:=by omega
 rcases(by omega:k=1\/k=2\/k=3\/k=4\/k=5\/k=6) with rfl|rfl|rfl|rfl|rfl|rfl
 ·exact lp1 E hb j e m a i g
 ·exact lp2 E hb j e m a i g
 ·exact lp3 E hb j e m a i g
 ·exact lp4 E hb j e m a i g
 ·by_cases o:c=67
  ·cases h:zh nm with
   | true=>exact lp5at E hb j e m a i g o h
   | false=>
    by_cases r:nm=[]
    ·exact lp5ae E hb j e m a i g o h r
    ·exact lp5an E hb j e m a i g o h r
  ·by_cases q:c=83
   ·cases h:zh nm with
    | true=>exact lp5bt E hb j e m a i g q h
    | false=>
     by_cases r:nm=[]
     ·exact lp5be E hb j e m a i g q h r
     ·exact lp5bn E hb j e m a i g q h r
   ·by_cases s:97<=c.toNat/\c.toNat<=122
    ·cases h:zh nm with
     | true=>exact lp5ct E hb j e m a i g s h
     | false=>exact lp5cn E hb j e m a i g s h
    ·exact lp5o E hb j e m a i g o q s
 ·exact lp6 E hb j e m a i g
end Go.Proofs.YtfckcdbpiepchaaGreatDoor
