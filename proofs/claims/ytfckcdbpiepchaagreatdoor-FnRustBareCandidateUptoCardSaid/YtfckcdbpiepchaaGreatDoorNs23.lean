import Derived.Test.YtfckcdbpiepchaaGreatDoorNs22
namespace Go.Proofs.YtfckcdbpiepchaaGreatDoor
open Go.RowKit
set_option maxRecDepth 100000
set_option maxHeartbeats 8000000
set_option linter.all false
theorem yg.kvk {w:World}{t:ya}{kv:Int}{a b c d e:Value}(h:yg w t (.agg #[.int .i64 kv,a,b,c,d,e])):KV kv t.kind:=by
 cases h with
 | mk f=>exact f
theorem lo16 {w0:World}{B p d:Nat}(E:LkE w0 B p d){b l:Nat}{c:UInt8}{nm:List UInt8}{n:Nat}{f:Bool}{kids:List ya}{v:Value}{w:World}(hb:b<=20)(hl:l<=300)(S:yg w0 (.mk 16 c nm n f kids) v)(P:Sml (.mk 16 c nm n f kids))(r:Below B w0 w)(hA:jc w B p l)(O:kids≠[])(av:n<=20)(u:b+n<=20) :
  Calls Tryz.prog 55 #[.pointer (some ⟨p,0,none⟩),v,.int .i64 d,.int .i64 b] w fun e w'=>qj B p w (zx (yl d) b (.mk 16 c nm n f kids) l) e w':=by
 obtain⟨ao,cap,rfl,hK,hn,a4,K,a2,Q⟩:=yze S (by omega) E.hB r.size;have hB:=E.hB;have Y:=lh hK;have HS:=lh P;have X:=lh E;have HL:=lh r;have HA:=lh hA;obtain⟨R,m⟩:∃ R,R=zx (yl d) b (.mk 16 c nm n f kids) l:=⟨_,rfl⟩;rw[<-m];replace m:R=zo (yl d) b 16 c nm n f kids l:=m;unfold zo at m;clear hK P E r hA S hB;rw[if_pos (show(16:Nat)=15\/(16:Nat)=16 by decide),if_neg (fun h=>by rcases h with h|h|h;omega;exact O h;omega)] at m
 obtain⟨a,q,rfl⟩:∃ a q,kids=a++[q]:=⟨_,_,ybs O⟩;have M:(a++[q]).getLastD .zero=q:=by rw[List.getLastD_eq_getLast?,List.getLast?_append];rfl
 have L:(a++[q]).dropLast=a:=List.dropLast_concat;rw[M,L] at m;have k:(a++[q]).length=a.length+1:=by simp
 obtain⟨kb,z,rfl⟩:=Y.out.nn (by simp);obtain⟨u0,u1,u2,u3,u4,u5,e0,e1,e2,e3,e4,e5,tr⟩:=vj Y.out;have KK:yed w0 kb (z+a.length*6) (z+a.length*6+1) (z+a.length*6+2) (z+a.length*6+3) (z+a.length*6+4) (z+a.length*6+5) u0 u1 u2 u3 u4 u5:=⟨e0,e1,e2,e3,e4,e5⟩;obtain⟨kv,qc,a9,qn,qf,a7,a8,aw,rfl,rfl,rfl,rfl,rfl,rfl⟩:=tr.shape;have J:Sml q:=HS.out.kid a.length (by simp) (by simp);have I:∀ i,i < a.length->Sml (a.getD i .zero):=fun i hi=>HS.out.kid i (by simp;omega) (by rw[lgd,lgd,List.getElem?_append_left hi]);have F:=lh tr;have ac:=lh J;have ab:=lh I;have Z:=lh (vk Y.out);obtain⟨z0,z1,z2,z3,z4,z5⟩:=KK.un X.out.hB HL.out Q;rw[k] at K;have q1:decide ((20:Int) < (n:Int))=false:=by simp;omega
 have q2:((a.length:Int)+1 == 0)=false:=by rw[beq_eq_false_iff_ne];omega
 have q3:¬ (20:Int) < (b:Int)+(n:Int):=by omega
 have W:Hid ((b:Int)+(n:Int)=((b+n:Nat):Int)):=lh (by omega);rw[k];clear e0 e1 e2 e3 e4 e5 KK tr J I M L;rw[if_neg (show ¬ (16:Nat)=15 by decide)] at m;have N:=F.out.kvk
 by_cases ha:a=[]
 ·subst ha
  have hr:R=none:=by rw[m,if_neg (by rw[k];simp)]
  have y:=lh hr;clear m hr;simp only[List.length_nil,Nat.zero_mul,Nat.add_zero,Nat.zero_add] at K z0 z1 z2 z3 z4 z5 q2 |-
  go_enter Tryz.func55,Tryz.ntmps55
  go_wp2;go_ret
  exact .no (((Fr.alloc B w _).trans (.alloc B _ _))) y.out
 ·have a1:0 < a.length:=List.length_pos_iff.2 ha
  rw[if_pos (by rw[k];omega)] at m;have q4:(2:Int)<=(a.length:Int)+1:=by omega
  have y:=lh m;have D:=lh N;clear m N ha
  go_enter Tryz.func55,Tryz.ntmps55
  go_wp2_with fail
  rw[W.out];refine yea (want:=4) (b:=b+n) (kids:=a) X.out (by omega) u hl Z.out ab.out ((HL.out.alloc Q _).alloc (by simp;omega) _) ((HA.out.alloc _).alloc _) (fun w2 l2 G x b2 A2 g2=>?_) (fun w2 G x=>?_)
  ·have o:=lh (((Fr.alloc B w _).trans (.alloc B _ _)).trans x);have C:=lh G;have U:=lh A2;have aa:=lh b2
   have t2:=x.cell (ym _ _);simp only[World.size_alloc] at t2;obtain⟨y0,y1,y2,y3,y4,y5⟩:=yn t2;clear G x A2 b2 t2 z0 z1 z2 z3 z4 z5
   by_cases t:kv=19
   ·subst t
    have g:q.kind=19:=by have:=D.out;unfold KV at this;omega
    have j:=lh g;clear g
    go_wp2_with fail
    refine j3 (want:=2) (b:=b) X.out (by omega) hb g2 F.out ac.out aa.out U.out (fun w3 l3 H A b3 A3 g3=>?_) (fun w3 H A=>?_)
    ·have s:=lh (o.out.trans A);have T:=lh H;have V:=lh A3
     clear H A A3 b3;go_wp2;go_ret;exact .yes s.out (by rw[y.out,C.out,Option.bind_some,if_pos j.out,T.out]) V.out
    ·have s:=lh (o.out.trans A);have T:=lh H
     clear H A;go_wp2;go_ret;exact .no s.out (by rw[y.out,C.out,Option.bind_some,if_pos j.out,T.out])
   ·have g:¬ q.kind=19:=by have:=D.out;unfold KV at this;omega
    have j:=lh g;have q5:(kv == 19)=false:=by rw[beq_eq_false_iff_ne];exact t
    clear g t;go_wp2;go_ret;exact .no o.out (by rw[y.out,C.out,Option.bind_some,if_neg j.out])
  ·have o:=lh (((Fr.alloc B w _).trans (.alloc B _ _)).trans x);have C:=lh G
   clear G x;go_wp2;go_ret;exact .no o.out (by rw[y.out];simp only[C.out,Option.bind_none])
theorem lo17 {w0:World}{B p d:Nat}(E:LkE w0 B p d){b l:Nat}{c:UInt8}{nm:List UInt8}{n:Nat}{f:Bool}{kids:List ya}{v:Value}{w:World}(hb:b<=20)(hl:l<=300)(N:yg w0 (.mk 17 c nm n f kids) v)(M:Sml (.mk 17 c nm n f kids))(t:Below B w0 w)(hA:jc w B p l) :
  Calls Tryz.prog 55 #[.pointer (some ⟨p,0,none⟩),v,.int .i64 d,.int .i64 b] w fun e w'=>qj B p w (zx (yl d) b (.mk 17 c nm n f kids) l) e w':=by
 obtain⟨ao,cap,rfl,hK,hn,ai,J,ah,F⟩:=yze N (by omega) E.hB t.size;have hB:=E.hB;have Q:=lh hK;have HS:=lh M;have I:=lh E;have T:=lh t;have Z:=lh hA;obtain⟨R,u⟩:∃ R,R=zx (yl d) b (.mk 17 c nm n f kids) l:=⟨_,rfl⟩;rw[<-u];replace u:R=zo (yl d) b 17 c nm n f kids l:=u;unfold zo at u;clear hK M E t hA N hB;rw[if_neg (show ¬ ((17:Nat)=15\/(17:Nat)=16) by decide)] at u;rw[if_pos (show(17:Nat)=17 from rfl)] at u
 by_cases j:kids=[]
 ·have hq:¬ (1:Int)<=(kids.length:Int):=by rw[j];simp
  have hr:R=none:=by rw[u,j]
  have y:=lh hr;clear u hr j
  go_enter Tryz.func55,Tryz.ntmps55
  go_wp2;go_ret
  exact .no (.alloc B w _) y.out
 ·obtain⟨O,a,rfl⟩:∃ O a,kids=O::a:=by
   cases kids with
   | nil=>exact absurd rfl j
   | cons O a=>exact⟨O,a,rfl⟩
  clear j;have y:=lh u;clear u;obtain⟨kb,ko,rfl⟩:=Q.out.nn (by simp);obtain⟨al,am,an,ap,aq,ar,K0,t0⟩:=Q.out.k0;have T0:=lh t0;have S0:=lh (HS.out.kid 0 (by simp) rfl);have U:=lh K0;clear t0 K0;have L:(O::a).length=a.length+1:=by simp
  rw[L] at J |-;obtain⟨z0,z1,z2,z3,z4,z5⟩:=U.out.un I.out.hB T.out F;clear L
  by_cases K:cap=1
  ·subst K
   obtain rfl:a=[]:=List.eq_nil_of_length_eq_zero (by omega);have S:qz w0 (some ⟨kb,ko,none⟩) 0 []:=⟨by simp,by unfold maxLen;omega,fun h=>absurd rfl h,fun i b o hi=>by simp at hi⟩;simp only[List.length_nil,Nat.zero_add] at J |-
   go_enter Tryz.func55,Tryz.ntmps55
   go_wp2_with fail
   refine j3 (want:=0) (b:=b) I.out (by omega) hb hl T0.out S0.out (T.out.alloc F _) (Z.out.alloc _) (fun X l1 r m b1 G W=>?_) (fun X r m=>?_)
   ·have g:=lh ((Fr.alloc B w _).trans m);have x:=lh r;have A:=lh G
    have D:=lh b1;have P:=m.cell (ym w _);obtain⟨x0,x1,x2,x3,x4,x5⟩:=yn P;clear P r m b1 G
    go_wp2_with fail
    refine yea (want:=5) (b:=b) (kids:=[]) I.out (by omega) hb W S (fun i hi=>by simp at hi) D.out A.out (fun Y l2 s q V H g2=>?_) (fun Y s q=>?_)
    ·have k:=lh (g.out.trans q);have z:=lh s;have C:=lh H
     clear s q V H;go_wp2;go_ret;exact .yes k.out (by rw[y.out];simp only[x.out,z.out,Option.bind_some]) C.out
    ·have k:=lh (g.out.trans q);have z:=lh s
     clear s q;go_wp2;go_ret;exact .no k.out (by rw[y.out];simp only[x.out,z.out,Option.bind_some])
   ·have g:=lh ((Fr.alloc B w _).trans m);have x:=lh r
    clear r m;go_wp2;go_ret;exact .no g.out (by rw[y.out];simp only[x.out,Option.bind_none])
  ·go_enter Tryz.func55,Tryz.ntmps55
   go_wp2_with fail
   refine j3 (want:=0) (b:=b) I.out (by omega) hb hl T0.out S0.out (T.out.alloc F _) (Z.out.alloc _) (fun X l1 r m b1 G W=>?_) (fun X r m=>?_)
   ·have g:=lh ((Fr.alloc B w _).trans m);have x:=lh r;have A:=lh G
    have D:=lh b1;have P:=m.cell (ym w _);obtain⟨x0,x1,x2,x3,x4,x5⟩:=yn P;clear P r m b1 G
    go_wp2_with fail
    refine yea (want:=5) (b:=b) (kids:=a) I.out (by omega) hb W (xz Q.out) (fun i hi=>HS.out.kid (i+1) (by simpa using hi) rfl) D.out A.out (fun Y l2 s q V H g2=>?_) (fun Y s q=>?_)
    ·have k:=lh (g.out.trans q);have z:=lh s;have C:=lh H
     clear s q V H;go_wp2;go_ret;exact .yes k.out (by rw[y.out];simp only[x.out,z.out,Option.bind_some]) C.out
    ·have k:=lh (g.out.trans q);have z:=lh s
     clear s q;go_wp2;go_ret;exact .no k.out (by rw[y.out];simp only[x.out,z.out,Option.bind_some])
   ·have g:=lh ((Fr.alloc B w _).trans m);have x:=lh r
    clear r m;go_wp2;go_ret;exact .no g.out (by rw[y.out];simp only[x.out,Option.bind_none])
theorem lo18t {w0:World}{B p d:Nat}(E:LkE w0 B p d){b l:Nat}{c:UInt8}{nm:List UInt8}{n:Nat}{f:Bool}{kids:List ya}{v:Value}{w:World}(hb:b<=20)(Y:l<=300)(u:yg w0 (.mk 18 c nm n f kids) v)(t:Sml (.mk 18 c nm n f kids))(i:Below B w0 w)(P:jc w B p l)(j:zh nm=true) :
  Calls Tryz.prog 55 #[.pointer (some ⟨p,0,none⟩),v,.int .i64 d,.int .i64 b] w fun e w'=>qj B p w (zx (yl d) b (.mk 18 c nm n f kids) l) e w':=by
 obtain⟨ao,cap,rfl,hK,hn,Z,I,X,o⟩:=yze u (by omega) E.hB i.size;have hB:=E.hB;have L:=lh hK;have N:=lh t;have D:=lh E;have M:=lh i;have Q:=lh P;obtain⟨R,g⟩:∃ R,R=zx (yl d) b (.mk 18 c nm n f kids) l:=⟨_,rfl⟩;rw[<-g];replace g:R=zo (yl d) b 18 c nm n f kids l:=g;unfold zo at g;clear hK t E i P u hB;rw[if_neg (show ¬ ((18:Nat)=15\/(18:Nat)=16) by decide)] at g;rw[if_neg (show ¬ (18:Nat)=17 by decide)] at g;rw[if_pos (show(18:Nat)=18 from rfl)] at g
 by_cases a:kids.length=1
 ·obtain⟨q0,rfl⟩:=vh a
  clear a;replace g:R=yl d 1 b q0 l:=by rw[g];exact if_pos j
  have x:=lh g;clear g;have H:=fun w W=>ze nm N.out.nm w W;rw[j] at H;have S:=lh j;clear j;obtain⟨kb,ko,rfl⟩:=L.out.nn (by simp);obtain⟨ab,ac,ad,ae,af,ag,O,t0⟩:=L.out.k0;have V:=lh t0;have U:=lh (N.out.kid 0 (by simp) rfl);have G:=lh O;clear t0 O;simp only[List.length_cons,List.length_nil] at I
  go_enter Tryz.func55,Tryz.ntmps55
  go_wp2_with fail
  refine(H _ (D.out.vtAt (M.out.alloc o _))).mono ?_;rintro e y ⟨rfl,h⟩;clear H;have r:=lh ((Fr.alloc B w _).trans (.of_below h));have A:=lh ((Q.out.alloc _).below h);have J:=(Fr.of_below (B:=B) h).cell (ym w _);have T:=lh J;obtain⟨x0,x1,x2,x3,x4,x5⟩:=yn J;have m:Below B w0 y:=(M.out.alloc o _).trans ((Fr.of_below h).below (Nat.le_trans o (by simp)));have F:=lh m;obtain⟨y0,y1,y2,y3,y4,y5⟩:=G.out.at D.out.hB m;clear J h m;generalize y=W1 at *
  go_wp2_with fail
  refine j3 (want:=1) (b:=b) D.out (by omega) hb Y V.out U.out F.out A.out (fun y l1 s q b1 K g1=>?_) (fun y s q=>?_)
  ·have k:=lh (r.out.trans q);have z:=lh s;have C:=lh K
   clear s q b1 K;go_wp2;go_ret;exact .yes k.out (by rw[x.out];simp only[z.out,Option.bind_some]) C.out
  ·have k:=lh (r.out.trans q);have z:=lh s
   clear s q;go_wp2;go_ret;exact .no k.out (by rw[x.out];simp only[z.out,Option.bind_some,Option.bind_none])
 ·have hq:((kids.length:Int) == 1)=false:=by simp;omega
  have hr:R=none:=by
   rw[g]
   split
   ·simp at a
   ·rfl
  have x:=lh hr;clear g hr a
  go_enter Tryz.func55,Tryz.ntmps55
  go_wp2;go_ret
  exact .no (.alloc B w _) x.out
theorem lo18f {w0:World}{B p d:Nat}(E:LkE w0 B p d){b l:Nat}{c:UInt8}{nm:List UInt8}{n:Nat}{f:Bool}{kids:List ya}{v:Value}{w:World}(hb:b<=20)(H:l<=300)(k:yg w0 (.mk 18 c nm n f kids) v)(j:Sml (.mk 18 c nm n f kids))(h:Below B w0 w)(t:jc w B p l)(i:zh nm=false) :
  Calls Tryz.prog 55 #[.pointer (some ⟨p,0,none⟩),v,.int .i64 d,.int .i64 b] w fun e w'=>qj B p w (zx (yl d) b (.mk 18 c nm n f kids) l) e w':=by
 obtain⟨ao,cap,rfl,hK,I,D,r,C,s⟩:=yze k (by omega) E.hB h.size;have hB:=E.hB;have G:=lh hK;have z:=lh j;have u:=lh E;have x:=lh h;have F:=lh t;obtain⟨R,g⟩:∃ R,R=zx (yl d) b (.mk 18 c nm n f kids) l:=⟨_,rfl⟩;rw[<-g];replace g:R=zo (yl d) b 18 c nm n f kids l:=g;unfold zo at g;clear hK j E h t k hB;rw[if_neg (show ¬ ((18:Nat)=15\/(18:Nat)=16) by decide)] at g;rw[if_neg (show ¬ (18:Nat)=17 by decide)] at g;rw[if_pos (show(18:Nat)=18 from rfl)] at g
 by_cases a:kids.length=1
 ·obtain⟨K,rfl⟩:=vh a
  clear a;have hr:R=none:=by rw[g];exact if_neg (by rw[i];decide)
  have m:=lh hr;clear g hr;have o:=fun w A=>ze nm z.out.nm w A;rw[i] at o;have y:=lh i;clear i;simp only[List.length_cons,List.length_nil,Nat.zero_add] at r |-
  go_enter Tryz.func55,Tryz.ntmps55
  go_wp2_with fail
  refine(o _ (u.out.vtAt (x.out.alloc s _))).mono ?_;rintro e L ⟨rfl,q⟩;clear o;go_wp2;go_ret;exact .no ((Fr.alloc B w _).trans (.of_below q)) m.out
 ·have J:((kids.length:Int) == 1)=false:=by simp;omega
  have hr:R=none:=by
   rw[g]
   split
   ·simp at a
   ·rfl
  have m:=lh hr;clear g hr a
  go_enter Tryz.func55,Tryz.ntmps55
  go_wp2;go_ret
  exact .no (.alloc B w _) m.out
theorem lo19 {w0:World}{B p d:Nat}(E:LkE w0 B p d){b l:Nat}{c:UInt8}{nm:List UInt8}{n:Nat}{f:Bool}{kids:List ya}{v:Value}{w:World}(hb:b<=20)(G:l<=300)(o:yg w0 (.mk 19 c nm n f kids) v)(m:Sml (.mk 19 c nm n f kids))(g:Below B w0 w)(q:jc w B p l) :
  Calls Tryz.prog 55 #[.pointer (some ⟨p,0,none⟩),v,.int .i64 d,.int .i64 b] w fun e w'=>qj B p w (zx (yl d) b (.mk 19 c nm n f kids) l) e w':=by
 obtain⟨ao,cap,rfl,hK,H,u,s,t,y⟩:=yze o (by omega) E.hB g.size;have hB:=E.hB;have C:=lh hK;have F:=lh m;have A:=lh E;have D:=lh g;have r:=lh q;obtain⟨R,a⟩:∃ R,R=zx (yl d) b (.mk 19 c nm n f kids) l:=⟨_,rfl⟩;rw[<-a];replace a:R=zo (yl d) b 19 c nm n f kids l:=a;unfold zo at a;clear hK m E g q o hB;rw[if_neg (show ¬ ((19:Nat)=15\/(19:Nat)=16) by decide)] at a;rw[if_neg (show ¬ (19:Nat)=17 by decide)] at a;rw[if_neg (show ¬ (19:Nat)=18 by decide)] at a;rw[if_pos (show(19:Nat)=19 from rfl)] at a
 by_cases j:kids=[]
 ·have x:((kids.length:Int) == 0)=true:=by rw[j];rfl
  by_cases i:n<=b
  ·have z:(n:Int)<=(b:Int):=by omega
   have hr:R=some l:=by rw[a,if_pos ⟨j,i⟩]
   have k:=lh hr;clear hr a j i
   go_enter Tryz.func55,Tryz.ntmps55
   go_wp2;go_ret
   exact .yes (.alloc B w _) k.out (r.out.alloc _)
  ·have z:¬ (n:Int)<=(b:Int):=by omega
   have hr:R=none:=by rw[a,if_neg (fun h=>i h.2)]
   have k:=lh hr;clear hr a j i
   go_enter Tryz.func55,Tryz.ntmps55
   go_wp2;go_ret
   exact .no (.alloc B w _) k.out
 ·have x:((kids.length:Int) == 0)=false:=by rw[beq_eq_false_iff_ne];intro h;exact j (List.eq_nil_of_length_eq_zero (by omega))
  have hr:R=none:=by rw[a,if_neg (fun h=>j h.1)]
  have k:=lh hr;clear hr a j
  go_enter Tryz.func55,Tryz.ntmps55
  go_wp2;go_ret
  exact .no (.alloc B w _) k.out
theorem lo20 {w0:World}{B p d:Nat}(E:LkE w0 B p d){b l:Nat}{c:UInt8}{nm:List UInt8}{n:Nat}{f:Bool}{kids:List ya}{v:Value}{w:World}(hb:b<=20)(M:l<=300)(o:yg w0 (.mk 20 c nm n f kids) v)(r:Sml (.mk 20 c nm n f kids))(i:Below B w0 w)(C:jc w B p l) :
  Calls Tryz.prog 55 #[.pointer (some ⟨p,0,none⟩),v,.int .i64 d,.int .i64 b] w fun e w'=>qj B p w (zx (yl d) b (.mk 20 c nm n f kids) l) e w':=by
 have j:=o;obtain⟨ao,cap,rfl,hK,G,H⟩:=yo o (by omega);have A:=lh j;clear j;have F:=hK.c1;have u:=hK.c2;unfold maxLen at u;have hB:=E.hB;have s:=i.size;rw[<-hB] at s;have K:=lh hK;have L:=lh r;have y:=lh E;have z:=lh i;have D:=lh C;obtain⟨R,a⟩:∃ R,R=zx (yl d) b (.mk 20 c nm n f kids) l:=⟨_,rfl⟩;rw[<-a];replace a:R=zo (yl d) b 20 c nm n f kids l:=a;unfold zo at a;clear hK r E i C o hB;rw[if_neg (show ¬ ((20:Nat)=15\/(20:Nat)=16) by decide)] at a;rw[if_neg (show ¬ (20:Nat)=17 by decide)] at a;rw[if_neg (show ¬ (20:Nat)=18 by decide)] at a;rw[if_neg (show ¬ (20:Nat)=19 by decide)] at a;rw[if_pos (show(20:Nat)=20 from rfl)] at a
 by_cases m:kids=[]
 ·have I:((kids.length:Int) == 0)=true:=by rw[m];rfl
  have k:=fun w h=>yfs (w:=w) (t:=.mk 20 c nm n f kids) (v:=.agg #[.int .i64 20,.int .u8 c.toNat,.string ⟨nm.toArray⟩,.int .u64 n,.bool f,.slice ao kids.length cap]) h rfl;simp only[ya.letter,ya.num,ya.flag] at k
  cases g:qv c n f with
  | true=>
   have hr:R=some l:=by rw[a,if_pos ⟨m,g,G⟩]
   rw[g] at k;have q:=lh hr;clear hr a m g
   go_enter Tryz.func55,Tryz.ntmps55
   go_wp2_with fail
   refine(k _ (A.out.at y.out.hB (z.out.alloc s _))).mono ?_;rintro e J ⟨rfl,x,rfl⟩;clear k;go_wp2;go_ret;exact .yes ((Fr.alloc B w _).trans (.of_below (qp _ x))) q.out ((D.out.alloc _).below (qp _ x))
  | false=>
   have hr:R=none:=by rw[a,if_neg (fun h=>by rw[g] at h;exact absurd h.2.1 (by decide))]
   rw[g] at k;have q:=lh hr;clear hr a m g
   go_enter Tryz.func55,Tryz.ntmps55
   go_wp2_with fail
   refine(k _ (A.out.at y.out.hB (z.out.alloc s _))).mono ?_;rintro e J ⟨rfl,x,rfl⟩;clear k;go_wp2;go_ret;exact .no ((Fr.alloc B w _).trans (.of_below (qp _ x))) q.out
 ·have I:((kids.length:Int) == 0)=false:=by rw[beq_eq_false_iff_ne];intro h;exact m (List.eq_nil_of_length_eq_zero (by omega))
  have hr:R=none:=by rw[a,if_neg (fun h=>m h.1)]
  have q:=lh hr;clear hr a m
  go_enter Tryz.func55,Tryz.ntmps55
  go_wp2;go_ret
  exact .no (.alloc B w _) q.out
theorem lo21 {w0:World}{B p d:Nat}(E:LkE w0 B p d){b l:Nat}{c:UInt8}{nm:List UInt8}{n:Nat}{f:Bool}{kids:List ya}{v:Value}{w:World}(hb:b<=20)(D:l<=300)(k:yg w0 (.mk 21 c nm n f kids) v)(j:Sml (.mk 21 c nm n f kids))(g:Below B w0 w)(o:jc w B p l) :
  Calls Tryz.prog 55 #[.pointer (some ⟨p,0,none⟩),v,.int .i64 d,.int .i64 b] w fun e w'=>qj B p w (zx (yl d) b (.mk 21 c nm n f kids) l) e w':=by
 obtain⟨ao,cap,rfl,hK,F,t,r,s,x⟩:=yze k (by omega) E.hB g.size;have hB:=E.hB;have z:=lh hK;have C:=lh j;have y:=lh E;have A:=lh g;have q:=lh o;obtain⟨R,a⟩:∃ R,R=zx (yl d) b (.mk 21 c nm n f kids) l:=⟨_,rfl⟩;rw[<-a];replace a:R=zo (yl d) b 21 c nm n f kids l:=a;unfold zo at a;clear hK j E g o k hB;rw[if_neg (show ¬ ((21:Nat)=15\/(21:Nat)=16) by decide)] at a;rw[if_neg (show ¬ (21:Nat)=17 by decide)] at a;rw[if_neg (show ¬ (21:Nat)=18 by decide)] at a;rw[if_neg (show ¬ (21:Nat)=19 by decide)] at a;rw[if_neg (show ¬ (21:Nat)=20 by decide)] at a
 by_cases i:kids=[]
 ·have u:((kids.length:Int) == 0)=true:=by rw[i];rfl
  have hr:R=some l:=by rw[a,if_pos i]
  have m:=lh hr;clear hr a i
  go_enter Tryz.func55,Tryz.ntmps55
  go_wp2;go_ret
  exact .yes (.alloc B w _) m.out (q.out.alloc _)
 ·have u:((kids.length:Int) == 0)=false:=by rw[beq_eq_false_iff_ne];intro h;exact i (List.eq_nil_of_length_eq_zero (by omega))
  have hr:R=none:=by rw[a,if_neg (fun h=>i h)]
  have m:=lh hr;clear hr a i
  go_enter Tryz.func55,Tryz.ntmps55
  go_wp2;go_ret
  exact .no (.alloc B w _) m.out
theorem yyb {w0:World}{B p d:Nat}(E:LkE w0 B p d):LkF w0 B p 55 d 15 21 (zx (yl d)):=by
 intro b t l v w r hb h e i a g;obtain⟨k,c,nm,n,f,kids⟩:=t;simp only[ya.kind] at r
 rcases(by omega:k=15\/k=16\/k=17\/k=18\/k=19\/k=20\/k=21) with rfl|rfl|rfl|rfl|rfl|rfl|rfl
 ·by_cases o:20 < n
  ·exact lo15x E hb h e i a g o
  ·by_cases j:kids=[]
   ·exact lo15y E hb h e i a g ⟨by omega,j⟩
   ·by_cases q:20 < b+n
    ·exact lo15z E hb h e i a g ⟨by omega,j,q⟩
    ·exact lo15 E hb h e i a g j (by omega) (by omega)
 ·by_cases o:20 < n
  ·exact lo16x E hb h e i a g o
  ·by_cases j:kids=[]
   ·exact lo16y E hb h e i a g ⟨by omega,j⟩
   ·by_cases q:20 < b+n
    ·exact lo16z E hb h e i a g ⟨by omega,j,q⟩
    ·exact lo16 E hb h e i a g j (by omega) (by omega)
 ·exact lo17 E hb h e i a g
 ·cases m:zh nm with
  | true=>exact lo18t E hb h e i a g m
  | false=>exact lo18f E hb h e i a g m
 ·exact lo19 E hb h e i a g
 ·exact lo20 E hb h e i a g
 ·exact lo21 E hb h e i a g
theorem ypr {w0:World}{B p:Nat} : LkC w0 B p 0:=by
 intro want b t l v w hw hb J r q d a
 cases r with
 | @mk kv k c nm n f kids ao cap V x H y A C D E F=>
 have G:=a.cell;have I:=a.free;have j:=a.pB;have i:=a.lt;have s:=lh a;clear x y A C D E F d q a
 show Calls _ _ _ _ fun e w'=>qj B p w none e w'
 have K:∀ z o,((w.setCell ⟨p,0,none⟩ (.int .i64 z)).alloc o).cell? ⟨p,0,none⟩=some (.int .i64 z):=fun z o=>zm (by rw[heap_alloc_old _ _ (by simp[World.setCell];exact i)];exact s.out.put z) rfl;have u:Hid (∀ z,Fr B w (w.setCell ⟨p,0,none⟩ (.int .i64 z))):=lh fun z=>Fr.set s.out.blk j (by decide) 0 (.int .i64 z)
 rcases Nat.eq_zero_or_pos l with g|g
 ·subst g
  go_enter Tryz.func39,Tryz.ntmps39
  go_wp2;go_ret
  exact .no ((u.out _).trans (Fr.alloc B _ _)) rfl
 ·obtain⟨m,rfl⟩:∃ m,l=m+1:=⟨l-1,by omega⟩
  have h:((m+1:Nat):Int)=(m:Int)+1:=by omega
  rw[h] at G
  go_enter Tryz.func39,Tryz.ntmps39
  go_wp2;go_ret
  exact .no ((u.out _).trans (Fr.alloc B _ _)) rfl
theorem ylh {w0:World}{B p:Nat}(hB:B=w0.heap.size)(a:yb1 w0):∀ d,d<=100->LkC w0 B p d
 | 0,_=>ypr
 | d+1,h=>
  have E:LkE w0 B p d:=⟨hB,a,ylh hB a d (by omega),by omega⟩
  ym2 (yx9 E) (yx7 E) (yyb E) (by omega)
def ycw (t:ya):Bool:=(yl 24 0 0 t 300).isSome
theorem ypi {w:World}{t:ya}{v:Value}(b:yg w t v)(r:Sml t)(q:yb1 w):Calls Tryz.prog 22 #[v] w fun e w'=>e=.returned (.bool (ycw t))/\Below w.heap.size w w':=by
 have d:∀ p w',Below w.heap.size w w'->jc w' w.heap.size p 300->Calls Tryz.prog 39 #[.pointer (some ⟨p,0,none⟩),v,.int .i64 0,.int .i64 24,.int .i64 0] w' fun e s=>qj w.heap.size p w' (yl 24 0 0 t 300) e s:=
  fun p w' g l=>ylh (p:=p) rfl q 24 (by omega) 0 0 t 300 v w' (by omega) (by omega) (by omega) b r g l
 obtain⟨R,h⟩:∃ R,R=yl 24 0 0 t 300:=⟨_,rfl⟩;have hr:ycw t=R.isSome:=by rw[h];rfl
 rw[<-h] at d;rw[hr];have u:=lh d;clear d h hr q r
 cases b with
 | @mk kv k c nm n f kids ao cap V g l y z A B C D=>
 clear g y z A B C D;have hb:Below w.heap.size w ((w.alloc (.cells #[.int .i64 kv,.int .u8 c.toNat,.string ⟨nm.toArray⟩,.int .u64 n,.bool f,.slice ao kids.length cap] 28)).alloc (.cells #[.int .i64 300] 64)):=((Below.refl _ w).alloc (Nat.le_refl _) _).alloc (by simp) _;have o:jc ((w.alloc (.cells #[.int .i64 kv,.int .u8 c.toNat,.string ⟨nm.toArray⟩,.int .u64 n,.bool f,.slice ao kids.length cap] 28)).alloc (.cells #[.int .i64 300] 64)) w.heap.size (w.heap.size+1) 300:=⟨by have:=ym (w.alloc (.cells #[.int .i64 kv,.int .u8 c.toNat,.string ⟨nm.toArray⟩,.int .u64 n,.bool f,.slice ao kids.length cap] 28)) (.cells #[.int .i64 300] 64);simpa using this,by omega⟩;have i:=lh hb;have x:=lh o;clear hb o
 go_enter Tryz.func22,Tryz.ntmps22
 go_wp2_with fail
 refine(u.out _ _ i.out x.out).mono ?_;rintro e s ⟨m,a⟩;have j:=lh (i.out.trans (m.below (by simp;omega)));clear m
 cases R with
 | none=>
  subst a;go_wp2;go_ret;exact⟨rfl,j.out⟩
 | some l1=>
  obtain⟨rfl,-⟩:=a;go_wp2;go_ret;exact⟨rfl,j.out⟩
end Go.Proofs.YtfckcdbpiepchaaGreatDoor
