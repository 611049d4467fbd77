import Derived.Test.YtfckcdbpiepchaaGreatDoorNs21
namespace Go.Proofs.YtfckcdbpiepchaaGreatDoor
open Go.RowKit
set_option maxRecDepth 100000
set_option maxHeartbeats 8000000
set_option linter.all false
theorem lt7 {w0:World}{B p d:Nat}(E:LkE w0 B p d){b l:Nat}{c:UInt8}{nm:List UInt8}{n:Nat}{f:Bool}{kids:List ya}{v:Value}{w:World}(hb:b<=20)(K:l<=300)(r:yg w0 (.mk 7 c nm n f kids) v)(q:Sml (.mk 7 c nm n f kids))(g:Below B w0 w)(s:jc w B p l) :
  Calls Tryz.prog 54 #[.pointer (some ⟨p,0,none⟩),v,.int .i64 d,.int .i64 b] w fun e w'=>qj B p w (jv (yl d) b (.mk 7 c nm n f kids) l) e w':=by
 obtain⟨ao,cap,rfl,hK,L,z,u,y,C⟩:=yze r (by omega) E.hB g.size;have hB:=E.hB;have H:=lh hK;have J:=lh q;have G:=lh E;have I:=lh g;have t:=lh s;obtain⟨R,a⟩:∃ R,R=jv (yl d) b (.mk 7 c nm n f kids) l:=⟨_,rfl⟩;rw[<-a];replace a:R=jp (yl d) b 7 c n kids l:=a;unfold jp at a;clear hK q E g s r hB;rw[if_pos (show(7:Nat)=7 from rfl)] at a;have j:=fun w=>ya4 (w:=w) c
 by_cases k:kids=[]
 ·have A:((kids.length:Int) == 0)=true:=by rw[k];rfl
  cases m:kw c with
  | some x=>
   have hr:R=some l:=by rw[a,if_pos ⟨k,by rw[m];rfl⟩]
   have i:yhz c=x:=by unfold yhz;rw[m];rfl
   have D:x.isEmpty=false:=by have:=(yh0 m).1;cases x;simp at this;rfl
   rw[i] at j;have o:=lh hr;clear hr a k m i
   go_enter Tryz.func54,Tryz.ntmps54
   go_wp2_with fail
   refine(j _).mono ?_;rintro e F ⟨rfl,rfl⟩;clear j;go_wp2;go_ret;exact .yes (.alloc B w _) o.out (t.out.alloc _)
  | none=>
   have hr:R=none:=by rw[a,if_neg (fun h=>by rw[m] at h;exact absurd h.2 (by decide))]
   have i:yhz c=[]:=by unfold yhz;rw[m];rfl
   rw[i] at j;have o:=lh hr;clear hr a k m i
   go_enter Tryz.func54,Tryz.ntmps54
   go_wp2_with fail
   refine(j _).mono ?_;rintro e F ⟨rfl,rfl⟩;clear j;go_wp2;go_ret;exact .no (.alloc B w _) o.out
 ·have A:((kids.length:Int) == 0)=false:=by rw[beq_eq_false_iff_ne];intro h;exact k (List.eq_nil_of_length_eq_zero (by omega))
  have hr:R=none:=by rw[a,if_neg (fun h=>k h.1)]
  have o:=lh hr;clear hr a k j
  go_enter Tryz.func54,Tryz.ntmps54
  go_wp2;go_ret
  exact .no (.alloc B w _) o.out
theorem lt8 {w0:World}{B p d:Nat}(E:LkE w0 B p d){b l:Nat}{c:UInt8}{nm:List UInt8}{n:Nat}{f:Bool}{kids:List ya}{v:Value}{w:World}(hb:b<=20)(hl:l<=300)(u:yg w0 (.mk 8 c nm n f kids) v)(s:Sml (.mk 8 c nm n f kids))(g:Below B w0 w)(Q:jc w B p l) :
  Calls Tryz.prog 54 #[.pointer (some ⟨p,0,none⟩),v,.int .i64 d,.int .i64 b] w fun e w'=>qj B p w (jv (yl d) b (.mk 8 c nm n f kids) l) e w':=by
 obtain⟨ao,cap,rfl,hK,hn,ad,I,ab,t⟩:=yze u (by omega) E.hB g.size;have hB:=E.hB;have D:=lh hK;have N:=lh s;have y:=lh E;have M:=lh g;have T:=lh Q;obtain⟨R,h⟩:∃ R,R=jv (yl d) b (.mk 8 c nm n f kids) l:=⟨_,rfl⟩;rw[<-h];replace h:R=jp (yl d) b 8 c n kids l:=h;unfold jp at h;clear hK s E g Q u hB;rw[if_neg (show ¬ (8:Nat)=7 by decide)] at h;rw[if_pos (show(8:Nat)=8 from rfl)] at h
 by_cases a:kids.length=2
 ·obtain⟨q0,q1,rfl⟩:=yg7 a
  clear a;have o:=lh h;clear h;obtain⟨kb,ko,rfl⟩:=D.out.nn (by simp);obtain⟨ae,af,ag,ah,ai,aj,O,t0⟩:=D.out.k0;have X:=lh t0;have V:=lh (N.out.kid 0 (by simp) rfl);have G:=lh O;clear t0 O;obtain⟨ak,al,v12,am,an,ap,P,S⟩:=D.out.k1;have Y:=lh S;have W:=lh (N.out.kid 1 (by simp) rfl);have H:=lh P;clear S P;simp only[List.length_cons,List.length_nil] at I;obtain⟨z0,z1,z2,z3,z4,z5⟩:=G.out.un y.out.hB M.out t
  go_enter Tryz.func54,Tryz.ntmps54
  go_wp2_with fail
  refine j3 (want:=1) (b:=b) y.out (by omega) hb hl X.out V.out (M.out.alloc t _) (T.out.alloc _) (fun w1 l1 q k b1 K g1=>?_) (fun w1 q k=>?_)
  ·have i:=lh ((Fr.alloc B w _).trans k);have x:=lh q;have A:=lh K
   have F:=lh b1;have J:=k.cell (ym w _);have U:=lh J;obtain⟨x0,x1,x2,x3,x4,x5⟩:=yn J;obtain⟨y0,y1,y2,y3,y4,y5⟩:=H.out.at y.out.hB b1;clear J q k b1 K
   go_wp2_with fail
   refine j3 (want:=3) (b:=b) y.out (by omega) hb g1 Y.out W.out F.out A.out (fun w2 l2 r m Z L g2=>?_) (fun w2 r m=>?_)
   ·have j:=lh (i.out.trans m);have z:=lh r;have C:=lh L
    clear r m Z L;go_wp2;go_ret;exact .yes j.out (by rw[o.out];simp only[x.out,z.out,Option.bind_some]) C.out
   ·have j:=lh (i.out.trans m);have z:=lh r
    clear r m;go_wp2;go_ret;exact .no j.out (by rw[o.out];simp only[x.out,z.out,Option.bind_some,Option.bind_none])
  ·have i:=lh ((Fr.alloc B w _).trans k);have x:=lh q
   clear q k;go_wp2;go_ret;exact .no i.out (by rw[o.out];simp only[x.out,Option.bind_some,Option.bind_none])
 ·have hq:((kids.length:Int) == 2)=false:=by simp;omega
  have hr:R=none:=by
   rw[h]
   split
   ·simp at a
   ·rfl
  have o:=lh hr;clear h hr a
  go_enter Tryz.func54,Tryz.ntmps54
  go_wp2;go_ret
  exact .no (.alloc B w _) o.out
theorem lt9 {w0:World}{B p d:Nat}(E:LkE w0 B p d){b l:Nat}{c:UInt8}{nm:List UInt8}{n:Nat}{f:Bool}{kids:List ya}{v:Value}{w:World}(hb:b<=20)(M:l<=300)(r:yg w0 (.mk 9 c nm n f kids) v)(o:Sml (.mk 9 c nm n f kids))(i:Below B w0 w)(G:jc w B p l) :
  Calls Tryz.prog 54 #[.pointer (some ⟨p,0,none⟩),v,.int .i64 d,.int .i64 b] w fun e w'=>qj B p w (jv (yl d) b (.mk 9 c nm n f kids) l) e w':=by
 obtain⟨ao,cap,rfl,hK,X,N,y,L,q⟩:=yze r (by omega) E.hB i.size;have hB:=E.hB;have C:=lh hK;have I:=lh o;have A:=lh E;have D:=lh i;have H:=lh G;obtain⟨R,g⟩:∃ R,R=jv (yl d) b (.mk 9 c nm n f kids) l:=⟨_,rfl⟩;rw[<-g];replace g:R=jp (yl d) b 9 c n kids l:=g;unfold jp at g;clear hK o E i G r hB;rw[if_neg (show ¬ (9:Nat)=7 by decide)] at g;rw[if_neg (show ¬ (9:Nat)=8 by decide)] at g;rw[if_neg (show ¬ (9:Nat)=10 by decide)] at g;rw[if_neg (fun h=>absurd h.1 (by decide))] at g
 by_cases a:kids.length=1
 ·obtain⟨q0,rfl⟩:=vh a
  clear a;have s:=lh g;clear g;obtain⟨Z,ko,rfl⟩:=C.out.nn (by simp);obtain⟨O,P,Q,S,T,U,F,t0⟩:=C.out.k0;have K:=lh t0;have J:=lh (I.out.kid 0 (by simp) rfl);have x:=lh F;clear t0 F;simp only[List.length_cons,List.length_nil] at y;obtain⟨z0,z1,z2,z3,z4,z5⟩:=x.out.un A.out.hB D.out q
  go_enter Tryz.func54,Tryz.ntmps54
  go_wp2_with fail
  refine j3 (want:=1) (b:=b) A.out (by omega) hb M K.out J.out (D.out.alloc q _) (H.out.alloc _) (fun V l1 m k b1 z W=>?_) (fun V m k=>?_)
  ·have j:=lh ((Fr.alloc B w _).trans k);have t:=lh m;have u:=lh z
   clear m k b1 z;go_wp2;go_ret;exact .yes j.out (by rw[s.out];simp only[t.out,Option.bind_some]) u.out
  ·have j:=lh ((Fr.alloc B w _).trans k);have t:=lh m
   clear m k;go_wp2;go_ret;exact .no j.out (by rw[s.out];simp only[t.out,Option.bind_some,Option.bind_none])
 ·have Y:((kids.length:Int) == 1)=false:=by simp;omega
  have hr:R=none:=by
   rw[g]
   split
   ·simp at a
   ·rfl
  have s:=lh hr;clear g hr a
  go_enter Tryz.func54,Tryz.ntmps54
  go_wp2;go_ret
  exact .no (.alloc B w _) s.out
theorem lt13 {w0:World}{B p d:Nat}(E:LkE w0 B p d){b l:Nat}{c:UInt8}{nm:List UInt8}{n:Nat}{f:Bool}{kids:List ya}{v:Value}{w:World}(hb:b<=20)(M:l<=300)(r:yg w0 (.mk 13 c nm n f kids) v)(o:Sml (.mk 13 c nm n f kids))(i:Below B w0 w)(G:jc w B p l) :
  Calls Tryz.prog 54 #[.pointer (some ⟨p,0,none⟩),v,.int .i64 d,.int .i64 b] w fun e w'=>qj B p w (jv (yl d) b (.mk 13 c nm n f kids) l) e w':=by
 obtain⟨ao,cap,rfl,hK,X,N,y,L,q⟩:=yze r (by omega) E.hB i.size;have hB:=E.hB;have C:=lh hK;have I:=lh o;have A:=lh E;have D:=lh i;have H:=lh G;obtain⟨R,g⟩:∃ R,R=jv (yl d) b (.mk 13 c nm n f kids) l:=⟨_,rfl⟩;rw[<-g];replace g:R=jp (yl d) b 13 c n kids l:=g;unfold jp at g;clear hK o E i G r hB;rw[if_neg (show ¬ (13:Nat)=7 by decide)] at g;rw[if_neg (show ¬ (13:Nat)=8 by decide)] at g;rw[if_neg (show ¬ (13:Nat)=10 by decide)] at g;rw[if_neg (fun h=>absurd h.1 (by decide))] at g
 by_cases a:kids.length=1
 ·obtain⟨q0,rfl⟩:=vh a
  clear a;have s:=lh g;clear g;obtain⟨Z,ko,rfl⟩:=C.out.nn (by simp);obtain⟨O,P,Q,S,T,U,F,t0⟩:=C.out.k0;have K:=lh t0;have J:=lh (I.out.kid 0 (by simp) rfl);have x:=lh F;clear t0 F;simp only[List.length_cons,List.length_nil] at y;obtain⟨z0,z1,z2,z3,z4,z5⟩:=x.out.un A.out.hB D.out q
  go_enter Tryz.func54,Tryz.ntmps54
  go_wp2_with fail
  refine j3 (want:=1) (b:=b) A.out (by omega) hb M K.out J.out (D.out.alloc q _) (H.out.alloc _) (fun V l1 m k b1 z W=>?_) (fun V m k=>?_)
  ·have j:=lh ((Fr.alloc B w _).trans k);have t:=lh m;have u:=lh z
   clear m k b1 z;go_wp2;go_ret;exact .yes j.out (by rw[s.out];simp only[t.out,Option.bind_some]) u.out
  ·have j:=lh ((Fr.alloc B w _).trans k);have t:=lh m
   clear m k;go_wp2;go_ret;exact .no j.out (by rw[s.out];simp only[t.out,Option.bind_some,Option.bind_none])
 ·have Y:((kids.length:Int) == 1)=false:=by simp;omega
  have hr:R=none:=by
   rw[g]
   split
   ·simp at a
   ·rfl
  have s:=lh hr;clear g hr a
  go_enter Tryz.func54,Tryz.ntmps54
  go_wp2;go_ret
  exact .no (.alloc B w _) s.out
theorem lt14 {w0:World}{B p d:Nat}(E:LkE w0 B p d){b l:Nat}{c:UInt8}{nm:List UInt8}{n:Nat}{f:Bool}{kids:List ya}{v:Value}{w:World}(hb:b<=20)(M:l<=300)(r:yg w0 (.mk 14 c nm n f kids) v)(o:Sml (.mk 14 c nm n f kids))(i:Below B w0 w)(G:jc w B p l) :
  Calls Tryz.prog 54 #[.pointer (some ⟨p,0,none⟩),v,.int .i64 d,.int .i64 b] w fun e w'=>qj B p w (jv (yl d) b (.mk 14 c nm n f kids) l) e w':=by
 obtain⟨ao,cap,rfl,hK,X,N,y,L,q⟩:=yze r (by omega) E.hB i.size;have hB:=E.hB;have C:=lh hK;have I:=lh o;have A:=lh E;have D:=lh i;have H:=lh G;obtain⟨R,g⟩:∃ R,R=jv (yl d) b (.mk 14 c nm n f kids) l:=⟨_,rfl⟩;rw[<-g];replace g:R=jp (yl d) b 14 c n kids l:=g;unfold jp at g;clear hK o E i G r hB;rw[if_neg (show ¬ (14:Nat)=7 by decide)] at g;rw[if_neg (show ¬ (14:Nat)=8 by decide)] at g;rw[if_neg (show ¬ (14:Nat)=10 by decide)] at g;rw[if_neg (fun h=>absurd h.1 (by decide))] at g
 by_cases a:kids.length=1
 ·obtain⟨q0,rfl⟩:=vh a
  clear a;have s:=lh g;clear g;obtain⟨Z,ko,rfl⟩:=C.out.nn (by simp);obtain⟨O,P,Q,S,T,U,F,t0⟩:=C.out.k0;have K:=lh t0;have J:=lh (I.out.kid 0 (by simp) rfl);have x:=lh F;clear t0 F;simp only[List.length_cons,List.length_nil] at y;obtain⟨z0,z1,z2,z3,z4,z5⟩:=x.out.un A.out.hB D.out q
  go_enter Tryz.func54,Tryz.ntmps54
  go_wp2_with fail
  refine j3 (want:=1) (b:=b) A.out (by omega) hb M K.out J.out (D.out.alloc q _) (H.out.alloc _) (fun V l1 m k b1 z W=>?_) (fun V m k=>?_)
  ·have j:=lh ((Fr.alloc B w _).trans k);have t:=lh m;have u:=lh z
   clear m k b1 z;go_wp2;go_ret;exact .yes j.out (by rw[s.out];simp only[t.out,Option.bind_some]) u.out
  ·have j:=lh ((Fr.alloc B w _).trans k);have t:=lh m
   clear m k;go_wp2;go_ret;exact .no j.out (by rw[s.out];simp only[t.out,Option.bind_some,Option.bind_none])
 ·have Y:((kids.length:Int) == 1)=false:=by simp;omega
  have hr:R=none:=by
   rw[g]
   split
   ·simp at a
   ·rfl
  have s:=lh hr;clear g hr a
  go_enter Tryz.func54,Tryz.ntmps54
  go_wp2;go_ret
  exact .no (.alloc B w _) s.out
theorem lt11 {w0:World}{B p d:Nat}(E:LkE w0 B p d){b l:Nat}{c:UInt8}{nm:List UInt8}{n:Nat}{f:Bool}{kids:List ya}{v:Value}{w:World}(hb:b<=20)(N:l<=300)(r:yg w0 (.mk 11 c nm n f kids) v)(o:Sml (.mk 11 c nm n f kids))(i:Below B w0 w)(G:jc w B p l)(O:n<=b) :
  Calls Tryz.prog 54 #[.pointer (some ⟨p,0,none⟩),v,.int .i64 d,.int .i64 b] w fun e w'=>qj B p w (jv (yl d) b (.mk 11 c nm n f kids) l) e w':=by
 obtain⟨ao,cap,rfl,hK,Z,P,y,M,q⟩:=yze r (by omega) E.hB i.size;have hB:=E.hB;have C:=lh hK;have I:=lh o;have A:=lh E;have D:=lh i;have H:=lh G;obtain⟨R,g⟩:∃ R,R=jv (yl d) b (.mk 11 c nm n f kids) l:=⟨_,rfl⟩;rw[<-g];replace g:R=jp (yl d) b 11 c n kids l:=g;unfold jp at g;clear hK o E i G r hB;rw[if_neg (show ¬ (11:Nat)=7 by decide)] at g;rw[if_neg (show ¬ (11:Nat)=8 by decide)] at g;rw[if_neg (show ¬ (11:Nat)=10 by decide)] at g;rw[if_neg (fun h=>absurd h.2 (by omega))] at g;have L:¬ (b:Int) < (n:Int):=by omega
 by_cases a:kids.length=1
 ·obtain⟨q0,rfl⟩:=vh a
  clear a;have s:=lh g;clear g;obtain⟨kb,ko,rfl⟩:=C.out.nn (by simp);obtain⟨Q,S,T,U,V,W,F,t0⟩:=C.out.k0;have K:=lh t0;have J:=lh (I.out.kid 0 (by simp) rfl);have x:=lh F;clear t0 F;simp only[List.length_cons,List.length_nil] at y;obtain⟨z0,z1,z2,z3,z4,z5⟩:=x.out.un A.out.hB D.out q
  go_enter Tryz.func54,Tryz.ntmps54
  go_wp2_with fail
  refine j3 (want:=1) (b:=b) A.out (by omega) hb N K.out J.out (D.out.alloc q _) (H.out.alloc _) (fun X l1 m k b1 z Y=>?_) (fun X m k=>?_)
  ·have j:=lh ((Fr.alloc B w _).trans k);have t:=lh m;have u:=lh z
   clear m k b1 z;go_wp2;go_ret;exact .yes j.out (by rw[s.out];simp only[t.out,Option.bind_some]) u.out
  ·have j:=lh ((Fr.alloc B w _).trans k);have t:=lh m
   clear m k;go_wp2;go_ret;exact .no j.out (by rw[s.out];simp only[t.out,Option.bind_some,Option.bind_none])
 ·have hq:((kids.length:Int) == 1)=false:=by simp;omega
  have hr:R=none:=by
   rw[g]
   split
   ·simp at a
   ·rfl
  have s:=lh hr;clear g hr a
  go_enter Tryz.func54,Tryz.ntmps54
  go_wp2;go_ret
  exact .no (.alloc B w _) s.out
theorem lt12 {w0:World}{B p d:Nat}(E:LkE w0 B p d){b l:Nat}{c:UInt8}{nm:List UInt8}{n:Nat}{f:Bool}{kids:List ya}{v:Value}{w:World}(hb:b<=20)(N:l<=300)(r:yg w0 (.mk 12 c nm n f kids) v)(o:Sml (.mk 12 c nm n f kids))(i:Below B w0 w)(G:jc w B p l)(O:n<=b) :
  Calls Tryz.prog 54 #[.pointer (some ⟨p,0,none⟩),v,.int .i64 d,.int .i64 b] w fun e w'=>qj B p w (jv (yl d) b (.mk 12 c nm n f kids) l) e w':=by
 obtain⟨ao,cap,rfl,hK,Z,P,y,M,q⟩:=yze r (by omega) E.hB i.size;have hB:=E.hB;have C:=lh hK;have I:=lh o;have A:=lh E;have D:=lh i;have H:=lh G;obtain⟨R,g⟩:∃ R,R=jv (yl d) b (.mk 12 c nm n f kids) l:=⟨_,rfl⟩;rw[<-g];replace g:R=jp (yl d) b 12 c n kids l:=g;unfold jp at g;clear hK o E i G r hB;rw[if_neg (show ¬ (12:Nat)=7 by decide)] at g;rw[if_neg (show ¬ (12:Nat)=8 by decide)] at g;rw[if_neg (show ¬ (12:Nat)=10 by decide)] at g;rw[if_neg (fun h=>absurd h.2 (by omega))] at g;have L:¬ (b:Int) < (n:Int):=by omega
 by_cases a:kids.length=1
 ·obtain⟨q0,rfl⟩:=vh a
  clear a;have s:=lh g;clear g;obtain⟨kb,ko,rfl⟩:=C.out.nn (by simp);obtain⟨Q,S,T,U,V,W,F,t0⟩:=C.out.k0;have K:=lh t0;have J:=lh (I.out.kid 0 (by simp) rfl);have x:=lh F;clear t0 F;simp only[List.length_cons,List.length_nil] at y;obtain⟨z0,z1,z2,z3,z4,z5⟩:=x.out.un A.out.hB D.out q
  go_enter Tryz.func54,Tryz.ntmps54
  go_wp2_with fail
  refine j3 (want:=1) (b:=b) A.out (by omega) hb N K.out J.out (D.out.alloc q _) (H.out.alloc _) (fun X l1 m k b1 z Y=>?_) (fun X m k=>?_)
  ·have j:=lh ((Fr.alloc B w _).trans k);have t:=lh m;have u:=lh z
   clear m k b1 z;go_wp2;go_ret;exact .yes j.out (by rw[s.out];simp only[t.out,Option.bind_some]) u.out
  ·have j:=lh ((Fr.alloc B w _).trans k);have t:=lh m
   clear m k;go_wp2;go_ret;exact .no j.out (by rw[s.out];simp only[t.out,Option.bind_some,Option.bind_none])
 ·have hq:((kids.length:Int) == 1)=false:=by simp;omega
  have hr:R=none:=by
   rw[g]
   split
   ·simp at a
   ·rfl
  have s:=lh hr;clear g hr a
  go_enter Tryz.func54,Tryz.ntmps54
  go_wp2;go_ret
  exact .no (.alloc B w _) s.out
theorem lt11b {w0:World}{B p d:Nat}(E:LkE w0 B p d){b l:Nat}{c:UInt8}{nm:List UInt8}{n:Nat}{f:Bool}{kids:List ya}{v:Value}{w:World}(hb:b<=20)(C:l<=300)(i:yg w0 (.mk 11 c nm n f kids) v)(h:Sml (.mk 11 c nm n f kids))(a:Below B w0 w)(k:jc w B p l)(j:b < n) :
  Calls Tryz.prog 54 #[.pointer (some ⟨p,0,none⟩),v,.int .i64 d,.int .i64 b] w fun e w'=>qj B p w (jv (yl d) b (.mk 11 c nm n f kids) l) e w':=by
 obtain⟨ao,cap,rfl,hK,D,s,q,r,t⟩:=yze i (by omega) E.hB a.size;have hB:=E.hB;have y:=lh hK;have A:=lh h;have x:=lh E;have z:=lh a;have u:=lh k;obtain⟨R,g⟩:∃ R,R=jv (yl d) b (.mk 11 c nm n f kids) l:=⟨_,rfl⟩;rw[<-g];replace g:R=jp (yl d) b 11 c n kids l:=g;unfold jp at g;clear hK h E a k i hB;rw[if_neg (show ¬ (11:Nat)=7 by decide)] at g;rw[if_neg (show ¬ (11:Nat)=8 by decide)] at g;rw[if_neg (show ¬ (11:Nat)=10 by decide)] at g;have hr:R=none:=by rw[g];exact if_pos ⟨by decide,j⟩
 have o:(b:Int) < (n:Int):=by omega
 have m:=lh hr;clear g hr
 go_enter Tryz.func54,Tryz.ntmps54
 go_wp2;go_ret
 exact .no (.alloc B w _) m.out
theorem lt12b {w0:World}{B p d:Nat}(E:LkE w0 B p d){b l:Nat}{c:UInt8}{nm:List UInt8}{n:Nat}{f:Bool}{kids:List ya}{v:Value}{w:World}(hb:b<=20)(C:l<=300)(i:yg w0 (.mk 12 c nm n f kids) v)(h:Sml (.mk 12 c nm n f kids))(a:Below B w0 w)(k:jc w B p l)(j:b < n) :
  Calls Tryz.prog 54 #[.pointer (some ⟨p,0,none⟩),v,.int .i64 d,.int .i64 b] w fun e w'=>qj B p w (jv (yl d) b (.mk 12 c nm n f kids) l) e w':=by
 obtain⟨ao,cap,rfl,hK,D,s,q,r,t⟩:=yze i (by omega) E.hB a.size;have hB:=E.hB;have y:=lh hK;have A:=lh h;have x:=lh E;have z:=lh a;have u:=lh k;obtain⟨R,g⟩:∃ R,R=jv (yl d) b (.mk 12 c nm n f kids) l:=⟨_,rfl⟩;rw[<-g];replace g:R=jp (yl d) b 12 c n kids l:=g;unfold jp at g;clear hK h E a k i hB;rw[if_neg (show ¬ (12:Nat)=7 by decide)] at g;rw[if_neg (show ¬ (12:Nat)=8 by decide)] at g;rw[if_neg (show ¬ (12:Nat)=10 by decide)] at g;have hr:R=none:=by rw[g];exact if_pos ⟨by decide,j⟩
 have o:(b:Int) < (n:Int):=by omega
 have m:=lh hr;clear g hr
 go_enter Tryz.func54,Tryz.ntmps54
 go_wp2;go_ret
 exact .no (.alloc B w _) m.out
theorem lt10 {w0:World}{B p d:Nat}(E:LkE w0 B p d){b l:Nat}{c:UInt8}{nm:List UInt8}{n:Nat}{f:Bool}{kids:List ya}{v:Value}{w:World}(hb:b<=20)(H:l<=300)(m:yg w0 (.mk 10 c nm n f kids) v)(k:Sml (.mk 10 c nm n f kids))(a:Below B w0 w)(u:jc w B p l) :
  Calls Tryz.prog 54 #[.pointer (some ⟨p,0,none⟩),v,.int .i64 d,.int .i64 b] w fun e w'=>qj B p w (jv (yl d) b (.mk 10 c nm n f kids) l) e w':=by
 obtain⟨ao,cap,rfl,hK,M,I,F,G,r⟩:=yze m (by omega) E.hB a.size;have hB:=E.hB;have z:=lh hK;have C:=lh k;have y:=lh E;have A:=lh a;have x:=lh u;obtain⟨R,g⟩:∃ R,R=jv (yl d) b (.mk 10 c nm n f kids) l:=⟨_,rfl⟩;rw[<-g];replace g:R=jp (yl d) b 10 c n kids l:=g;unfold jp at g;clear hK k E a u m hB;rw[if_neg (show ¬ (10:Nat)=7 by decide)] at g;rw[if_neg (show ¬ (10:Nat)=8 by decide)] at g;rw[if_pos (show(10:Nat)=10 from rfl)] at g;have t:=lh g;clear g;have J:=C.out.kids
 go_enter Tryz.func54,Tryz.ntmps54
 go_wp2_with fail
 refine yea (want:=1) (b:=b) y.out (by omega) hb H z.out J (A.out.alloc r _) (x.out.alloc _) (fun K l2 j i D s L=>?_) (fun K j i=>?_)
 ·have h:=lh ((Fr.alloc B w _).trans i);have o:=lh j;have q:=lh s
  clear j i D s;go_wp2;go_ret;exact .yes h.out (by rw[t.out,o.out]) q.out
 ·have h:=lh ((Fr.alloc B w _).trans i);have o:=lh j
  clear j i;go_wp2;go_ret;exact .no h.out (by rw[t.out,o.out])
theorem yx7 {w0:World}{B p d:Nat}(E:LkE w0 B p d):LkF w0 B p 54 d 7 14 (jv (yl d)):=by
 intro b t l v w m hb i e j a g;obtain⟨k,c,nm,n,f,kids⟩:=t;simp only[ya.kind] at m
 rcases(by omega:k=7\/k=8\/k=9\/k=10\/k=11\/k=12\/k=13\/k=14) with rfl|rfl|rfl|rfl|rfl|rfl|rfl|rfl
 ·exact lt7 E hb i e j a g
 ·exact lt8 E hb i e j a g
 ·exact lt9 E hb i e j a g
 ·exact lt10 E hb i e j a g
 ·rcases Nat.lt_or_ge b n with h|h
  ·exact lt11b E hb i e j a g h
  ·exact lt11 E hb i e j a g h
 ·rcases Nat.lt_or_ge b n with h|h
  ·exact lt12b E hb i e j a g h
  ·exact lt12 E hb i e j a g h
 ·exact lt13 E hb i e j a g
 ·exact lt14 E hb i e j a g
theorem yco {w:World}{t:ya}{v:Value}(h:yg w t v):Calls Tryz.prog 83 #[v] w fun e w'=>Rtn w (.bool (ya8 t)) e w':=by
 cases h with
 | @mk kv k l nm n f kids ao cap V j x o p q r s u=>
 clear o p q r s u;have d:kv=10↔k=10:=by unfold KV at j;omega
 by_cases a:kv=10
 ·obtain rfl:k=10:=d.1 a
  subst a;clear j
  by_cases c:kids.length=0
  ·have i:((kids.length:Int) == 0)=true:=by rw[c];rfl
   have b:kids=[]:=List.eq_nil_of_length_eq_zero c;have g:=lh b;clear b c
   go_enter Tryz.func83,Tryz.ntmps83
   go_wp2;go_ret
   exact⟨by rw[g.out];rfl,_,yb _ _⟩
  ·have i:((kids.length:Int) == 0)=false:=by rw[beq_eq_false_iff_ne];omega
   have b:kids≠[]:=fun h=>c (by rw[h];rfl);have g:=lh b;clear b c
   go_enter Tryz.func83,Tryz.ntmps83
   go_wp2;go_ret
   refine⟨?_,_,yb _ _⟩;have:ya8 (.mk 10 l nm n f kids)=false:=by
    unfold ya8;simp[ya.kids,ya.kind,g.out]
   rw[this];rfl
 ·have b:ya8 (.mk k l nm n f kids)=false:=by
   unfold ya8;have:k≠10:=fun h=>a (d.2 h);simp[ya.kind,this]
  rw[b];have m:(kv == 10)=false:=by simp[a]
  clear b j a
  go_enter Tryz.func83,Tryz.ntmps83
  go_wp2;go_ret
  exact⟨rfl,_,yb _ _⟩
def ky (l:UInt8)(nm:List UInt8)(n:Nat)(f:Bool)(ao:Option Addr)(ln cap:Nat):Value:=.agg #[.int .i64 20,.int .u8 l.toNat,.string ⟨nm.toArray⟩,.int .u64 n,.bool f,.slice ao ln cap]
theorem num_b {w:World}{nm:List UInt8}{n:Nat}{f:Bool}{ao:Option Addr}{ln cap:Nat}(c:n < 18446744073709551616):Calls Tryz.prog 85 #[ky 98 nm n f ao ln cap] w fun e w'=>Rtn w (.bool (qv 98 n f)) e w':=by
 unfold ky
 by_cases b:n<=1
 ·have a:(n:Int)<=1:=by omega
  cases f with
  | true=>
   go_enter Tryz.func85,Tryz.ntmps85
   go_wp2;go_ret
   exact⟨by first|rfl|(simp[qv,yx, *];done)|(simp[qv,yx];omega),_,yb _ _⟩
  | false=>
   go_enter Tryz.func85,Tryz.ntmps85
   go_wp2;go_ret
   exact⟨by first|rfl|(simp[qv,yx, *];done)|(simp[qv,yx];omega),_,yb _ _⟩
 ·have a:¬ (n:Int)<=1:=by omega
  go_enter Tryz.func85,Tryz.ntmps85
  go_wp2;go_ret
  exact⟨by first|rfl|(simp[qv,yx, *];done)|(simp[qv,yx];omega),_,yb _ _⟩
theorem num_c {w:World}{nm:List UInt8}{n:Nat}{f:Bool}{ao:Option Addr}{ln cap:Nat}(c:n < 18446744073709551616):Calls Tryz.prog 85 #[ky 99 nm n f ao ln cap] w fun e w'=>Rtn w (.bool (qv 99 n f)) e w':=by
 unfold ky
 rcases(by omega:(n < 32)\/(126 < n)\/(n=39)\/(n=34)\/(n=92)\/(32<=n/\n<=126/\n≠39/\n≠34/\n≠92)) with h|h|h|h|h|h
 ·have a:¬ (32:Int)<=(n:Int):=by omega
  go_enter Tryz.func85,Tryz.ntmps85
  go_wp2;go_ret
  exact⟨by first|rfl|(simp[qv,yx, *];done)|(simp[qv,yx];omega),_,yb _ _⟩
 ·have a:(32:Int)<=(n:Int):=by omega
  have b:¬ (n:Int)<=126:=by omega
  go_enter Tryz.func85,Tryz.ntmps85
  go_wp2;go_ret
  exact⟨by first|rfl|(simp[qv,yx, *];done)|(simp[qv,yx];omega),_,yb _ _⟩
 ·subst h
  go_enter Tryz.func85,Tryz.ntmps85
  go_wp2;go_ret
  exact⟨by first|rfl|(simp[qv,yx, *];done)|(simp[qv,yx];omega),_,yb _ _⟩
 ·subst h
  go_enter Tryz.func85,Tryz.ntmps85
  go_wp2;go_ret
  exact⟨by first|rfl|(simp[qv,yx, *];done)|(simp[qv,yx];omega),_,yb _ _⟩
 ·subst h
  go_enter Tryz.func85,Tryz.ntmps85
  go_wp2;go_ret
  exact⟨by first|rfl|(simp[qv,yx, *];done)|(simp[qv,yx];omega),_,yb _ _⟩
 ·have a:(32:Int)<=(n:Int):=by omega
  have b:(n:Int)<=126:=by omega
  have d:((n:Int) != 39)=true:=by simp;omega
  have g:((n:Int) != 34)=true:=by simp;omega
  have i:((n:Int) != 92)=true:=by simp;omega
  cases f with
  | true=>
   go_enter Tryz.func85,Tryz.ntmps85
   go_wp2;go_ret
   exact⟨by first|rfl|(simp[qv,yx, *];done)|(simp[qv,yx];omega),_,yb _ _⟩
  | false=>
   go_enter Tryz.func85,Tryz.ntmps85
   go_wp2;go_ret
   exact⟨by first|rfl|(simp[qv,yx, *];done)|(simp[qv,yx];omega),_,yb _ _⟩
theorem yu5 {w:World}{c:UInt8}{nm:List UInt8}{n:Nat}{ao:Option Addr}{ln cap:Nat} (b:((c.toNat:Int) == 98)=false) (d:((c.toNat:Int) == 99)=false) (hb:yx c=(8,false)):Calls Tryz.prog 85 #[ky c nm n true ao ln cap] w fun e w'=>Rtn w (.bool (false)) e w':=by
 have a:=fun w=>zf c w;rw[hb] at a;clear hb;unfold ky
 go_enter Tryz.func85,Tryz.ntmps85
 go_wp2_with fail
 refine(a _).mono ?_;rintro e f ⟨rfl,rfl⟩;clear a;go_wp2;go_ret;refine⟨?_,_,yb _ _⟩
 show Ending.returned (Value.bool _)=Ending.returned (Value.bool _)
 rfl
theorem yu6 {w:World}{c:UInt8}{nm:List UInt8}{n:Nat}{ao:Option Addr}{ln cap:Nat} (d:((c.toNat:Int) == 98)=false) (f:((c.toNat:Int) == 99)=false) (hb:yx c=(8,false)):Calls Tryz.prog 85 #[ky c nm n false ao ln cap] w fun e w'=>Rtn w (.bool (decide (n < 256))) e w':=by
 have a:=fun w=>zf c w;rw[hb] at a;clear hb;unfold ky
 go_enter Tryz.func85,Tryz.ntmps85
 go_wp2_with fail
 refine(a _).mono ?_;rintro e g ⟨rfl,rfl⟩;clear a;go_wp2;go_ret;refine⟨?_,_,yb _ _⟩
 show Ending.returned (Value.bool _)=Ending.returned (Value.bool _)
 exact congrArg (fun b=>Ending.returned (Value.bool b)) (decide_eq_decide.2 (by omega))
theorem yr8 {w:World}{c:UInt8}{nm:List UInt8}{n:Nat}{ao:Option Addr}{ln cap:Nat} (b:((c.toNat:Int) == 98)=false) (d:((c.toNat:Int) == 99)=false) (hb:yx c=(8,true)) (f:n=0):Calls Tryz.prog 85 #[ky c nm n true ao ln cap] w fun e w'=>Rtn w (.bool (false)) e w':=by
 have a:=fun w=>zf c w;rw[hb] at a;clear hb;subst f;unfold ky
 go_enter Tryz.func85,Tryz.ntmps85
 go_wp2_with fail
 refine(a _).mono ?_;rintro e g ⟨rfl,rfl⟩;clear a;go_wp2;go_ret;refine⟨?_,_,yb _ _⟩
 show Ending.returned (Value.bool _)=Ending.returned (Value.bool _)
 rfl
theorem yu7 {w:World}{c:UInt8}{nm:List UInt8}{n:Nat}{ao:Option Addr}{ln cap:Nat} (d:((c.toNat:Int) == 98)=false) (f:((c.toNat:Int) == 99)=false) (hb:yx c=(8,true)) (h:0 < n):Calls Tryz.prog 85 #[ky c nm n true ao ln cap] w fun e w'=>Rtn w (.bool (decide (n<=128))) e w':=by
 have a:=fun w=>zf c w;rw[hb] at a;clear hb;have g:(0:Int) < (n:Int):=by omega
 unfold ky
 go_enter Tryz.func85,Tryz.ntmps85
 go_wp2_with fail
 refine(a _).mono ?_;rintro e i ⟨rfl,rfl⟩;clear a;go_wp2;go_ret;refine⟨?_,_,yb _ _⟩
 show Ending.returned (Value.bool _)=Ending.returned (Value.bool _)
 exact congrArg (fun b=>Ending.returned (Value.bool b)) (decide_eq_decide.2 (by omega))
theorem yu8 {w:World}{c:UInt8}{nm:List UInt8}{n:Nat}{ao:Option Addr}{ln cap:Nat} (d:((c.toNat:Int) == 98)=false) (f:((c.toNat:Int) == 99)=false) (hb:yx c=(8,true)):Calls Tryz.prog 85 #[ky c nm n false ao ln cap] w fun e w'=>Rtn w (.bool (decide (n < 128))) e w':=by
 have a:=fun w=>zf c w;rw[hb] at a;clear hb;unfold ky
 go_enter Tryz.func85,Tryz.ntmps85
 go_wp2_with fail
 refine(a _).mono ?_;rintro e g ⟨rfl,rfl⟩;clear a;go_wp2;go_ret;refine⟨?_,_,yb _ _⟩
 show Ending.returned (Value.bool _)=Ending.returned (Value.bool _)
 exact congrArg (fun b=>Ending.returned (Value.bool b)) (decide_eq_decide.2 (by omega))
theorem ysh {w:World}{c:UInt8}{nm:List UInt8}{n:Nat}{ao:Option Addr}{ln cap:Nat} (b:((c.toNat:Int) == 98)=false) (d:((c.toNat:Int) == 99)=false) (hb:yx c=(16,false)):Calls Tryz.prog 85 #[ky c nm n true ao ln cap] w fun e w'=>Rtn w (.bool (false)) e w':=by
 have a:=fun w=>zf c w;rw[hb] at a;clear hb;unfold ky
 go_enter Tryz.func85,Tryz.ntmps85
 go_wp2_with fail
 refine(a _).mono ?_;rintro e f ⟨rfl,rfl⟩;clear a;go_wp2;go_ret;refine⟨?_,_,yb _ _⟩
 show Ending.returned (Value.bool _)=Ending.returned (Value.bool _)
 rfl
theorem ysi {w:World}{c:UInt8}{nm:List UInt8}{n:Nat}{ao:Option Addr}{ln cap:Nat} (d:((c.toNat:Int) == 98)=false) (f:((c.toNat:Int) == 99)=false) (hb:yx c=(16,false)):Calls Tryz.prog 85 #[ky c nm n false ao ln cap] w fun e w'=>Rtn w (.bool (decide (n < 65536))) e w':=by
 have a:=fun w=>zf c w;rw[hb] at a;clear hb;unfold ky
 go_enter Tryz.func85,Tryz.ntmps85
 go_wp2_with fail
 refine(a _).mono ?_;rintro e g ⟨rfl,rfl⟩;clear a;go_wp2;go_ret;refine⟨?_,_,yb _ _⟩
 show Ending.returned (Value.bool _)=Ending.returned (Value.bool _)
 exact congrArg (fun b=>Ending.returned (Value.bool b)) (decide_eq_decide.2 (by omega))
theorem ypp {w:World}{c:UInt8}{nm:List UInt8}{n:Nat}{ao:Option Addr}{ln cap:Nat} (b:((c.toNat:Int) == 98)=false) (d:((c.toNat:Int) == 99)=false) (hb:yx c=(16,true)) (f:n=0):Calls Tryz.prog 85 #[ky c nm n true ao ln cap] w fun e w'=>Rtn w (.bool (false)) e w':=by
 have a:=fun w=>zf c w;rw[hb] at a;clear hb;subst f;unfold ky
 go_enter Tryz.func85,Tryz.ntmps85
 go_wp2_with fail
 refine(a _).mono ?_;rintro e g ⟨rfl,rfl⟩;clear a;go_wp2;go_ret;refine⟨?_,_,yb _ _⟩
 show Ending.returned (Value.bool _)=Ending.returned (Value.bool _)
 rfl
theorem ysj {w:World}{c:UInt8}{nm:List UInt8}{n:Nat}{ao:Option Addr}{ln cap:Nat} (d:((c.toNat:Int) == 98)=false) (f:((c.toNat:Int) == 99)=false) (hb:yx c=(16,true)) (h:0 < n):Calls Tryz.prog 85 #[ky c nm n true ao ln cap] w fun e w'=>Rtn w (.bool (decide (n<=32768))) e w':=by
 have a:=fun w=>zf c w;rw[hb] at a;clear hb;have g:(0:Int) < (n:Int):=by omega
 unfold ky
 go_enter Tryz.func85,Tryz.ntmps85
 go_wp2_with fail
 refine(a _).mono ?_;rintro e i ⟨rfl,rfl⟩;clear a;go_wp2;go_ret;refine⟨?_,_,yb _ _⟩
 show Ending.returned (Value.bool _)=Ending.returned (Value.bool _)
 exact congrArg (fun b=>Ending.returned (Value.bool b)) (decide_eq_decide.2 (by omega))
theorem ysk {w:World}{c:UInt8}{nm:List UInt8}{n:Nat}{ao:Option Addr}{ln cap:Nat} (d:((c.toNat:Int) == 98)=false) (f:((c.toNat:Int) == 99)=false) (hb:yx c=(16,true)):Calls Tryz.prog 85 #[ky c nm n false ao ln cap] w fun e w'=>Rtn w (.bool (decide (n < 32768))) e w':=by
 have a:=fun w=>zf c w;rw[hb] at a;clear hb;unfold ky
 go_enter Tryz.func85,Tryz.ntmps85
 go_wp2_with fail
 refine(a _).mono ?_;rintro e g ⟨rfl,rfl⟩;clear a;go_wp2;go_ret;refine⟨?_,_,yb _ _⟩
 show Ending.returned (Value.bool _)=Ending.returned (Value.bool _)
 exact congrArg (fun b=>Ending.returned (Value.bool b)) (decide_eq_decide.2 (by omega))
theorem ysd {w:World}{c:UInt8}{nm:List UInt8}{n:Nat}{ao:Option Addr}{ln cap:Nat} (b:((c.toNat:Int) == 98)=false) (d:((c.toNat:Int) == 99)=false) (hb:yx c=(32,false)):Calls Tryz.prog 85 #[ky c nm n true ao ln cap] w fun e w'=>Rtn w (.bool (false)) e w':=by
 have a:=fun w=>zf c w;rw[hb] at a;clear hb;unfold ky
 go_enter Tryz.func85,Tryz.ntmps85
 go_wp2_with fail
 refine(a _).mono ?_;rintro e f ⟨rfl,rfl⟩;clear a;go_wp2;go_ret;refine⟨?_,_,yb _ _⟩
 show Ending.returned (Value.bool _)=Ending.returned (Value.bool _)
 rfl
theorem yse {w:World}{c:UInt8}{nm:List UInt8}{n:Nat}{ao:Option Addr}{ln cap:Nat} (d:((c.toNat:Int) == 98)=false) (f:((c.toNat:Int) == 99)=false) (hb:yx c=(32,false)):Calls Tryz.prog 85 #[ky c nm n false ao ln cap] w fun e w'=>Rtn w (.bool (decide (n < 4294967296))) e w':=by
 have a:=fun w=>zf c w;rw[hb] at a;clear hb;unfold ky
 go_enter Tryz.func85,Tryz.ntmps85
 go_wp2_with fail
 refine(a _).mono ?_;rintro e g ⟨rfl,rfl⟩;clear a;go_wp2;go_ret;refine⟨?_,_,yb _ _⟩
 show Ending.returned (Value.bool _)=Ending.returned (Value.bool _)
 exact congrArg (fun b=>Ending.returned (Value.bool b)) (decide_eq_decide.2 (by omega))
theorem ypo {w:World}{c:UInt8}{nm:List UInt8}{n:Nat}{ao:Option Addr}{ln cap:Nat} (b:((c.toNat:Int) == 98)=false) (d:((c.toNat:Int) == 99)=false) (hb:yx c=(32,true)) (f:n=0):Calls Tryz.prog 85 #[ky c nm n true ao ln cap] w fun e w'=>Rtn w (.bool (false)) e w':=by
 have a:=fun w=>zf c w;rw[hb] at a;clear hb;subst f;unfold ky
 go_enter Tryz.func85,Tryz.ntmps85
 go_wp2_with fail
 refine(a _).mono ?_;rintro e g ⟨rfl,rfl⟩;clear a;go_wp2;go_ret;refine⟨?_,_,yb _ _⟩
 show Ending.returned (Value.bool _)=Ending.returned (Value.bool _)
 rfl
theorem ysf {w:World}{c:UInt8}{nm:List UInt8}{n:Nat}{ao:Option Addr}{ln cap:Nat} (d:((c.toNat:Int) == 98)=false) (f:((c.toNat:Int) == 99)=false) (hb:yx c=(32,true)) (h:0 < n):Calls Tryz.prog 85 #[ky c nm n true ao ln cap] w fun e w'=>Rtn w (.bool (decide (n<=2147483648))) e w':=by
 have a:=fun w=>zf c w;rw[hb] at a;clear hb;have g:(0:Int) < (n:Int):=by omega
 unfold ky
 go_enter Tryz.func85,Tryz.ntmps85
 go_wp2_with fail
 refine(a _).mono ?_;rintro e i ⟨rfl,rfl⟩;clear a;go_wp2;go_ret;refine⟨?_,_,yb _ _⟩
 show Ending.returned (Value.bool _)=Ending.returned (Value.bool _)
 exact congrArg (fun b=>Ending.returned (Value.bool b)) (decide_eq_decide.2 (by omega))
theorem ysg {w:World}{c:UInt8}{nm:List UInt8}{n:Nat}{ao:Option Addr}{ln cap:Nat} (d:((c.toNat:Int) == 98)=false) (f:((c.toNat:Int) == 99)=false) (hb:yx c=(32,true)):Calls Tryz.prog 85 #[ky c nm n false ao ln cap] w fun e w'=>Rtn w (.bool (decide (n < 2147483648))) e w':=by
 have a:=fun w=>zf c w;rw[hb] at a;clear hb;unfold ky
 go_enter Tryz.func85,Tryz.ntmps85
 go_wp2_with fail
 refine(a _).mono ?_;rintro e g ⟨rfl,rfl⟩;clear a;go_wp2;go_ret;refine⟨?_,_,yb _ _⟩
 show Ending.returned (Value.bool _)=Ending.returned (Value.bool _)
 exact congrArg (fun b=>Ending.returned (Value.bool b)) (decide_eq_decide.2 (by omega))
theorem yr9 {w:World}{c:UInt8}{nm:List UInt8}{n:Nat}{ao:Option Addr}{ln cap:Nat} (b:((c.toNat:Int) == 98)=false) (d:((c.toNat:Int) == 99)=false) (hb:yx c=(64,false)):Calls Tryz.prog 85 #[ky c nm n true ao ln cap] w fun e w'=>Rtn w (.bool (false)) e w':=by
 have a:=fun w=>zf c w;rw[hb] at a;clear hb;unfold ky
 go_enter Tryz.func85,Tryz.ntmps85
 go_wp2_with fail
 refine(a _).mono ?_;rintro e f ⟨rfl,rfl⟩;clear a;go_wp2;go_ret;refine⟨?_,_,yb _ _⟩
 show Ending.returned (Value.bool _)=Ending.returned (Value.bool _)
 rfl
theorem ysa {w:World}{c:UInt8}{nm:List UInt8}{n:Nat}{ao:Option Addr}{ln cap:Nat} (b:((c.toNat:Int) == 98)=false) (d:((c.toNat:Int) == 99)=false) (hb:yx c=(64,false)):Calls Tryz.prog 85 #[ky c nm n false ao ln cap] w fun e w'=>Rtn w (.bool (true)) e w':=by
 have a:=fun w=>zf c w;rw[hb] at a;clear hb;unfold ky
 go_enter Tryz.func85,Tryz.ntmps85
 go_wp2_with fail
 refine(a _).mono ?_;rintro e f ⟨rfl,rfl⟩;clear a;go_wp2;go_ret;refine⟨?_,_,yb _ _⟩
 show Ending.returned (Value.bool _)=Ending.returned (Value.bool _)
 rfl
theorem ypn {w:World}{c:UInt8}{nm:List UInt8}{n:Nat}{ao:Option Addr}{ln cap:Nat} (b:((c.toNat:Int) == 98)=false) (d:((c.toNat:Int) == 99)=false) (hb:yx c=(64,true)) (f:n=0):Calls Tryz.prog 85 #[ky c nm n true ao ln cap] w fun e w'=>Rtn w (.bool (false)) e w':=by
 have a:=fun w=>zf c w;rw[hb] at a;clear hb;subst f;unfold ky
 go_enter Tryz.func85,Tryz.ntmps85
 go_wp2_with fail
 refine(a _).mono ?_;rintro e g ⟨rfl,rfl⟩;clear a;go_wp2;go_ret;refine⟨?_,_,yb _ _⟩
 show Ending.returned (Value.bool _)=Ending.returned (Value.bool _)
 rfl
theorem ysb {w:World}{c:UInt8}{nm:List UInt8}{n:Nat}{ao:Option Addr}{ln cap:Nat} (d:((c.toNat:Int) == 98)=false) (f:((c.toNat:Int) == 99)=false) (hb:yx c=(64,true)) (h:0 < n):Calls Tryz.prog 85 #[ky c nm n true ao ln cap] w fun e w'=>Rtn w (.bool (decide (n<=9223372036854775808))) e w':=by
 have a:=fun w=>zf c w;rw[hb] at a;clear hb;have g:(0:Int) < (n:Int):=by omega
 unfold ky
 go_enter Tryz.func85,Tryz.ntmps85
 go_wp2_with fail
 refine(a _).mono ?_;rintro e i ⟨rfl,rfl⟩;clear a;go_wp2;go_ret;refine⟨?_,_,yb _ _⟩
 show Ending.returned (Value.bool _)=Ending.returned (Value.bool _)
 exact congrArg (fun b=>Ending.returned (Value.bool b)) (decide_eq_decide.2 (by omega))
theorem ysc {w:World}{c:UInt8}{nm:List UInt8}{n:Nat}{ao:Option Addr}{ln cap:Nat} (d:((c.toNat:Int) == 98)=false) (f:((c.toNat:Int) == 99)=false) (hb:yx c=(64,true)):Calls Tryz.prog 85 #[ky c nm n false ao ln cap] w fun e w'=>Rtn w (.bool (decide (n < 9223372036854775808))) e w':=by
 have a:=fun w=>zf c w;rw[hb] at a;clear hb;unfold ky
 go_enter Tryz.func85,Tryz.ntmps85
 go_wp2_with fail
 refine(a _).mono ?_;rintro e g ⟨rfl,rfl⟩;clear a;go_wp2;go_ret;refine⟨?_,_,yb _ _⟩
 show Ending.returned (Value.bool _)=Ending.returned (Value.bool _)
 exact congrArg (fun b=>Ending.returned (Value.bool b)) (decide_eq_decide.2 (by omega))
theorem yr7 {w:World}{l:UInt8}{nm:List UInt8}{n:Nat}{f:Bool}{ao:Option Addr}{ln cap:Nat}(a:l≠98)(b:l≠99)(hb:yx l=(0,false)):Calls Tryz.prog 85 #[ky l nm n f ao ln cap] w fun e w'=>Rtn w (.bool (qv l n f)) e w':=by
 have hr:qv l n f=false:=by unfold qv;rw[if_neg a,if_neg b,hb];rfl
 rw[hr];have g:((l.toNat:Int) == 98)=false:=u8f (c:=98) (by omega) a;have h:((l.toNat:Int) == 99)=false:=u8f (c:=99) (by omega) b;have d:=fun w=>zf l w;rw[hb] at d;clear hr a b hb;unfold ky
 go_enter Tryz.func85,Tryz.ntmps85
 go_wp2_with fail
 refine(d _).mono ?_;rintro e i ⟨rfl,rfl⟩;go_wp2;go_ret;exact⟨rfl,_,yb _ _⟩
theorem ytr (c:UInt8):yx c=(0,false)\/yx c=(8,false)\/yx c=(8,true)\/yx c=(16,false)\/yx c=(16,true)\/yx c=(32,false)\/yx c=(32,true)\/yx c=(64,false)\/yx c=(64,true):=by
 unfold yx
 split<;>simp
theorem yfs {w:World}{t:ya}{v:Value}(h:yg w t v)(p:t.kind=20):Calls Tryz.prog 85 #[v] w fun e w'=>Rtn w (.bool (qv t.letter t.num t.flag)) e w':=by
 cases h with
 | @mk kv k l nm n f kids ao cap V m o q r s u x y=>
 simp only[ya.kind] at p;subst p;obtain rfl:kv=20:=by rcases m with⟨m,_⟩|⟨m,_⟩;exact m;omega
 simp only[ya.letter,ya.num,ya.flag]
 by_cases i:l=98
 ·subst i;exact num_b o
 by_cases j:l=99
 ·subst j;exact num_c o
 have a:((l.toNat:Int) == 98)=false:=u8f (c:=98) (by omega) i;have b:((l.toNat:Int) == 99)=false:=u8f (c:=99) (by omega) j;have g:∀ bits sg,yx l=(bits,sg)->bits≠0->qv l n f=if sg=false then !f&&(decide (bits=64)||decide (n < 2 ^ bits)) else if f then decide (0 < n/\n<=2 ^ (bits-1)) else decide (n < 2 ^ (bits-1)):=fun bits sg hb d=>by
  unfold qv;rw[if_neg i,if_neg j,hb];dsimp only;rw[if_neg d]
 show Calls Tryz.prog 85 #[ky l nm n f ao kids.length cap] w _
 rcases ytr l with hb|hb|hb|hb|hb|hb|hb|hb|hb
 ·exact yr7 i j hb
 ·rw[g _ _ hb (by omega)]
  cases f with
  | true=>simpa using yu5 (w:=w) (nm:=nm) (n:=n) (ao:=ao) (ln:=kids.length) (cap:=cap) a b hb
  | false=>simpa using yu6 (w:=w) (nm:=nm) (n:=n) (ao:=ao) (ln:=kids.length) (cap:=cap) a b hb
 ·rw[g _ _ hb (by omega)]
  cases f with
  | true=>
   rcases Nat.eq_zero_or_pos n with d|d
   ·have:=yr8 (w:=w) (nm:=nm) (n:=n) (ao:=ao) (ln:=kids.length) (cap:=cap) a b hb d
    subst d;simpa using this
   ·have:=yu7 (w:=w) (nm:=nm) (n:=n) (ao:=ao) (ln:=kids.length) (cap:=cap) a b hb d
    simpa [d] using this
  | false=>simpa using yu8 (w:=w) (nm:=nm) (n:=n) (ao:=ao) (ln:=kids.length) (cap:=cap) a b hb
 ·rw[g _ _ hb (by omega)]
  cases f with
  | true=>simpa using ysh (w:=w) (nm:=nm) (n:=n) (ao:=ao) (ln:=kids.length) (cap:=cap) a b hb
  | false=>simpa using ysi (w:=w) (nm:=nm) (n:=n) (ao:=ao) (ln:=kids.length) (cap:=cap) a b hb
 ·rw[g _ _ hb (by omega)]
  cases f with
  | true=>
   rcases Nat.eq_zero_or_pos n with d|d
   ·have:=ypp (w:=w) (nm:=nm) (n:=n) (ao:=ao) (ln:=kids.length) (cap:=cap) a b hb d
    subst d;simpa using this
   ·have:=ysj (w:=w) (nm:=nm) (n:=n) (ao:=ao) (ln:=kids.length) (cap:=cap) a b hb d
    simpa [d] using this
  | false=>simpa using ysk (w:=w) (nm:=nm) (n:=n) (ao:=ao) (ln:=kids.length) (cap:=cap) a b hb
 ·rw[g _ _ hb (by omega)]
  cases f with
  | true=>simpa using ysd (w:=w) (nm:=nm) (n:=n) (ao:=ao) (ln:=kids.length) (cap:=cap) a b hb
  | false=>simpa using yse (w:=w) (nm:=nm) (n:=n) (ao:=ao) (ln:=kids.length) (cap:=cap) a b hb
 ·rw[g _ _ hb (by omega)]
  cases f with
  | true=>
   rcases Nat.eq_zero_or_pos n with d|d
   ·have:=ypo (w:=w) (nm:=nm) (n:=n) (ao:=ao) (ln:=kids.length) (cap:=cap) a b hb d
    subst d;simpa using this
   ·have:=ysf (w:=w) (nm:=nm) (n:=n) (ao:=ao) (ln:=kids.length) (cap:=cap) a b hb d
    simpa [d] using this
  | false=>simpa using ysg (w:=w) (nm:=nm) (n:=n) (ao:=ao) (ln:=kids.length) (cap:=cap) a b hb
 ·rw[g _ _ hb (by omega)]
  cases f with
  | true=>simpa using yr9 (w:=w) (nm:=nm) (n:=n) (ao:=ao) (ln:=kids.length) (cap:=cap) a b hb
  | false=>simpa using ysa (w:=w) (nm:=nm) (n:=n) (ao:=ao) (ln:=kids.length) (cap:=cap) a b hb
 ·rw[g _ _ hb (by omega)]
  cases f with
  | true=>
   rcases Nat.eq_zero_or_pos n with d|d
   ·have:=ypn (w:=w) (nm:=nm) (n:=n) (ao:=ao) (ln:=kids.length) (cap:=cap) a b hb d
    subst d;simpa using this
   ·have:=ysb (w:=w) (nm:=nm) (n:=n) (ao:=ao) (ln:=kids.length) (cap:=cap) a b hb d
    simpa [d] using this
  | false=>simpa using ysc (w:=w) (nm:=nm) (n:=n) (ao:=ao) (ln:=kids.length) (cap:=cap) a b hb
theorem lo15x {w0:World}{B p d:Nat}(E:LkE w0 B p d){b l:Nat}{c:UInt8}{nm:List UInt8}{n:Nat}{f:Bool}{kids:List ya}{v:Value}{w:World}(hb:b<=20)(A:l<=300)(i:yg w0 (.mk 15 c nm n f kids) v)(h:Sml (.mk 15 c nm n f kids))(a:Below B w0 w)(j:jc w B p l)(k:20 < n) :
  Calls Tryz.prog 55 #[.pointer (some ⟨p,0,none⟩),v,.int .i64 d,.int .i64 b] w fun e w'=>qj B p w (zx (yl d) b (.mk 15 c nm n f kids) l) e w':=by
 obtain⟨ao,cap,rfl,hK,C,r,o,q,s⟩:=yze i (by omega) E.hB a.size;have hB:=E.hB;have x:=lh hK;have z:=lh h;have u:=lh E;have y:=lh a;have t:=lh j;obtain⟨R,g⟩:∃ R,R=zx (yl d) b (.mk 15 c nm n f kids) l:=⟨_,rfl⟩;rw[<-g];replace g:R=zo (yl d) b 15 c nm n f kids l:=g;unfold zo at g;clear hK h E a j i hB;rw[if_pos (show(15:Nat)=15\/(15:Nat)=16 by decide)] at g;have D:(20:Int) < (n:Int):=by omega
 have hr:R=none:=by rw[g,if_pos (.inl k)]
 have m:=lh hr;clear g hr k
 go_enter Tryz.func55,Tryz.ntmps55
 go_wp2;go_ret
 exact .no (.alloc B w _) m.out
theorem lo15y {w0:World}{B p d:Nat}(E:LkE w0 B p d){b l:Nat}{c:UInt8}{nm:List UInt8}{n:Nat}{f:Bool}{kids:List ya}{v:Value}{w:World}(hb:b<=20)(A:l<=300)(i:yg w0 (.mk 15 c nm n f kids) v)(h:Sml (.mk 15 c nm n f kids))(a:Below B w0 w)(k:jc w B p l)(j:n<=20/\kids=[]) :
  Calls Tryz.prog 55 #[.pointer (some ⟨p,0,none⟩),v,.int .i64 d,.int .i64 b] w fun e w'=>qj B p w (zx (yl d) b (.mk 15 c nm n f kids) l) e w':=by
 obtain⟨ao,cap,rfl,hK,C,r,o,q,s⟩:=yze i (by omega) E.hB a.size;have hB:=E.hB;have x:=lh hK;have z:=lh h;have u:=lh E;have y:=lh a;have t:=lh k;obtain⟨R,g⟩:∃ R,R=zx (yl d) b (.mk 15 c nm n f kids) l:=⟨_,rfl⟩;rw[<-g];replace g:R=zo (yl d) b 15 c nm n f kids l:=g;unfold zo at g;clear hK h E a k i hB;rw[if_pos (show(15:Nat)=15\/(15:Nat)=16 by decide)] at g;have D:decide ((20:Int) < (n:Int))=false:=by simp;omega
 have F:((kids.length:Int) == 0)=true:=by rw[j.2];rfl
 have hr:R=none:=by rw[g,if_pos (.inr (.inl j.2))]
 have m:=lh hr;clear g hr j
 go_enter Tryz.func55,Tryz.ntmps55
 go_wp2;go_ret
 exact .no (.alloc B w _) m.out
theorem lo15z {w0:World}{B p d:Nat}(E:LkE w0 B p d){b l:Nat}{c:UInt8}{nm:List UInt8}{n:Nat}{f:Bool}{kids:List ya}{v:Value}{w:World}(hb:b<=20)(C:l<=300)(j:yg w0 (.mk 15 c nm n f kids) v)(i:Sml (.mk 15 c nm n f kids))(a:Below B w0 w)(m:jc w B p l)(k:n<=20/\kids≠[]/\20 < b+n) :
  Calls Tryz.prog 55 #[.pointer (some ⟨p,0,none⟩),v,.int .i64 d,.int .i64 b] w fun e w'=>qj B p w (zx (yl d) b (.mk 15 c nm n f kids) l) e w':=by
 obtain⟨ao,cap,rfl,hK,D,s,q,r,t⟩:=yze j (by omega) E.hB a.size;have hB:=E.hB;have y:=lh hK;have A:=lh i;have x:=lh E;have z:=lh a;have u:=lh m;obtain⟨R,g⟩:∃ R,R=zx (yl d) b (.mk 15 c nm n f kids) l:=⟨_,rfl⟩;rw[<-g];replace g:R=zo (yl d) b 15 c nm n f kids l:=g;unfold zo at g;clear hK i E a m j hB;rw[if_pos (show(15:Nat)=15\/(15:Nat)=16 by decide)] at g;have F:decide ((20:Int) < (n:Int))=false:=by simp;omega
 have G:((kids.length:Int) == 0)=false:=by rw[beq_eq_false_iff_ne];intro h;exact k.2.1 (List.eq_nil_of_length_eq_zero (by omega))
 have H:(20:Int) < (b:Int)+(n:Int):=by omega
 have I:=k.1;have hr:R=none:=by rw[g,if_pos (.inr (.inr k.2.2))]
 have o:=lh hr;clear g hr k
 go_enter Tryz.func55,Tryz.ntmps55
 go_wp2;go_ret
 exact .no (.alloc B w _) o.out
theorem lo16x {w0:World}{B p d:Nat}(E:LkE w0 B p d){b l:Nat}{c:UInt8}{nm:List UInt8}{n:Nat}{f:Bool}{kids:List ya}{v:Value}{w:World}(hb:b<=20)(A:l<=300)(i:yg w0 (.mk 16 c nm n f kids) v)(h:Sml (.mk 16 c nm n f kids))(a:Below B w0 w)(j:jc w B p l)(k:20 < n) :
  Calls Tryz.prog 55 #[.pointer (some ⟨p,0,none⟩),v,.int .i64 d,.int .i64 b] w fun e w'=>qj B p w (zx (yl d) b (.mk 16 c nm n f kids) l) e w':=by
 obtain⟨ao,cap,rfl,hK,C,r,o,q,s⟩:=yze i (by omega) E.hB a.size;have hB:=E.hB;have x:=lh hK;have z:=lh h;have u:=lh E;have y:=lh a;have t:=lh j;obtain⟨R,g⟩:∃ R,R=zx (yl d) b (.mk 16 c nm n f kids) l:=⟨_,rfl⟩;rw[<-g];replace g:R=zo (yl d) b 16 c nm n f kids l:=g;unfold zo at g;clear hK h E a j i hB;rw[if_pos (show(16:Nat)=15\/(16:Nat)=16 by decide)] at g;have D:(20:Int) < (n:Int):=by omega
 have hr:R=none:=by rw[g,if_pos (.inl k)]
 have m:=lh hr;clear g hr k
 go_enter Tryz.func55,Tryz.ntmps55
 go_wp2;go_ret
 exact .no (.alloc B w _) m.out
theorem lo16y {w0:World}{B p d:Nat}(E:LkE w0 B p d){b l:Nat}{c:UInt8}{nm:List UInt8}{n:Nat}{f:Bool}{kids:List ya}{v:Value}{w:World}(hb:b<=20)(A:l<=300)(i:yg w0 (.mk 16 c nm n f kids) v)(h:Sml (.mk 16 c nm n f kids))(a:Below B w0 w)(k:jc w B p l)(j:n<=20/\kids=[]) :
  Calls Tryz.prog 55 #[.pointer (some ⟨p,0,none⟩),v,.int .i64 d,.int .i64 b] w fun e w'=>qj B p w (zx (yl d) b (.mk 16 c nm n f kids) l) e w':=by
 obtain⟨ao,cap,rfl,hK,C,r,o,q,s⟩:=yze i (by omega) E.hB a.size;have hB:=E.hB;have x:=lh hK;have z:=lh h;have u:=lh E;have y:=lh a;have t:=lh k;obtain⟨R,g⟩:∃ R,R=zx (yl d) b (.mk 16 c nm n f kids) l:=⟨_,rfl⟩;rw[<-g];replace g:R=zo (yl d) b 16 c nm n f kids l:=g;unfold zo at g;clear hK h E a k i hB;rw[if_pos (show(16:Nat)=15\/(16:Nat)=16 by decide)] at g;have D:decide ((20:Int) < (n:Int))=false:=by simp;omega
 have F:((kids.length:Int) == 0)=true:=by rw[j.2];rfl
 have hr:R=none:=by rw[g,if_pos (.inr (.inl j.2))]
 have m:=lh hr;clear g hr j
 go_enter Tryz.func55,Tryz.ntmps55
 go_wp2;go_ret
 exact .no (.alloc B w _) m.out
theorem lo16z {w0:World}{B p d:Nat}(E:LkE w0 B p d){b l:Nat}{c:UInt8}{nm:List UInt8}{n:Nat}{f:Bool}{kids:List ya}{v:Value}{w:World}(hb:b<=20)(C:l<=300)(j:yg w0 (.mk 16 c nm n f kids) v)(i:Sml (.mk 16 c nm n f kids))(a:Below B w0 w)(m:jc w B p l)(k:n<=20/\kids≠[]/\20 < b+n) :
  Calls Tryz.prog 55 #[.pointer (some ⟨p,0,none⟩),v,.int .i64 d,.int .i64 b] w fun e w'=>qj B p w (zx (yl d) b (.mk 16 c nm n f kids) l) e w':=by
 obtain⟨ao,cap,rfl,hK,D,s,q,r,t⟩:=yze j (by omega) E.hB a.size;have hB:=E.hB;have y:=lh hK;have A:=lh i;have x:=lh E;have z:=lh a;have u:=lh m;obtain⟨R,g⟩:∃ R,R=zx (yl d) b (.mk 16 c nm n f kids) l:=⟨_,rfl⟩;rw[<-g];replace g:R=zo (yl d) b 16 c nm n f kids l:=g;unfold zo at g;clear hK i E a m j hB;rw[if_pos (show(16:Nat)=15\/(16:Nat)=16 by decide)] at g;have F:decide ((20:Int) < (n:Int))=false:=by simp;omega
 have G:((kids.length:Int) == 0)=false:=by rw[beq_eq_false_iff_ne];intro h;exact k.2.1 (List.eq_nil_of_length_eq_zero (by omega))
 have H:(20:Int) < (b:Int)+(n:Int):=by omega
 have I:=k.1;have hr:R=none:=by rw[g,if_pos (.inr (.inr k.2.2))]
 have o:=lh hr;clear g hr k
 go_enter Tryz.func55,Tryz.ntmps55
 go_wp2;go_ret
 exact .no (.alloc B w _) o.out
theorem lo15 {w0:World}{B p d:Nat}(E:LkE w0 B p d){b l:Nat}{c:UInt8}{nm:List UInt8}{n:Nat}{f:Bool}{kids:List ya}{v:Value}{w:World}(hb:b<=20)(hl:l<=300)(ac:yg w0 (.mk 15 c nm n f kids) v)(ab:Sml (.mk 15 c nm n f kids))(o:Below B w0 w)(hA:jc w B p l)(aa:kids≠[])(bc:n<=20)(r:b+n<=20) :
  Calls Tryz.prog 55 #[.pointer (some ⟨p,0,none⟩),v,.int .i64 d,.int .i64 b] w fun e w'=>qj B p w (zx (yl d) b (.mk 15 c nm n f kids) l) e w':=by
 obtain⟨ao,cap,rfl,hK,hn,bp,ay,bn,s⟩:=yze ac (by omega) E.hB o.size;have hB:=E.hB;have HK:=lh hK;have HS:=lh ab;have M:=lh E;have Q:=lh o;have HA:=lh hA;obtain⟨R,k⟩:∃ R,R=zx (yl d) b (.mk 15 c nm n f kids) l:=⟨_,rfl⟩;rw[<-k];replace k:R=zo (yl d) b 15 c nm n f kids l:=k;unfold zo at k;clear hK ab E o hA ac hB;rw[if_pos (show(15:Nat)=15\/(15:Nat)=16 by decide),if_neg (fun h=>by rcases h with h|h|h;omega;exact aa h;omega)] at k
 obtain⟨a,q,rfl⟩:∃ a q,kids=a++[q]:=⟨_,_,ybs aa⟩;have Z:(a++[q]).getLastD .zero=q:=by rw[List.getLastD_eq_getLast?,List.getLast?_append];rfl
 have Y:(a++[q]).dropLast=a:=List.dropLast_concat;rw[Z,Y] at k;have H:(a++[q]).length=a.length+1:=by simp
 obtain⟨kb,G,rfl⟩:=HK.out.nn (by simp);obtain⟨u0,u1,u2,u3,u4,u5,e0,e1,e2,e3,e4,e5,tr⟩:=vj HK.out;have KK:yed w0 kb (G+a.length*6) (G+a.length*6+1) (G+a.length*6+2) (G+a.length*6+3) (G+a.length*6+4) (G+a.length*6+5) u0 u1 u2 u3 u4 u5:=⟨e0,e1,e2,e3,e4,e5⟩;obtain⟨kv,qc,z,qn,qf,u,y,j,rfl,rfl,rfl,rfl,rfl,rfl⟩:=tr.shape;have W:Sml q:=HS.out.kid a.length (by simp) (by simp);have V:∀ i,i < a.length->Sml (a.getD i .zero):=fun i hi=>HS.out.kid i (by simp;omega) (by rw[lgd,lgd,List.getElem?_append_left hi]);have D:=lh tr;have aw:=lh W;have av:=lh V;have ap:=lh (vk HK.out);obtain⟨z0,z1,z2,z3,z4,z5⟩:=KK.un M.out.hB Q.out s;rw[H] at ay;have q1:decide ((20:Int) < (n:Int))=false:=by simp;omega
 have q2:((a.length:Int)+1 == 0)=false:=by rw[beq_eq_false_iff_ne];omega
 have q3:¬ (20:Int) < (b:Int)+(n:Int):=by omega
 have P:Hid ((b:Int)+(n:Int)=((b+n:Nat):Int)):=lh (by omega);rw[H];clear e0 e1 e2 e3 e4 e5 KK tr W V Z Y;rw[if_pos (show(15:Nat)=15 from rfl)] at k
 cases K:ya8 q with
 | true=>
  have hr:R=none:=by rw[k,if_neg (fun h=>by rw[K] at h;cases h.1)]
  have J:=lh hr;clear k hr;have F:=fun w h=>yco (w:=w) (t:=q) (v:=.agg #[.int .i64 kv,.int .u8 qc.toNat,.string ⟨z.toArray⟩,.int .u64 qn,.bool qf,.slice u y j]) h;rw[K] at F;clear K
  go_enter Tryz.func55,Tryz.ntmps55
  go_wp2_with fail
  refine(F _ (D.out.at M.out.hB ((Q.out.alloc s _).alloc (by simp;omega) _))).mono ?_;rintro e w1 ⟨rfl,x,rfl⟩;clear F;go_wp2;go_ret;exact .no (((Fr.alloc B w _).trans (.alloc B _ _)).trans (.of_below (qp _ x))) J.out
 | false=>
  have F:=fun w h=>yco (w:=w) (t:=q) (v:=.agg #[.int .i64 kv,.int .u8 qc.toNat,.string ⟨z.toArray⟩,.int .u64 qn,.bool qf,.slice u y j]) h;rw[K] at F;have N:=fun w=>yim nm HS.out.nm w
  cases m:ybe nm with
  | false=>
   have hr:R=none:=by rw[k,if_neg (fun h=>by rw[m] at h;cases h.2)]
   have J:=lh hr;clear k hr;rw[m] at N;clear K m
   go_enter Tryz.func55,Tryz.ntmps55
   go_wp2_with fail
   refine(F _ (D.out.at M.out.hB ((Q.out.alloc s _).alloc (by simp;omega) _))).mono ?_;rintro e w1 ⟨rfl,x,rfl⟩;have g:=Fr.of_below (B:=B) (qp ((w.alloc (.cells #[.int .i64 15,.int .u8 c.toNat,.string ⟨nm.toArray⟩,.int .u64 n,.bool f,.slice (some ⟨kb,G,none⟩) (a.length+1) cap] 28)).alloc (.cells #[.int .i64 kv,.int .u8 qc.toNat,.string ⟨z.toArray⟩,.int .u64 qn,.bool qf,.slice u y j] 28)) x);obtain⟨x0,x1,x2,x3,x4,x5⟩:=yn (g.cell ((Fr.alloc B _ _).cell (ym w _)));have A:=lh (((Fr.alloc B w _).trans (.alloc B _ _)).trans g);clear F g;generalize ovr _ x=w1 at *
   go_wp2_with fail
   refine(N _).mono ?_;rintro e w' ⟨rfl,rfl⟩;clear N;go_wp2;go_ret;exact .no A.out J.out
  | true=>
   have hr:R=(ybq (yl d) 1 (b+n) a l).bind fun l=>yl d 1 (b+n) q l:=by rw[k];exact if_pos ⟨K,m⟩
   have J:=lh hr;clear k hr;rw[m] at N;clear K m
   go_enter Tryz.func55,Tryz.ntmps55
   go_wp2_with fail
   refine(F _ (D.out.at M.out.hB ((Q.out.alloc s _).alloc (by simp;omega) _))).mono ?_;rintro e w1 ⟨rfl,x,rfl⟩;have g:=Fr.of_below (B:=B) (qp ((w.alloc (.cells #[.int .i64 15,.int .u8 c.toNat,.string ⟨nm.toArray⟩,.int .u64 n,.bool f,.slice (some ⟨kb,G,none⟩) (a.length+1) cap] 28)).alloc (.cells #[.int .i64 kv,.int .u8 qc.toNat,.string ⟨z.toArray⟩,.int .u64 qn,.bool qf,.slice u y j] 28)) x);have U:=((HA.out.alloc (.cells #[.int .i64 15,.int .u8 c.toNat,.string ⟨nm.toArray⟩,.int .u64 n,.bool f,.slice (some ⟨kb,G,none⟩) (a.length+1) cap] 28)).alloc (.cells #[.int .i64 kv,.int .u8 qc.toNat,.string ⟨z.toArray⟩,.int .u64 qn,.bool qf,.slice u y j] 28)).below (qp _ x);have X:Below B w0 _:=(Q.out.alloc s _).alloc (by simp;omega) _ |>.trans (g.below (by simp;omega))
   have t1:=g.cell ((Fr.alloc B _ _).cell (ym w _));have t2:=g.cell (ym _ _);obtain⟨x0,x1,x2,x3,x4,x5⟩:=yn t1;have bk:=lh t1;have ax:=lh t2;have ak:=lh U;have aq:=lh X;have A:=lh (((Fr.alloc B w _).trans (.alloc B _ _)).trans g);clear F g t1 t2 U X;generalize ovr _ x=w1 at *
   go_wp2_with fail
   refine(N _).mono ?_;rintro e w' ⟨rfl,rfl⟩;clear N
   go_wp2_with fail
   rw[P.out];refine yea (want:=1) (b:=b+n) (kids:=a) M.out (by omega) r hl ap.out av.out aq.out ak.out (fun w2 l2 S L b2 A2 g2=>?_) (fun w2 S L=>?_)
   ·have C:=lh (A.out.trans L);have H2:=lh S;have al:=lh A2;have ar:=lh b2
    have t2:=L.cell ax.out;simp only[World.size_alloc] at t2;obtain⟨y0,y1,y2,y3,y4,y5⟩:=yn t2;clear S L A2 b2 t2 x0 x1 x2 x3 x4 x5
    go_wp2_with fail
    rw[P.out];refine j3 (want:=1) (b:=b+n) M.out (by omega) r g2 D.out aw.out ar.out al.out (fun w3 l3 T O b3 A3 g3=>?_) (fun w3 T O=>?_)
    ·have I:=lh (C.out.trans O);have H3:=lh T;have am:=lh A3
     clear T O A3 b3;go_wp2;go_ret;exact .yes I.out (by rw[J.out];simp only[H2.out,H3.out,Option.bind_some]) am.out
    ·have I:=lh (C.out.trans O);have H3:=lh T
     clear T O;go_wp2;go_ret;exact .no I.out (by rw[J.out];simp only[H2.out,H3.out,Option.bind_some])
   ·have C:=lh (A.out.trans L);have H2:=lh S
    clear S L;go_wp2;go_ret;exact .no C.out (by rw[J.out];simp only[H2.out,Option.bind_none])
end Go.Proofs.YtfckcdbpiepchaaGreatDoor
