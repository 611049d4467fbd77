import Derived.Test.YtfckcdbpiepchaaGreatDoorNs27
namespace Go.Proofs.YtfckcdbpiepchaaGreatDoor
open Go.RowKit
set_option maxRecDepth 100000
set_option maxHeartbeats 8000000
set_option linter.all false
theorem ya2 {n:Nat}(h:n < 18446744073709551616):(jf n).length<=14:=by
 unfold jf
 split
 ·simp
 ·have:=gh (n:=n-1) (by omega);simp;omega
theorem wp1 {w0 w:World}{B p d:Nat}{h:Value}{pl:Bool}{how:List Int}(E:WE w0 B p h pl how)(C:PcC w0 B p h pl how d){c:UInt8}{nm:List UInt8}{n:Nat}{f:Bool}{kids:List ya}{v:Value}{st:WS}(i:yg w0 (.mk 1 c nm n f kids) v)(a:Below B w0 w)(G:WAt w B p h pl st)
  (s:j4 (yc (fun j t w=>wGo pl how (d-j) t w) (.mk 1 c nm n f kids) st)) (hb:st.bound+20*(d+1)<=1000) (F:zh nm=true) :
  Calls Tryz.prog 86 #[.pointer (some ⟨p,0,none⟩),v] w fun e w'=>kx B p h pl w (yc (fun j t w=>wGo pl how (d-j) t w) (.mk 1 c nm n f kids) st) e w':=by
 obtain⟨ao,cap,rfl,hK,H,U,R,S,u⟩:=yze i (by omega) E.hB a.size;have hB:=E.hB;have g:st.bound+20*d<=1000:=by omega
 have b:yc (fun j t w=>wGo pl how (d-j) t w) (.mk 1 c nm n f kids) st=(st.put (67::jf n)).nm nm:=rfl;rw[b] at s |-;have K:=lh E;have V:=lh C;have W:=lh hK;have M:=lh a;have P:=lh G;have z:=lh s;have I:=lh g;have J:=lh hb;clear E C hK i a G s b hb g;have T:=ya2 H;have L:=lh (z.out.of (yka (st.put (67::jf n)) nm));have N:=lh F;clear F
 go_enter Tryz.func86,Tryz.ntmps86
 go_wp2_with fail
 refine(yfh n H _).mono ?_;rintro e w' ⟨rfl,rfl⟩
 go_wp2_with fail
 refine y9 (67::jf n) hB (M.out.alloc u _) (P.out.alloc _) L.out (by simp;omega) (fun X A k b1=>?_);have l:=lh ((Fr.alloc B w _).trans k);have q:=lh A;have o:=lh b1;have x:=k.cell (ym w _);have O:=lh x;obtain⟨Z,x1,x2,x3,x4,x5⟩:=yn x;clear x k A b1
 go_wp2_with fail
 refine yl7 K.out o.out q.out (.inr N.out) z.out (fun Y D y Q=>?_);have m:=lh (l.out.trans y);have r:=lh D;clear y D Q;go_wp2;go_end0;exact⟨rfl,r.out,m.out⟩
theorem wp2 {w0 w:World}{B p d:Nat}{h:Value}{pl:Bool}{how:List Int}(E:WE w0 B p h pl how)(C:PcC w0 B p h pl how d){c:UInt8}{nm:List UInt8}{n:Nat}{f:Bool}{kids:List ya}{v:Value}{st:WS}(l:yg w0 (.mk 2 c nm n f kids) v)(a:Below B w0 w)(J:WAt w B p h pl st)
  (z:j4 (yc (fun j t w=>wGo pl how (d-j) t w) (.mk 2 c nm n f kids) st)) (hb:st.bound+20*(d+1)<=1000) (hO:∀ i,i < kids.length->okP d (kids.getD i .zero)) :
  Calls Tryz.prog 86 #[.pointer (some ⟨p,0,none⟩),v] w fun e w'=>kx B p h pl w (yc (fun j t w=>wGo pl how (d-j) t w) (.mk 2 c nm n f kids) st) e w':=by
 obtain⟨ao,cap,rfl,hK,K,X,U,V,A⟩:=yze l (by omega) E.hB a.size;have hB:=E.hB;have g:st.bound+20*d<=1000:=by omega
 have b:yc (fun j t w=>wGo pl how (d-j) t w) (.mk 2 c nm n f kids) st=(kids.foldl (fun w t=>wGo pl how d t w) (st.put (77::jf n))):=rfl;rw[b] at z |-;have Y:=lh E;have M:=lh C;have O:=lh hK;have P:=lh a;have S:=lh J;have G:=lh z;have q:=lh g;have L:=lh hb;clear E C hK l a J z b hb g;have W:=ya2 K;have k:(st.put (77::jf n)).bound+20*d<=1000:=by rw[yv];exact q.out
 have N:=lh (G.out.of (z6 (fun w t=>qx pl how d t w) kids (st.put (77::jf n))));have Q:=lh hO;have o:=lh k;clear hO k
 go_enter Tryz.func86,Tryz.ntmps86
 go_wp2_with fail
 refine(yfh n K _).mono ?_;rintro e w' ⟨rfl,rfl⟩
 go_wp2_with fail
 refine y9 (77::jf n) hB (P.out.alloc A _) (S.out.alloc _) N.out (by simp;omega) (fun Z H m b1=>?_);have r:=lh ((Fr.alloc B w _).trans m);have x:=lh H;have u:=lh b1;have D:=m.cell (ym w _);have R:=lh D;obtain⟨x0,x1,x2,x3,x4,x5⟩:=yn D;clear D m H b1
 go_wp2_with fail
 refine zy M.out hB O.out Q.out u.out x.out G.out o.out (fun w2 I F T=>?_);have s:=lh (r.out.trans F);have y:=lh I;clear F I T;go_wp2;go_end0;exact⟨rfl,y.out,s.out⟩
theorem wp3 {w0 w:World}{B p d:Nat}{h:Value}{pl:Bool}{how:List Int}(E:WE w0 B p h pl how)(C:PcC w0 B p h pl how d){c:UInt8}{nm:List UInt8}{n:Nat}{f:Bool}{kids:List ya}{v:Value}{st:WS}(l:yg w0 (.mk 3 c nm n f kids) v)(a:Below B w0 w)(J:WAt w B p h pl st)
  (z:j4 (yc (fun j t w=>wGo pl how (d-j) t w) (.mk 3 c nm n f kids) st)) (hb:st.bound+20*(d+1)<=1000) (hO:∀ i,i < kids.length->okP d (kids.getD i .zero)) :
  Calls Tryz.prog 86 #[.pointer (some ⟨p,0,none⟩),v] w fun e w'=>kx B p h pl w (yc (fun j t w=>wGo pl how (d-j) t w) (.mk 3 c nm n f kids) st) e w':=by
 obtain⟨ao,cap,rfl,hK,K,X,U,V,A⟩:=yze l (by omega) E.hB a.size;have hB:=E.hB;have g:st.bound+20*d<=1000:=by omega
 have b:yc (fun j t w=>wGo pl how (d-j) t w) (.mk 3 c nm n f kids) st=(kids.foldl (fun w t=>wGo pl how d t w) (st.put (88::jf n))):=rfl;rw[b] at z |-;have Y:=lh E;have M:=lh C;have O:=lh hK;have P:=lh a;have S:=lh J;have G:=lh z;have q:=lh g;have L:=lh hb;clear E C hK l a J z b hb g;have W:=ya2 K;have k:(st.put (88::jf n)).bound+20*d<=1000:=by rw[yv];exact q.out
 have N:=lh (G.out.of (z6 (fun w t=>qx pl how d t w) kids (st.put (88::jf n))));have Q:=lh hO;have o:=lh k;clear hO k
 go_enter Tryz.func86,Tryz.ntmps86
 go_wp2_with fail
 refine(yfh n K _).mono ?_;rintro e w' ⟨rfl,rfl⟩
 go_wp2_with fail
 refine y9 (88::jf n) hB (P.out.alloc A _) (S.out.alloc _) N.out (by simp;omega) (fun Z H m b1=>?_);have r:=lh ((Fr.alloc B w _).trans m);have x:=lh H;have u:=lh b1;have D:=m.cell (ym w _);have R:=lh D;obtain⟨x0,x1,x2,x3,x4,x5⟩:=yn D;clear D m H b1
 go_wp2_with fail
 refine zy M.out hB O.out Q.out u.out x.out G.out o.out (fun w2 I F T=>?_);have s:=lh (r.out.trans F);have y:=lh I;clear F I T;go_wp2;go_end0;exact⟨rfl,y.out,s.out⟩
theorem wp4 {w0 w:World}{B p d:Nat}{h:Value}{pl:Bool}{how:List Int}(E:WE w0 B p h pl how)(C:PcC w0 B p h pl how d){c:UInt8}{nm:List UInt8}{n:Nat}{f:Bool}{kids:List ya}{v:Value}{st:WS}(l:yg w0 (.mk 4 c nm n f kids) v)(a:Below B w0 w)(J:WAt w B p h pl st)
  (z:j4 (yc (fun j t w=>wGo pl how (d-j) t w) (.mk 4 c nm n f kids) st)) (hb:st.bound+20*(d+1)<=1000) (hO:∀ i,i < kids.length->okP d (kids.getD i .zero)) :
  Calls Tryz.prog 86 #[.pointer (some ⟨p,0,none⟩),v] w fun e w'=>kx B p h pl w (yc (fun j t w=>wGo pl how (d-j) t w) (.mk 4 c nm n f kids) st) e w':=by
 obtain⟨ao,cap,rfl,hK,X,V,T,U,A⟩:=yze l (by omega) E.hB a.size;have hB:=E.hB;have g:st.bound+20*d<=1000:=by omega
 have b:yc (fun j t w=>wGo pl how (d-j) t w) (.mk 4 c nm n f kids) st=(kids.foldl (fun w t=>wGo pl how d t w) (st.put [89])):=rfl;rw[b] at z |-;have W:=lh E;have L:=lh C;have N:=lh hK;have O:=lh a;have R:=lh J;have G:=lh z;have q:=lh g;have K:=lh hb;clear E C hK l a J z b hb g;have k:(st.put [89]).bound+20*d<=1000:=by rw[yv];exact q.out
 have M:=lh (G.out.of (z6 (fun w t=>qx pl how d t w) kids (st.put [89])));have P:=lh hO;have o:=lh k;clear hO k
 go_enter Tryz.func86,Tryz.ntmps86
 go_wp2_with fail
 refine y9 [89] hB (O.out.alloc A _) (R.out.alloc _) M.out (by simp) (fun Y H m b1=>?_);have r:=lh ((Fr.alloc B w _).trans m);have x:=lh H;have u:=lh b1;have D:=m.cell (ym w _);have Q:=lh D;obtain⟨x0,x1,x2,x3,x4,x5⟩:=yn D;clear D m H b1
 go_wp2_with fail
 refine zy L.out hB N.out P.out u.out x.out G.out o.out (fun Z I F S=>?_);have s:=lh (r.out.trans F);have y:=lh I;clear F I S;go_wp2;go_end0;exact⟨rfl,y.out,s.out⟩
theorem wp5 {w0 w:World}{B p d:Nat}{h:Value}{pl:Bool}{how:List Int}(E:WE w0 B p h pl how)(C:PcC w0 B p h pl how d){c:UInt8}{nm:List UInt8}{n:Nat}{f:Bool}{q:ya}{v:Value}{st:WS}(s:yg w0 (.mk 5 c nm n f [q]) v)(a:Below B w0 w)(hW:WAt w B p h pl st)
  (hF:j4 (yc (fun j t w=>wGo pl how (d-j) t w) (.mk 5 c nm n f [q]) st)) (hb:st.bound+20*(d+1)<=1000) (hO:okP d q) (hN:NmW nm) :
  Calls Tryz.prog 86 #[.pointer (some ⟨p,0,none⟩),v] w fun e w'=>kx B p h pl w (yc (fun j t w=>wGo pl how (d-j) t w) (.mk 5 c nm n f [q]) st) e w':=by
 obtain⟨ao,cap,rfl,hK,hn,a7,ad,a5,ae⟩:=yze s (by omega) E.hB a.size;have hB:=E.hB;have m:st.bound+20*d<=1000:=by omega
 have g:yc (fun j t w=>wGo pl how (d-j) t w) (.mk 5 c nm n f [q]) st=((wGo pl how d q (st.put [78,c])).put (jf n)).nm nm:=rfl;rw[g] at hF |-;have HE:=lh E;have HC:=lh C;have HK:=lh hK;have HL:=lh a;have HW:=lh hW;have HF:=lh hF;have L:=lh m;have aw:=lh hb;clear E C hK s a hW hF g hb m;have a6:=ya2 hn;obtain⟨u,x,rfl⟩:=HK.out.nn (by simp);obtain⟨v0,v1,v2,v3,v4,v5,K0,t0⟩:=HK.out.k0;have k:=lh (HF.out.of (yka ((wGo pl how d q (st.put [78,c])).put (jf n)) nm));have i:=lh (k.out.of (yw (wGo pl how d q (st.put [78,c])) (jf n)));have Q:=lh (i.out.of (qx pl how d q (st.put [78,c])));have o:(st.put [78,c]).bound+20*d<=1000:=by rw[yv];exact L.out
 have HO:=lh hO;have HN:=lh hN;have V:=lh t0;have R:=lh K0;have K:=lh o;have kc:(convert 22 9 (.slice (some ⟨(w.alloc (.cells #[.int .i64 5,.int .u8 c.toNat,.string ⟨nm.toArray⟩,.int .u64 n,.bool f,.slice (some ⟨u,x,none⟩) 1 cap] 28)).heap.size,0,none⟩) 1 1)).run Tryz.prog ((w.alloc (.cells #[.int .i64 5,.int .u8 c.toNat,.string ⟨nm.toArray⟩,.int .u64 n,.bool f,.slice (some ⟨u,x,none⟩) 1 cap] 28)).alloc (.cells #[.int .u8 (c.toNat:Int)] 5))=.ok (.string ⟨#[c]⟩) ((w.alloc (.cells #[.int .i64 5,.int .u8 c.toNat,.string ⟨nm.toArray⟩,.int .u64 n,.bool f,.slice (some ⟨u,x,none⟩) 1 cap] 28)).alloc (.cells #[.int .u8 (c.toNat:Int)] 5)):=by
  have:=yho (w.alloc (.cells #[.int .i64 5,.int .u8 c.toNat,.string ⟨nm.toArray⟩,.int .u64 n,.bool f,.slice (some ⟨u,x,none⟩) 1 cap] 28)) (c.toNat:Int) (by omega) (by have:=c.toNat_lt;omega)
  simpa using this
 simp only[World.size_alloc] at kc;simp only[List.length_cons,List.length_nil] at ad;have r:Below B w0 ((w.alloc (.cells #[.int .i64 5,.int .u8 c.toNat,.string ⟨nm.toArray⟩,.int .u64 n,.bool f,.slice (some ⟨u,x,none⟩) 1 cap] 28)).alloc (.cells #[.int .u8 (c.toNat:Int)] 5)):=(HL.out.alloc ae _).alloc (by simp;omega) _;have U:=lh r;clear hO hN t0 K0 o r
 go_enter Tryz.func86,Tryz.ntmps86
 go_wp2_with fail
 refine y9 [78,c] hB U.out ((HW.out.alloc _).alloc _) Q.out (by simp) (fun w1 W1 H b1=>?_);have M:=lh (((Fr.alloc B w _).trans (.alloc B _ _)).trans H);have Y:=lh W1;have l:=lh b1;have b:=H.cell ((Fr.alloc B _ _).cell (ym w _));have W:=lh b;obtain⟨y,z,A,D,F,G⟩:=yn b;clear b H W1 b1;obtain⟨y0,y1,y2,y3,y4,y5⟩:=R.out.at hB l.out;clear kc
 go_wp2_with fail
 refine xr HC.out hB HO.out V.out l.out Y.out i.out K.out (fun w2 W2 I b2=>?_);clear y z A D F G y0 y1 y2 y3 y4 y5;have N:=lh (M.out.trans I);have Z:=lh W2;have S:=lh b2;have b:=I.cell W.out;have X:=lh b;obtain⟨y,z,A,D,F,G⟩:=yn b;clear b I W2 b2
 go_wp2_with fail
 refine(yfh n hn _).mono ?_;rintro e w' ⟨rfl,rfl⟩
 go_wp2_with fail
 refine y9 (jf n) hB S.out Z.out k.out (by omega) (fun w3 W3 J b3=>?_);clear y z A D F G;have O:=lh (N.out.trans J);have aa:=lh W3;have T:=lh b3;have b:=J.cell X.out;have a2:=lh b;obtain⟨y,z,A,D,F,G⟩:=yn b;clear b J W3 b3
 go_wp2_with fail
 refine yl7 HE.out T.out aa.out HN.out HF.out (fun w4 W4 F4 b4=>?_);have P:=lh (O.out.trans F4);have ab:=lh W4;clear F4 W4 b4;go_wp2;go_end0;exact⟨rfl,ab.out,P.out⟩
theorem wp6 {w0 w:World}{B p d:Nat}{h:Value}{pl:Bool}{how:List Int}(E:WE w0 B p h pl how)(C:PcC w0 B p h pl how d){c:UInt8}{nm:List UInt8}{n:Nat}{f:Bool}{q:ya}{a:List ya}{v:Value}{st:WS} (ac:yg w0 (.mk 6 c nm n f (q::a)) v) (m:Below B w0 w) (hW:WAt w B p h pl st)
  (hF:j4 (yc (fun j t w=>wGo pl how (d-j) t w) (.mk 6 c nm n f (q::a)) st)) (hb:st.bound+20*(d+1)<=1000) (ha:a≠[]) (hO:okP d q) (hA:∀ i,i < a.length->okA d (a.getD i .zero)) :
  Calls Tryz.prog 86 #[.pointer (some ⟨p,0,none⟩),v] w fun e w'=>kx B p h pl w (yc (fun j t w=>wGo pl how (d-j) t w) (.mk 6 c nm n f (q::a)) st) e w':=by
 obtain⟨ao,cap,rfl,hK,hn,b5,a1,b4,a3⟩:=yze ac (by omega) E.hB m.size;have hB:=E.hB;have W:st.bound+20*d<=1000:=by omega
 have b:yc (fun j t w=>wGo pl how (d-j) t w) (.mk 6 c nm n f (q::a)) st=(a.foldl (fun w t=>vb (wGo pl how d) t w) (wGo pl how d q (st.put [73]))).put [69]:=rfl;rw[b] at hF |-;have HE:=lh E;have HC:=lh C;have HK:=lh hK;have HL:=lh m;have HW:=lh hW;have HF:=lh hF;have ah:=lh W;have bm:=lh hb;clear E C hK ac m hW hF b hb W;have o:=lh (HF.out.of (yw (a.foldl (fun w t=>vb (wGo pl how d) t w) (wGo pl how d q (st.put [73]))) [69]));have H:=lh (o.out.of (z6 (fun w t=>yfa (fun t w=>qx pl how d t w) t w) a (wGo pl how d q (st.put [73]))));have ak:=lh (H.out.of (qx pl how d q (st.put [73])));have L:(st.put [73]).bound+20*d<=1000:=by rw[yv];exact ah.out
 have X:(wGo pl how d q (st.put [73])).bound+20*d<=1000:=by rw[yae];exact L
 obtain⟨kb,ko,rfl⟩:=HK.out.nn (by simp);obtain⟨v0,v1,v2,v3,v4,v5,K0,t0⟩:=HK.out.k0;have av:=lh t0;have am:=lh K0;have an:=lh (xz HK.out);have HO:=lh hO;have ag:=lh L;have Q:=lh X;have af:=lh hA;have ai:=lh (yo3 HC.out hB);have b0:1<=a.length:=List.length_pos_iff.2 ha;rw[show(q::a).length=a.length+1 by simp] at a1 |-;obtain⟨g,hg⟩:∃ g:WS->ya->WS,g=(fun w t=>vb (wGo pl how d) t w):=⟨_,rfl⟩;obtain⟨z,N⟩:∃ z:WS,z=(wGo pl how d q (st.put [73])):=⟨_,rfl⟩;have r:=lh hg;have U:=lh N;rw[<-hg] at HF o |-;rw[<-N] at HF H o Q |-;clear hO hA t0 K0 L X hg N ha
 go_enter Tryz.func86,Tryz.ntmps86
 go_wp2_with fail
 refine y9 [73] hB (HL.out.alloc a3 _) (HW.out.alloc _) ak.out (by simp) (fun w1 V P b1=>?_);have D:=lh ((Fr.alloc B w _).trans P);have ax:=lh V;have T:=lh b1;have O:=P.cell (ym w _);have aw:=lh O;obtain⟨x0,x1,x2,x3,x4,x5⟩:=yn O;clear O P V b1;obtain⟨y0,y1,y2,y3,y4,y5⟩:=am.out.at hB T.out
 go_wp2_with fail
 refine xr HC.out hB HO.out av.out T.out ax.out (by rw[<-U.out];exact H.out) ag.out (fun w2 W2 F2 b2=>?_);clear x0 x1 x2 x3 x4 x5 y0 y1 y2 y3 y4 y5;rw[<-U.out] at W2;have aj:=lh (D.out.trans F2);have ay:=lh W2;have ap:=lh b2;have O:=F2.cell aw.out;have bq:=lh O;obtain⟨x0,x1,x2,x3,x4,x5⟩:=yn O;clear O F2 W2 b2;go_wp2
 go_loopw [20] (fun i wr=>∃ (k:Nat) (s:WS),k<=a.length/\i=.int .i64 k/\Below B w0 wr/\Fr B w wr/\WAt wr B p h pl s/\Hid (s=(a.take k).foldl g z)) (fun i _=>a.length-(intOf i).toNat)
 case atStart=>exact⟨0,z,by omega,rfl,ap.out,aj.out,ay.out,lh rfl⟩
 case round=>
  clear x0 x1 x2 x3 x4 x5;obtain⟨k,s,hk,rfl,l,x,u,HS⟩:=hrel
  by_cases y:k < a.length
  ·obtain⟨v0,v1,v2,v3,v4,v5,KK,tr⟩:=an.out.elB k y
   obtain⟨e0,e1,e2,e3,e4,e5⟩:=KK.at hB l;obtain⟨kv,qc,b9,qn,b8,b6,b7,bk,rfl,rfl,rfl,rfl,rfl,rfl⟩:=tr.shape;have M:(a.take (k+1)).foldl g z=g s (a.getD k .zero):=by
    rw[HS.out,lts y,List.foldl_append,lgd,lge y];rfl
   have b:a.foldl g z=(a.drop (k+1)).foldl g (g s (a.getD k .zero)):=by
    rw[<-M,<-List.foldl_append,List.take_append_drop]
   have aa:InX (g s (a.getD k .zero)) (a.foldl g z):=by
    rw[b];exact z6 (fun w t=>by rw[r.out];exact yfa (fun t w=>qx pl how d t w) t w) _ _
   have Z:=o.out.of aa;have Y:s.bound=z.bound:=by rw[HS.out];exact k6 (fun w t=>by rw[r.out];exact ynx (fun t w=>yae pl how d t w) t w) _ _
   have A:s.bound+20*d<=1000:=by rw[Y];exact Q.out
   have au:=lh M;have D:=lh Z;have HT:=lh tr;have I:=lh l;have J:=lh u;have G:=lh x;have R:=lh A;have ab:=l.size;rw[<-hB] at ab;clear KK tr l x u M b aa Z Y A
   go_wp2_with fail
   refine xr ai.out hB (af.out k y) HT.out (I.out.alloc ab _) (J.out.alloc _) (by have:=D.out;rw[r.out] at this;exact this) R.out (fun w1 V P b1=>?_);have K:Hid (WAt w1 B p h pl (g s (a.getD k .zero))):=lh (by rw[r.out];exact V);have F:=lh (G.out.trans ((Fr.alloc B wr _).trans P));have aq:=lh b1;clear e0 e1 e2 e3 e4 e5 V P b1;go_wp2
   go_roundw
   case rel=>exact⟨k+1,_,by omega,by go_num,aq.out,F.out,K.out,lh au.out.symm⟩
   case measure=>simp[intOf];omega
  ·have b:s=a.foldl g z:=by rw[HS.out,List.take_of_length_le (by omega)]
   have S:=lh b;have J:=lh u;have G:=lh x;have I:=lh l;clear b u x l
   go_wp2_with fail
   refine y9 [69] hB I.out J.out (by rw[S.out];exact HF.out) (by simp) (fun w3 W3 F3 b3=>?_);have K:=lh W3;have F:=lh (G.out.trans F3);clear W3 F3 b3;go_wp2;go_end0;exact⟨rfl,by rw[<-S.out];exact K.out,F.out⟩
theorem yo6 {w0:World}{B p d:Nat}{h:Value}{pl:Bool}{how:List Int}(E:WE w0 B p h pl how)(C:PcC w0 B p h pl how d){b:Nat}{t:ya}{v:Value}{w:World}{st:WS}(r:Rt .path (d+1) b t)(c:t.wt<=300)(a:b<=20)(g:yg w0 t v)(f:Below B w0 w)(o:WAt w B p h pl st)
  (n:j4 (yc (fun j t w=>wGo pl how (d-j) t w) t st)) (hb:st.bound+20*(d+1)<=1000) :
  Calls Tryz.prog 86 #[.pointer (some ⟨p,0,none⟩),v] w fun e w'=>kx B p h pl w (yc (fun j t w=>wGo pl how (d-j) t w) t st) e w':=by
 generalize q:d+1=D at r
 cases r with
 | crate m _=>exact wp1 E C g f o n hb m
 | impl _ k l=>
  obtain rfl:d=_:=by injection q
  refine wp2 E C g f o n hb (fun i hi=>?_)
  rcases i with _|_|i
  ·exact⟨.path,0,.inl rfl,k,by omega,vd hi c⟩
  ·exact⟨.type,b,.inr (.inl rfl),l,a,vd hi c⟩
  ·simp at hi;omega
 | timpl _ k l s=>
  obtain rfl:d=_:=by injection q
  refine wp3 E C g f o n hb (fun i hi=>?_)
  rcases i with _|_|_|i
  ·exact⟨.path,0,.inl rfl,k,by omega,vd hi c⟩
  ·exact⟨.type,b,.inr (.inl rfl),l,a,vd hi c⟩
  ·exact⟨.path,b,.inl rfl,s,a,vd hi c⟩
  ·simp at hi;omega
 | tdef _ k l=>
  obtain rfl:d=_:=by injection q
  refine wp4 E C g f o n hb (fun i hi=>?_)
  rcases i with _|_|i
  ·exact⟨.type,b,.inr (.inl rfl),k,a,vd hi c⟩
  ·exact⟨.path,b,.inl rfl,l,a,vd hi c⟩
  ·simp at hi;omega
 | nested _ m k=>
  obtain rfl:d=_:=by injection q
  refine wp5 E C g f o n hb ⟨.path,b,.inl rfl,k,a,vd (i:=0) (by simp) c⟩ ?_
  rcases m with⟨_,_,h⟩|⟨_,h|h⟩
  ·exact .inr h
  ·exact .inl h
  ·exact .inr h
 | gen _ u k l=>
  obtain rfl:d=_:=by injection q
  exact wp6 E C g f o n hb u ⟨.path,b,.inl rfl,k,a,vd (i:=0) (by simp) c⟩ (fun i hi=>⟨b,l i hi,a,vd (i:=i+1) (by simpa using hi) c⟩)
theorem wt7 {w0 w:World}{B p d:Nat}{h:Value}{pl:Bool}{how:List Int}(E:WE w0 B p h pl how)(C:PcC w0 B p h pl how d){c:UInt8}{nm:List UInt8}{n:Nat}{f:Bool}{kids:List ya}{v:Value}{st:WS}(k:yg w0 (.mk 7 c nm n f kids) v)(a:Below B w0 w)(x:WAt w B p h pl st)
  (q:j4 (yc (fun j t w=>wGo pl how (d-j) t w) (.mk 7 c nm n f kids) st)) (hb:st.bound+20*(d+1)<=1000) :
  Calls Tryz.prog 87 #[.pointer (some ⟨p,0,none⟩),v] w fun e w'=>kx B p h pl w (yc (fun j t w=>wGo pl how (d-j) t w) (.mk 7 c nm n f kids) st) e w':=by
 obtain⟨ao,cap,rfl,hK,N,J,H,I,r⟩:=yze k (by omega) E.hB a.size;have hB:=E.hB;have g:st.bound+20*d<=1000:=by omega
 have b:yc (fun j t w=>wGo pl how (d-j) t w) (.mk 7 c nm n f kids) st=(st.put [c]):=rfl;rw[b] at q |-;have L:=lh E;have K:=lh C;have M:=lh hK;have F:=lh a;have G:=lh x;have D:=lh q;have z:=lh g;have A:=lh hb;clear E C hK k a x q b hb g;have y:(convert 22 9 (.slice (some ⟨(w.alloc (.cells #[.int .i64 7,.int .u8 c.toNat,.string ⟨nm.toArray⟩,.int .u64 n,.bool f,.slice ao kids.length cap] 28)).heap.size,0,none⟩) 1 1)).run Tryz.prog ((w.alloc (.cells #[.int .i64 7,.int .u8 c.toNat,.string ⟨nm.toArray⟩,.int .u64 n,.bool f,.slice ao kids.length cap] 28)).alloc (.cells #[.int .u8 (c.toNat:Int)] 5))=.ok (.string ⟨#[c]⟩) ((w.alloc (.cells #[.int .i64 7,.int .u8 c.toNat,.string ⟨nm.toArray⟩,.int .u64 n,.bool f,.slice ao kids.length cap] 28)).alloc (.cells #[.int .u8 (c.toNat:Int)] 5)):=by
  have:=yho (w.alloc (.cells #[.int .i64 7,.int .u8 c.toNat,.string ⟨nm.toArray⟩,.int .u64 n,.bool f,.slice ao kids.length cap] 28)) (c.toNat:Int) (by omega) (by have:=c.toNat_lt;omega)
  simpa using this
 simp only[World.size_alloc] at y;have i:Below B w0 ((w.alloc (.cells #[.int .i64 7,.int .u8 c.toNat,.string ⟨nm.toArray⟩,.int .u64 n,.bool f,.slice ao kids.length cap] 28)).alloc (.cells #[.int .u8 (c.toNat:Int)] 5)):=(F.out.alloc r _).alloc (by simp;omega) _;have m:=lh i;clear i
 go_enter Tryz.func87,Tryz.ntmps87
 go_wp2_with fail
 refine y9 [c] hB m.out ((G.out.alloc _).alloc _) D.out (by simp) (fun O u s b1=>?_);have l:=lh (((Fr.alloc B w _).trans (.alloc B _ _)).trans s);have o:=lh u;clear s u b1 y;go_wp2;go_end0;exact⟨rfl,o.out,l.out⟩
theorem wt8 {w0 w:World}{B p d:Nat}{h:Value}{pl:Bool}{how:List Int}(E:WE w0 B p h pl how)(C:PcC w0 B p h pl how d){c:UInt8}{nm:List UInt8}{n:Nat}{f:Bool}{kids:List ya}{v:Value}{st:WS}(J:yg w0 (.mk 8 c nm n f kids) v)(b:Below B w0 w)(hW:WAt w B p h pl st)
  (U:j4 (yc (fun j t w=>wGo pl how (d-j) t w) (.mk 8 c nm n f kids) st)) (hb:st.bound+20*(d+1)<=1000) (hO:∀ i,i < kids.length->okP d (kids.getD i .zero)) :
  Calls Tryz.prog 87 #[.pointer (some ⟨p,0,none⟩),v] w fun e w'=>kx B p h pl w (yc (fun j t w=>wGo pl how (d-j) t w) (.mk 8 c nm n f kids) st) e w':=by
 obtain⟨ao,cap,rfl,hK,hn,ag,ae,af,I⟩:=yze J (by omega) E.hB b.size;have hB:=E.hB;have G:st.bound+20*d<=1000:=by omega
 have g:yc (fun j t w=>wGo pl how (d-j) t w) (.mk 8 c nm n f kids) st=(kids.foldl (fun w t=>wGo pl how d t w) (st.put [65])):=by simp[yc,ya.kind,ya.kids,ya.num,zk]
 rw[g] at U |-;have HE:=lh E;have V:=lh C;have W:=lh hK;have X:=lh b;have Z:=lh hW;have HF:=lh U;have Q:=lh G;have ac:=lh hb;clear E C hK J b hW U g hb G;have H:(st.put [65]).bound+20*d<=1000:=by simp only[yv];exact Q.out
 have q:=HF;have R:=lh (q.out.of (z6 (fun w t=>qx pl how d t w) kids (st.put [65])));have z:=R;have Y:=lh hO;have y:=lh H;clear hO H
 rcases Nat.eq_zero_or_pos n with h0|h0
 ·subst h0
  go_enter Tryz.func87,Tryz.ntmps87
  go_wp2_with fail
  refine y9 [65] hB (X.out.alloc I _) (Z.out.alloc _) z.out (by simp) (fun w1 A k b1=>?_);have m:=lh ((Fr.alloc B w _).trans k);have u:=lh A;have r:=lh b1;have a:=k.cell (ym w _);have s:=lh a;obtain⟨K,L,M,N,O,P⟩:=yn a;clear a k A b1
  go_wp2_with fail
  refine zy V.out hB W.out Y.out r.out u.out q.out y.out (fun w2 D l F=>?_);clear K L M N O P;have o:=lh (m.out.trans l);have x:=lh D;have S:=lh F;have a:=l.cell s.out;have T:=lh a;obtain⟨K,L,M,N,O,P⟩:=yn a;clear a l D F;go_wp2;go_end0;exact⟨rfl,x.out,o.out⟩
 ·have q1:decide ((0:Int) < (n:Int))=true:=by simp;omega
  go_enter Tryz.func87,Tryz.ntmps87
  go_wp2_with fail
  refine y9 [65] hB (X.out.alloc I _) (Z.out.alloc _) z.out (by simp) (fun w1 A k b1=>?_);have m:=lh ((Fr.alloc B w _).trans k);have u:=lh A;have r:=lh b1;have a:=k.cell (ym w _);have s:=lh a;obtain⟨K,L,M,N,O,P⟩:=yn a;clear a k A b1
  go_wp2_with fail
  refine zy V.out hB W.out Y.out r.out u.out q.out y.out (fun w2 D l F=>?_);clear K L M N O P;have o:=lh (m.out.trans l);have x:=lh D;have S:=lh F;have a:=l.cell s.out;have T:=lh a;obtain⟨K,L,M,N,O,P⟩:=yn a;clear a l D F;go_wp2;go_end0;exact⟨rfl,x.out,o.out⟩
theorem wt9 {w0 w:World}{B p d:Nat}{h:Value}{pl:Bool}{how:List Int}(E:WE w0 B p h pl how)(C:PcC w0 B p h pl how d){c:UInt8}{nm:List UInt8}{n:Nat}{f:Bool}{kids:List ya}{v:Value}{st:WS}(J:yg w0 (.mk 9 c nm n f kids) v)(b:Below B w0 w)(hW:WAt w B p h pl st)
  (U:j4 (yc (fun j t w=>wGo pl how (d-j) t w) (.mk 9 c nm n f kids) st)) (hb:st.bound+20*(d+1)<=1000) (hO:∀ i,i < kids.length->okP d (kids.getD i .zero)) :
  Calls Tryz.prog 87 #[.pointer (some ⟨p,0,none⟩),v] w fun e w'=>kx B p h pl w (yc (fun j t w=>wGo pl how (d-j) t w) (.mk 9 c nm n f kids) st) e w':=by
 obtain⟨ao,cap,rfl,hK,hn,ag,ae,af,I⟩:=yze J (by omega) E.hB b.size;have hB:=E.hB;have G:st.bound+20*d<=1000:=by omega
 have g:yc (fun j t w=>wGo pl how (d-j) t w) (.mk 9 c nm n f kids) st=(kids.foldl (fun w t=>wGo pl how d t w) (st.put [83])):=by simp[yc,ya.kind,ya.kids,ya.num,zk]
 rw[g] at U |-;have HE:=lh E;have V:=lh C;have W:=lh hK;have X:=lh b;have Z:=lh hW;have HF:=lh U;have Q:=lh G;have ac:=lh hb;clear E C hK J b hW U g hb G;have H:(st.put [83]).bound+20*d<=1000:=by simp only[yv];exact Q.out
 have q:=HF;have R:=lh (q.out.of (z6 (fun w t=>qx pl how d t w) kids (st.put [83])));have z:=R;have Y:=lh hO;have y:=lh H;clear hO H
 rcases Nat.eq_zero_or_pos n with h0|h0
 ·subst h0
  go_enter Tryz.func87,Tryz.ntmps87
  go_wp2_with fail
  refine y9 [83] hB (X.out.alloc I _) (Z.out.alloc _) z.out (by simp) (fun w1 A k b1=>?_);have m:=lh ((Fr.alloc B w _).trans k);have u:=lh A;have r:=lh b1;have a:=k.cell (ym w _);have s:=lh a;obtain⟨K,L,M,N,O,P⟩:=yn a;clear a k A b1
  go_wp2_with fail
  refine zy V.out hB W.out Y.out r.out u.out q.out y.out (fun w2 D l F=>?_);clear K L M N O P;have o:=lh (m.out.trans l);have x:=lh D;have S:=lh F;have a:=l.cell s.out;have T:=lh a;obtain⟨K,L,M,N,O,P⟩:=yn a;clear a l D F;go_wp2;go_end0;exact⟨rfl,x.out,o.out⟩
 ·have q1:decide ((0:Int) < (n:Int))=true:=by simp;omega
  go_enter Tryz.func87,Tryz.ntmps87
  go_wp2_with fail
  refine y9 [83] hB (X.out.alloc I _) (Z.out.alloc _) z.out (by simp) (fun w1 A k b1=>?_);have m:=lh ((Fr.alloc B w _).trans k);have u:=lh A;have r:=lh b1;have a:=k.cell (ym w _);have s:=lh a;obtain⟨K,L,M,N,O,P⟩:=yn a;clear a k A b1
  go_wp2_with fail
  refine zy V.out hB W.out Y.out r.out u.out q.out y.out (fun w2 D l F=>?_);clear K L M N O P;have o:=lh (m.out.trans l);have x:=lh D;have S:=lh F;have a:=l.cell s.out;have T:=lh a;obtain⟨K,L,M,N,O,P⟩:=yn a;clear a l D F;go_wp2;go_end0;exact⟨rfl,x.out,o.out⟩
theorem wt10 {w0 w:World}{B p d:Nat}{h:Value}{pl:Bool}{how:List Int}(E:WE w0 B p h pl how)(C:PcC w0 B p h pl how d){c:UInt8}{nm:List UInt8}{n:Nat}{f:Bool}{kids:List ya}{v:Value}{st:WS}(O:yg w0 (.mk 10 c nm n f kids) v)(b:Below B w0 w)(hW:WAt w B p h pl st)
  (hF:j4 (yc (fun j t w=>wGo pl how (d-j) t w) (.mk 10 c nm n f kids) st)) (hb:st.bound+20*(d+1)<=1000) (hO:∀ i,i < kids.length->okP d (kids.getD i .zero)) :
  Calls Tryz.prog 87 #[.pointer (some ⟨p,0,none⟩),v] w fun e w'=>kx B p h pl w (yc (fun j t w=>wGo pl how (d-j) t w) (.mk 10 c nm n f kids) st) e w':=by
 obtain⟨ao,cap,rfl,hK,hn,al,aj,ak,N⟩:=yze O (by omega) E.hB b.size;have hB:=E.hB;have L:st.bound+20*d<=1000:=by omega
 have g:yc (fun j t w=>wGo pl how (d-j) t w) (.mk 10 c nm n f kids) st=((kids.foldl (fun w t=>wGo pl how d t w) (st.put [84])).put [69]):=by simp[yc,ya.kind,ya.kids,ya.num,zk]
 rw[g] at hF |-;have HE:=lh E;have HC:=lh C;have HK:=lh hK;have HL:=lh b;have HW:=lh hW;have W:=lh hF;have V:=lh L;have ai:=lh hb;clear E C hK O b hW hF g hb L;have M:(st.put [84]).bound+20*d<=1000:=by simp only[yv];exact V.out
 have r:=lh (W.out.of (yw (kids.foldl (fun w t=>wGo pl how d t w) (st.put [84])) [69]));have X:=lh (r.out.of (z6 (fun w t=>qx pl how d t w) kids (st.put [84])));have G:=X;have HO:=lh hO;have F:=lh M;clear hO M
 rcases Nat.eq_zero_or_pos n with h0|h0
 ·subst h0
  go_enter Tryz.func87,Tryz.ntmps87
  go_wp2_with fail
  refine y9 [84] hB (HL.out.alloc N _) (HW.out.alloc _) G.out (by simp) (fun w1 H k b1=>?_);have m:=lh ((Fr.alloc B w _).trans k);have y:=lh H;have s:=lh b1;have a:=k.cell (ym w _);have x:=lh a;obtain⟨P,Q,R,S,T,U⟩:=yn a;clear a k H b1
  go_wp2_with fail
  refine zy HC.out hB HK.out HO.out s.out y.out r.out F.out (fun w2 I l K=>?_);clear P Q R S T U;have o:=lh (m.out.trans l);have z:=lh I;have u:=lh K;have a:=l.cell x.out;have Y:=lh a;obtain⟨P,Q,R,S,T,U⟩:=yn a;clear a l I K
  go_wp2_with fail
  refine y9 [69] hB u.out z.out W.out (by simp) (fun w3 J D Z=>?_);have q:=lh (o.out.trans D);have A:=lh J;clear D J Z;go_wp2;go_end0;exact⟨rfl,A.out,q.out⟩
 ·have q1:decide ((0:Int) < (n:Int))=true:=by simp;omega
  go_enter Tryz.func87,Tryz.ntmps87
  go_wp2_with fail
  refine y9 [84] hB (HL.out.alloc N _) (HW.out.alloc _) G.out (by simp) (fun w1 H k b1=>?_);have m:=lh ((Fr.alloc B w _).trans k);have y:=lh H;have s:=lh b1;have a:=k.cell (ym w _);have x:=lh a;obtain⟨P,Q,R,S,T,U⟩:=yn a;clear a k H b1
  go_wp2_with fail
  refine zy HC.out hB HK.out HO.out s.out y.out r.out F.out (fun w2 I l K=>?_);clear P Q R S T U;have o:=lh (m.out.trans l);have z:=lh I;have u:=lh K;have a:=l.cell x.out;have Y:=lh a;obtain⟨P,Q,R,S,T,U⟩:=yn a;clear a l I K
  go_wp2_with fail
  refine y9 [69] hB u.out z.out W.out (by simp) (fun w3 J D Z=>?_);have q:=lh (o.out.trans D);have A:=lh J;clear D J Z;go_wp2;go_end0;exact⟨rfl,A.out,q.out⟩
theorem wt11a {w0 w:World}{B p d:Nat}{h:Value}{pl:Bool}{how:List Int}(E:WE w0 B p h pl how)(C:PcC w0 B p h pl how d){c:UInt8}{nm:List UInt8}{n:Nat}{f:Bool}{kids:List ya}{v:Value}{st:WS}(o:yg w0 (.mk 11 c nm n f kids) v)(a:Below B w0 w)(O:WAt w B p h pl st)
  (I:j4 (yc (fun j t w=>wGo pl how (d-j) t w) (.mk 11 c nm n f kids) st)) (hb:st.bound+20*(d+1)<=1000) (hO:∀ i,i < kids.length->okP d (kids.getD i .zero)) (N:n=0) :
  Calls Tryz.prog 87 #[.pointer (some ⟨p,0,none⟩),v] w fun e w'=>kx B p h pl w (yc (fun j t w=>wGo pl how (d-j) t w) (.mk 11 c nm n f kids) st) e w':=by
 obtain⟨ao,cap,rfl,hK,hn,ag,ae,af,J⟩:=yze o (by omega) E.hB a.size;have hB:=E.hB;have l:st.bound+20*d<=1000:=by omega
 have b:yc (fun j t w=>wGo pl how (d-j) t w) (.mk 11 c nm n f kids) st=(kids.foldl (fun w t=>wGo pl how d t w) (st.put [82])):=by simp[yc,ya.kind,ya.kids,ya.num,zk,N]
 rw[b] at I |-;have HE:=lh E;have W:=lh C;have Y:=lh hK;have Z:=lh a;have HW:=lh O;have X:=lh I;have u:=lh l;have V:=lh hb;clear E C hK o a O I b hb l;have m:(st.put [82]).bound+20*d<=1000:=by simp only[yv];exact u.out
 have k:=X;have A:=lh (k.out.of (z6 (fun w t=>qx pl how d t w) kids (st.put [82])));have z:=A;have HO:=lh hO;have s:=lh m;clear hO m;subst N
 go_enter Tryz.func87,Tryz.ntmps87
 go_wp2_with fail
 refine y9 [82] hB (Z.out.alloc J _) (HW.out.alloc _) z.out (by simp) (fun w1 K q b1=>?_);have x:=lh ((Fr.alloc B w _).trans q);have G:=lh K;have D:=lh b1;have g:=q.cell (ym w _);have F:=lh g;obtain⟨P,Q,R,S,T,U⟩:=yn g;clear g q K b1
 go_wp2_with fail
 refine zy W.out hB Y.out HO.out D.out G.out k.out s.out (fun w2 L r M=>?_);clear P Q R S T U;have y:=lh (x.out.trans r);have H:=lh L;have aa:=lh M;have g:=r.cell F.out;have ac:=lh g;obtain⟨P,Q,R,S,T,U⟩:=yn g;clear g r L M;go_wp2;go_end0;exact⟨rfl,H.out,y.out⟩
theorem wt12a {w0 w:World}{B p d:Nat}{h:Value}{pl:Bool}{how:List Int}(E:WE w0 B p h pl how)(C:PcC w0 B p h pl how d){c:UInt8}{nm:List UInt8}{n:Nat}{f:Bool}{kids:List ya}{v:Value}{st:WS}(o:yg w0 (.mk 12 c nm n f kids) v)(a:Below B w0 w)(O:WAt w B p h pl st)
  (I:j4 (yc (fun j t w=>wGo pl how (d-j) t w) (.mk 12 c nm n f kids) st)) (hb:st.bound+20*(d+1)<=1000) (hO:∀ i,i < kids.length->okP d (kids.getD i .zero)) (N:n=0) :
  Calls Tryz.prog 87 #[.pointer (some ⟨p,0,none⟩),v] w fun e w'=>kx B p h pl w (yc (fun j t w=>wGo pl how (d-j) t w) (.mk 12 c nm n f kids) st) e w':=by
 obtain⟨ao,cap,rfl,hK,hn,ag,ae,af,J⟩:=yze o (by omega) E.hB a.size;have hB:=E.hB;have l:st.bound+20*d<=1000:=by omega
 have b:yc (fun j t w=>wGo pl how (d-j) t w) (.mk 12 c nm n f kids) st=(kids.foldl (fun w t=>wGo pl how d t w) (st.put [81])):=by simp[yc,ya.kind,ya.kids,ya.num,zk,N]
 rw[b] at I |-;have HE:=lh E;have W:=lh C;have Y:=lh hK;have Z:=lh a;have HW:=lh O;have X:=lh I;have u:=lh l;have V:=lh hb;clear E C hK o a O I b hb l;have m:(st.put [81]).bound+20*d<=1000:=by simp only[yv];exact u.out
 have k:=X;have A:=lh (k.out.of (z6 (fun w t=>qx pl how d t w) kids (st.put [81])));have z:=A;have HO:=lh hO;have s:=lh m;clear hO m;subst N
 go_enter Tryz.func87,Tryz.ntmps87
 go_wp2_with fail
 refine y9 [81] hB (Z.out.alloc J _) (HW.out.alloc _) z.out (by simp) (fun w1 K q b1=>?_);have x:=lh ((Fr.alloc B w _).trans q);have G:=lh K;have D:=lh b1;have g:=q.cell (ym w _);have F:=lh g;obtain⟨P,Q,R,S,T,U⟩:=yn g;clear g q K b1
 go_wp2_with fail
 refine zy W.out hB Y.out HO.out D.out G.out k.out s.out (fun w2 L r M=>?_);clear P Q R S T U;have y:=lh (x.out.trans r);have H:=lh L;have aa:=lh M;have g:=r.cell F.out;have ac:=lh g;obtain⟨P,Q,R,S,T,U⟩:=yn g;clear g r L M;go_wp2;go_end0;exact⟨rfl,H.out,y.out⟩
theorem wt11b {w0 w:World}{B p d:Nat}{h:Value}{pl:Bool}{how:List Int}(E:WE w0 B p h pl how)(C:PcC w0 B p h pl how d){c:UInt8}{nm:List UInt8}{n:Nat}{f:Bool}{kids:List ya}{v:Value}{st:WS}(q:yg w0 (.mk 11 c nm n f kids) v)(a:Below B w0 w)(hW:WAt w B p h pl st)
  (T:j4 (yc (fun j t w=>wGo pl how (d-j) t w) (.mk 11 c nm n f kids) st)) (hb:st.bound+20*(d+1)<=1000) (hO:∀ i,i < kids.length->okP d (kids.getD i .zero)) (h0:0 < n) :
  Calls Tryz.prog 87 #[.pointer (some ⟨p,0,none⟩),v] w fun e w'=>kx B p h pl w (yc (fun j t w=>wGo pl how (d-j) t w) (.mk 11 c nm n f kids) st) e w':=by
 obtain⟨ao,cap,rfl,hK,hn,ap,am,an,U⟩:=yze q (by omega) E.hB a.size;have hB:=E.hB;have m:st.bound+20*d<=1000:=by omega
 have g:yc (fun j t w=>wGo pl how (d-j) t w) (.mk 11 c nm n f kids) st=(kids.foldl (fun w t=>wGo pl how d t w) ((st.put [82]).put (76::jd n))):=by simp[yc,ya.kind,ya.kids,ya.num,zk,h0]
 rw[g] at T |-;have HE:=lh E;have HC:=lh C;have HK:=lh hK;have HL:=lh a;have HW:=lh hW;have HF:=lh T;have H:=lh m;have ac:=lh hb;clear E C hK q a hW T g hb m;have o:((st.put [82]).put (76::jd n)).bound+20*d<=1000:=by simp only[yv];exact H.out
 have l:=HF;have k:=lh (l.out.of (z6 (fun w t=>qx pl how d t w) kids ((st.put [82]).put (76::jd n))));have L:=lh (k.out.of (yw (st.put [82]) (76::jd n)));have aq:=gh hn;have HO:=lh hO;have G:=lh o;clear hO o;have q1:decide ((0:Int) < (n:Int))=true:=by simp;omega
 go_enter Tryz.func87,Tryz.ntmps87
 go_wp2_with fail
 refine y9 [82] hB (HL.out.alloc U _) (HW.out.alloc _) L.out (by simp) (fun w1 V A b1=>?_);have I:=lh ((Fr.alloc B w _).trans A);have Q:=lh V;have M:=lh b1;have b:=A.cell (ym w _);have O:=lh b;obtain⟨r,s,u,x,y,z⟩:=yn b;clear b A V b1
 go_wp2_with fail
 refine(x9 n hn _).mono ?_;rintro e w' ⟨rfl,rfl⟩
 go_wp2_with fail
 refine y9 (76::jd n) hB M.out Q.out k.out (by simp;omega) (fun w2 W D Y=>?_);clear r s u x y z;have J:=lh (I.out.trans D);have R:=lh W;have N:=lh Y;have b:=D.cell O.out;have P:=lh b;obtain⟨r,s,u,x,y,z⟩:=yn b;clear b D W Y
 go_wp2_with fail
 refine zy HC.out hB HK.out HO.out N.out R.out l.out G.out (fun w3 X F Z=>?_);clear r s u x y z;have K:=lh (J.out.trans F);have S:=lh X;have ah:=lh Z;have b:=F.cell P.out;have aj:=lh b;obtain⟨r,s,u,x,y,z⟩:=yn b;clear b F X Z;go_wp2;go_end0;exact⟨rfl,S.out,K.out⟩
theorem wt12b {w0 w:World}{B p d:Nat}{h:Value}{pl:Bool}{how:List Int}(E:WE w0 B p h pl how)(C:PcC w0 B p h pl how d){c:UInt8}{nm:List UInt8}{n:Nat}{f:Bool}{kids:List ya}{v:Value}{st:WS}(q:yg w0 (.mk 12 c nm n f kids) v)(a:Below B w0 w)(hW:WAt w B p h pl st)
  (T:j4 (yc (fun j t w=>wGo pl how (d-j) t w) (.mk 12 c nm n f kids) st)) (hb:st.bound+20*(d+1)<=1000) (hO:∀ i,i < kids.length->okP d (kids.getD i .zero)) (h0:0 < n) :
  Calls Tryz.prog 87 #[.pointer (some ⟨p,0,none⟩),v] w fun e w'=>kx B p h pl w (yc (fun j t w=>wGo pl how (d-j) t w) (.mk 12 c nm n f kids) st) e w':=by
 obtain⟨ao,cap,rfl,hK,hn,ap,am,an,U⟩:=yze q (by omega) E.hB a.size;have hB:=E.hB;have m:st.bound+20*d<=1000:=by omega
 have g:yc (fun j t w=>wGo pl how (d-j) t w) (.mk 12 c nm n f kids) st=(kids.foldl (fun w t=>wGo pl how d t w) ((st.put [81]).put (76::jd n))):=by simp[yc,ya.kind,ya.kids,ya.num,zk,h0]
 rw[g] at T |-;have HE:=lh E;have HC:=lh C;have HK:=lh hK;have HL:=lh a;have HW:=lh hW;have HF:=lh T;have H:=lh m;have ac:=lh hb;clear E C hK q a hW T g hb m;have o:((st.put [81]).put (76::jd n)).bound+20*d<=1000:=by simp only[yv];exact H.out
 have l:=HF;have k:=lh (l.out.of (z6 (fun w t=>qx pl how d t w) kids ((st.put [81]).put (76::jd n))));have L:=lh (k.out.of (yw (st.put [81]) (76::jd n)));have aq:=gh hn;have HO:=lh hO;have G:=lh o;clear hO o;have q1:decide ((0:Int) < (n:Int))=true:=by simp;omega
 go_enter Tryz.func87,Tryz.ntmps87
 go_wp2_with fail
 refine y9 [81] hB (HL.out.alloc U _) (HW.out.alloc _) L.out (by simp) (fun w1 V A b1=>?_);have I:=lh ((Fr.alloc B w _).trans A);have Q:=lh V;have M:=lh b1;have b:=A.cell (ym w _);have O:=lh b;obtain⟨r,s,u,x,y,z⟩:=yn b;clear b A V b1
 go_wp2_with fail
 refine(x9 n hn _).mono ?_;rintro e w' ⟨rfl,rfl⟩
 go_wp2_with fail
 refine y9 (76::jd n) hB M.out Q.out k.out (by simp;omega) (fun w2 W D Y=>?_);clear r s u x y z;have J:=lh (I.out.trans D);have R:=lh W;have N:=lh Y;have b:=D.cell O.out;have P:=lh b;obtain⟨r,s,u,x,y,z⟩:=yn b;clear b D W Y
 go_wp2_with fail
 refine zy HC.out hB HK.out HO.out N.out R.out l.out G.out (fun w3 X F Z=>?_);clear r s u x y z;have K:=lh (J.out.trans F);have S:=lh X;have ah:=lh Z;have b:=F.cell P.out;have aj:=lh b;obtain⟨r,s,u,x,y,z⟩:=yn b;clear b F X Z;go_wp2;go_end0;exact⟨rfl,S.out,K.out⟩
theorem wt13 {w0 w:World}{B p d:Nat}{h:Value}{pl:Bool}{how:List Int}(E:WE w0 B p h pl how)(C:PcC w0 B p h pl how d){c:UInt8}{nm:List UInt8}{n:Nat}{f:Bool}{kids:List ya}{v:Value}{st:WS}(J:yg w0 (.mk 13 c nm n f kids) v)(b:Below B w0 w)(hW:WAt w B p h pl st)
  (U:j4 (yc (fun j t w=>wGo pl how (d-j) t w) (.mk 13 c nm n f kids) st)) (hb:st.bound+20*(d+1)<=1000) (hO:∀ i,i < kids.length->okP d (kids.getD i .zero)) :
  Calls Tryz.prog 87 #[.pointer (some ⟨p,0,none⟩),v] w fun e w'=>kx B p h pl w (yc (fun j t w=>wGo pl how (d-j) t w) (.mk 13 c nm n f kids) st) e w':=by
 obtain⟨ao,cap,rfl,hK,hn,ag,ae,af,I⟩:=yze J (by omega) E.hB b.size;have hB:=E.hB;have G:st.bound+20*d<=1000:=by omega
 have g:yc (fun j t w=>wGo pl how (d-j) t w) (.mk 13 c nm n f kids) st=(kids.foldl (fun w t=>wGo pl how d t w) (st.put [80])):=by simp[yc,ya.kind,ya.kids,ya.num,zk]
 rw[g] at U |-;have HE:=lh E;have V:=lh C;have W:=lh hK;have X:=lh b;have Z:=lh hW;have HF:=lh U;have Q:=lh G;have ac:=lh hb;clear E C hK J b hW U g hb G;have H:(st.put [80]).bound+20*d<=1000:=by simp only[yv];exact Q.out
 have q:=HF;have R:=lh (q.out.of (z6 (fun w t=>qx pl how d t w) kids (st.put [80])));have z:=R;have Y:=lh hO;have y:=lh H;clear hO H
 rcases Nat.eq_zero_or_pos n with h0|h0
 ·subst h0
  go_enter Tryz.func87,Tryz.ntmps87
  go_wp2_with fail
  refine y9 [80] hB (X.out.alloc I _) (Z.out.alloc _) z.out (by simp) (fun w1 A k b1=>?_);have m:=lh ((Fr.alloc B w _).trans k);have u:=lh A;have r:=lh b1;have a:=k.cell (ym w _);have s:=lh a;obtain⟨K,L,M,N,O,P⟩:=yn a;clear a k A b1
  go_wp2_with fail
  refine zy V.out hB W.out Y.out r.out u.out q.out y.out (fun w2 D l F=>?_);clear K L M N O P;have o:=lh (m.out.trans l);have x:=lh D;have S:=lh F;have a:=l.cell s.out;have T:=lh a;obtain⟨K,L,M,N,O,P⟩:=yn a;clear a l D F;go_wp2;go_end0;exact⟨rfl,x.out,o.out⟩
 ·have q1:decide ((0:Int) < (n:Int))=true:=by simp;omega
  go_enter Tryz.func87,Tryz.ntmps87
  go_wp2_with fail
  refine y9 [80] hB (X.out.alloc I _) (Z.out.alloc _) z.out (by simp) (fun w1 A k b1=>?_);have m:=lh ((Fr.alloc B w _).trans k);have u:=lh A;have r:=lh b1;have a:=k.cell (ym w _);have s:=lh a;obtain⟨K,L,M,N,O,P⟩:=yn a;clear a k A b1
  go_wp2_with fail
  refine zy V.out hB W.out Y.out r.out u.out q.out y.out (fun w2 D l F=>?_);clear K L M N O P;have o:=lh (m.out.trans l);have x:=lh D;have S:=lh F;have a:=l.cell s.out;have T:=lh a;obtain⟨K,L,M,N,O,P⟩:=yn a;clear a l D F;go_wp2;go_end0;exact⟨rfl,x.out,o.out⟩
theorem wt14 {w0 w:World}{B p d:Nat}{h:Value}{pl:Bool}{how:List Int}(E:WE w0 B p h pl how)(C:PcC w0 B p h pl how d){c:UInt8}{nm:List UInt8}{n:Nat}{f:Bool}{kids:List ya}{v:Value}{st:WS}(J:yg w0 (.mk 14 c nm n f kids) v)(b:Below B w0 w)(hW:WAt w B p h pl st)
  (U:j4 (yc (fun j t w=>wGo pl how (d-j) t w) (.mk 14 c nm n f kids) st)) (hb:st.bound+20*(d+1)<=1000) (hO:∀ i,i < kids.length->okP d (kids.getD i .zero)) :
  Calls Tryz.prog 87 #[.pointer (some ⟨p,0,none⟩),v] w fun e w'=>kx B p h pl w (yc (fun j t w=>wGo pl how (d-j) t w) (.mk 14 c nm n f kids) st) e w':=by
 obtain⟨ao,cap,rfl,hK,hn,ag,ae,af,I⟩:=yze J (by omega) E.hB b.size;have hB:=E.hB;have G:st.bound+20*d<=1000:=by omega
 have g:yc (fun j t w=>wGo pl how (d-j) t w) (.mk 14 c nm n f kids) st=(kids.foldl (fun w t=>wGo pl how d t w) (st.put [79])):=by simp[yc,ya.kind,ya.kids,ya.num,zk]
 rw[g] at U |-;have HE:=lh E;have V:=lh C;have W:=lh hK;have X:=lh b;have Z:=lh hW;have HF:=lh U;have Q:=lh G;have ac:=lh hb;clear E C hK J b hW U g hb G;have H:(st.put [79]).bound+20*d<=1000:=by simp only[yv];exact Q.out
 have q:=HF;have R:=lh (q.out.of (z6 (fun w t=>qx pl how d t w) kids (st.put [79])));have z:=R;have Y:=lh hO;have y:=lh H;clear hO H
 rcases Nat.eq_zero_or_pos n with h0|h0
 ·subst h0
  go_enter Tryz.func87,Tryz.ntmps87
  go_wp2_with fail
  refine y9 [79] hB (X.out.alloc I _) (Z.out.alloc _) z.out (by simp) (fun w1 A k b1=>?_);have m:=lh ((Fr.alloc B w _).trans k);have u:=lh A;have r:=lh b1;have a:=k.cell (ym w _);have s:=lh a;obtain⟨K,L,M,N,O,P⟩:=yn a;clear a k A b1
  go_wp2_with fail
  refine zy V.out hB W.out Y.out r.out u.out q.out y.out (fun w2 D l F=>?_);clear K L M N O P;have o:=lh (m.out.trans l);have x:=lh D;have S:=lh F;have a:=l.cell s.out;have T:=lh a;obtain⟨K,L,M,N,O,P⟩:=yn a;clear a l D F;go_wp2;go_end0;exact⟨rfl,x.out,o.out⟩
 ·have q1:decide ((0:Int) < (n:Int))=true:=by simp;omega
  go_enter Tryz.func87,Tryz.ntmps87
  go_wp2_with fail
  refine y9 [79] hB (X.out.alloc I _) (Z.out.alloc _) z.out (by simp) (fun w1 A k b1=>?_);have m:=lh ((Fr.alloc B w _).trans k);have u:=lh A;have r:=lh b1;have a:=k.cell (ym w _);have s:=lh a;obtain⟨K,L,M,N,O,P⟩:=yn a;clear a k A b1
  go_wp2_with fail
  refine zy V.out hB W.out Y.out r.out u.out q.out y.out (fun w2 D l F=>?_);clear K L M N O P;have o:=lh (m.out.trans l);have x:=lh D;have S:=lh F;have a:=l.cell s.out;have T:=lh a;obtain⟨K,L,M,N,O,P⟩:=yn a;clear a l D F;go_wp2;go_end0;exact⟨rfl,x.out,o.out⟩
theorem ypk {w0:World}{B p d:Nat}{h:Value}{pl:Bool}{how:List Int}(E:WE w0 B p h pl how)(C:PcC w0 B p h pl how d){b:Nat}{t:ya}{v:Value}{w:World}{st:WS}(F:Rt .type (d+1) b t)(m:t.wt<=300)(I:7<=t.kind)(x:t.kind<=14)(g:b<=20)(c:yg w0 t v)(a:Below B w0 w)(r:WAt w B p h pl st)
  (o:j4 (yc (fun j t w=>wGo pl how (d-j) t w) t st)) (hb:st.bound+20*(d+1)<=1000) :
  Calls Tryz.prog 87 #[.pointer (some ⟨p,0,none⟩),v] w fun e w'=>kx B p h pl w (yc (fun j t w=>wGo pl how (d-j) t w) t st) e w':=by
 generalize y:d+1=D at F
 cases F with
 | tpath h=>have:=(km h).1 rfl;omega
 | basic _=>exact wt7 E C c a r o hb
 | array s H=>
  obtain rfl:d=_:=by injection y
  refine wt8 E C c a r o hb (fun i hi=>?_)
  rcases i with _|_|i
  ·exact⟨.type,b,.inr (.inl rfl),s,g,vd hi m⟩
  ·exact⟨.const,b,.inr (.inr rfl),H,g,vd hi m⟩
  ·simp at hi;omega
 | slice s=>
  obtain rfl:d=_:=by injection y
  refine wt9 E C c a r o hb (fun i hi=>?_)
  rcases i with _|i
  ·exact⟨.type,b,.inr (.inl rfl),s,g,vd hi m⟩
  ·simp at hi
 | tuple s=>
  obtain rfl:d=_:=by injection y
  exact wt10 E C c a r o hb (fun i hi=>⟨.type,b,.inr (.inl rfl),s i hi,g,vd hi m⟩)
 | @ref z G k l nm n f q A _ s=>
  obtain rfl:d=z:=by injection y
  have hO:∀ i,i < [q].length->okP d ([q].getD i .zero):=fun i hi=>by
   rcases i with _|i
   ·exact⟨.type,b,.inr (.inl rfl),s,g,vd hi m⟩
   ·simp at hi
  rcases A with rfl|rfl
  ·rcases Nat.eq_zero_or_pos n with u|u
   ·exact wt11a E C c a r o hb hO u
   ·exact wt11b E C c a r o hb hO u
  ·rcases Nat.eq_zero_or_pos n with u|u
   ·exact wt12a E C c a r o hb hO u
   ·exact wt12b E C c a r o hb hO u
 | @ptr z G k l nm n f q A s=>
  obtain rfl:d=z:=by injection y
  have hO:∀ i,i < [q].length->okP d ([q].getD i .zero):=fun i hi=>by
   rcases i with _|i
   ·exact⟨.type,b,.inr (.inl rfl),s,g,vd hi m⟩
   ·simp at hi
  rcases A with rfl|rfl
  ·exact wt13 E C c a r o hb hO
  ·exact wt14 E C c a r o hb hO
 | fn=>simp only[ya.kind] at x;omega
 | dyn=>simp only[ya.kind] at x;omega
end Go.Proofs.YtfckcdbpiepchaaGreatDoor
