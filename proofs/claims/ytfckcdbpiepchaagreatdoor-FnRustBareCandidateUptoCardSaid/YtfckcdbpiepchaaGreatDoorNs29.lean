import Derived.Test.YtfckcdbpiepchaaGreatDoorNs28
namespace Go.Proofs.YtfckcdbpiepchaaGreatDoor
open Go.RowKit
set_option maxRecDepth 100000
set_option maxHeartbeats 8000000
set_option linter.all false
theorem ygu {nm:List UInt8}(h:ybe nm=true)(g:nm≠[]):NmW (nm.map fun c=>if c=45 then 95 else c)/\nm.length<=20:=by
 have a:(∀ c∈nm,(97<=c.toNat/\c.toNat<=122)\/c=45\/kt c=true\/c=67)/\nm.length<=20:=by
  cases nm with
  | nil=>exact absurd rfl g
  | cons c r=>
   unfold ybe at h;simp only[Bool.or_eq_true,beq_iff_eq,Bool.and_eq_true,decide_eq_true_eq] at h
   rcases h with h|⟨⟨b,e⟩,i⟩
   ·injection h with b e
    subst b;subst e;exact⟨fun x d=>.inr (.inr (.inr (by simpa using d))),by simp⟩
   ·refine⟨fun x d=>?_,i⟩
    rcases List.mem_cons.1 d with rfl|d
    ·unfold yc7 at b;simp at b;exact .inl b
    ·have:=List.all_eq_true.1 e x d
     unfold yc7 at this;simp only[Bool.or_eq_true,Bool.and_eq_true,beq_iff_eq,decide_eq_true_eq,Bool.not_false,true_and] at this
     rcases this with h|h|h
     ·exact .inl h
     ·exact .inr (.inl h)
     ·exact .inr (.inr (.inl h))
 refine⟨.inr ?_,a.2⟩;have f:(nm.map fun c=>if c=45 then(95:UInt8) else c).all yr=true:=by
  rw[List.all_map,List.all_eq_true];intro c j
  show yr (if c=45 then 95 else c)=true
  rcases a.1 c j with b|rfl|b|rfl
  ·rw[if_neg (by rintro rfl;exact absurd b.1 (by decide))]
   have:yba (c.toNat:Int)=true:=by unfold yba;simp;omega
   unfold yr;rw[this];simp
  ·decide
  ·rw[if_neg (by rintro rfl;exact absurd b (by decide))]
   unfold yr;rw[ye9,b];rfl
  ·decide
 unfold zh;have k:jr (nm.map fun c=>if c=45 then(95:UInt8) else c)=true:=by
  unfold jr;rw[f]
  cases nm with
  | nil=>exact absurd rfl g
  | cons c r=>rfl
 rw[if_pos k,List.length_map];have:=a.2;simp;omega
theorem yf0 {nm:List UInt8}(h:ybe nm=true)(a:nm≠[]):(qs nm).length<=74000:=by
 unfold qs
 split
 ·simp
 ·exact ygp (ygu h a).1
theorem ycq {Q:Ending->World->Prop}{w0 w:World}{B p F:Nat}{h:Value}{pl:Bool}{how:List Int}{st:WS}{args:Array Value}{r:Value}(E:WE w0 B p h pl how)(a:Below B w0 w)(d:WAt w B p h pl st)
  (f:Calls Tryz.prog F args w fun e w'=>e=.returned r/\Below w.heap.size w w') (k:∀ b,WAt b B p h pl st->Fr B w b->Below B w0 b->Q (.returned r) b):Calls Tryz.prog F args w Q:=by
 refine f.mono ?_;rintro e b ⟨rfl,hb⟩;have c:=Fr.of_below (B:=B) hb;exact k b (d.below hb) c (a.trans (c.below (by rw[E.hB];exact a.size)))
theorem yf3 {w0 w:World}{B p:Nat}{h:Value}{pl:Bool}{how:List Int}(E:WE w0 B p h pl how)(a:Below B w0 w):yb1 w/\yec w:=⟨E.vt.below (by rw[<-E.hB];exact a),E.pt.below (by rw[<-E.hB];exact a)⟩
theorem yhx {w:World}{B p n:Nat}{h:Value}{pl:Bool}{st:WS}(b:WAt w B p h pl st)(c:n<=st.bound) :
  WAt (w.setCell ⟨p,7,none⟩ (.int .i64 ((st.bound:Int)-(n:Int)))) B p h pl { st with bound:=st.bound-n }/\Fr B w (w.setCell ⟨p,7,none⟩ (.int .i64 ((st.bound:Int)-(n:Int)))):=by
 have a:=b.set_bound (st.bound-n);rw[Int.ofNat_sub c] at a;exact a
theorem wo15a {w0 w:World}{B p d:Nat}{h:Value}{pl:Bool}{how:List Int}(E:WE w0 B p h pl how)(C:PcC w0 B p h pl how d){c:UInt8}{n:Nat}{a:List ya}{q:ya}{v:Value}{st:WS} (N:yg w0 (.mk 15 c [] n false (a++[q])) v) (g:Below B w0 w) (hW:WAt w B p h pl st)
  (hF:j4 (yc (fun j t w=>wGo pl how (d-j) t w) (.mk 15 c [] n false (a++[q])) st)) (hb:st.bound+20*(d+1)<=1000) (M:n<=20) (hO:∀ i,i < a.length->okP d (a.getD i .zero)) (hq:okP d q) :
  Calls Tryz.prog 89 #[.pointer (some ⟨p,0,none⟩),v] w fun e w'=>kx B p h pl w (yc (fun j t w=>wGo pl how (d-j) t w) (.mk 15 c [] n false (a++[q])) st) e w':=by
 obtain⟨ao,cap,rfl,hK,hn,bv,a3,bu,a4⟩:=yze N (by omega) E.hB g.size;have hB:=E.hB;have L:st.bound+20*d<=1000:=by omega
 have m:yc (fun j t w=>wGo pl how (d-j) t w) (.mk 15 c [] n false (a++[q])) st={ (wGo pl how d q ((a.foldl (fun w t=>wGo pl how d t w) ((st.put [70]).bind n)).put [69])) with bound:=(wGo pl how d q ((a.foldl (fun w t=>wGo pl how d t w) ((st.put [70]).bind n)).put [69])).bound-n }:=by simp[yc,ya.kind,ya.kids,ya.num,ya.flag,ya.name,List.getLastD_eq_getLast?]
 rw[m] at hF |-;have HE:=lh E;have HC:=lh C;have HK:=lh hK;have HL:=lh g;have HW:=lh hW;have HF:=lh hF;have bn:=lh L;have W:=lh hb;clear E C hK N g hW hF m hb L;have a2:=W.out;have a1:st.bound<=1000:=by omega
 have f:((st.put [70]).bind n).bound+20*d<=1000:=by simp only[yv,yai];omega
 have k:((a.foldl (fun w t=>wGo pl how d t w) ((st.put [70]).bind n)).put [69]).bound+20*d<=1000:=by rw[yv,k6 (fun w t=>yae pl how d t w)];exact f
 have l:n<=(wGo pl how d q ((a.foldl (fun w t=>wGo pl how d t w) ((st.put [70]).bind n)).put [69])).bound/\(wGo pl how d q ((a.foldl (fun w t=>wGo pl how d t w) ((st.put [70]).bind n)).put [69])).bound<=1000:=by rw[yae,yv,k6 (fun w t=>yae pl how d t w)];simp only[yv,yai] at f |-;omega
 have I:Hid (j4 (wGo pl how d q ((a.foldl (fun w t=>wGo pl how d t w) ((st.put [70]).bind n)).put [69]))):=lh (HF.out.of ⟨⟨List.prefix_refl _,List.prefix_refl _,List.prefix_refl _,List.prefix_refl _,List.prefix_refl _⟩,Nat.le_refl _,rfl⟩);have H:=lh (I.out.of (qx pl how d q ((a.foldl (fun w t=>wGo pl how d t w) ((st.put [70]).bind n)).put [69])));have G:=lh (H.out.of (yw (a.foldl (fun w t=>wGo pl how d t w) ((st.put [70]).bind n)) [69]));have ae:=lh (G.out.of (z6 (fun w t=>qx pl how d t w) a ((st.put [70]).bind n)));have ad:=ae;have F:=ad;have ac:=lh (F.out.of (ybt (st.put [70]) n));obtain⟨kb,D,rfl⟩:=HK.out.nn (by simp);obtain⟨u0,u1,u2,u3,u4,u5,e0,e1,e2,e3,e4,e5,tr⟩:=vj HK.out;have KK:yed w0 kb (D+a.length*6) (D+a.length*6+1) (D+a.length*6+2) (D+a.length*6+3) (D+a.length*6+4) (D+a.length*6+5) u0 u1 u2 u3 u4 u5:=⟨e0,e1,e2,e3,e4,e5⟩;have ah:=lh KK;have am:=lh tr;have ag:=lh (vk HK.out);have HO:=lh hO;have HQ:=lh hq;have U:=lh f;have V:=lh k;have z:=lh l;rw[show(a++[q]).length=a.length+1 by simp] at a3 |-;clear e0 e1 e2 e3 e4 e5 KK tr hO hq a2 f k l
 go_enter Tryz.func89,Tryz.ntmps89
 go_wp2_with fail
 refine y9 [70] hB (HL.out.alloc a4 _) (HW.out.alloc _) ac.out (by simp) (fun w1 W1 O b1=>?_);have X:=lh ((Fr.alloc B w _).trans O);have au:=lh W1;have ai:=lh b1;have b:=O.cell (ym w _);have an:=lh b;obtain⟨o,r,s,u,x,y⟩:=yn b;clear b O W1 b1
 go_wp2_with fail
 refine ydu hB ai.out au.out M (by rw[yv];exact a1) F.out (fun w2 W2 P b2=>?_);clear o r s u x y;have Y:=lh (X.out.trans P);have av:=lh W2;have aj:=lh b2;have b:=P.cell an.out;have ap:=lh b;obtain⟨o,r,s,u,x,y⟩:=yn b;clear b P W2 b2
 go_wp2_with fail
 refine zy HC.out hB ag.out HO.out aj.out av.out G.out U.out (fun w3 W3 Q b3=>?_);clear o r s u x y;have Z:=lh (Y.out.trans Q);have aw:=lh W3;have ak:=lh b3;have b:=Q.cell ap.out;have aq:=lh b;obtain⟨o,r,s,u,x,y⟩:=yn b;clear b Q W3 b3
 go_wp2_with fail
 refine y9 [69] hB ak.out aw.out H.out (by simp) (fun w4 W4 R b4=>?_);clear o r s u x y;have aa:=lh (Z.out.trans R);have ax:=lh W4;have J:=lh b4;have b:=R.cell aq.out;have ar:=lh b;obtain⟨o,r,s,u,x,y⟩:=yn b;clear b R W4 b4;obtain⟨y0,y1,y2,y3,y4,y5⟩:=ah.out.at hB J.out
 go_wp2_with fail
 refine xr HC.out hB HQ.out am.out J.out ax.out I.out V.out (fun w5 K T b5=>?_);clear o r s u x y;clear y0 y1 y2 y3 y4 y5;obtain⟨S,hS⟩:∃ S,S=(wGo pl how d q ((a.foldl (fun w t=>wGo pl how d t w) ((st.put [70]).bind n)).put [69])):=⟨_,rfl⟩;rw[<-hS] at K z;have al:=lh hS;have c7:=K.bound;have f7:=K.free 7;have A:=yhx K z.out.1;have ay:=lh A.1;have ab:=lh ((aa.out.trans T).trans A.2);have b:=T.cell ar.out;obtain⟨o,r,s,u,x,y⟩:=yn b;obtain⟨r1,r2⟩:=z.out;clear b T K b5 A hS;go_wp2
 go_region
 go_wp2;go_end0
 exact⟨rfl,by rw[<-al.out];exact ay.out.below (Below.drew2 _),ab.out.trans (Fr.of_below (Below.drew2 _))⟩
theorem wo15b {w0 w:World}{B p d:Nat}{h:Value}{pl:Bool}{how:List Int}(E:WE w0 B p h pl how)(C:PcC w0 B p h pl how d){c:UInt8}{n:Nat}{a:List ya}{q:ya}{v:Value}{st:WS} (O:yg w0 (.mk 15 c [] n true (a++[q])) v) (g:Below B w0 w) (hW:WAt w B p h pl st)
  (hF:j4 (yc (fun j t w=>wGo pl how (d-j) t w) (.mk 15 c [] n true (a++[q])) st)) (hb:st.bound+20*(d+1)<=1000) (N:n<=20) (hO:∀ i,i < a.length->okP d (a.getD i .zero)) (hq:okP d q) :
  Calls Tryz.prog 89 #[.pointer (some ⟨p,0,none⟩),v] w fun e w'=>kx B p h pl w (yc (fun j t w=>wGo pl how (d-j) t w) (.mk 15 c [] n true (a++[q])) st) e w':=by
 obtain⟨ao,cap,rfl,hK,hn,b9,a8,b8,a9⟩:=yze O (by omega) E.hB g.size;have hB:=E.hB;have M:st.bound+20*d<=1000:=by omega
 have y:yc (fun j t w=>wGo pl how (d-j) t w) (.mk 15 c [] n true (a++[q])) st={ (wGo pl how d q ((a.foldl (fun w t=>wGo pl how d t w) (((st.put [70]).bind n).put [85])).put [69])) with bound:=(wGo pl how d q ((a.foldl (fun w t=>wGo pl how d t w) (((st.put [70]).bind n).put [85])).put [69])).bound-n }:=by simp[yc,ya.kind,ya.kids,ya.num,ya.flag,ya.name,List.getLastD_eq_getLast?]
 rw[y] at hF |-;have HE:=lh E;have HC:=lh C;have HK:=lh hK;have HL:=lh g;have HW:=lh hW;have HF:=lh hF;have bu:=lh M;have Y:=lh hb;clear E C hK O g hW hF y hb M;have a7:=Y.out;have a6:st.bound<=1000:=by omega
 have f:(((st.put [70]).bind n).put [85]).bound+20*d<=1000:=by simp only[yv,yai];omega
 have u:((a.foldl (fun w t=>wGo pl how d t w) (((st.put [70]).bind n).put [85])).put [69]).bound+20*d<=1000:=by rw[yv,k6 (fun w t=>yae pl how d t w)];exact f
 have x:n<=(wGo pl how d q ((a.foldl (fun w t=>wGo pl how d t w) (((st.put [70]).bind n).put [85])).put [69])).bound/\(wGo pl how d q ((a.foldl (fun w t=>wGo pl how d t w) (((st.put [70]).bind n).put [85])).put [69])).bound<=1000:=by rw[yae,yv,k6 (fun w t=>yae pl how d t w)];simp only[yv,yai] at f |-;omega
 have J:Hid (j4 (wGo pl how d q ((a.foldl (fun w t=>wGo pl how d t w) (((st.put [70]).bind n).put [85])).put [69]))):=lh (HF.out.of ⟨⟨List.prefix_refl _,List.prefix_refl _,List.prefix_refl _,List.prefix_refl _,List.prefix_refl _⟩,Nat.le_refl _,rfl⟩);have I:=lh (J.out.of (qx pl how d q ((a.foldl (fun w t=>wGo pl how d t w) (((st.put [70]).bind n).put [85])).put [69])));have H:=lh (I.out.of (yw (a.foldl (fun w t=>wGo pl how d t w) (((st.put [70]).bind n).put [85])) [69]));have ag:=lh (H.out.of (z6 (fun w t=>qx pl how d t w) a (((st.put [70]).bind n).put [85])));have G:=ag;have F:=lh (G.out.of (yw ((st.put [70]).bind n) [85]));have af:=lh (F.out.of (ybt (st.put [70]) n));obtain⟨kb,D,rfl⟩:=HK.out.nn (by simp);obtain⟨u0,u1,u2,u3,u4,u5,e0,e1,e2,e3,e4,e5,tr⟩:=vj HK.out;have KK:yed w0 kb (D+a.length*6) (D+a.length*6+1) (D+a.length*6+2) (D+a.length*6+3) (D+a.length*6+4) (D+a.length*6+5) u0 u1 u2 u3 u4 u5:=⟨e0,e1,e2,e3,e4,e5⟩;have aj:=lh KK;have aq:=lh tr;have ai:=lh (vk HK.out);have HO:=lh hO;have HQ:=lh hq;have W:=lh f;have X:=lh u;have z:=lh x;rw[show(a++[q]).length=a.length+1 by simp] at a8 |-;clear e0 e1 e2 e3 e4 e5 KK tr hO hq a7 f u x
 go_enter Tryz.func89,Tryz.ntmps89
 go_wp2_with fail
 refine y9 [70] hB (HL.out.alloc a9 _) (HW.out.alloc _) af.out (by simp) (fun w1 W1 P b1=>?_);have Z:=lh ((Fr.alloc B w _).trans P);have ay:=lh W1;have ak:=lh b1;have b:=P.cell (ym w _);have ar:=lh b;obtain⟨k,l,m,o,r,s⟩:=yn b;clear b P W1 b1
 go_wp2_with fail
 refine ydu hB ak.out ay.out N (by rw[yv];exact a6) F.out (fun w2 W2 Q b2=>?_);clear k l m o r s;have aa:=lh (Z.out.trans Q);have az:=lh W2;have al:=lh b2;have b:=Q.cell ar.out;have au:=lh b;obtain⟨k,l,m,o,r,s⟩:=yn b;clear b Q W2 b2
 go_wp2_with fail
 refine y9 [85] hB al.out az.out G.out (by simp) (fun w3 W3 R b3=>?_);clear k l m o r s;have ab:=lh (aa.out.trans R);have a0:=lh W3;have am:=lh b3;have b:=R.cell au.out;have av:=lh b;obtain⟨k,l,m,o,r,s⟩:=yn b;clear b R W3 b3
 go_wp2_with fail
 refine zy HC.out hB ai.out HO.out am.out a0.out H.out W.out (fun w4 W4 T b4=>?_);clear k l m o r s;have ac:=lh (ab.out.trans T);have a1:=lh W4;have an:=lh b4;have b:=T.cell av.out;have aw:=lh b;obtain⟨k,l,m,o,r,s⟩:=yn b;clear b T W4 b4
 go_wp2_with fail
 refine y9 [69] hB an.out a1.out I.out (by simp) (fun w5 W5 U b5=>?_);clear k l m o r s;have ad:=lh (ac.out.trans U);have a2:=lh W5;have K:=lh b5;have b:=U.cell aw.out;have ax:=lh b;obtain⟨k,l,m,o,r,s⟩:=yn b;clear b U W5 b5;obtain⟨y0,y1,y2,y3,y4,y5⟩:=aj.out.at hB K.out
 go_wp2_with fail
 refine xr HC.out hB HQ.out aq.out K.out a2.out J.out X.out (fun w6 L V b6=>?_);clear k l m o r s;clear y0 y1 y2 y3 y4 y5;obtain⟨S,hS⟩:∃ S,S=(wGo pl how d q ((a.foldl (fun w t=>wGo pl how d t w) (((st.put [70]).bind n).put [85])).put [69])):=⟨_,rfl⟩;rw[<-hS] at L z;have ap:=lh hS;have c7:=L.bound;have f7:=L.free 7;have A:=yhx L z.out.1;have a3:=lh A.1;have ae:=lh ((ad.out.trans V).trans A.2);have b:=V.cell ax.out;obtain⟨k,l,m,o,r,s⟩:=yn b;obtain⟨r1,r2⟩:=z.out;clear b V L b6 A hS;go_wp2
 go_region
 go_wp2;go_end0
 exact⟨rfl,by rw[<-ap.out];exact a3.out.below (Below.drew2 _),ae.out.trans (Fr.of_below (Below.drew2 _))⟩
theorem wo15c {w0 w:World}{B p d:Nat}{h:Value}{pl:Bool}{how:List Int}(E:WE w0 B p h pl how)(C:PcC w0 B p h pl how d){c:UInt8}{nm:List UInt8}{n:Nat}{a:List ya}{q:ya}{v:Value}{st:WS} (R:yg w0 (.mk 15 c nm n false (a++[q])) v) (s:Below B w0 w) (hW:WAt w B p h pl st)
  (hF:j4 (yc (fun j t w=>wGo pl how (d-j) t w) (.mk 15 c nm n false (a++[q])) st)) (hb:st.bound+20*(d+1)<=1000) (Q:n<=20) (T:nm≠[]) (F:ybe nm=true) (hO:∀ i,i < a.length->okP d (a.getD i .zero)) (hq:okP d q) :
  Calls Tryz.prog 89 #[.pointer (some ⟨p,0,none⟩),v] w fun e w'=>kx B p h pl w (yc (fun j t w=>wGo pl how (d-j) t w) (.mk 15 c nm n false (a++[q])) st) e w':=by
 obtain⟨ao,cap,rfl,hK,hn,cn,bh,cm,bi⟩:=yze R (by omega) E.hB s.size;have hB:=E.hB;have P:st.bound+20*d<=1000:=by omega
 have y:yc (fun j t w=>wGo pl how (d-j) t w) (.mk 15 c nm n false (a++[q])) st={ (wGo pl how d q ((a.foldl (fun w t=>wGo pl how d t w) (((st.put [70]).bind n).put (75::qs nm))).put [69])) with bound:=(wGo pl how d q ((a.foldl (fun w t=>wGo pl how d t w) (((st.put [70]).bind n).put (75::qs nm))).put [69])).bound-n }:=by simp[yc,ya.kind,ya.kids,ya.num,ya.flag,ya.name,List.getLastD_eq_getLast?,T]
 rw[y] at hF |-;have HE:=lh E;have HC:=lh C;have HK:=lh hK;have HL:=lh s;have HW:=lh hW;have HF:=lh hF;have cf:=lh P;have ad:=lh hb;clear E C hK R s hW hF y hb P;have bg:=ad.out;have bf:st.bound<=1000:=by omega
 have f:(((st.put [70]).bind n).put (75::qs nm)).bound+20*d<=1000:=by simp only[yv,yai];omega
 have u:((a.foldl (fun w t=>wGo pl how d t w) (((st.put [70]).bind n).put (75::qs nm))).put [69]).bound+20*d<=1000:=by rw[yv,k6 (fun w t=>yae pl how d t w)];exact f
 have x:n<=(wGo pl how d q ((a.foldl (fun w t=>wGo pl how d t w) (((st.put [70]).bind n).put (75::qs nm))).put [69])).bound/\(wGo pl how d q ((a.foldl (fun w t=>wGo pl how d t w) (((st.put [70]).bind n).put (75::qs nm))).put [69])).bound<=1000:=by rw[yae,yv,k6 (fun w t=>yae pl how d t w)];simp only[yv,yai] at f |-;omega
 have M:Hid (j4 (wGo pl how d q ((a.foldl (fun w t=>wGo pl how d t w) (((st.put [70]).bind n).put (75::qs nm))).put [69]))):=lh (HF.out.of ⟨⟨List.prefix_refl _,List.prefix_refl _,List.prefix_refl _,List.prefix_refl _,List.prefix_refl _⟩,Nat.le_refl _,rfl⟩);have L:=lh (M.out.of (qx pl how d q ((a.foldl (fun w t=>wGo pl how d t w) (((st.put [70]).bind n).put (75::qs nm))).put [69])));have K:=lh (L.out.of (yw (a.foldl (fun w t=>wGo pl how d t w) (((st.put [70]).bind n).put (75::qs nm))) [69]));have J:=lh (K.out.of (z6 (fun w t=>qx pl how d t w) a (((st.put [70]).bind n).put (75::qs nm))));have an:=lh (J.out.of (yw ((st.put [70]).bind n) (75::qs nm)));have H:=lh (ygu F T);have cb:=yf0 F T;have I:=an;have am:=lh (I.out.of (ybt (st.put [70]) n));obtain⟨kb,G,rfl⟩:=HK.out.nn (by simp);obtain⟨u0,u1,u2,u3,u4,u5,e0,e1,e2,e3,e4,e5,tr⟩:=vj HK.out;have KK:yed w0 kb (G+a.length*6) (G+a.length*6+1) (G+a.length*6+2) (G+a.length*6+3) (G+a.length*6+4) (G+a.length*6+5) u0 u1 u2 u3 u4 u5:=⟨e0,e1,e2,e3,e4,e5⟩;have ar:=lh KK;have az:=lh tr;have aq:=lh (vk HK.out);have HO:=lh hO;have HQ:=lh hq;have ab:=lh f;have ac:=lh u;have z:=lh x;rw[show(a++[q]).length=a.length+1 by simp] at bh |-;clear e0 e1 e2 e3 e4 e5 KK tr hO hq bg f u x;have cc:nm.isEmpty=false:=by cases nm;exact absurd rfl T;rfl
 clear F
 go_enter Tryz.func89,Tryz.ntmps89
 go_wp2_with fail
 refine y9 [70] hB (HL.out.alloc bi _) (HW.out.alloc _) am.out (by simp) (fun w1 W1 U b1=>?_);have af:=lh ((Fr.alloc B w _).trans U);have a6:=lh W1;have au:=lh b1;have b:=U.cell (ym w _);have a0:=lh b;obtain⟨g,k,l,m,o,r⟩:=yn b;clear b U W1 b1
 go_wp2_with fail
 refine ydu hB au.out a6.out Q (by rw[yv];exact bf) I.out (fun w2 W2 V b2=>?_);clear g k l m o r;have ag:=lh (af.out.trans V);have a7:=lh W2;have A:=lh b2;have b:=V.cell a0.out;have a1:=lh b;obtain⟨g,k,l,m,o,r⟩:=yn b;clear b V W2 b2
 go_wp2_with fail
 refine ycq HE.out A.out a7.out (ymk nm (by have:=H.out.2;omega) H.out.1 _ (yf3 HE.out A.out).1 (yf3 HE.out A.out).2) (fun w3 W3 W b3=>?_);clear g k l m o r;have ah:=lh (ag.out.trans W);have a8:=lh W3;have av:=lh b3;have b:=W.cell a1.out;have a2:=lh b;obtain⟨g,k,l,m,o,r⟩:=yn b;clear b W W3 b3
 go_wp2_with fail
 refine y9 (75::qs nm) hB av.out a8.out J.out (by simp;omega) (fun w4 W4 X b4=>?_);clear g k l m o r;have ai:=lh (ah.out.trans X);have a9:=lh W4;have aw:=lh b4;have b:=X.cell a2.out;have a3:=lh b;obtain⟨g,k,l,m,o,r⟩:=yn b;clear b X W4 b4
 go_wp2_with fail
 refine zy HC.out hB aq.out HO.out aw.out a9.out K.out ab.out (fun w5 W5 Y b5=>?_);clear g k l m o r;have aj:=lh (ai.out.trans Y);have ba:=lh W5;have ax:=lh b5;have b:=Y.cell a3.out;have a4:=lh b;obtain⟨g,k,l,m,o,r⟩:=yn b;clear b Y W5 b5
 go_wp2_with fail
 refine y9 [69] hB ax.out ba.out L.out (by simp) (fun w6 W6 Z b6=>?_);clear g k l m o r;have ak:=lh (aj.out.trans Z);have bb:=lh W6;have N:=lh b6;have b:=Z.cell a4.out;have a5:=lh b;obtain⟨g,k,l,m,o,r⟩:=yn b;clear b Z W6 b6;obtain⟨y0,y1,y2,y3,y4,y5⟩:=ar.out.at hB N.out
 go_wp2_with fail
 refine xr HC.out hB HQ.out az.out N.out bb.out M.out ac.out (fun w7 O F7 b7=>?_);clear g k l m o r;clear y0 y1 y2 y3 y4 y5;obtain⟨S,hS⟩:∃ S,S=(wGo pl how d q ((a.foldl (fun w t=>wGo pl how d t w) (((st.put [70]).bind n).put (75::qs nm))).put [69])):=⟨_,rfl⟩;rw[<-hS] at O z;have ay:=lh hS;have c7:=O.bound;have f7:=O.free 7;have D:=yhx O z.out.1;have bc:=lh D.1;have al:=lh ((ak.out.trans F7).trans D.2);have b:=F7.cell a5.out;obtain⟨g,k,l,m,o,r⟩:=yn b;obtain⟨r1,r2⟩:=z.out;clear b F7 O b7 D hS;go_wp2
 go_region
 go_wp2;go_end0
 exact⟨rfl,by rw[<-ay.out];exact bc.out.below (Below.drew2 _),al.out.trans (Fr.of_below (Below.drew2 _))⟩
theorem wo15d {w0 w:World}{B p d:Nat}{h:Value}{pl:Bool}{how:List Int}(E:WE w0 B p h pl how)(C:PcC w0 B p h pl how d){c:UInt8}{nm:List UInt8}{n:Nat}{a:List ya}{q:ya}{v:Value}{st:WS} (T:yg w0 (.mk 15 c nm n true (a++[q])) v) (s:Below B w0 w) (hW:WAt w B p h pl st)
  (hF:j4 (yc (fun j t w=>wGo pl how (d-j) t w) (.mk 15 c nm n true (a++[q])) st)) (hb:st.bound+20*(d+1)<=1000) (R:n<=20) (U:nm≠[]) (F:ybe nm=true) (hO:∀ i,i < a.length->okP d (a.getD i .zero)) (hq:okP d q) :
  Calls Tryz.prog 89 #[.pointer (some ⟨p,0,none⟩),v] w fun e w'=>kx B p h pl w (yc (fun j t w=>wGo pl how (d-j) t w) (.mk 15 c nm n true (a++[q])) st) e w':=by
 obtain⟨ao,cap,rfl,hK,hn,cv,bm,cu,bn⟩:=yze T (by omega) E.hB s.size;have hB:=E.hB;have Q:st.bound+20*d<=1000:=by omega
 have y:yc (fun j t w=>wGo pl how (d-j) t w) (.mk 15 c nm n true (a++[q])) st={ (wGo pl how d q ((a.foldl (fun w t=>wGo pl how d t w) ((((st.put [70]).bind n).put [85]).put (75::qs nm))).put [69])) with bound:=(wGo pl how d q ((a.foldl (fun w t=>wGo pl how d t w) ((((st.put [70]).bind n).put [85]).put (75::qs nm))).put [69])).bound-n }:=by simp[yc,ya.kind,ya.kids,ya.num,ya.flag,ya.name,List.getLastD_eq_getLast?,U]
 rw[y] at hF |-;have HE:=lh E;have HC:=lh C;have HK:=lh hK;have HL:=lh s;have HW:=lh hW;have HF:=lh hF;have cn:=lh Q;have af:=lh hb;clear E C hK T s hW hF y hb Q;have bl:=af.out;have bk:st.bound<=1000:=by omega
 have f:((((st.put [70]).bind n).put [85]).put (75::qs nm)).bound+20*d<=1000:=by simp only[yv,yai];omega
 have u:((a.foldl (fun w t=>wGo pl how d t w) ((((st.put [70]).bind n).put [85]).put (75::qs nm))).put [69]).bound+20*d<=1000:=by rw[yv,k6 (fun w t=>yae pl how d t w)];exact f
 have x:n<=(wGo pl how d q ((a.foldl (fun w t=>wGo pl how d t w) ((((st.put [70]).bind n).put [85]).put (75::qs nm))).put [69])).bound/\(wGo pl how d q ((a.foldl (fun w t=>wGo pl how d t w) ((((st.put [70]).bind n).put [85]).put (75::qs nm))).put [69])).bound<=1000:=by rw[yae,yv,k6 (fun w t=>yae pl how d t w)];simp only[yv,yai] at f |-;omega
 have N:Hid (j4 (wGo pl how d q ((a.foldl (fun w t=>wGo pl how d t w) ((((st.put [70]).bind n).put [85]).put (75::qs nm))).put [69]))):=lh (HF.out.of ⟨⟨List.prefix_refl _,List.prefix_refl _,List.prefix_refl _,List.prefix_refl _,List.prefix_refl _⟩,Nat.le_refl _,rfl⟩);have M:=lh (N.out.of (qx pl how d q ((a.foldl (fun w t=>wGo pl how d t w) ((((st.put [70]).bind n).put [85]).put (75::qs nm))).put [69])));have L:=lh (M.out.of (yw (a.foldl (fun w t=>wGo pl how d t w) ((((st.put [70]).bind n).put [85]).put (75::qs nm))) [69]));have K:=lh (L.out.of (z6 (fun w t=>qx pl how d t w) a ((((st.put [70]).bind n).put [85]).put (75::qs nm))));have J:=lh (K.out.of (yw (((st.put [70]).bind n).put [85]) (75::qs nm)));have H:=lh (ygu F U);have cj:=yf0 F U;have I:=lh (J.out.of (yw ((st.put [70]).bind n) [85]));have aq:=lh (I.out.of (ybt (st.put [70]) n));obtain⟨kb,G,rfl⟩:=HK.out.nn (by simp);obtain⟨u0,u1,u2,u3,u4,u5,e0,e1,e2,e3,e4,e5,tr⟩:=vj HK.out;have KK:yed w0 kb (G+a.length*6) (G+a.length*6+1) (G+a.length*6+2) (G+a.length*6+3) (G+a.length*6+4) (G+a.length*6+5) u0 u1 u2 u3 u4 u5:=⟨e0,e1,e2,e3,e4,e5⟩;have av:=lh KK;have a2:=lh tr;have au:=lh (vk HK.out);have HO:=lh hO;have HQ:=lh hq;have ad:=lh f;have ae:=lh u;have z:=lh x;rw[show(a++[q]).length=a.length+1 by simp] at bm |-;clear e0 e1 e2 e3 e4 e5 KK tr hO hq bl f u x;have ck:nm.isEmpty=false:=by cases nm;exact absurd rfl U;rfl
 clear F
 go_enter Tryz.func89,Tryz.ntmps89
 go_wp2_with fail
 refine y9 [70] hB (HL.out.alloc bn _) (HW.out.alloc _) aq.out (by simp) (fun w1 W1 V b1=>?_);have ah:=lh ((Fr.alloc B w _).trans V);have ba:=lh W1;have aw:=lh b1;have b:=V.cell (ym w _);have a3:=lh b;obtain⟨g,k,l,m,o,r⟩:=yn b;clear b V W1 b1
 go_wp2_with fail
 refine ydu hB aw.out ba.out R (by rw[yv];exact bk) I.out (fun w2 W2 W b2=>?_);clear g k l m o r;have ai:=lh (ah.out.trans W);have bb:=lh W2;have ax:=lh b2;have b:=W.cell a3.out;have a4:=lh b;obtain⟨g,k,l,m,o,r⟩:=yn b;clear b W W2 b2
 go_wp2_with fail
 refine y9 [85] hB ax.out bb.out J.out (by simp) (fun w3 W3 X b3=>?_);clear g k l m o r;have aj:=lh (ai.out.trans X);have bc:=lh W3;have A:=lh b3;have b:=X.cell a4.out;have a5:=lh b;obtain⟨g,k,l,m,o,r⟩:=yn b;clear b X W3 b3
 go_wp2_with fail
 refine ycq HE.out A.out bc.out (ymk nm (by have:=H.out.2;omega) H.out.1 _ (yf3 HE.out A.out).1 (yf3 HE.out A.out).2) (fun w4 W4 Y b4=>?_);clear g k l m o r;have ak:=lh (aj.out.trans Y);have bd:=lh W4;have ay:=lh b4;have b:=Y.cell a5.out;have a6:=lh b;obtain⟨g,k,l,m,o,r⟩:=yn b;clear b Y W4 b4
 go_wp2_with fail
 refine y9 (75::qs nm) hB ay.out bd.out K.out (by simp;omega) (fun w5 W5 Z b5=>?_);clear g k l m o r;have al:=lh (ak.out.trans Z);have be:=lh W5;have az:=lh b5;have b:=Z.cell a6.out;have a7:=lh b;obtain⟨g,k,l,m,o,r⟩:=yn b;clear b Z W5 b5
 go_wp2_with fail
 refine zy HC.out hB au.out HO.out az.out be.out L.out ad.out (fun w6 W6 F6 b6=>?_);clear g k l m o r;have am:=lh (al.out.trans F6);have bf:=lh W6;have a0:=lh b6;have b:=F6.cell a7.out;have a8:=lh b;obtain⟨g,k,l,m,o,r⟩:=yn b;clear b F6 W6 b6
 go_wp2_with fail
 refine y9 [69] hB a0.out bf.out M.out (by simp) (fun w7 W7 F7 b7=>?_);clear g k l m o r;have an:=lh (am.out.trans F7);have bg:=lh W7;have O:=lh b7;have b:=F7.cell a8.out;have a9:=lh b;obtain⟨g,k,l,m,o,r⟩:=yn b;clear b F7 W7 b7;obtain⟨y0,y1,y2,y3,y4,y5⟩:=av.out.at hB O.out
 go_wp2_with fail
 refine xr HC.out hB HQ.out a2.out O.out bg.out N.out ae.out (fun w8 P F8 b8=>?_);clear g k l m o r;clear y0 y1 y2 y3 y4 y5;obtain⟨S,hS⟩:∃ S,S=(wGo pl how d q ((a.foldl (fun w t=>wGo pl how d t w) ((((st.put [70]).bind n).put [85]).put (75::qs nm))).put [69])):=⟨_,rfl⟩;rw[<-hS] at P z;have a1:=lh hS;have c7:=P.bound;have f7:=P.free 7;have D:=yhx P z.out.1;have bh:=lh D.1;have ap:=lh ((an.out.trans F8).trans D.2);have b:=F8.cell a9.out;obtain⟨g,k,l,m,o,r⟩:=yn b;obtain⟨r1,r2⟩:=z.out;clear b F8 P b8 D hS;go_wp2
 go_region
 go_wp2;go_end0
 exact⟨rfl,by rw[<-a1.out];exact bh.out.below (Below.drew2 _),ap.out.trans (Fr.of_below (Below.drew2 _))⟩
def yu4 (e:Nat)(t:ya):Prop:=∃ b l nm n f p bs,t=.mk 17 l nm n f (p::bs)/\b<=20/\(Rt .path (e+1) b p/\p.wt<=300)/\∀ i,i < bs.length->∃ nm2 n2 f2 l2 t,bs.getD i .zero=.mk 18 l2 nm2 n2 f2 [t]/\zh nm2=true/\Rt .type e b t/\t.wt<=300
theorem ygo {d b:Nat}{t:ya}(hb:b<=20)(c:t.wt<=300)(h:Rt .bound d b t):∃ e,d=e+2/\yu4 e t:=by
 cases h with
 | @bound e _ l nm n f p j k m o=>
  refine⟨e,rfl,b,l,nm,n,f,p,j,rfl,hb,⟨k,vd (i:=0) (by simp) c⟩,fun i hi=>?_⟩;obtain⟨nm2,n2,f2,l2,t,g,q⟩:=m i hi;have:=o i hi;rw[g] at this;have a:(j.getD i .zero).wt<=300:=vd (i:=i+1) (by simpa using hi) c;rw[g] at a;exact⟨nm2,n2,f2,l2,t,g,q,this,vd (i:=0) (by simp) a⟩
theorem yon {nm:List UInt8}(h:zh nm=true):(vr nm).length<=74000:=ygp (.inr h)
theorem ylj (pl:Bool)(how:List Int)(e:Nat)(w:WS)(t:ya):InX w (ya6 (wGo pl how e) w t):=(yw _ _).trans (qx _ _ _ _ _)
theorem yt3 (pl:Bool)(how:List Int)(e:Nat)(w:WS)(t:ya):(ya6 (wGo pl how e) w t).bound=w.bound:=by unfold ya6;rw[yae,yv]
theorem wo16 {w0 w:World}{B p d:Nat}{h:Value}{pl:Bool}{how:List Int}(E:WE w0 B p h pl how)(C:PcC w0 B p h pl how d){c:UInt8}{nm:List UInt8}{n:Nat}{f:Bool}{a:List ya}{l2:UInt8}{nm2:List UInt8}{m:Nat}{f2:Bool}{e:Nat}{v:Value}{st:WS} (cr:yg w0 (.mk 16 c nm n f (a++[(.mk 19 l2 nm2 m f2 [])])) v) (V:Below B w0 w) (hW:WAt w B p h pl st)
  (hF:j4 (yc (fun j t w=>wGo pl how (d-j) t w) (.mk 16 c nm n f (a++[(.mk 19 l2 nm2 m f2 [])])) st)) (hb:st.bound+20*(d+1)<=1000) (hd:d=e+2) (C1:PcC w0 B p h pl how (e+1)) (C0:PcC w0 B p h pl how e) (cq:n<=20) (hO:∀ i,i < a.length->yu4 e (a.getD i .zero)) (hq:okA d (.mk 19 l2 nm2 m f2 [])) :
  Calls Tryz.prog 89 #[.pointer (some ⟨p,0,none⟩),v] w fun e w'=>kx B p h pl w (yc (fun j t w=>wGo pl how (d-j) t w) (.mk 16 c nm n f (a++[(.mk 19 l2 nm2 m f2 [])])) st) e w':=by
 obtain⟨ao,cap,rfl,hK,hn,fp,ek,fn,el⟩:=yze cr (by omega) E.hB V.size;have hB:=E.hB;have cm:st.bound+20*d<=1000:=by omega
 have g:yc (fun j t w=>wGo pl how (d-j) t w) (.mk 16 c nm n f (a++[(.mk 19 l2 nm2 m f2 [])])) st=vb (wGo pl how d) (.mk 19 l2 nm2 m f2 []) (({ (a.foldl (fun w t=>wBd (wGo pl how (d-1)) (wGo pl how (d-2)) t w) ((st.put [68]).bind n)) with bound:=(a.foldl (fun w t=>wBd (wGo pl how (d-1)) (wGo pl how (d-2)) t w) ((st.put [68]).bind n)).bound-n } : WS).put [69]):=by simp[yc,ya.kind,ya.kids,ya.num,List.getLastD_eq_getLast?]
 rw[g] at hF |-;have HE:=lh E;have HC:=lh C;have HK:=lh hK;have HL:=lh V;have HW:=lh hW;have HF:=lh hF;have fd:=lh cm;have bl:=lh hb;clear E C hK cr V hW hF g hb cm;subst hd;have be:=bl.out;have ej:st.bound<=1000:=by omega
 obtain⟨G,hG⟩:∃ G:WS->ya->WS,G=fun w t=>wBd (wGo pl how (e+1)) (wGo pl how e) t w:=⟨_,rfl⟩;obtain⟨R,T⟩:∃ R:WS,R=(st.put [68]).bind n:=⟨_,rfl⟩;obtain⟨L,U⟩:∃ L:WS,L=a.foldl G R:=⟨_,rfl⟩;have al:a.foldl (fun w t=>wBd (wGo pl how (e+2-1)) (wGo pl how (e+2-2)) t w) ((st.put [68]).bind n)=L:=by rw[U,hG,T];rfl
 rw[al] at HF |-;have ba:∀ w t,InX w (G w t):=fun w t=>by rw[hG];exact yol (fun t w=>qx pl how (e+1) t w) (fun t w=>qx pl how e t w) t w
 have a9:∀ w t,(G w t).bound=w.bound:=fun w t=>by rw[hG];exact yqu (fun t w=>yae pl how (e+1) t w) (fun t w=>yae pl how e t w) t w
 have bd:R.bound=st.bound+n:=by rw[T,yai,yv]
 have ei:L.bound=st.bound+n:=by rw[U,k6 a9,bd]
 have bu:=lh (HF.out.of (yfa (fun t w=>qx pl how (e+2) t w) (.mk 19 l2 nm2 m f2 []) (({ L with bound:=L.bound-n } : WS).put [69])));have dj:=lh (bu.out.of (yw ({ L with bound:=L.bound-n } : WS) [69]));have bt:=lh (dj.out.of (ync L (L.bound-n)));have br:Hid (j4 R):=lh (bt.out.of (by rw[U];exact z6 ba a R));have di:Hid (j4 (st.put [68])):=lh (br.out.of (by rw[T];exact ybt _ n));have c3:Hid ((({ L with bound:=L.bound-n } : WS).put [69]).bound+20*(e+2)<=1000):=lh (by rw[yv];show L.bound-n+20*(e+2)<=1000;omega);have c0:Hid (R.bound=st.bound+n):=lh bd;have bi:Hid (n<=L.bound/\L.bound<=1000):=lh (by omega);have dn:=lh ba;have dl:=lh a9;have dm:=lh hG;have b0:=lh T;have b7:=lh U;obtain⟨kb,ko,rfl⟩:=HK.out.nn (by simp);obtain⟨u0,u1,u2,u3,u4,u5,e0,e1,e2,e3,e4,e5,O⟩:=vj HK.out;have Q:yed w0 kb (ko+a.length*6) (ko+a.length*6+1) (ko+a.length*6+2) (ko+a.length*6+3) (ko+a.length*6+4) (ko+a.length*6+5) u0 u1 u2 u3 u4 u5:=⟨e0,e1,e2,e3,e4,e5⟩;have dt:=lh Q;have d3:=lh O;have ds:=lh (vk HK.out);have HO:=lh hO;have HQ:=lh hq;have bm:=lh C1;have c5:=lh C0;have c6:=lh (yo3 HC.out hB);rw[show(a++[((.mk 19 l2 nm2 m f2 []):ya)]).length=a.length+1 by simp] at ek |-;clear e0 e1 e2 e3 e4 e5 Q O hO hq be hG T U al ba a9 bd ei C1 C0
 go_enter Tryz.func89,Tryz.ntmps89
 go_wp2_with fail
 refine y9 [68] hB (HL.out.alloc el _) (HW.out.alloc _) di.out (by simp) (fun w1 W1 F1 b1=>?_);have da:=lh ((Fr.alloc B w _).trans F1);have d8:=lh W1;have du:=lh b1;have u:=F1.cell (ym w _);have d4:=lh u;obtain⟨D,F,H,I,J,K⟩:=yn u;clear u F1 W1 b1
 go_wp2_with fail
 refine ydu hB du.out d8.out cq (by rw[yv];exact ej) (by rw[<-b0.out];exact br.out) (fun w2 W2 F2 b2=>?_);clear D F H I J K;rw[<-b0.out] at W2;have db:=lh (da.out.trans F2);have d9:=lh W2;have dv:=lh b2;have u:=F2.cell d4.out;have b9:=lh u;obtain⟨D,F,H,I,J,K⟩:=yn u;clear u F2 W2 b2;go_wp2
 go_loopw [74] (fun i wr=>∃ (k:Nat) (s:WS),k<=a.length/\i=.int .i64 k/\Below B w0 wr/\Fr B w2 wr/\WAt wr B p h pl s/\Hid (s=(a.take k).foldl G R)) (fun i _=>a.length-(intOf i).toNat)
 case atStart=>exact⟨0,R,by omega,rfl,dv.out,Fr.refl _ _,d9.out,lh rfl⟩
 case round=>
  clear D F H I J K;obtain⟨k,s,hk,rfl,l,r,o,HS⟩:=hrel
  by_cases ai:k < a.length
  ·obtain⟨v0,v1,v2,v3,v4,v5,Q,O⟩:=ds.out.elB k ai
   obtain⟨b,qc,f1,qn,qf,q,A,hq,am,ck,cj⟩:=HO.out k ai;have z:(a.take (k+1)).foldl G R=G s (a.getD k .zero):=by
    rw[HS.out,lts ai,List.foldl_append,lgd,lge ai];rfl
   have g:a.foldl G R=(a.drop (k+1)).foldl G (G s (a.getD k .zero)):=by
    rw[<-z,<-List.foldl_append,List.take_append_drop]
   have y:j4 (G s (a.getD k .zero)):=bt.out.of (by rw[b7.out,g];exact z6 dn.out _ _);have ag:s.bound=st.bound+n:=by rw[HS.out,k6 dl.out];exact c0.out
   have S:G s (a.getD k .zero)=A.foldl (ya6 (wGo pl how e)) (wGo pl how (e+1) q s):=by rw[hq,dm.out];rfl
   have be:=bl.out;have bj:Hid (s.bound+20*(e+1)<=1000):=lh (by omega);have bk:Hid ((wGo pl how (e+1) q s).bound+20*e<=1000):=lh (by rw[yae];omega);rw[S] at z y;rw[hq] at O;obtain⟨kv,ep,cu,er,eq,en,eo,ct,rfl,rfl,rfl,rfl,rfl,rfl⟩:=O.shape;obtain⟨fj,ch,hv,M,-,-⟩:=yo O (by omega);simp only[Value.agg.injEq,Array.mk.injEq,List.cons.injEq,and_true] at hv;obtain⟨X,Y,Z,aa,ab,ac⟩:=hv;rw[X,Y,Z,aa,ab,ac] at Q;obtain⟨fr,ft,rfl⟩:=M.nn (by simp);rw[show(q::A).length=A.length+1 by simp] at Q;obtain⟨e0,e1,e2,e3,e4,e5⟩:=Q.at hB l;obtain⟨q0,q1,q2,q3,q4,q5,K0,t0⟩:=M.k0;have x:=l.size;rw[<-hB] at x;obtain⟨z0,z1,z2,z3,z4,z5⟩:=K0.un hB l x;have co:=M.c1;have cp:=M.c2;unfold maxLen at cp;simp only[List.length_cons] at co;have ay:=lh z;have bn:=lh y;have ca:=lh t0;have bw:=lh l;have cb:=lh o;have bo:=lh r;have dq:=lh M;have d0:=lh cj;have ae:=lh ck;have P:=lh am;have bv:Hid (j4 (wGo pl how (e+1) q s)):=lh (y.of (z6 (ylj pl how e) A _));clear Q O l r o z g y ag S be X Y Z aa ab ac M K0 t0 cj ck hq am;obtain⟨S5,bc⟩:∃ S5,S5=wGo pl how (e+1) q s:=⟨_,rfl⟩;have b8:=lh bc;rw[<-bc] at ay bn bk;clear bc
   by_cases cn:ch=1
   ·subst cn
    obtain rfl:A=[]:=List.eq_nil_of_length_eq_zero (by omega);simp only[List.length_nil,Nat.zero_add] at co e5 |-
    go_wp2_with fail
    refine xr bm.out hB ⟨.path,b,.inl rfl,ae.out.1,P.out,ae.out.2⟩ ca.out (bw.out.alloc x _) (cb.out.alloc _) bv.out bj.out (fun w3 W3 F3 b3=>?_);rw[<-b8.out] at W3;have aq:=lh (bo.out.trans ((Fr.alloc B wr _).trans F3));have a0:=lh W3;have av:=lh b3;obtain⟨D,F,H,I,J,K⟩:=yn (F3.cell (ym wr _));clear e0 e1 e2 e3 e4 e5 z0 z1 z2 z3 z4 z5 W3 F3 b3;go_wp2
    go_loopw [88] (fun i wr=>i=.int .i64 0/\Below B w0 wr/\Fr B w2 wr/\WAt wr B p h pl S5) (fun _ _=>0)
    case atStart=>exact⟨rfl,av.out,aq.out,a0.out⟩
    case round=>
     clear D F H I J K;obtain⟨rfl,l,r,o⟩:=hrel;have aw:=lh l;have ar:=lh r;have a1:=lh o;clear l r o;go_wp2
     go_roundw
     case rel=>exact⟨k+1,_,by omega,by go_num,aw.out,ar.out,a1.out,lh ay.out.symm⟩
     case measure=>simp[intOf];omega
   ·go_wp2_with fail
    refine xr bm.out hB ⟨.path,b,.inl rfl,ae.out.1,P.out,ae.out.2⟩ ca.out (bw.out.alloc x _) (cb.out.alloc _) bv.out bj.out (fun w3 W3 F3 b3=>?_);rw[<-b8.out] at W3;have aq:=lh (bo.out.trans ((Fr.alloc B wr _).trans F3));have a0:=lh W3;have av:=lh b3;obtain⟨D,F,H,I,J,K⟩:=yn (F3.cell (ym wr _));clear e0 e1 e2 e3 e4 e5 z0 z1 z2 z3 z4 z5 W3 F3 b3;go_wp2
    go_loopw [88] (fun i wr=>∃ (j:Nat) (N:WS),j<=A.length/\i=.int .i64 j/\Below B w0 wr/\Fr B w2 wr/\WAt wr B p h pl N/\Hid (N=(A.take j).foldl (ya6 (wGo pl how e)) S5)) (fun i _=>A.length-(intOf i).toNat)
    case atStart=>exact⟨0,S5,by omega,rfl,av.out,aq.out,a0.out,lh rfl⟩
    case round=>
     clear D F H I J K;obtain⟨j,N,hj,rfl,l,r,o,az⟩:=hrel
     by_cases ah:j < A.length
     ·obtain⟨y0,y1,y2,y3,y4,y5,Q,O⟩:=(xz dq.out).elB j ah
      obtain⟨nm3,n3,f3,l3,t,ht,W,cl⟩:=d0.out j ah;have z:(A.take (j+1)).foldl (ya6 (wGo pl how e)) S5=ya6 (wGo pl how e) N (A.getD j .zero):=by
       rw[az.out,lts ah,List.foldl_append,lgd,lge ah];rfl
      have g:A.foldl (ya6 (wGo pl how e)) S5=(A.drop (j+1)).foldl (ya6 (wGo pl how e)) (ya6 (wGo pl how e) N (A.getD j .zero)):=by
       rw[<-z,<-List.foldl_append,List.take_append_drop]
      have y:j4 (ya6 (wGo pl how e) N (A.getD j .zero)):=bn.out.of (by rw[g];exact z6 (ylj pl how e) _ _);have ag:N.bound+20*e<=1000:=by rw[az.out,k6 (yt3 pl how e)];exact bk.out
      have S:ya6 (wGo pl how e) N (A.getD j .zero)=wGo pl how e t (N.put (112::vr nm3)):=by rw[ht];rfl
      rw[S] at z y;rw[ht] at O;obtain⟨kv,ep,cu,er,eq,en,eo,ct,rfl,rfl,rfl,rfl,rfl,rfl⟩:=O.shape;obtain⟨fk,ez,hv,bb,-,-⟩:=yo O (by omega);simp only[Value.agg.injEq,Array.mk.injEq,List.cons.injEq,and_true] at hv;obtain⟨X,Y,Z,aa,ab,ac⟩:=hv;rw[X,Y,Z,aa,ab,ac] at Q;obtain⟨fs,fu,rfl⟩:=bb.nn (by simp);obtain⟨e0,e1,e2,e3,e4,e5⟩:=Q.at hB l;obtain⟨q0,q1,q2,q3,q4,q5,K0,t0⟩:=bb.k0;have x:=l.size;rw[<-hB] at x;have fo:=yon W;have c4:Hid ((N.put (112::vr nm3)).bound+20*e<=1000):=lh (by rw[yv];exact ag);have dk:Hid (j4 (N.put (112::vr nm3))):=lh (y.of (qx pl how e t _));have d2:=lh z;have dc:=lh y;have d5:=lh t0;have ax:=lh l;have ea:=lh o;have bp:=lh r;have dr:=lh K0;have bz:=lh cl;have dz:=lh W;clear Q O l r o z g y ag S X Y Z aa ab ac bb K0 t0 cl ht W
      go_wp2_with fail
      refine ycq HE.out (ax.out.alloc x _) (ea.out.alloc _) (yce nm3 (.inr dz.out) _ (yf3 HE.out (ax.out.alloc x _)).1 (yf3 HE.out (ax.out.alloc x _)).2) (fun w4 W4 F4 b4=>?_);have dd:=lh (bp.out.trans ((Fr.alloc B wr _).trans F4));have eb:=lh W4;have dw:=lh b4;have u:=F4.cell (ym wr _);have d6:=lh u;obtain⟨D,F,H,I,J,K⟩:=yn u;clear e0 e1 e2 e3 e4 e5 W4 F4 b4 u
      go_wp2_with fail
      refine y9 (112::vr nm3) hB dw.out eb.out dk.out (by simp;omega) (fun w5 W5 F5 b5=>?_);have au:=lh (dd.out.trans F5);have a2:=lh W5;have ad:=lh b5;have u:=F5.cell d6.out;clear D F H I J K;obtain⟨D,F,H,I,J,K⟩:=yn u;clear W5 F5 b5 u;obtain⟨z0,z1,z2,z3,z4,z5⟩:=dr.out.at hB ad.out
      go_wp2_with fail
      refine xr c5.out hB ⟨.type,b,.inr (.inl rfl),bz.out.1,P.out,bz.out.2⟩ d5.out ad.out a2.out dc.out c4.out (fun w6 W6 F6 b6=>?_);have de:=lh (au.out.trans F6);have ec:=lh W6;have dx:=lh b6;clear D F H I J K z0 z1 z2 z3 z4 z5 W6 F6 b6;go_wp2
      go_roundw
      case rel=>exact⟨j+1,_,by omega,by go_num,dx.out,de.out,ec.out,lh d2.out.symm⟩
      case measure=>simp[intOf];omega
     ·have g:N=A.foldl (ya6 (wGo pl how e)) S5:=by rw[az.out,List.take_of_length_le (by omega)]
      have df:=lh g;have aw:=lh l;have ar:=lh r;have a1:=lh o;clear g l r o;go_wp2
      go_roundw
      case rel=>exact⟨k+1,_,by omega,by go_num,aw.out,ar.out,a1.out,lh (df.out.trans ay.out.symm)⟩
      case measure=>simp[intOf];omega
  ·have g:s=L:=by rw[HS.out,b7.out,List.take_of_length_le (by omega)]
   subst g;have c7:=o.bound;have f7:=o.free 7;have af:=yhx o bi.out.1;have a2:=lh af.1;have au:=lh (r.trans af.2);have u:=r.cell b9.out;have ad:=lh (l.trans (af.2.below (by rw[hB];exact l.size)));obtain⟨D,F,H,I,J,K⟩:=yn u;obtain⟨r1,r2⟩:=bi.out;clear u r o l af;go_wp2
   go_region
   have ed:=lh (a2.out.below (Below.drew2 _));have bq:=lh (au.out.trans (Fr.of_below (Below.drew2 _)));have dy:=lh (ad.out.drew);clear c7 f7 D F H I J K;have u:=bq.out.cell b9.out;have d7:=lh u;obtain⟨D,F,H,I,J,K⟩:=yn u;clear u
   go_wp2_with fail
   refine y9 [69] hB dy.out ed.out bu.out (by simp) (fun w5 W5 F5 b5=>?_);have dg:=lh (bq.out.trans F5);have ee:=lh W5;have bx:=lh b5;have u:=F5.cell d7.out;clear D F H I J K;obtain⟨D,F,H,I,J,K⟩:=yn u;clear W5 F5 b5 u;obtain⟨y0,y1,y2,y3,y4,y5⟩:=dt.out.at hB bx.out
   go_wp2_with fail
   refine xr c6.out hB HQ.out d3.out bx.out ee.out HF.out c3.out (fun w6 W6 F6 b6=>?_);have dh:=lh (db.out.trans (dg.out.trans F6));have ef:=lh W6;clear D F H I J K y0 y1 y2 y3 y4 y5 W6 F6 b6;go_wp2;go_end0;exact⟨rfl,ef.out,dh.out⟩
theorem yt2 {w0 w:World}{B p:Nat}{h:Value}{pl:Bool}{how:List Int}(E:WE w0 B p h pl how){k:Nat}{c:UInt8}{nm:List UInt8}{n:Nat}{f:Bool}{kids:List ya}{v:Value}{st S:WS}(x:1<=k/\k<=6)(b:yg w0 (.mk k c nm n f kids) v)(a:Below B w0 w)(q:WAt w B p h pl st)
  (o:∀ w',Below B w0 w'->WAt w' B p h pl st->Calls Tryz.prog 86 #[.pointer (some ⟨p,0,none⟩),v] w' fun e j=>kx B p h pl w' S e j) :
  Calls Tryz.prog 56 #[.pointer (some ⟨p,0,none⟩),v] w fun e w'=>kx B p h pl w S e w':=by
 obtain⟨ao,cap,rfl,hK,y,u⟩:=yo b (by omega);have i:B<=w.heap.size:=by rw[E.hB];exact a.size
 have z:decide (1<=(k:Int)/\(k:Int)<=6)=true:=by rw[decide_eq_true_eq];omega
 have s:=lh o;have r:=lh a;have t:=lh q;clear o a q b hK E
 go_enter Tryz.func56,Tryz.ntmps56
 go_wp2_with fail
 refine(jy _ _).mono ?_;rintro e w' ⟨rfl,rfl⟩
 go_wp2_with fail
 refine(s.out _ (r.out.alloc i _) (t.out.alloc _)).mono ?_;rintro e w' ⟨rfl,m,l⟩;have g:=lh m;have d:=lh ((Fr.alloc B w _).trans l);clear m l;go_wp2;go_end0;exact⟨rfl,g.out,d.out⟩
theorem yqo {w0 w:World}{B p:Nat}{h:Value}{pl:Bool}{how:List Int}(E:WE w0 B p h pl how){k:Nat}{c:UInt8}{nm:List UInt8}{n:Nat}{f:Bool}{kids:List ya}{v:Value}{st S:WS}(x:7<=k/\k<=14)(b:yg w0 (.mk k c nm n f kids) v)(a:Below B w0 w)(q:WAt w B p h pl st)
  (o:∀ w',Below B w0 w'->WAt w' B p h pl st->Calls Tryz.prog 87 #[.pointer (some ⟨p,0,none⟩),v] w' fun e j=>kx B p h pl w' S e j) :
  Calls Tryz.prog 56 #[.pointer (some ⟨p,0,none⟩),v] w fun e w'=>kx B p h pl w S e w':=by
 obtain⟨ao,cap,rfl,hK,y,u⟩:=yo b (by omega);have i:B<=w.heap.size:=by rw[E.hB];exact a.size
 have z:decide (1<=(k:Int)/\(k:Int)<=6)=false:=by rw[decide_eq_false_iff_not];omega
 have A:decide ((k:Int)<=14)=true:=by rw[decide_eq_true_eq];omega
 have s:=lh o;have r:=lh a;have t:=lh q;clear o a q b hK E
 go_enter Tryz.func56,Tryz.ntmps56
 go_wp2_with fail
 refine(jy _ _).mono ?_;rintro e w' ⟨rfl,rfl⟩
 go_wp2_with fail
 refine(s.out _ (r.out.alloc i _) (t.out.alloc _)).mono ?_;rintro e w' ⟨rfl,m,l⟩;have g:=lh m;have d:=lh ((Fr.alloc B w _).trans l);clear m l;go_wp2;go_end0;exact⟨rfl,g.out,d.out⟩
theorem ykr {w0 w:World}{B p:Nat}{h:Value}{pl:Bool}{how:List Int}(E:WE w0 B p h pl how){k:Nat}{c:UInt8}{nm:List UInt8}{n:Nat}{f:Bool}{kids:List ya}{v:Value}{st S:WS}(x:15<=k/\k<=16)(b:yg w0 (.mk k c nm n f kids) v)(a:Below B w0 w)(q:WAt w B p h pl st)
  (o:∀ w',Below B w0 w'->WAt w' B p h pl st->Calls Tryz.prog 89 #[.pointer (some ⟨p,0,none⟩),v] w' fun e j=>kx B p h pl w' S e j) :
  Calls Tryz.prog 56 #[.pointer (some ⟨p,0,none⟩),v] w fun e w'=>kx B p h pl w S e w':=by
 obtain⟨ao,cap,rfl,hK,y,u⟩:=yo b (by omega);have i:B<=w.heap.size:=by rw[E.hB];exact a.size
 have z:decide (1<=(k:Int)/\(k:Int)<=6)=false:=by rw[decide_eq_false_iff_not];omega
 have A:decide ((k:Int)<=14)=false:=by rw[decide_eq_false_iff_not];omega
 have C:((k:Int) == 20)=false:=by rw[beq_eq_false_iff_ne];omega
 have D:((k:Int) == 21)=false:=by rw[beq_eq_false_iff_ne];omega
 have s:=lh o;have r:=lh a;have t:=lh q;clear o a q b hK E
 go_enter Tryz.func56,Tryz.ntmps56
 go_wp2_with fail
 refine(jy _ _).mono ?_;rintro e w' ⟨rfl,rfl⟩
 go_wp2_with fail
 refine(s.out _ (r.out.alloc i _) (t.out.alloc _)).mono ?_;rintro e w' ⟨rfl,m,l⟩;have g:=lh m;have d:=lh ((Fr.alloc B w _).trans l);clear m l;go_wp2;go_end0;exact⟨rfl,g.out,d.out⟩
theorem ww21 {w0 w:World}{B p d:Nat}{h:Value}{pl:Bool}{how:List Int}(E:WE w0 B p h pl how)(C:PcC w0 B p h pl how d){c:UInt8}{nm:List UInt8}{n:Nat}{f:Bool}{kids:List ya}{v:Value}{st:WS}(i:yg w0 (.mk 21 c nm n f kids) v)(a:Below B w0 w)(s:WAt w B p h pl st)
  (m:j4 (yc (fun j t w=>wGo pl how (d-j) t w) (.mk 21 c nm n f kids) st)) (hb:st.bound+20*(d+1)<=1000) :
  Calls Tryz.prog 56 #[.pointer (some ⟨p,0,none⟩),v] w fun e w'=>kx B p h pl w (yc (fun j t w=>wGo pl how (d-j) t w) (.mk 21 c nm n f kids) st) e w':=by
 obtain⟨ao,cap,rfl,hK,K,G,D,F,o⟩:=yze i (by omega) E.hB a.size;have hB:=E.hB;have g:st.bound+20*d<=1000:=by omega
 have b:yc (fun j t w=>wGo pl how (d-j) t w) (.mk 21 c nm n f kids) st=(st.put [112]):=rfl;rw[b] at m |-;have I:=lh E;have H:=lh C;have J:=lh hK;have z:=lh a;have A:=lh s;have y:=lh m;have u:=lh g;have x:=lh hb;clear E C hK i a s m b hb g
 go_enter Tryz.func56,Tryz.ntmps56
 go_wp2_with fail
 refine(jy _ _).mono ?_;rintro e w' ⟨rfl,rfl⟩
 go_wp2_with fail
 refine y9 [112] hB (z.out.alloc o _) (A.out.alloc _) y.out (by simp) (fun L r q b1=>?_);have k:=lh ((Fr.alloc B w _).trans q);have l:=lh r;clear q r b1;go_wp2;go_end0;exact⟨rfl,l.out,k.out⟩
theorem ww20a {w0 w:World}{B p d:Nat}{h:Value}{pl:Bool}{how:List Int}(E:WE w0 B p h pl how)(C:PcC w0 B p h pl how d){c:UInt8}{nm:List UInt8}{n:Nat}{kids:List ya}{v:Value}{st:WS}(k:yg w0 (.mk 20 c nm n false kids) v)(a:Below B w0 w)(Q:WAt w B p h pl st)
  (I:j4 (yc (fun j t w=>wGo pl how (d-j) t w) (.mk 20 c nm n false kids) st)) (hb:st.bound+20*(d+1)<=1000) :
  Calls Tryz.prog 56 #[.pointer (some ⟨p,0,none⟩),v] w fun e w'=>kx B p h pl w (yc (fun j t w=>wGo pl how (d-j) t w) (.mk 20 c nm n false kids) st) e w':=by
 obtain⟨ao,cap,rfl,hK,R,ai,ag,ah,J⟩:=yze k (by omega) E.hB a.size;have hB:=E.hB;have g:st.bound+20*d<=1000:=by omega
 have b:yc (fun j t w=>wGo pl how (d-j) t w) (.mk 20 c nm n false kids) st=((st.put [c]).put (qi n++[95])):=rfl;rw[b] at I |-;have HE:=lh E;have HC:=lh C;have HK:=lh hK;have HL:=lh a;have HW:=lh Q;have L:=lh I;have Z:=lh g;have aa:=lh hb;clear E C hK k a Q I b hb g;have S:(convert 22 9 (.slice (some ⟨(w.alloc (.cells #[.int .i64 20,.int .u8 c.toNat,.string ⟨nm.toArray⟩,.int .u64 n,.bool false,.slice ao kids.length cap] 28)).heap.size,0,none⟩) 1 1)).run Tryz.prog ((w.alloc (.cells #[.int .i64 20,.int .u8 c.toNat,.string ⟨nm.toArray⟩,.int .u64 n,.bool false,.slice ao kids.length cap] 28)).alloc (.cells #[.int .u8 (c.toNat:Int)] 5))=.ok (.string ⟨#[c]⟩) ((w.alloc (.cells #[.int .i64 20,.int .u8 c.toNat,.string ⟨nm.toArray⟩,.int .u64 n,.bool false,.slice ao kids.length cap] 28)).alloc (.cells #[.int .u8 (c.toNat:Int)] 5)):=by
  have:=yho (w.alloc (.cells #[.int .i64 20,.int .u8 c.toNat,.string ⟨nm.toArray⟩,.int .u64 n,.bool false,.slice ao kids.length cap] 28)) (c.toNat:Int) (by omega) (by have:=c.toNat_lt;omega)
  simpa using this
 simp only[World.size_alloc] at S;have i:Below B w0 ((w.alloc (.cells #[.int .i64 20,.int .u8 c.toNat,.string ⟨nm.toArray⟩,.int .u64 n,.bool false,.slice ao kids.length cap] 28)).alloc (.cells #[.int .u8 (c.toNat:Int)] 5)):=(HL.out.alloc J _).alloc (by simp;omega) _;have A:=lh i;have aj:=yc0 15 n (by simpa using R);have u:=lh (L.out.of (yw (st.put [c]) (qi n++[95])));have s:=u;clear i
 go_enter Tryz.func56,Tryz.ntmps56
 go_wp2_with fail
 refine(jy _ _).mono ?_;rintro e w' ⟨rfl,rfl⟩
 go_wp2_with fail
 refine y9 [c] hB A.out ((HW.out.alloc _).alloc _) s.out (by simp) (fun w1 M l b1=>?_);have o:=lh (((Fr.alloc B w _).trans (.alloc B _ _)).trans l);have F:=lh M;have y:=lh b1;have f:=l.cell ((Fr.alloc B _ _).cell (ym w _));have D:=lh f;obtain⟨T,U,V,W,X,Y⟩:=yn f;clear f l M b1;clear S
 go_wp2_with fail
 refine ycq HE.out y.out F.out (Calls.mono (ylo 15 n (by simpa using R) (by omega) _) (fun e w' h=>by obtain⟨rfl,x,rfl⟩:=h;exact⟨rfl,qp _ _⟩)) (fun w2 N m P=>?_);clear T U V W X Y;have q:=lh (o.out.trans m);have G:=lh N;have z:=lh P;have f:=m.cell D.out;have ad:=lh f;obtain⟨T,U,V,W,X,Y⟩:=yn f;clear f m N P
 go_wp2_with fail
 refine y9 (qi n++[95]) hB z.out G.out L.out (by simp;omega) (fun w3 O K b3=>?_);have r:=lh (q.out.trans K);have H:=lh O;clear K O b3;go_wp2;go_end0;exact⟨rfl,H.out,r.out⟩
theorem ww20b {w0 w:World}{B p d:Nat}{h:Value}{pl:Bool}{how:List Int}(E:WE w0 B p h pl how)(C:PcC w0 B p h pl how d){c:UInt8}{nm:List UInt8}{n:Nat}{kids:List ya}{v:Value}{st:WS}(l:yg w0 (.mk 20 c nm n true kids) v)(a:Below B w0 w)(hW:WAt w B p h pl st)
  (T:j4 (yc (fun j t w=>wGo pl how (d-j) t w) (.mk 20 c nm n true kids) st)) (hb:st.bound+20*(d+1)<=1000) :
  Calls Tryz.prog 56 #[.pointer (some ⟨p,0,none⟩),v] w fun e w'=>kx B p h pl w (yc (fun j t w=>wGo pl how (d-j) t w) (.mk 20 c nm n true kids) st) e w':=by
 obtain⟨ao,cap,rfl,hK,hn,aq,an,ap,U⟩:=yze l (by omega) E.hB a.size;have hB:=E.hB;have i:st.bound+20*d<=1000:=by omega
 have f:yc (fun j t w=>wGo pl how (d-j) t w) (.mk 20 c nm n true kids) st=(((st.put [c]).put [110]).put (qi n++[95])):=rfl;rw[f] at T |-;have HE:=lh E;have HC:=lh C;have HK:=lh hK;have HL:=lh a;have HW:=lh hW;have W:=lh T;have ag:=lh i;have ah:=lh hb;clear E C hK l a hW T f hb i;have kc:(convert 22 9 (.slice (some ⟨(w.alloc (.cells #[.int .i64 20,.int .u8 c.toNat,.string ⟨nm.toArray⟩,.int .u64 n,.bool true,.slice ao kids.length cap] 28)).heap.size,0,none⟩) 1 1)).run Tryz.prog ((w.alloc (.cells #[.int .i64 20,.int .u8 c.toNat,.string ⟨nm.toArray⟩,.int .u64 n,.bool true,.slice ao kids.length cap] 28)).alloc (.cells #[.int .u8 (c.toNat:Int)] 5))=.ok (.string ⟨#[c]⟩) ((w.alloc (.cells #[.int .i64 20,.int .u8 c.toNat,.string ⟨nm.toArray⟩,.int .u64 n,.bool true,.slice ao kids.length cap] 28)).alloc (.cells #[.int .u8 (c.toNat:Int)] 5)):=by
  have:=yho (w.alloc (.cells #[.int .i64 20,.int .u8 c.toNat,.string ⟨nm.toArray⟩,.int .u64 n,.bool true,.slice ao kids.length cap] 28)) (c.toNat:Int) (by omega) (by have:=c.toNat_lt;omega)
  simpa using this
 simp only[World.size_alloc] at kc;have k:Below B w0 ((w.alloc (.cells #[.int .i64 20,.int .u8 c.toNat,.string ⟨nm.toArray⟩,.int .u64 n,.bool true,.slice ao kids.length cap] 28)).alloc (.cells #[.int .u8 (c.toNat:Int)] 5)):=(HL.out.alloc U _).alloc (by simp;omega) _;have M:=lh k;have ar:=yc0 15 n (by simpa using hn);have g:=lh (W.out.of (yw ((st.put [c]).put [110]) (qi n++[95])));have I:=lh (g.out.of (yw (st.put [c]) [110]));clear k
 go_enter Tryz.func56,Tryz.ntmps56
 go_wp2_with fail
 refine(jy _ _).mono ?_;rintro e w' ⟨rfl,rfl⟩
 go_wp2_with fail
 refine y9 [c] hB M.out ((HW.out.alloc _).alloc _) I.out (by simp) (fun w1 X y b1=>?_);have D:=lh (((Fr.alloc B w _).trans (.alloc B _ _)).trans y);have P:=lh X;have J:=lh b1;have b:=y.cell ((Fr.alloc B _ _).cell (ym w _));have N:=lh b;obtain⟨m,o,q,r,s,u⟩:=yn b;clear b y X b1;clear kc
 go_wp2_with fail
 refine y9 [110] hB J.out P.out g.out (by simp) (fun w2 Y z b2=>?_);clear m o q r s u;have F:=lh (D.out.trans z);have Q:=lh Y;have K:=lh b2;have b:=z.cell N.out;have O:=lh b;obtain⟨m,o,q,r,s,u⟩:=yn b;clear b z Y b2
 go_wp2_with fail
 refine ycq HE.out K.out Q.out (Calls.mono (ylo 15 n (by simpa using hn) (by omega) _) (fun e w' h=>by obtain⟨rfl,x,rfl⟩:=h;exact⟨rfl,qp _ _⟩)) (fun w3 Z A b3=>?_);clear m o q r s u;have G:=lh (F.out.trans A);have R:=lh Z;have L:=lh b3;have b:=A.cell O.out;have ak:=lh b;obtain⟨m,o,q,r,s,u⟩:=yn b;clear b A Z b3
 go_wp2_with fail
 refine y9 (qi n++[95]) hB L.out R.out W.out (by simp;omega) (fun w4 W4 V b4=>?_);have H:=lh (G.out.trans V);have S:=lh W4;clear V W4 b4;go_wp2;go_end0;exact⟨rfl,S.out,H.out⟩
theorem yfn {w0 w:World}{B p d:Nat}{h:Value}{pl:Bool}{how:List Int}(E:WE w0 B p h pl how)(C:∀ e,e<=d->PcC w0 B p h pl how e){t:ya}{v:Value}{st:WS}(X:okP (d+1) t)(g:yg w0 t v)(o:Below B w0 w)(G:WAt w B p h pl st)
  (y:j4 (yc (fun j t w=>wGo pl how (d-j) t w) t st)) (hb:st.bound+20*(d+1)<=1000) :
  Calls Tryz.prog 56 #[.pointer (some ⟨p,0,none⟩),v] w fun e w'=>kx B p h pl w (yc (fun j t w=>wGo pl how (d-j) t w) t st) e w':=by
 obtain⟨md,b,Q,z,A,u⟩:=X;have path:∀ t v,Rt .path (d+1) b t->t.wt<=300->yg w0 t v->j4 (yc (fun j t w=>wGo pl how (d-j) t w) t st)->Calls Tryz.prog 56 #[.pointer (some ⟨p,0,none⟩),v] w fun e w'=>kx B p h pl w (yc (fun j t w=>wGo pl how (d-j) t w) t st) e w':=by
  intro t v z u g y;have H:=yrd z;have I:=(km z).1 rfl;obtain⟨k,c,nm,n,f,kids⟩:=t;exact yt2 E ⟨H,I⟩ g o G fun w' s r=>yo6 E (C d (Nat.le_refl d)) z u A g s r y hb
 rcases Q with rfl|rfl|rfl
 ·exact path t v z u g y
 ·by_cases I:t.kind<=6
  ·have Y:Rt .path (d+1) b t:=by
    generalize N:d+1=D at z |-
    cases z with
    | tpath h=>exact h
    | ref P=>simp only[ya.kind] at I;omega
    | ptr P=>simp only[ya.kind] at I;omega
    | _=>simp only[ya.kind] at I;omega
   exact path t v Y u g y
  ·by_cases x:t.kind<=14
   ·obtain⟨k,c,nm,n,f,kids⟩:=t
    simp only[ya.kind] at I x;exact yqo E ⟨by omega,x⟩ g o G fun w' s r=>ypk E (C d (Nat.le_refl d)) z u (by simp only[ya.kind];omega) x A g s r y hb
   ·generalize N:d+1=D at z
    cases z with
    | tpath h=>have:=(km h).1 rfl;omega
    | ref P=>simp only[ya.kind] at x;omega
    | ptr P=>simp only[ya.kind] at x;omega
    | @fn M R l nm n f a q F K _ H U=>
     obtain rfl:d=M:=by injection N
     refine ykr E (by omega) g o G fun w' s r=>?_;have hO:∀ i,i < a.length->okP d (a.getD i .zero):=fun i hi=>⟨.type,b+n,.inr (.inl rfl),H i hi,F,yey hi u⟩;have J:okP d q:=⟨.type,b+n,.inr (.inl rfl),U,F,yn5 u⟩;have L:=C d (Nat.le_refl d)
     by_cases O:nm=[]
     ·subst O
      cases f with
      | false=>exact wo15a E L g s r y hb (by omega) hO J
      | true=>exact wo15b E L g s r y hb (by omega) hO J
     ·cases f with
      | false=>exact wo15c E L g s r y hb (by omega) O K hO J
      | true=>exact wo15d E L g s r y hb (by omega) O K hO J
    | @dyn M R l nm n m f a l2 nm2 f2 F S H Q=>
     obtain rfl:d=M:=by injection N
     refine ykr E (by omega) g o G fun w' s r=>?_;obtain⟨e,V,-⟩:=ygo F (yey (List.length_pos_iff.2 S) u) (H 0 (List.length_pos_iff.2 S));refine wo16 E (C d (Nat.le_refl d)) g s r y hb V (C _ (by omega)) (C _ (by omega)) (by omega) (fun i hi=>?_) ⟨b,.life Q,A,yn5 u⟩;obtain⟨T,W,J⟩:=ygo F (yey hi u) (H i hi);obtain rfl:e=T:=by omega
     exact J
    | _=>simp only[ya.kind] at x;omega
 ·generalize N:d+1=D at z
  cases z with
  | hole=>exact ww21 E (C d (Nat.le_refl d)) g o G y hb
  | @num M R l nm n f _ Z=>
   cases f with
   | false=>exact ww20a E (C d (Nat.le_refl d)) g o G y hb
   | true=>exact ww20b E (C d (Nat.le_refl d)) g o G y hb
end Go.Proofs.YtfckcdbpiepchaaGreatDoor
