import Derived.Test.YtfckcdbpiepchaaGreatDoorNs23
import Derived.Test.YtfckcdbpiepchaaGreatDoorNs26
namespace Go.Proofs.YtfckcdbpiepchaaGreatDoor
open Go.RowKit
set_option maxRecDepth 100000
set_option maxHeartbeats 8000000
set_option linter.all false
theorem yub (l:List Int):(u8 l).length<=4*l.length:=by
 have:=foldl_size_le l ByteArray.empty;have h:(u8 l).length=(runesBytes l).size:=by unfold u8;rw[Array.length_toList];rfl
 rw[h];have a:ByteArray.empty.size=0:=rfl;rw[a] at this;unfold runesBytes;omega
theorem ymh {A B:Nat}{w w':World}(h:Below B w w')(a:A<=B):Below A w w':=⟨h.os,h.tape,h.output,h.size,fun k b=>h.block k (by omega)⟩
theorem ygd (l:List UInt8)(f:l.length<=1000000000)(w:World)(a:yec w):Calls Tryz.prog 136 #[.string ⟨l.toArray⟩] w fun e w'=>e=.returned (.string ⟨(j9 l).toArray⟩)/\Below w.heap.size w w':=by
 by_cases b:l=[]
 ·subst b
  have hi:=Tryz.strconv_Itoa 0 (by omega) (by omega) w a;have d:Lib.itoa 0=[48]:=by rw[show(0:Int)=((0:Nat):Int) from rfl];unfold Lib.itoa;rw[if_neg (by omega)];rw[Lib.decDigits];rfl
  have c:j9 []=[48]:=by unfold j9;rw[Lib.decDigits];rfl
  rw[d] at hi;rw[c];clear a d c
  go_enter Tryz.func136,Tryz.ntmps136
  go_wp2_with fail
  refine hi.mono ?_;rintro e g ⟨rfl,k,os,rfl⟩;go_wp2;go_ret;exact⟨rfl,Lib.below_grow _ _ (Nat.le_refl _) _ _⟩
 ·exact yin l f b w a
theorem yce (nm:List UInt8)(h:NmW nm)(w:World)(z:yb1 w)(t:yec w):Calls Tryz.prog 116 #[.string ⟨nm.toArray⟩] w fun e w'=>e=.returned (.string ⟨(vr nm).toArray⟩)/\Below w.heap.size w w':=by
 by_cases p:nm=[]
 ·subst p
  go_enter Tryz.func116,Tryz.ntmps116
  go_wp2;go_ret
  exact⟨rfl,Below.refl _ _⟩
 have b:=h.resolve_left p;have B:nm.isEmpty=false:=by cases nm;exact absurd rfl p;rfl
 obtain⟨R,f⟩:∃ R,R=vr nm:=⟨_,rfl⟩;rw[<-f];unfold vr at f;rw[if_neg p] at f;have C:nm.length<=100000:=by
  unfold zh at b
  by_cases k:jr nm=true
  ·rw[if_pos k] at b;simp at b;omega
  ·rw[if_neg k] at b
   cases g:ga nm with
   | none=>rw[g] at b;cases b
   | some l=>
    rw[g] at b;simp only[Bool.and_eq_true,decide_eq_true_eq] at b;obtain⟨I,-⟩:=yet g;have:=yub l;rw[I] at this;omega
 have o:=yip nm w (by unfold maxLen;omega)
 cases k:nm.all yr with
 | true=>
  rw[k] at o f;have x:Hid (R=j9 nm):=lh f;have n:=ygd nm (by omega) w t;have u:=lh n;clear f n t z b h p k
  go_enter Tryz.func116,Tryz.ntmps116
  go_wp2_with fail
  refine o.mono ?_;rintro e w' ⟨rfl,rfl⟩;clear o
  go_wp2_with fail
  refine u.out.mono ?_;rintro e J ⟨rfl,hb⟩;go_wp2;go_ret;exact⟨by rw[x.out];rfl,hb⟩
 | false=>
  rw[k] at o f;have s:jr nm=false:=by unfold jr;rw[k];rfl
  unfold zh at b;rw[if_neg (by rw[s];decide)] at b
  cases g:ga nm with
  | none=>rw[g] at b;cases b
  | some l=>
   rw[g] at b f;simp only[Bool.and_eq_true,decide_eq_true_eq] at b;have i:=b.1.2;have d:=yjf g;have H:=yk7 i d;have G:=ydv (l:=ye4 l) (by omega);have x:Hid (R=117::j9 (ye4 l)):=lh f;have n:=yct nm (by omega) w z;rw[g] at n;have u:=lh n;have F:=lh t;have D:=lh d;clear f n t z b h p k s g d
   go_enter Tryz.func116,Tryz.ntmps116
   go_wp2_with fail
   refine o.mono ?_;rintro e w' ⟨rfl,rfl⟩;clear o
   go_wp2_with fail
   refine u.out.mono ?_;rintro e J ⟨⟨a,c,rfl,j⟩,m⟩;have A:=yvh j;have E:=lh A;have q:=lh m;have y:=lh (F.out.below m);clear j A m
   go_wp2_with fail
   refine(yrq E.out i D.out).mono ?_;rintro e w' ⟨rfl,rfl⟩
   go_wp2_with fail
   refine(ygd (ye4 l) (by omega) _ y.out).mono ?_;rintro e K ⟨rfl,r⟩;have v:=lh (q.out.trans (ymh r q.out.size));clear r;go_wp2;go_ret;exact⟨by rw[x.out];rfl,v.out⟩
def xl (nm:List UInt8)(k:Nat):List UInt8:=(nm.take k).map (fun c=>if c=45 then 95 else c)++nm.drop k
theorem ybk (nm:List UInt8)(k:Nat):(xl nm k).length=nm.length:=by
 unfold xl;rw[List.length_append,List.length_map,<-List.length_append,List.take_append_drop]
theorem yjq {nm:List UInt8}{k:Nat}(h:k < nm.length):(xl nm k).getD k 0=nm.getD k 0:=by
 unfold xl;rw[lgd,List.getElem?_append_right (by simp;omega),List.length_map,List.length_take,Nat.min_eq_left (by omega),Nat.sub_self,List.getElem?_drop,Nat.add_zero,lgd]
theorem yn0 {nm:List UInt8}{k:Nat}(h:k < nm.length):(xl nm k).set k (nm.getD k 0)=xl nm k:=by
 rw[<-yjq h,lgd,lge (by rw[ybk];exact h),Option.getD_some];exact List.set_getElem_self _
theorem ynz {nm:List UInt8}{k:Nat}(h:k < nm.length):xl nm (k+1)=(xl nm k).set k (if nm.getD k 0=45 then 95 else nm.getD k 0):=by
 unfold xl;rw[lts h,List.map_append,List.set_append_right _ _ (by simp;omega),List.length_map,List.length_take,Nat.min_eq_left (by omega),Nat.sub_self,List.drop_eq_getElem_cons h,List.set_cons_zero,
  lgd,lge h,List.append_assoc]
 rfl
theorem ymk (nm:List UInt8)(hl:nm.length<=1000)(hw:NmW (nm.map fun c=>if c=45 then 95 else c))(w:World)(V:yb1 w)(U:yec w):Calls Tryz.prog 115 #[.string ⟨nm.toArray⟩] w fun e w'=>e=.returned (.string ⟨(qs nm).toArray⟩)/\Below w.heap.size w w':=by
 by_cases o:nm=[67]
 ·subst o
  go_enter Tryz.func115,Tryz.ntmps115
  go_wp2;go_ret
  exact⟨rfl,Below.refl _ _⟩
 have ag:(nm == [67])=false:=by simpa using o
 have hr:qs nm=vr (nm.map fun c=>if c=45 then 95 else c):=by unfold qs;rw[if_neg o]
 have y:=run_bytes_of_string (P:=Tryz.prog) w 9 22 5 ⟨nm.toArray⟩ Tryz.underlying9 Tryz.underlying22 Tryz.underlying5;have n:(⟨nm.toArray⟩:ByteArray).size=nm.length:=by simp[ByteArray.size]
 rw[n] at y;obtain⟨B,hB⟩:∃ B,B=w.heap.size:=⟨_,rfl⟩;obtain⟨cap,l⟩:∃ cap,cap=grownCap w nm.length 0 5:=⟨_,rfl⟩;rw[<-l] at y;have ad:nm.length<=cap:=by rw[l];exact grownCap_ge _ _ _ _
 have a:bytesRow ⟨nm.toArray⟩ cap=(je (xl nm 0)++List.replicate (cap-nm.length) (Value.int .u8 0)).toArray:=by
  unfold bytesRow xl je;rw[n];simp
 rw[a] at y;obtain⟨sp,J⟩:∃ sp,sp=List.replicate (cap-nm.length) (Value.int .u8 0):=⟨_,rfl⟩;rw[<-J] at y;obtain⟨fz,p⟩:∃ fz:Nat×Nat,fz=((je (xl nm 0)++sp).toArray.size,(je (xl nm 0)++sp).toArray.size+1):=⟨_,rfl⟩;rw[<-p] at y;have ae:nm.length<=fz.1:=by rw[p];simp[je,ybk]
 obtain⟨W,L⟩:∃ W,W=w.drew.alloc (.cells (je (xl nm 0)++sp).toArray 5 fz):=⟨_,rfl⟩;rw[<-L,<-hB] at y;have D:Below B w W:=by rw[L,hB];exact((Below.refl _ w).drew).alloc (Nat.le_refl _) _
 have m:W.heap[B]? = some (.cells (je (xl nm 0)++sp).toArray 5 fz):=by rw[L,hB];exact ym w.drew _
 have K:=lh hB;have HR:=lh hr;have z:=lh hw;have HV:=lh V;have HT:=lh U;clear a l J p L hr o V U hw hB n;rw[HR.out]
 go_enter Tryz.func115,Tryz.ntmps115
 go_wp2
 go_loopw [4,5,12] (fun _ _ i wr=>∃ k:Nat,k<=nm.length/\i=.int .i64 k/\Below B w wr/\wr.heap[B]? = some (.cells (je (xl nm k)++sp).toArray 5 fz)) (fun _ _ i _=>nm.length-(intOf i).toNat)
 case atStart=>exact⟨0,by omega,rfl,D,m⟩
 case round=>
  clear D m;obtain⟨k,hk,rfl,f,a⟩:=hrel
  by_cases g:k < nm.length
  ·have u:wr.cell? ⟨B,k,none⟩=some (.int .u8 ((nm.getD k 0).toNat:Int)):=by
    refine zm a ?_;have C:k < (je (xl nm k)).length:=by rw[yhq,ybk];exact g
    rw[List.getElem?_toArray,List.getElem?_append_left C,<-yjq g];unfold je;rw[List.getElem?_map,lgd,lge (by rw[ybk];exact g)];rfl
   have p:wr.frozen? ⟨B,k,none⟩=false:=by
    simp[World.frozen?,a];omega
   have r:∀ x:UInt8,(wr.setCell ⟨B,k,none⟩ (.int .u8 (x.toNat:Int))).heap[B]? = some (.cells (je ((xl nm k).set k x)++sp).toArray 5 fz):=fun x=>by
    have C:k < (je (xl nm k)).length:=by rw[yhq,ybk];exact g
    simp only[World.setCell,Array.getElem?_modify,a,if_true,Option.map_some];rw[List.setIfInBounds_toArray,List.set_append_left _ _ C,ytn]
    rfl
   have I:=ynz g;have H:=yn0 g;have A:=lh H;clear H;have S:=lh r;have t:=lh I;have h:=lh f;have R:=lh a;clear r I f a;generalize nm.getD k 0=c at u t A
   by_cases d:c=45
   ·have q:((c.toNat:Int) == 45)=true:=by rw[d];rfl
    have s:=lh d;clear d;have F:Below B w (wr.setCell ⟨B,k,none⟩ (.int .u8 95)):=h.out.setCell (Nat.le_refl _) _;have N:=lh F;clear F;go_wp2
    go_roundw
    case rel=>exact⟨k+1,by omega,by go_num,N.out,by rw[t.out,if_pos s.out];exact S.out 95⟩
    case measure=>simp[intOf];omega
   ·have q:((c.toNat:Int) == 45)=false:=u8f (c:=45) (by omega) d
    have s:=lh d;clear d;go_wp2
    go_roundw
    case rel=>
     refine⟨k+1,by omega,by go_num,h.out,?_⟩;rw[t.out,if_neg s.out,A.out];exact R.out
    case measure=>simp[intOf];omega
  ·obtain rfl:k=nm.length:=by omega
   have b:xl nm nm.length=nm.map fun c=>if c=45 then 95 else c:=by unfold xl;rw[List.take_length,List.drop_length,List.append_nil]
   rw[b] at a;obtain⟨fin,v⟩:∃ fin,fin=nm.map fun c=>if c=45 then 95 else c:=⟨_,rfl⟩;rw[<-v] at a z b;have O:=lh v;clear v;have G:fin.length=nm.length:=by rw[<-b,ybk]
   have af:(convert 22 9 (.slice (some ⟨B,0,none⟩) nm.length cap)).run Tryz.prog wr=.ok (.string ⟨fin.toArray⟩) wr:=by
    rw[<-G];refine run_convert_bytes_back wr 22 9 5 ⟨B,0,none⟩ cap fin Tryz.underlying22 Tryz.underlying5 Tryz.underlying9 (fun j X=>?_);rw[show(⟨B,0,none⟩:Addr).add j=⟨B,j,none⟩ by simp[Addr.add];omega];refine zm a ?_;have C:j < (je fin).length:=by rw[yhq];exact X
    rw[List.getElem?_toArray,List.getElem?_append_left C];unfold je;rw[List.getElem?_map,lge X];rfl
   have Z:=HV.out.below (by rw[<-K.out];exact f);have Y:=HT.out.below (by rw[<-K.out];exact f);have T:=lh Z;have Q:=lh Y;have h:=lh f;clear a Z Y f b G
   go_wp2_with fail
   refine(yce fin z.out _ T.out Q.out).mono ?_;rintro e w2 ⟨rfl,E⟩;have M:=lh (h.out.trans (ymh E (by rw[K.out];exact h.out.size)));clear E;go_wp2;go_ret;exact⟨by rw[<-O.out];rfl,by rw[<-K.out];exact M.out⟩
theorem WAt.out_is {w:World}{B p:Nat}{h:Value}{pl:Bool}{st:WS}(b:WAt w B p h pl st){v:Value}(c:w.cell? ⟨p,0,none⟩=some v):∃ sx sm sb sk,qu w B p h pl st v sx sm sb sk:=by
 obtain⟨so,sx,sm,sb,sk,a⟩:=b;have:=a.cell 0 so rfl;rw[c] at this
 cases this
 exact⟨sx,sm,sb,sk,a⟩
def kx (B p:Nat)(h:Value)(pl:Bool)(w:World)(st:WS)(e:Ending)(w':World):Prop:=e=.returned (.tuple #[])/\WAt w' B p h pl st/\Fr B w w'
theorem ybw (a b:List UInt8):je (a++b)=je a++je b:=by unfold je;rw[List.map_append]
theorem ydw (r:List UInt8):je r=Lib.strCells ⟨r.toArray⟩:=by simp[je,Lib.strCells]
theorem yrp {w:World}{B p:Nat}{h:Value}{pl:Bool}{st:WS}{c:UInt8}{r:List UInt8}(S:WAt w B p h pl st)(hl:st.out.length+r.length+10<=1000000000)(he:st.empty=true)(T:c=95\/kt c=true) :
  Calls Tryz.prog 59 #[.pointer (some ⟨p,0,none⟩),.string ⟨(c::r).toArray⟩] w fun e w'=>kx B p h pl w (st.put (c::r)) e w':=by
 obtain⟨i0,hi,E,F,G⟩:=info_parts Tryz.infoByte;have hB:=S.pB;have ah:=S.lt;obtain⟨so,sx,sm,sb,sk,K⟩:=S;have c0:=K.cell 0 so rfl;have Q:=K.cell 6 (.bool st.empty) rfl;rw[he] at Q;have f0:=K.free 0;have f6:=K.free 6;have N:st.put (c::r)={ st with out:=st.out++[95]++(c::r),empty:=false }:=by
  have U:(c == 95||kt c)=true:=by rcases T with h|h<;>simp[h]
  show({ st with out:=st.out++((if st.empty&&(c == 95||kt c) then [95] else [])++(c::r)),empty:=false } : WS)=_
  rw[he,U];simp
 have M:=lh N;have L:=lh K;clear N K;obtain⟨sa,O,W,-⟩:=zq L.out.o;subst W;have V:(c=95/\((c.toNat:Int) == 95)=true)\/(((c.toNat:Int) == 95)=false/\48<=c.toNat/\c.toNat<=57):=by
  by_cases h:c=95
  ·exact .inl ⟨h,by rw[h];rfl⟩
  ·refine .inr ⟨u8f (c:=95) (by omega) h,?_⟩
   have:=T.resolve_left h;unfold kt at this;simpa using this
 clear T
 rcases V with⟨R,q⟩|⟨q,q1,q2⟩
 ·clear R
  go_enter Tryz.func59,Tryz.ntmps59
  go_wp2_with(at_builtin;refine wpList_append_own _ rfl _ _ 22 rfl B 5 i0 (.int .u8 0) 1 1 Tryz.underlying22 hi E F G rfl (by decide) _ _ _ rfl (L.out.o.alloc _) ⟨w.heap.size,0,none⟩ 1 1 [.int .u8 95] rfl rfl ?c1 ?c2 ?c3 ?c4 ?c5 ?_)
  case c1=>exact cell_one_new _ _ _
  case c2=>simp[Value.oneCell']
  case c3=>unfold maxLen;omega
  case c4=>omega
  case c5=>simp;omega
  intro v' n k g _;have a:n.ownsRow B 5 1 v' (st.out.length+1) (je (st.out++[95])):=by
   rw[ybw];exact k
  obtain⟨f,z,u⟩:=(L.out.below ((Below.refl _ w).alloc (Nat.le_refl _) _)).app_o (l:=st.out++[95]) (by simp) g a;obtain⟨a1,c1,rfl,-⟩:=zq a;have j:=z.set_empty false;have C:((n.setCell ⟨p,0,none⟩ (.slice a1 (st.out.length+1) c1)).setCell ⟨p,6,none⟩ (.bool false)).heap[p]? = some (.cells (gp (.slice a1 (st.out.length+1) c1) sx sm h { st with out:=st.out++[95],empty:=false } pl sb sk).toArray 70 (0,0)):=by
   rw[zb (zb f 0 _) 6];rfl
  have v:=(((Fr.alloc B w _).trans u).trans j.2);have D:B<=((n.setCell ⟨p,0,none⟩ (.slice a1 (st.out.length+1) c1)).setCell ⟨p,6,none⟩ (.bool false)).heap.size:=Nat.le_trans hB (Nat.le_of_lt j.1.lt);have d0:((n.setCell ⟨p,0,none⟩ (.slice a1 (st.out.length+1) c1)).setCell ⟨p,6,none⟩ (.bool false)).cell? ⟨p,0,none⟩=some (.slice a1 (st.out.length+1) c1):=zm C rfl;obtain⟨Z,Y,X,sk2,y⟩:=j.1.out_is d0;have e0:n.cell? ⟨p,0,none⟩=some (.slice sa st.out.length O):=zm f rfl;have e6:n.cell? ⟨p,6,none⟩=some (.bool st.empty):=zm f rfl;have g0:=zz f 0;have g6:=zz f 6;have t:=lh y;have H:=lh v;have s:=lh D;clear k g a f z u j C v D y c0 Q f0 f6
  go_wp2_with(at_builtin;refine zp rfl _ _ 22 9 rfl B 5 i0 Tryz.underlying22 Tryz.underlying9 hi E F G _ _ _ rfl t.out.o ⟨(c::r).toArray⟩ rfl ?d1 ?d2 ?d3 ?_)
  case d1=>unfold maxLen;first|omega|(simp only[jq,List.length_cons];omega)
  case d2=>first|omega|(simp only[jq,List.length_cons];omega)
  case d3=>first|exact s.out|(have:=s.out;simpa [World.setCell] using this)
  intro v2 P i d _ _;have b:P.ownsRow B 5 1 v2 (st.out.length+1+(r.length+1)) (je ((st.out++[95])++(c::r))):=by
   rw[ybw (st.out++[95]) (c::r),ydw (c::r)];exact i
  obtain⟨m,A,x⟩:=t.out.app_o (l:=(st.out++[95])++(c::r)) (by simp;omega) d b;obtain⟨a3,c3,rfl,-⟩:=zq b;have q0:P.cell? ⟨p,0,none⟩=some (.slice a1 (st.out.length+1) c1):=zm m rfl;have qf:=zz m 0;have J:=lh A;have I:=lh (H.out.trans x);clear i d b m A x;go_wp2;go_end0;exact⟨rfl,by rw[M.out];exact J.out,I.out⟩
 ·have q3:(48:Int)<=(c.toNat:Int):=by omega
  have q4:(c.toNat:Int)<=57:=by omega
  go_enter Tryz.func59,Tryz.ntmps59
  go_wp2_with(at_builtin;refine wpList_append_own _ rfl _ _ 22 rfl B 5 i0 (.int .u8 0) 1 1 Tryz.underlying22 hi E F G rfl (by decide) _ _ _ rfl (L.out.o.alloc _) ⟨w.heap.size,0,none⟩ 1 1 [.int .u8 95] rfl rfl ?c1 ?c2 ?c3 ?c4 ?c5 ?_)
  case c1=>exact cell_one_new _ _ _
  case c2=>simp[Value.oneCell']
  case c3=>unfold maxLen;omega
  case c4=>omega
  case c5=>simp;omega
  intro v' n k g _;have a:n.ownsRow B 5 1 v' (st.out.length+1) (je (st.out++[95])):=by
   rw[ybw];exact k
  obtain⟨f,z,u⟩:=(L.out.below ((Below.refl _ w).alloc (Nat.le_refl _) _)).app_o (l:=st.out++[95]) (by simp) g a;obtain⟨a1,c1,rfl,-⟩:=zq a;have j:=z.set_empty false;have C:((n.setCell ⟨p,0,none⟩ (.slice a1 (st.out.length+1) c1)).setCell ⟨p,6,none⟩ (.bool false)).heap[p]? = some (.cells (gp (.slice a1 (st.out.length+1) c1) sx sm h { st with out:=st.out++[95],empty:=false } pl sb sk).toArray 70 (0,0)):=by
   rw[zb (zb f 0 _) 6];rfl
  have v:=(((Fr.alloc B w _).trans u).trans j.2);have D:B<=((n.setCell ⟨p,0,none⟩ (.slice a1 (st.out.length+1) c1)).setCell ⟨p,6,none⟩ (.bool false)).heap.size:=Nat.le_trans hB (Nat.le_of_lt j.1.lt);have d0:((n.setCell ⟨p,0,none⟩ (.slice a1 (st.out.length+1) c1)).setCell ⟨p,6,none⟩ (.bool false)).cell? ⟨p,0,none⟩=some (.slice a1 (st.out.length+1) c1):=zm C rfl;obtain⟨Z,Y,X,sk2,y⟩:=j.1.out_is d0;have e0:n.cell? ⟨p,0,none⟩=some (.slice sa st.out.length O):=zm f rfl;have e6:n.cell? ⟨p,6,none⟩=some (.bool st.empty):=zm f rfl;have g0:=zz f 0;have g6:=zz f 6;have t:=lh y;have H:=lh v;have s:=lh D;clear k g a f z u j C v D y c0 Q f0 f6
  go_wp2_with(at_builtin;refine zp rfl _ _ 22 9 rfl B 5 i0 Tryz.underlying22 Tryz.underlying9 hi E F G _ _ _ rfl t.out.o ⟨(c::r).toArray⟩ rfl ?d1 ?d2 ?d3 ?_)
  case d1=>unfold maxLen;first|omega|(simp only[jq,List.length_cons];omega)
  case d2=>first|omega|(simp only[jq,List.length_cons];omega)
  case d3=>first|exact s.out|(have:=s.out;simpa [World.setCell] using this)
  intro v2 P i d _ _;have b:P.ownsRow B 5 1 v2 (st.out.length+1+(r.length+1)) (je ((st.out++[95])++(c::r))):=by
   rw[ybw (st.out++[95]) (c::r),ydw (c::r)];exact i
  obtain⟨m,A,x⟩:=t.out.app_o (l:=(st.out++[95])++(c::r)) (by simp;omega) d b;obtain⟨a3,c3,rfl,-⟩:=zq b;have q0:P.cell? ⟨p,0,none⟩=some (.slice a1 (st.out.length+1) c1):=zm m rfl;have qf:=zz m 0;have J:=lh A;have I:=lh (H.out.trans x);clear i d b m A x;go_wp2;go_end0;exact⟨rfl,by rw[M.out];exact J.out,I.out⟩
theorem put_f {w:World}{B p:Nat}{h:Value}{pl:Bool}{st:WS}{c:UInt8}{r:List UInt8}(z:WAt w B p h pl st)(N:st.out.length+r.length+10<=1000000000)(G:st.empty=false) :
  Calls Tryz.prog 59 #[.pointer (some ⟨p,0,none⟩),.string ⟨(c::r).toArray⟩] w fun e w'=>kx B p h pl w (st.put (c::r)) e w':=by
 obtain⟨i0,hi,D,E,F⟩:=info_parts Tryz.infoByte;have hB:=z.pB;have A:=z.lt;obtain⟨so,sx,sm,sb,sk,f⟩:=z;have c0:=f.cell 0 so rfl;have J:=f.cell 6 (.bool st.empty) rfl;rw[G] at J;have f0:=f.free 0;have f6:=f.free 6;have s:st.put (c::r)={ st with out:=st.out++(c::r),empty:=false }:=by
  show({ st with out:=st.out++((if st.empty&&(c == 95||kt c) then [95] else [])++(c::r)),empty:=false } : WS)=_
  rw[G];simp
 have x:=lh s;obtain⟨H,t,C,-⟩:=zq f.o;subst C;have g:=f.at.set_empty false;have d0:(w.setCell ⟨p,6,none⟩ (.bool false)).cell? ⟨p,0,none⟩=some (.slice H st.out.length t):=by
  refine zm (by rw[zb f.blk]) ?_
  rfl
 obtain⟨M,L,K,sk2,m⟩:=g.1.out_is d0;have q:B<=w.heap.size:=Nat.le_trans hB (Nat.le_of_lt A);have j:=lh m;have u:=lh g.2;clear s f g m
 go_enter Tryz.func59,Tryz.ntmps59
 go_wp2_with(at_builtin;refine zp rfl _ _ 22 9 rfl B 5 i0 Tryz.underlying22 Tryz.underlying9 hi D E F _ _ _ rfl j.out.o ⟨(c::r).toArray⟩ rfl ?d1 ?d2 ?d3 ?_)
 case d1=>unfold maxLen;first|omega|(simp only[jq,List.length_cons];omega)
 case d2=>first|omega|(simp only[jq,List.length_cons];omega)
 case d3=>first|exact q|(simpa [World.setCell] using q)
 intro v2 I d b _ _;have a:I.ownsRow B 5 1 v2 (st.out.length+(r.length+1)) (je (st.out++(c::r))):=by
  rw[ybw st.out (c::r),ydw (c::r)];exact d
 obtain⟨i,n,k⟩:=j.out.app_o (l:=st.out++(c::r)) (by simp) b a;obtain⟨a3,c3,rfl,-⟩:=zq a;have O:I.cell? ⟨p,0,none⟩=some (.slice H st.out.length t):=zm i rfl;have P:=zz i 0;have y:=lh n;have v:=lh (u.out.trans k);clear d b a i n k;go_wp2;go_end0;exact⟨rfl,by rw[x.out];exact y.out,v.out⟩
theorem yxq {w:World}{B p:Nat}{h:Value}{pl:Bool}{st:WS}{c:UInt8}{r:List UInt8}(D:WAt w B p h pl st)(Q:st.out.length+r.length+10<=1000000000)(J:st.empty=true)(g:c≠95)(hd:c.toNat < 48) :
  Calls Tryz.prog 59 #[.pointer (some ⟨p,0,none⟩),.string ⟨(c::r).toArray⟩] w fun e w'=>kx B p h pl w (st.put (c::r)) e w':=by
 obtain⟨i0,hi,G,H,I⟩:=info_parts Tryz.infoByte;have q:((c.toNat:Int) == 95)=false:=u8f (c:=95) (by omega) g;have S:decide ((48:Int)<=(c.toNat:Int))=false:=decide_eq_false (by omega);have u:(c == 95||kt c)=false:=by unfold kt;rw[decide_eq_false (by omega)];simp[g]
 have hB:=D.pB;have E:=D.lt;obtain⟨so,sx,sm,sb,sk,f⟩:=D;have c0:=f.cell 0 so rfl;have M:=f.cell 6 (.bool st.empty) rfl;rw[J] at M;have f0:=f.free 0;have f6:=f.free 6;have v:st.put (c::r)={ st with out:=st.out++(c::r),empty:=false }:=by
  show({ st with out:=st.out++((if st.empty&&(c == 95||kt c) then [95] else [])++(c::r)),empty:=false } : WS)=_
  rw[J,u];simp
 have A:=lh v;obtain⟨K,x,F,-⟩:=zq f.o;subst F;have i:=f.at.set_empty false;have d0:(w.setCell ⟨p,6,none⟩ (.bool false)).cell? ⟨p,0,none⟩=some (.slice K st.out.length x):=by
  refine zm (by rw[zb f.blk]) ?_
  rfl
 obtain⟨P,O,N,sk2,n⟩:=i.1.out_is d0;have t:B<=w.heap.size:=Nat.le_trans hB (Nat.le_of_lt E);have k:=lh n;have y:=lh i.2;clear v f i n g u
 go_enter Tryz.func59,Tryz.ntmps59
 go_wp2_with(at_builtin;refine zp rfl _ _ 22 9 rfl B 5 i0 Tryz.underlying22 Tryz.underlying9 hi G H I _ _ _ rfl k.out.o ⟨(c::r).toArray⟩ rfl ?d1 ?d2 ?d3 ?_)
 case d1=>unfold maxLen;first|omega|(simp only[jq,List.length_cons];omega)
 case d2=>first|omega|(simp only[jq,List.length_cons];omega)
 case d3=>first|exact t|(simpa [World.setCell] using t)
 intro v2 L d b _ _;have a:L.ownsRow B 5 1 v2 (st.out.length+(r.length+1)) (je (st.out++(c::r))):=by
  rw[ybw st.out (c::r),ydw (c::r)];exact d
 obtain⟨j,s,m⟩:=k.out.app_o (l:=st.out++(c::r)) (by simp) b a;obtain⟨a3,c3,rfl,-⟩:=zq a;have R:L.cell? ⟨p,0,none⟩=some (.slice K st.out.length x):=zm j rfl;have T:=zz j 0;have C:=lh s;have z:=lh (y.out.trans m);clear d b a j s m;go_wp2;go_end0;exact⟨rfl,by rw[A.out];exact C.out,z.out⟩
theorem yxr {w:World}{B p:Nat}{h:Value}{pl:Bool}{st:WS}{c:UInt8}{r:List UInt8}(D:WAt w B p h pl st)(Q:st.out.length+r.length+10<=1000000000)(J:st.empty=true)(g:c≠95)(hd:57 < c.toNat) :
  Calls Tryz.prog 59 #[.pointer (some ⟨p,0,none⟩),.string ⟨(c::r).toArray⟩] w fun e w'=>kx B p h pl w (st.put (c::r)) e w':=by
 obtain⟨i0,hi,G,H,I⟩:=info_parts Tryz.infoByte;have q:((c.toNat:Int) == 95)=false:=u8f (c:=95) (by omega) g;have S:decide ((48:Int)<=(c.toNat:Int))=true:=decide_eq_true (by omega);have T:decide ((c.toNat:Int)<=57)=false:=decide_eq_false (by omega);have u:(c == 95||kt c)=false:=by unfold kt;rw[decide_eq_false (by omega)];simp[g]
 have hB:=D.pB;have E:=D.lt;obtain⟨so,sx,sm,sb,sk,f⟩:=D;have c0:=f.cell 0 so rfl;have M:=f.cell 6 (.bool st.empty) rfl;rw[J] at M;have f0:=f.free 0;have f6:=f.free 6;have v:st.put (c::r)={ st with out:=st.out++(c::r),empty:=false }:=by
  show({ st with out:=st.out++((if st.empty&&(c == 95||kt c) then [95] else [])++(c::r)),empty:=false } : WS)=_
  rw[J,u];simp
 have A:=lh v;obtain⟨K,x,F,-⟩:=zq f.o;subst F;have i:=f.at.set_empty false;have d0:(w.setCell ⟨p,6,none⟩ (.bool false)).cell? ⟨p,0,none⟩=some (.slice K st.out.length x):=by
  refine zm (by rw[zb f.blk]) ?_
  rfl
 obtain⟨P,O,N,sk2,n⟩:=i.1.out_is d0;have t:B<=w.heap.size:=Nat.le_trans hB (Nat.le_of_lt E);have k:=lh n;have y:=lh i.2;clear v f i n g u
 go_enter Tryz.func59,Tryz.ntmps59
 go_wp2_with(at_builtin;refine zp rfl _ _ 22 9 rfl B 5 i0 Tryz.underlying22 Tryz.underlying9 hi G H I _ _ _ rfl k.out.o ⟨(c::r).toArray⟩ rfl ?d1 ?d2 ?d3 ?_)
 case d1=>unfold maxLen;first|omega|(simp only[jq,List.length_cons];omega)
 case d2=>first|omega|(simp only[jq,List.length_cons];omega)
 case d3=>first|exact t|(simpa [World.setCell] using t)
 intro v2 L d b _ _;have a:L.ownsRow B 5 1 v2 (st.out.length+(r.length+1)) (je (st.out++(c::r))):=by
  rw[ybw st.out (c::r),ydw (c::r)];exact d
 obtain⟨j,s,m⟩:=k.out.app_o (l:=st.out++(c::r)) (by simp) b a;obtain⟨a3,c3,rfl,-⟩:=zq a;have R:L.cell? ⟨p,0,none⟩=some (.slice K st.out.length x):=zm j rfl;have U:=zz j 0;have C:=lh s;have z:=lh (y.out.trans m);clear d b a j s m;go_wp2;go_end0;exact⟨rfl,by rw[A.out];exact C.out,z.out⟩
theorem yd3 {w:World}{B p:Nat}{h:Value}{pl:Bool}{st:WS}{t:List UInt8}(b:WAt w B p h pl st)(f:st.out.length+t.length+10<=1000000000) :
  Calls Tryz.prog 59 #[.pointer (some ⟨p,0,none⟩),.string ⟨t.toArray⟩] w fun e w'=>kx B p h pl w (st.put t) e w':=by
 cases t with
 | nil=>
  go_enter Tryz.func59,Tryz.ntmps59
  go_wp2;go_end0
  exact⟨rfl,b,Fr.refl _ _⟩
 | cons c r=>
  simp only[List.length_cons] at f
  cases d:st.empty with
  | false=>exact put_f b (by omega) d
  | true=>
   by_cases a:c=95
   ·exact yrp b (by omega) d (.inl a)
   ·rcases(by omega:c.toNat < 48\/(48<=c.toNat/\c.toNat<=57)\/57 < c.toNat) with hd|hd|hd
    ·exact yxq b (by omega) d a hd
    ·exact yrp b (by omega) d (.inr (by unfold kt;exact decide_eq_true hd))
    ·exact yxr b (by omega) d a hd
theorem yku (st:WS)(t:List UInt8):(st.put t).out.length<=st.out.length+t.length+1:=by
 cases t with
 | nil=>show st.out.length<=_;simp
 | cons c r=>
  show(st.out++((if st.empty&&(c == 95||kt c) then [95] else [])++(c::r))).length<=_
  rw[List.length_append,List.length_append]
  split<;>simp<;>omega
theorem yo7 {w:World}{B p:Nat}{h:Value}{pl:Bool}{st:WS}{nm:List UInt8}(j:WAt w B p h pl st)(i:NmW nm)(A:st.out.length+100000<=1000000000)(q:yb1 w)(o:yec w) :
  Calls Tryz.prog 111 #[.pointer (some ⟨p,0,none⟩),.string ⟨nm.toArray⟩] w fun e w'=>kx B p h pl w (st.nm nm) e w':=by
 by_cases g:nm=[]
 ·subst g
  have k:st.nm []={ st.put [48] with empty:=true }:=rfl;rw[k];have v:=lh (yd3 (t:=[48]) j (by simp;omega));clear q o i j
  go_enter Tryz.func111,Tryz.ntmps111
  go_wp2_with fail
  refine v.out.mono ?_;rintro e y ⟨rfl,b,d⟩;have f6:=b.free 6;have z:=b.empty;have a:=b.set_empty true;have c:=lh a.1;have l:=lh (d.trans a.2);clear b d a;go_wp2;go_end0;exact⟨rfl,c.out,l.out⟩
 ·have k:st.nm nm=st.put (vr nm):=by unfold WS.nm;rw[if_neg g]
  have r:nm.isEmpty=false:=by cases nm;exact absurd rfl g;rfl
  have s:=ygp i;have u:=lh (yce nm i w q o);have x:=lh j;rw[k];clear q o i j k g
  go_enter Tryz.func111,Tryz.ntmps111
  go_wp2_with fail
  refine u.out.mono ?_;rintro e y ⟨rfl,hb⟩;have l:=lh (Fr.of_below (B:=B) hb);have n:=lh (x.out.below hb);clear hb
  go_wp2_with fail
  refine(yd3 n.out (by omega)).mono ?_;rintro e C ⟨rfl,a,f⟩;have c:=lh a;have m:=lh (l.out.trans f);clear a f;go_wp2;go_end0;exact⟨rfl,c.out,m.out⟩
theorem tmod2 (z:Int):(z.tmod 2 != 0)=decide (z % 2≠0):=by
 rw[Int.tmod_eq_emod];rw[bne,Bool.eq_iff_iff];simp
 split<;>omega
theorem Tryz.infoBound: (Tryz.prog.info? 75).map (fun i=>(i.zero,i.size,i.bytes))=some (some (.agg #[.int .i64 0,.int .i64 0]),2,16):=by kernel_rfl
theorem Tryz.infoBack: (Tryz.prog.info? 73).map (fun i=>(i.zero,i.size,i.bytes))=some (some (.agg #[.int .i64 0,.int .i64 0,.int .i64 0]),3,24):=by kernel_rfl
theorem Below.drew2 (w:World):Below w.heap.size w w.drew:=(Below.refl _ w).drew
theorem jl {w:World}{B s n:Nat}{e:TypeId}{v:Value}{xs:List Value}(h:w.ownsRow B e s v n xs):∃ a c,v=.slice a n c:=by
 rcases h.2 with⟨rfl,rfl⟩|⟨g,cap,b,rfl,_⟩
 ·exact⟨none,0,rfl⟩
 ·exact⟨_,cap,rfl⟩
theorem yig {w:World}{a b:Value}{d:TypeId}{j:Nat}{u:Value}(c:[a,b][j]? = some u):(w.alloc (.cells #[a,b] d)).cell? ((⟨w.heap.size,0,none⟩:Addr).add j)=some u:=by
 have hb:=ym w (.cells #[a,b] d)
 rcases j with _|_|j
 ·cases c;exact zm (j:=0) hb rfl
 ·cases c;exact zm (j:=1) hb rfl
 ·simp at c
theorem ytv (l:List Bd)(x:Bd):ygk (l++[x])=ygk l++[.int .i64 x.at_,.int .i64 x.all]:=by unfold ygk;simp
theorem ymd (l:List Bk)(x:Bk):yfk (l++[x])=yfk l++[.int .i64 x.at_,.int .i64 x.to_,.int .i64 x.bound]:=by unfold yfk;simp
theorem ytt {w:World}{B p:Nat}{Z:Value}{pl:Bool}{st:WS}{n:Nat}(hW:WAt w B p Z pl st)(hn:n<=20)(hb:st.bound<=1000)(hl:st.out.length+100<=1000000000)(Y:st.bounds.length<=1000000) :
  Calls Tryz.prog 114 #[.pointer (some ⟨p,0,none⟩),.int .u64 n] w fun e w'=>kx B p Z pl w (st.bind n) e w':=by
 have aa:(vc n).length<=15:=by
  unfold vc
  split
  ·simp
  ·have:=gh (n:=n-1) (by omega);simp;omega
 obtain⟨a,c⟩:∃ a,a=st.put (vc n):=⟨_,rfl⟩;have H:=yku st (vc n);rw[<-c] at H;have G:a.bound=st.bound:=by rw[c];cases vc n<;>rfl
 have v:a.bounds=st.bounds:=by rw[c];cases vc n<;>rfl
 have hr:st.bind n=if n=0 then a else { a with bound:=a.bound+n,bounds:=a.bounds++[⟨a.out.length,a.bound+n⟩] }:=by rw[c];rfl
 have V:=yd3 (t:=vc n) hW (by omega);rw[<-c] at V;have M:=lh V;have J:=lh hr;have al:a.bounds.length<=1000000:=by rw[v];exact Y
 have ak:a.bound<=1000:=by rw[G];exact hb
 clear c V hr hW v G;have L:=lh (fun w=>yqh n (by omega) w);generalize vc n=bt at M aa H L
 by_cases W:n=0
 ·subst W
  have Q:Hid (st.bind 0=a):=lh J.out;clear J;rw[Q.out]
  go_enter Tryz.func114,Tryz.ntmps114
  go_wp2_with fail
  refine(L.out _).mono ?_;rintro e w' ⟨rfl,rfl⟩
  go_wp2_with fail
  refine M.out.mono ?_;rintro e A ⟨rfl,d,m⟩;have c7:=d.bound;have f7:=d.free 7;have f:=d.set_bound a.bound;have T:=lh f.1;have s:=lh (m.trans f.2);clear d m f;go_wp2;go_end0;exact⟨rfl,T.out,s.out⟩
 ·have R:Hid (st.bind n={ a with bound:=a.bound+n,bounds:=a.bounds++[⟨a.out.length,a.bound+n⟩] }):=lh (by rw[J.out,if_neg W])
  have hp:(0:Int) < (n:Int):=by omega
  obtain⟨i0,hi,ab,ac,ad⟩:=info_parts Tryz.infoBound;clear J W;rw[R.out]
  go_enter Tryz.func114,Tryz.ntmps114
  go_wp2_with fail
  refine(L.out _).mono ?_;rintro e w' ⟨rfl,rfl⟩
  go_wp2_with fail
  refine M.out.mono ?_;rintro e A ⟨rfl,d,m⟩;have c7:=d.bound;have f7:=d.free 7;have f:=d.set_bound (a.bound+n);have D:=m.trans f.2;obtain⟨so,sx,sm,sb,sk,i⟩:=f.1;obtain⟨a1,k1,rfl,-⟩:=zq i.o;have h:=i.blk;have e0:(A.setCell ⟨p,7,none⟩ (.int .i64 ((a.bound:Int)+(n:Int)))).cell? ⟨p,0,none⟩=some (.slice a1 a.out.length k1):=zm h rfl;have e7:(A.setCell ⟨p,7,none⟩ (.int .i64 ((a.bound:Int)+(n:Int)))).cell? ⟨p,7,none⟩=some (.int .i64 ((a.bound:Int)+(n:Int))):=zm h rfl;have e8:(A.setCell ⟨p,7,none⟩ (.int .i64 ((a.bound:Int)+(n:Int)))).cell? ⟨p,8,none⟩=some sb:=zm h rfl;have C:=lh i;have s:=lh D;have x:B<=(A.setCell ⟨p,7,none⟩ (.int .i64 ((a.bound:Int)+(n:Int)))).heap.size:=Nat.le_trans i.pB (Nat.le_of_lt i.lt);clear d m f i D h;go_wp2;obtain⟨X,K⟩:∃ X,X=A.setCell ⟨p,7,none⟩ (.int .i64 ((a.bound:Int)+(n:Int))):=⟨_,rfl⟩;have y:Hid (qu X B p Z pl { a with bound:=a.bound+n } (.slice a1 a.out.length k1) sx sm sb sk):=lh (by rw[K];exact C.out);have O:Hid (Fr B w' X):=lh (by rw[K];exact s.out);rw[<-K] at e0 e7 e8 x |-;clear C s K c7 f7;have I:Hid (∀ k o,Below X.heap.size X ((X.drewN k).alloc o)):=lh fun k o=>(show Below X.heap.size X (X.drewN k) from⟨rfl,rfl,rfl,Nat.le_refl _,fun _ _=>rfl⟩).alloc (Nat.le_refl _) o;have P:∀ o,(X.drew.alloc o).ownsRow B 75 2 sb a.bounds.length (ygk a.bounds):=fun o=>(y.out.below (I.out 1 o)).b;have k8:∀ o,(X.alloc o).cell? ⟨p,8,none⟩=some sb:=fun o=>zm (y.out.below ((Below.refl _ X).alloc (Nat.le_refl _) o)).blk rfl;have S:∀ o,B<=(X.drew.alloc o).heap.size:=fun o=>Nat.le_trans x (I.out 1 o).size
  go_region_law (refine vg rfl (.tmp 23) (.tmp 34) 67 rfl B 75 i0 (.agg #[.int .i64 0,.int .i64 0]) 2 16 Tryz.underlying67 hi ab ac ad rfl (by decide) _ _ _ rfl (P _) _ 1 1 [.int .i64 a.out.length,.int .i64 ((a.bound:Int)+(n:Int))] rfl rfl (by intro j u hj;exact yig hj) (by simp[Value.oneCell']) (by unfold maxLen;omega) (by omega) (S _) ?_;intro v' w2 g q;obtain⟨a8,m8,rfl⟩:=jl g;have r:w2.ownsRow B 75 2 (.slice a8 (a.bounds.length+1) m8) (a.bounds.length+1) (ygk (a.bounds++[⟨a.out.length,a.bound+n⟩])):=(by rw[ytv];exact g);obtain⟨z,F,E⟩:=(y.out.below (I.out 1 _)).app_b (l:=a.bounds++[⟨a.out.length,a.bound+n⟩]) (by simp) q r;have q8:w2.cell? ⟨p,8,none⟩=some sb:=zm z rfl;have f8:=zz z 8;have U:=lh F;have N:=lh ((Fr.of_below (B:=B) (I.out 1 _)).trans E);clear g q r z F E e0 e7 e8 k8)
  all_goals
   go_wp2;go_end0
   exact⟨rfl,U.out,O.out.trans N.out⟩
structure InX (x v:WS):Prop where
 e:Ext x v
 u:x.used<=v.used
 tm:v.texts.length+x.marks.length=x.texts.length+v.marks.length
theorem InX.refl (u:WS):InX u u:=⟨.refl u,Nat.le_refl _,rfl⟩
theorem InX.trans {u v w:WS}(h:InX u v)(k:InX v w):InX u w:=⟨h.e.trans k.e,Nat.le_trans h.u k.u,by have:=h.tm;have:=k.tm;omega⟩
theorem yw (w:WS)(t:List UInt8):InX w (w.put t):=⟨yj w t,by cases t<;>exact Nat.le_refl _,by cases t<;>rfl⟩
theorem yka (w:WS)(n:List UInt8):InX w (w.nm n):=⟨yau w n,by
 unfold WS.nm
 split
 ·exact(yw w [48]).u
 ·exact(yw w _).u,by
 unfold WS.nm
 split
 ·exact(yw w [48]).tm
 ·exact(yw w _).tm⟩
theorem ybt (w:WS)(n:Nat):InX w (w.bind n):=⟨ya1 w n,by
 unfold WS.bind;dsimp only
 split
 ·exact(yw w _).u
 ·exact(yw w _).u,by
 unfold WS.bind;dsimp only
 split
 ·exact(yw w _).tm
 ·exact(yw w _).tm⟩
theorem ync (w:WS)(n:Nat):InX w { w with bound:=n }:=⟨yep w n,Nat.le_refl _,rfl⟩
theorem kz {w a b:WS}{c:Prop} [Decidable c] (h:InX w a) (k:InX w b):InX w (if c then a else b):=by
 split
 ·exact h
 ·exact k
theorem z6 {f:WS->ya->WS}(a:∀ w t,InX w (f w t)):∀ (l:List ya) (w:WS),InX w (l.foldl f w)
 | [],w=>.refl w
 | t::l,w=>(a w t).trans (z6 a l _)
theorem yfa {a:ya->WS->WS}(h:∀ t w,InX w (a t w))(t:ya)(w:WS):InX w (vb a t w):=by
 unfold vb;exact kz (yw _ _) (kz ((yw _ _).trans (h _ _)) (h _ _))
theorem yol {f g:ya->WS->WS}(h:∀ t w,InX w (f t w))(k:∀ t w,InX w (g t w))(t:ya)(w:WS):InX w (wBd f g t w):=
 (h _ _).trans (z6 (f:=ya6 g) (fun _ _=>(yw _ _).trans (k _ _)) _ _)
theorem yi4 {c:Nat->ya->WS->WS}(h:∀ j t w,InX w (c j t w))(t:ya)(w:WS):InX w (yc c t w):=by
 have a:∀ (l:List ya) (w:WS),InX w (l.foldl (fun w t=>c 0 t w) w):=z6 fun w t=>h 0 t w;unfold yc;refine kz ((yw _ _).trans (yka _ _)) ?_;refine kz ((yw _ _).trans (a _ _)) ?_;refine kz ((yw _ _).trans (a _ _)) ?_;refine kz ((yw _ _).trans (a _ _)) ?_;refine kz ((((yw _ _).trans (h _ _ _)).trans (yw _ _)).trans (yka _ _)) ?_;refine kz ((((yw _ _).trans (h _ _ _)).trans (z6 (fun w t=>yfa (h 0) t w) _ _)).trans (yw _ _)) ?_;refine kz (yw _ _) ?_;have e:InX w (if 0 < t.num/\(t.kind=11\/t.kind=12) then(w.put [zk t.kind]).put (76::jd t.num) else w.put [zk t.kind]):=kz ((yw _ _).trans (yw _ _)) (yw _ _);refine kz (kz ((e.trans (a _ _)).trans (yw _ _)) (e.trans (a _ _))) ?_;have f:InX w (if t.flag=true then(w.put [t.letter]).put [110] else w.put [t.letter]):=kz ((yw _ _).trans (yw _ _)) (yw _ _);refine kz (f.trans (yw _ _)) ?_;refine kz (yw _ _) ?_;have d:InX w ((w.put [70]).bind t.num):=(yw _ _).trans (ybt _ _);have g:InX w (if t.flag=true then((w.put [70]).bind t.num).put [85] else(w.put [70]).bind t.num):=kz (d.trans (yw _ _)) d;have i:∀ b,InX w b->InX w (if t.name=[] then b else b.put (75::qs t.name)):=fun b h=>kz h (h.trans (yw _ _));refine kz (((((i _ g).trans (a _ _)).trans (yw _ _)).trans (h _ _ _)).trans (ync _ _)) ?_;exact((((((yw _ _).trans (ybt _ _)).trans (z6 (fun w t=>yol (h 1) (h 2) t w) _ _)).trans (ync _ _)).trans (yw _ _)).trans (yfa (h 0) _ _))
theorem yc2 (how:List Int)(u:List UInt8):∀ (l:List (List UInt8×Nat)) (n:Nat),n<=(zr how u l n).2
 | [],n=>Nat.le_refl _
 | (b,m)::r,n=>by
  unfold zr
  split
  ·split
   ·exact yc2 how u r n
   ·split
    ·exact Nat.le_succ n
    ·exact Nat.le_trans (Nat.le_succ n) (yc2 how u r (n+1))
  ·exact yc2 how u r n
theorem qx (pl:Bool)(how:List Int):∀ d t w,InX w (wGo pl how d t w):=by
 intro d
 induction d using Nat.strongRecOn with
 | _ d h=>
  intro t w
  cases d with
  | zero=>rw[wGo];exact .refl w
  | succ d=>
   have b:∀ w,InX w (yc (fun j t w=>wGo pl how (d-j) t w) t w):=yi4 (fun j t w=>h (d-j) (by omega) t w) t;have a:=ys8 pl how (d+1) t w;rw[wGo] at a |-
   split
   ·exact b w
   ·rename_i c
    rw[if_neg c] at a;dsimp only at a |-;have e:=yc2 how (wPl (d+1) t .zero).out (w.texts.zip w.marks) w.used
    cases f:(zr how (wPl (d+1) t .zero).out (w.texts.zip w.marks) w.used).1 with
    | some m=>
     rw[f] at a;exact⟨a,Nat.le_trans e (yw ({ w with used:=(zr how (wPl (d+1) t .zero).out (w.texts.zip w.marks) w.used).2,backs:=w.backs++[⟨w.out.length,m,w.bound⟩] } : WS) (66::jd m)).u,(yw ({ w with used:=(zr how (wPl (d+1) t .zero).out (w.texts.zip w.marks) w.used).2,backs:=w.backs++[⟨w.out.length,m,w.bound⟩] } : WS) (66::jd m)).tm⟩
    | none=>
     rw[f] at a;have g:=(b { w with used:=(zr how (wPl (d+1) t .zero).out (w.texts.zip w.marks) w.used).2 }).tm;exact⟨a,Nat.le_trans e (b { w with used:=(zr how (wPl (d+1) t .zero).out (w.texts.zip w.marks) w.used).2 }).u,by simp only[List.length_append,List.length_cons,List.length_nil] at g |-;omega⟩
theorem yv (w:WS)(t:List UInt8):(w.put t).bound=w.bound:=by cases t<;>rfl
theorem ywj (w:WS)(n:List UInt8):(w.nm n).bound=w.bound:=by
 unfold WS.nm
 split
 ·exact yv w [48]
 ·exact yv w _
theorem yai (w:WS)(n:Nat):(w.bind n).bound=w.bound+n:=by
 unfold WS.bind;dsimp only
 split
 ·rename_i h;rw[h];exact yv w _
 ·show(w.put (vc n)).bound+n=_;rw[yv]
theorem k6 {f:WS->ya->WS}(a:∀ w t,(f w t).bound=w.bound):∀ (l:List ya) (w:WS),(l.foldl f w).bound=w.bound
 | [],w=>rfl
 | t::l,w=>(k6 a l _).trans (a w t)
theorem ynx {a:ya->WS->WS}(h:∀ t w,(a t w).bound=w.bound)(t:ya)(w:WS):(vb a t w).bound=w.bound:=by
 unfold vb
 split
 ·exact yv _ _
 ·split
  ·rw[h,yv]
  ·exact h _ _
theorem yqu {f g:ya->WS->WS}(h:∀ t w,(f t w).bound=w.bound)(k:∀ t w,(g t w).bound=w.bound)(t:ya)(w:WS):(wBd f g t w).bound=w.bound:=by
 unfold wBd;rw[k6 (fun w t=>by unfold ya6;rw[k,yv]),h]
theorem xg {a b:WS}{x:Nat}{c:Prop} [Decidable c] (h:a.bound=x) (k:b.bound=x):(if c then a else b).bound=x:=by
 split
 ·exact h
 ·exact k
theorem yqq {a:Nat->ya->WS->WS}(h:∀ j t w,(a j t w).bound=w.bound)(t:ya)(w:WS):(yc a t w).bound=w.bound:=by
 have b:∀ (l:List ya) (w:WS),(l.foldl (fun w t=>a 0 t w) w).bound=w.bound:=k6 fun w t=>h 0 t w;unfold yc;refine xg ((ywj _ _).trans (yv _ _)) ?_;refine xg ((b _ _).trans (yv _ _)) ?_;refine xg ((b _ _).trans (yv _ _)) ?_;refine xg ((b _ _).trans (yv _ _)) ?_;refine xg ((ywj _ _).trans ((yv _ _).trans ((h _ _ _).trans (yv _ _)))) ?_;refine xg ((yv _ _).trans ((k6 (fun w t=>ynx (h 0) t w) _ _).trans ((h _ _ _).trans (yv _ _)))) ?_;refine xg (yv _ _) ?_;have e:(if 0 < t.num/\(t.kind=11\/t.kind=12) then(w.put [zk t.kind]).put (76::jd t.num) else w.put [zk t.kind]).bound=w.bound:=xg ((yv _ _).trans (yv _ _)) (yv _ _);refine xg (xg ((yv _ _).trans ((b _ _).trans e)) ((b _ _).trans e)) ?_;refine xg ((yv _ _).trans (xg ((yv _ _).trans (yv _ _)) (yv _ _))) ?_;refine xg (yv _ _) ?_;have d:((w.put [70]).bind t.num).bound=w.bound+t.num:=by rw[yai,yv]
 have f:(if t.flag=true then((w.put [70]).bind t.num).put [85] else(w.put [70]).bind t.num).bound=w.bound+t.num:=xg ((yv _ _).trans d) d;have g:∀ c:WS,c.bound=w.bound+t.num->(if t.name=[] then c else c.put (75::qs t.name)).bound=w.bound+t.num:=fun c h=>xg h ((yv _ _).trans h);have i:=(h 0 (t.kids.getLastD .zero) _).trans ((yv (t.kids.dropLast.foldl (fun w t=>a 0 t w) (if t.name=[] then(if t.flag=true then((w.put [70]).bind t.num).put [85] else(w.put [70]).bind t.num) else(if t.flag=true then((w.put [70]).bind t.num).put [85] else(w.put [70]).bind t.num).put (75::qs t.name))) [69]).trans ((b _ _).trans (g _ f)));refine xg ?_ ?_
 ·show(a 0 _ _).bound-t.num=w.bound
  rw[i];omega
 ·have k:(t.kids.dropLast.foldl (fun w t=>wBd (a 1) (a 2) t w) ((w.put [68]).bind t.num)).bound=w.bound+t.num:=by
   rw[k6 (fun w t=>yqu (h 1) (h 2) t w),yai,yv]
  refine(ynx (h 0) _ _).trans ((yv _ _).trans ?_)
  show(t.kids.dropLast.foldl (fun w t=>wBd (a 1) (a 2) t w) ((w.put [68]).bind t.num)).bound-t.num=w.bound
  rw[k];omega
theorem yae (pl:Bool)(how:List Int):∀ d t w,(wGo pl how d t w).bound=w.bound:=by
 intro d
 induction d using Nat.strongRecOn with
 | _ d b=>
  intro t w
  cases d with
  | zero=>rw[wGo]
  | succ d=>
   rw[wGo];have a:∀ w,(yc (fun j t w=>wGo pl how (d-j) t w) t w).bound=w.bound:=yqq (fun j t w=>b (d-j) (by omega) t w) t
   split
   ·exact a w
   ·dsimp only
    cases c:(zr how (wPl (d+1) t .zero).out (w.texts.zip w.marks) w.used).1 with
    | some m=>dsimp only;rw[yv]
    | none=>dsimp only;rw[a]
structure j4 (F:WS):Prop where
 o:F.out.length+200000<=1000000000
 x:F.texts.length<=1000000
 m:F.marks.length<=1000000
 b:F.bounds.length<=1000000
 k:F.backs.length<=1000000
 u:F.used<=1000000000
 mm:∀ m∈F.marks,m<=1000000000
 tm:F.texts.length=F.marks.length
theorem j4.of {u F:WS}(a:j4 F)(h:InX u F):j4 u:=
 ⟨by have:=h.e.o.length_le;have:=a.o;omega,Nat.le_trans h.e.t.length_le a.x,Nat.le_trans h.e.m.length_le a.m,Nat.le_trans h.e.b.length_le a.b,Nat.le_trans h.e.k.length_le a.k,Nat.le_trans h.u a.u,fun m c=>a.mm m (h.e.m.subset c),by have:=h.tm;have:=a.tm;omega⟩
structure WE (w0:World)(B p:Nat)(h:Value)(pl:Bool)(how:List Int):Prop where
 hB:B=w0.heap.size
 vt:yb1 w0
 pt:yec w0
 hw:pl=false->jk w0 h how
def WrC (w0:World)(B p:Nat)(h:Value)(pl:Bool)(d F:Nat)(ok:ya->Prop)(f:ya->WS->WS):Prop:=
 ∀ (t:ya) (v:Value) (w:World) (st:WS),ok t->yg w0 t v->Below B w0 w->WAt w B p h pl st->j4 (f t st)->st.bound+20*d<=1000->
  Calls Tryz.prog F #[.pointer (some ⟨p,0,none⟩),v] w fun e w'=>kx B p h pl w (f t st) e w'
def okP (d:Nat)(t:ya):Prop:=∃ md b,ptc md/\Rt md d b t/\b<=20/\t.wt<=300
theorem yqp {t:ya}{l:List ya}(h:t∈l):t.wt<=(l.map ya.wt).sum:=xn h
theorem vd {k:Nat}{c:UInt8}{nm:List UInt8}{n N i:Nat}{f:Bool}{kids:List ya}(hi:i < kids.length)(h:(ya.mk k c nm n f kids).wt<=N):(kids.getD i .zero).wt<=N:=by
 rw[zd] at h;have:kids.getD i .zero∈kids:=by rw[lgd,lge hi];exact List.getElem_mem hi
 have:=yqp this;omega
theorem yey {k:Nat}{c:UInt8}{nm:List UInt8}{n N i:Nat}{f:Bool}{a:List ya}{q:ya}(hi:i < a.length) (h:(ya.mk k c nm n f (a++[q])).wt<=N):(a.getD i .zero).wt<=N:=by
 rw[zd] at h;have:a.getD i .zero∈a++[q]:=by rw[lgd,lge hi];exact List.mem_append_left _ (List.getElem_mem hi)
 have:=yqp this;omega
theorem yn5 {k:Nat}{c:UInt8}{nm:List UInt8}{n N:Nat}{f:Bool}{a:List ya}{q:ya} (h:(ya.mk k c nm n f (a++[q])).wt<=N):q.wt<=N:=by
 rw[zd] at h;have:=yqp (t:=q) (l:=a++[q]) (by simp);omega
theorem y9 {Q:Ending->World->Prop}{w0 w:World}{B p:Nat}{h:Value}{pl:Bool}{st:WS}(t:List UInt8)(hB:B=w0.heap.size)(a:Below B w0 w)(g:WAt w B p h pl st)(f:j4 (st.put t))(l:t.length<=150000)
  (k:∀ b,WAt b B p h pl (st.put t)->Fr B w b->Below B w0 b->Q (.returned (.tuple #[])) b) :
  Calls Tryz.prog 59 #[.pointer (some ⟨p,0,none⟩),.string ⟨t.toArray⟩] w Q:=by
 have i:=(yj st t).o.length_le;have j:=f.o;refine(yd3 g (by omega)).mono ?_;rintro e b ⟨rfl,d,c⟩;exact k b d c (a.trans (c.below (by rw[hB];exact a.size)))
theorem yl7 {Q:Ending->World->Prop}{w0 w:World}{B p:Nat}{h:Value}{pl:Bool}{how:List Int}{st:WS}{nm:List UInt8}(E:WE w0 B p h pl how)(a:Below B w0 w)(i:WAt w B p h pl st)(g:NmW nm)(f:j4 (st.nm nm))
  (k:∀ b,WAt b B p h pl (st.nm nm)->Fr B w b->Below B w0 b->Q (.returned (.tuple #[])) b) :
  Calls Tryz.prog 111 #[.pointer (some ⟨p,0,none⟩),.string ⟨nm.toArray⟩] w Q:=by
 have j:=(yau st nm).o.length_le;have l:=f.o;refine(yo7 i g (by omega) (E.vt.below (by rw[<-E.hB];exact a)) (E.pt.below (by rw[<-E.hB];exact a))).mono ?_;rintro e b ⟨rfl,d,c⟩;exact k b d c (a.trans (c.below (by rw[E.hB];exact a.size)))
theorem ydu {Q:Ending->World->Prop}{w0 w:World}{B p:Nat}{h:Value}{pl:Bool}{st:WS}{n:Nat}(hB:B=w0.heap.size)(a:Below B w0 w)(i:WAt w B p h pl st)(j:n<=20)(hb:st.bound<=1000)(g:j4 (st.bind n))
  (k:∀ c,WAt c B p h pl (st.bind n)->Fr B w c->Below B w0 c->Q (.returned (.tuple #[])) c) :
  Calls Tryz.prog 114 #[.pointer (some ⟨p,0,none⟩),.int .u64 n] w Q:=by
 have l:=(ya1 st n).o.length_le;have q:=(ya1 st n).b.length_le;have m:=g.o;have r:=g.b;refine(ytt i j hb (by omega) (by omega)).mono ?_;rintro e c ⟨rfl,f,d⟩;exact k c f d (a.trans (d.below (by rw[hB];exact a.size)))
theorem xr {Q:Ending->World->Prop}{w0 w:World}{B p d F:Nat}{h:Value}{pl:Bool}{i:ya->Prop}{f:ya->WS->WS}(C:WrC w0 B p h pl d F i f)(hB:B=w0.heap.size){t:ya}{v:Value}{st:WS}(m:i t)(n:yg w0 t v)(a:Below B w0 w)(l:WAt w B p h pl st)
  (j:j4 (f t st)) (hb:st.bound+20*d<=1000) (k:∀ b,WAt b B p h pl (f t st)->Fr B w b->Below B w0 b->Q (.returned (.tuple #[])) b) :
  Calls Tryz.prog F #[.pointer (some ⟨p,0,none⟩),v] w Q:=by
 refine(C t v w st m n a l j hb).mono ?_;rintro e b ⟨rfl,g,c⟩;exact k b g c (a.trans (c.below (by rw[hB];exact a.size)))
abbrev PcC (w0:World)(B p:Nat)(h:Value)(pl:Bool)(how:List Int)(d:Nat):Prop:=WrC w0 B p h pl d 40 (okP d) (wGo pl how d)
theorem ym1 {w0 w:World}{B p d:Nat}{h:Value}{pl:Bool}{how:List Int}(C:PcC w0 B p h pl how d)(hB:B=w0.heap.size){ao:Option Addr}{cap:Nat}{kids:List ya}{st:WS}(hK:qz w0 ao cap kids)(Y:∀ i,i < kids.length->okP d (kids.getD i .zero))
  (q:Below B w0 w) (X:WAt w B p h pl st) (W:j4 (kids.foldl (fun w t=>wGo pl how d t w) st)) (hb:st.bound+20*d<=1000) :
  Calls Tryz.prog 112 #[.pointer (some ⟨p,0,none⟩),.slice ao kids.length cap] w fun e w'=>kx B p h pl w (kids.foldl (fun w t=>wGo pl how d t w) st) e w':=by
 have am:=hK.c1;have O:=hK.c2;unfold maxLen at O;have D:=hK.nn;have HC:=lh C;have E:=lh hB;have HK:=lh hK;have HO:=lh Y;have HL:=lh q;have HW:=lh X;have T:=lh W;have F:=lh hb;obtain⟨f,P⟩:∃ f:WS->ya->WS,f=fun w t=>wGo pl how d t w:=⟨_,rfl⟩;have j:=lh P;rw[<-P] at T |-;clear C hK Y q X W hb P hB
 go_enter Tryz.func112,Tryz.ntmps112
 go_wp2
 go_loopw [8] (fun i wr=>∃ (k:Nat) (s:WS),k<=kids.length/\i=.int .i64 k/\Below B w0 wr/\Fr B w wr/\WAt wr B p h pl s/\Hid (s=(kids.take k).foldl f st)) (fun i _=>kids.length-(intOf i).toNat)
 case atStart=>exact⟨0,st,by omega,rfl,HL.out,Fr.refl _ _,HW.out,lh rfl⟩
 case round=>
  obtain⟨k,s,hk,rfl,g,m,l,L⟩:=hrel
  by_cases b:k < kids.length
  ·obtain⟨kb,ko,rfl⟩:=D (fun h=>by rw[h] at b;simp at b)
   obtain⟨v0,v1,v2,v3,v4,v5,U,R⟩:=HK.out.elB k b;obtain⟨e0,e1,e2,e3,e4,e5⟩:=U.at E.out g;obtain⟨kv,c,nm,n,fl,an,ap,Z,rfl,rfl,rfl,rfl,rfl,rfl⟩:=R.shape;have v:(kids.take (k+1)).foldl f st=f s (kids.getD k .zero):=by
    rw[L.out,lts b,List.foldl_append,lgd,lge b];rfl
   have a:kids.foldl f st=(kids.drop (k+1)).foldl f (f s (kids.getD k .zero)):=by
    rw[<-v,<-List.foldl_append,List.take_append_drop]
   have A:InX (f s (kids.getD k .zero)) (kids.foldl f st):=by
    rw[a];exact z6 (fun w t=>by rw[j.out];exact qx pl how d t w) _ _
   have z:=T.out.of A;have y:s.bound=st.bound:=by rw[L.out];exact k6 (fun w t=>by rw[j.out];exact yae pl how d t w) _ _
   have o:s.bound+20*d<=1000:=by rw[y];exact F.out
   have M:=lh v;have G:=lh z;have HT:=lh R;have J:=lh g;have u:=lh l;have r:=lh m;have x:=lh o;have Q:B<=wr.heap.size:=by rw[E.out];exact g.size
   clear D U R g m l v a A z y o
   go_wp2_with fail
   refine xr HC.out E.out (HO.out k b) HT.out (J.out.alloc Q _) (u.out.alloc _) (by have:=G.out;rw[j.out] at this;exact this) x.out (fun w1 V S b1=>?_);have N:Hid (WAt w1 B p h pl (f s (kids.getD k .zero))):=lh (by rw[j.out];exact V);have H:=lh (r.out.trans ((Fr.alloc B wr _).trans S));have K:=lh b1;clear e0 e1 e2 e3 e4 e5 V S b1;go_wp2
   go_roundw
   case rel=>exact⟨k+1,_,by omega,by go_num,K.out,H.out,N.out,lh M.out.symm⟩
   case measure=>simp[intOf];omega
  ·have a:s=kids.foldl f st:=by rw[L.out,List.take_of_length_le (by omega)]
   have I:=lh a;have u:=lh l;have r:=lh m;clear a l m g;go_wp2;go_end0;exact⟨rfl,by rw[<-I.out];exact u.out,r.out⟩
theorem zy {Q:Ending->World->Prop}{w0 w:World}{B p d:Nat}{h:Value}{pl:Bool}{how:List Int}(C:PcC w0 B p h pl how d)(hB:B=w0.heap.size){ao:Option Addr}{cap:Nat}{kids:List ya}{st:WS}(hK:qz w0 ao cap kids)(l:∀ i,i < kids.length->okP d (kids.getD i .zero))
  (a:Below B w0 w) (j:WAt w B p h pl st) (g:j4 (kids.foldl (fun w t=>wGo pl how d t w) st)) (hb:st.bound+20*d<=1000)
  (k:∀ b,WAt b B p h pl (kids.foldl (fun w t=>wGo pl how d t w) st)->Fr B w b->Below B w0 b->Q (.returned (.tuple #[])) b) :
  Calls Tryz.prog 112 #[.pointer (some ⟨p,0,none⟩),.slice ao kids.length cap] w Q:=by
 refine(ym1 C hB hK l a j g hb).mono ?_;rintro e b ⟨rfl,f,c⟩;exact k b f c (a.trans (c.below (by rw[hB];exact a.size)))
theorem yrd {md:Sm}{d b:Nat}{t:ya}(h:Rt md d b t):1<=t.kind:=by
 induction h with
 | tpath _ i=>exact i
 | argC _ i=>exact i
 | argT _ i=>exact i
 | ref a=>simp only[ya.kind];omega
 | ptr a=>simp only[ya.kind];omega
 | _=>simp only[ya.kind];omega
def okA (d:Nat)(t:ya):Prop:=∃ b,Rt .arg d b t/\b<=20/\t.wt<=300
theorem yo3 {w0:World}{B p d:Nat}{h:Value}{pl:Bool}{how:List Int}(C:PcC w0 B p h pl how d)(hB:B=w0.heap.size):WrC w0 B p h pl d 113 (okA d) (vb (wGo pl how d)):=by
 intro t v w st ho F o W V hb;obtain⟨b,P,u,I⟩:=ho;have N:=lh F;have s:=o.size;rw[<-hB] at s;have M:=lh C;have J:=lh o;have K:=lh W;have r:=lh V;obtain⟨k,c,nm,n,f,kids⟩:=t;have Q:1<=k:=by
  cases P with
  | life=>omega
  | argC h=>have:=(km h).2.2 rfl;simp only[ya.kind] at this;omega
  | argT h=>exact yrd h
 obtain⟨ao,cap,rfl,hK,L,Z⟩:=yo F Q;have E:(k=19/\n<=b)\/((k=20\/k=21)/\okP d (.mk k c nm n f kids))\/((k≠19/\k≠20/\k≠21)/\okP d (.mk k c nm n f kids)):=by
  cases P with
  | life L=>exact .inl ⟨rfl,L⟩
  | argC h=>exact .inr (.inl ⟨(km h).2.2 rfl,.const,b,.inr (.inr rfl),h,u,I⟩)
  | argT h=>exact .inr (.inr ⟨by have:=(km h).2.1 rfl;simp only[ya.kind] at this;omega,.type,b,.inr (.inl rfl),h,u,I⟩)
 clear P hK F o W V C
 rcases E with⟨rfl,Y⟩|⟨X,i⟩|⟨⟨S,T,U⟩,i⟩
 ·have hr:vb (wGo pl how d) (.mk 19 c nm n f kids) st=st.put (76::jd n):=rfl
  rw[hr] at r |-;have ab:=gh L
  go_enter Tryz.func113,Tryz.ntmps113
  go_wp2_with fail
  refine(x9 n L _).mono ?_;rintro e w' ⟨rfl,rfl⟩
  go_wp2_with fail
  refine y9 (76::jd n) hB (J.out.alloc s _) (K.out.alloc _) r.out (by simp;omega) (fun R m j b1=>?_);have a:=lh ((Fr.alloc B w _).trans j);have g:=lh m;clear j m b1;go_wp2;go_end0;exact⟨rfl,g.out,a.out⟩
 ·rcases X with rfl|rfl
  ·have hr:vb (wGo pl how d) (.mk 20 c nm n f kids) st=wGo pl how d (.mk 20 c nm n f kids) (st.put [75]):=rfl
   rw[hr] at r |-;have q:(st.put [75]).bound+20*d<=1000:=by rw[yv];exact hb
   have x:=lh q;have l:=lh i;have y:=lh (r.out.of (qx pl how d (.mk 20 c nm n f kids) (st.put [75])));clear i q
   go_enter Tryz.func113,Tryz.ntmps113
   go_wp2_with fail
   refine y9 [75] hB (J.out.alloc s _) (K.out.alloc _) y.out (by simp) (fun R m j b1=>?_);have a:=lh ((Fr.alloc B w _).trans j);have g:=lh m;have A:=lh b1;obtain⟨x0,x1,x2,x3,x4,x5⟩:=yn (j.cell (ym w _));clear j m b1
   go_wp2_with fail
   refine xr M.out hB l.out N.out A.out g.out r.out x.out (fun w2 H G O=>?_);have z:=lh (a.out.trans G);have D:=lh H;clear G H O;go_wp2;go_end0;exact⟨rfl,D.out,z.out⟩
  ·have hr:vb (wGo pl how d) (.mk 21 c nm n f kids) st=wGo pl how d (.mk 21 c nm n f kids) (st.put [75]):=rfl
   rw[hr] at r |-;have q:(st.put [75]).bound+20*d<=1000:=by rw[yv];exact hb
   have x:=lh q;have l:=lh i;have y:=lh (r.out.of (qx pl how d (.mk 21 c nm n f kids) (st.put [75])));clear i q
   go_enter Tryz.func113,Tryz.ntmps113
   go_wp2_with fail
   refine y9 [75] hB (J.out.alloc s _) (K.out.alloc _) y.out (by simp) (fun R m j b1=>?_);have a:=lh ((Fr.alloc B w _).trans j);have g:=lh m;have A:=lh b1;obtain⟨x0,x1,x2,x3,x4,x5⟩:=yn (j.cell (ym w _));clear j m b1
   go_wp2_with fail
   refine xr M.out hB l.out N.out A.out g.out r.out x.out (fun w2 H G O=>?_);have z:=lh (a.out.trans G);have D:=lh H;clear G H O;go_wp2;go_end0;exact⟨rfl,D.out,z.out⟩
 ·have hr:vb (wGo pl how d) (.mk k c nm n f kids) st=wGo pl how d (.mk k c nm n f kids) st:=(if_neg S).trans (if_neg (by rintro (h|h);exact T h;exact U h))
  rw[hr] at r |-;have q1:((k:Int) == 19)=false:=by rw[beq_eq_false_iff_ne];omega
  have q2:((k:Int) == 20)=false:=by rw[beq_eq_false_iff_ne];omega
  have q3:((k:Int) == 21)=false:=by rw[beq_eq_false_iff_ne];omega
  have l:=lh i;clear S T U i
  go_enter Tryz.func113,Tryz.ntmps113
  go_wp2_with fail
  refine xr M.out hB l.out N.out (J.out.alloc s _) (K.out.alloc _) r.out hb (fun R m j b1=>?_);have a:=lh ((Fr.alloc B w _).trans j);have g:=lh m;clear j m b1;go_wp2;go_end0;exact⟨rfl,g.out,a.out⟩
end Go.Proofs.YtfckcdbpiepchaaGreatDoor
