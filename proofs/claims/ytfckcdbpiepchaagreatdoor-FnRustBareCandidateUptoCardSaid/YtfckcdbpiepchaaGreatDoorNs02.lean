import Derived.Test.YtfckcdbpiepchaaGreatDoorNs00
import Derived.Test.YtfckcdbpiepchaaGreatDoorNs01
import Derived.Deep.RegionLaw
import Derived.Deep.CutBlock
import Derived.Recover
import Derived.RegionTactic
namespace Go.Proofs.YtfckcdbpiepchaaGreatDoor
open Go.RowKit
set_option maxRecDepth 100000
set_option maxHeartbeats 8000000
set_option linter.all false
theorem Tryz.infoRune: (Tryz.prog.info? 21).map (fun i=>(i.zero,i.size,i.bytes))=some (some (.int .i32 0),1,4):=by kernel_rfl
theorem RAt.below {w w':World}{p:Nat}{st:RS}(h:RAt w p st)(hb:Below w.heap.size w w'):RAt w' p st:=by
 obtain⟨a,n,d,i,l,j⟩:=h;have m:p < w.heap.size:=(Array.getElem?_eq_some_iff.1 d).1;refine⟨a,n,by rw[hb.block p m];exact d,i,l,?_⟩;obtain⟨k,c⟩:=j;refine⟨k,?_⟩
 rcases c with c|⟨g,cap,b,e,hB,f,r⟩
 ·exact .inl c
 ·exact .inr ⟨g,cap,b,e,hB,by rw[hb.block g (Array.getElem?_eq_some_iff.1 f).1];exact f,r⟩
theorem Upd.of_below {w w':World}{p:Nat}(b:p < w.heap.size)(hb:Below w.heap.size w w'):Upd p w w':=
 ⟨hb.os,hb.tape,hb.output,hb.size,fun k a _ _=>hb.block k a,fun k a=>by
  have:jn w' p=jn w p:=by unfold jn;rw[hb.block p b]
  rw[this] at a;exact .inl a⟩
theorem yjt {n:Int}(w:World)(h:ya7 n=true)(a:128<=n) :
  Calls Tryz.prog 185 #[.int .i32 n] w fun e w'=>e=.returned (.bool true)/\w=w':=
 (Tryz.utf8_ValidRune n w).mono fun e w' ⟨b,hw⟩=>⟨by rw[b,yfp a,h],hw.symm⟩
theorem ypw (s:List UInt8)(w:World)(a:s.length<=2147483648) :
  Calls Tryz.prog 184 #[.string ⟨s.toArray⟩,.string ⟨#[95]⟩] w fun e w'=>e=.returned (.int .i64 (ybb s))/\w=w':=
 (Tryz.strings_LastIndex_one ⟨s.toArray⟩ ⟨#[95]⟩ rfl (by show s.length < _;omega) w).mono fun e w' ⟨h,hw⟩=>⟨by rw[h,<-yil s];rfl,hw.symm⟩
theorem ynh {w:World}{p:Nat}{st:RS}{s:List UInt8}{out:List Int}(di:RAt w p st)(hl:s.length<=2147483648)(cr:s.all yr=true)(hc:ybb s≠0)(a5:yak s≠[])(hd:yaf (ybc s) (yak s)=some out) :
  Calls Tryz.prog 171 #[.pointer (some ⟨p,0,none⟩),.string ⟨s.toArray⟩] w fun e w'=>e=.returned (.string (runesBytes out))/\Below w.heap.size w w':=by
 obtain⟨i0,hi,d9,cx,ea⟩:=info_parts Tryz.infoRune;have cb:=yhm s s.length;have ck:=yl1 hd;have a8:=ynm hd;obtain⟨cu,ax⟩:∃ cu,ybb s=cu:=⟨_,rfl⟩;obtain⟨D,bk⟩:∃ D,ybc s=D:=⟨_,rfl⟩;obtain⟨E,a0⟩:∃ E,yak s=E:=⟨_,rfl⟩;have F:=bk;have K:=a0;unfold ybc at F;unfold yak at K;rw[ax] at F K hc;have cc:-1<=cu/\cu < (s.length:Int):=by rw[<-ax];exact cb
 rw[bk,a0] at hd ck;rw[a0] at a5;have cl:Hid (ybb s=cu):=ax;have dt:D.length<=2147483648:=by rw[<-F];split<;>simp<;>omega
 have e5:E.length<=2147483648:=by rw[<-K];simp;omega
 have b8:Hid (∀ c∈D,c.toNat < 128):=by
  intro c ab;rw[<-F] at ab
  split at ab
  ·exact yrr (List.all_eq_true.1 cr c (List.mem_of_mem_take ab))
  ·cases ab
 have HD:=lh hd;have de:=lh a8;clear hd a8 ax bk a0 cb cr;obtain⟨B,hB⟩:∃ B,B=w.heap.size:=⟨_,rfl⟩;rw[<-hB];have HB:Hid (B=w.heap.size):=hB;clear hB;obtain⟨dk,dm⟩:=cc;have ca:0 < cu\/cu=-1:=by omega
 go_enter Tryz.func171,Tryz.ntmps171
 go_upto_if 25 with(go_at_call 184;refine(ypw s _ hl).mono ?_;rintro e w' ⟨rfl,rfl⟩;rw[cl.out])
 go_cut [5,6] (fun v ev wc=>∃ (av:Option Addr) (au:Nat),v=.slice av D.length au/\ev=.string ⟨E.toArray⟩/\wc.ownsRow B 21 1 (.slice av D.length au) D.length (vu (vi D))/\Below B w wc/\B<=wc.heap.size)
 case first=>
  rcases ca with bl|bl
  ·rw[if_pos bl] at F
   have em:0<=cu:=by omega
   have ez:∀ w:World,(convert 9 163 (.string ⟨D.toArray⟩)).run Tryz.prog w=.ok (.slice (some ⟨w.heap.size,0,none⟩) D.length (grownCap w D.length 0 21))
     (w.drew.alloc (.cells ((vu (vi D)).toArray++Array.replicate (grownCap w D.length 0 21-D.length) (.int .i32 0)) 21)):=by
    intro w;have e:=yk1 D b8.out;have e2:(vu (vi D)).toArray.size=D.length:=by simp[vu,vi]
    have:=run_runes_of_string (P:=Tryz.prog) w 9 163 21 ⟨D.toArray⟩ Tryz.underlying9 Tryz.underlying163 Tryz.underlying21 (by rw[e,e2];omega);rw[e,e2] at this;exact this
   go_wp2
   go_meet
   exact⟨_,_,rfl,rfl,yj1 (sp:=List.replicate (grownCap w D.length 0 21-D.length) (.int .i32 0)) (Nat.le_of_eq HB.out) (by show((w.alloc _).heap[w.heap.size]?)=_;rw[ym];simp) (by simp[vu,vi]) (by have:=grownCap_ge w D.length 0 21;simp;omega) (grownCap_le_maxLen w D.length 0 21 (by unfold maxLen;omega)),
    ((Below.refl _ _).alloc (Nat.le_of_eq HB.out) _).drew,by simp;have:=HB.out;omega⟩
  ·subst bl
   rw[if_neg (by omega)] at F;have dg:Hid (s=E):=by show s=E;simpa using K
   clear K;subst F;go_wp2
   go_meet
   exact⟨none,0,rfl,by rw[dg.out],⟨by simp[vu,vi],.inl ⟨rfl,rfl⟩⟩,Below.refl _ _,Nat.le_of_eq HB.out⟩
 case rest=>
  clear hc F K cl b8 dk dm ca;obtain⟨av,au,rfl,rfl,aq,ah,bg⟩:=hcut;go_wp2
  go_loopg [5,8,9,10,11] E.length (fun gk v iv nv bv pv wr=>∃ (n:Nat) (Q:List UInt8) (l:List Int) (a:Option Addr) (c:Nat) (O q b:Int) (j:Nat),Hid (Q.length=gk)/\v=.slice a l.length c/\iv=.int .i64 q/\nv=.int .i64 O/\bv=.int .i64 b/\pv=.int .i64 j/\Hid (E.drop j=Q)/\Hid (j+Q.length=E.length)/\j<=E.length/\Hid (dec n l Q O q b=some out)/\wr.ownsRow B 21 1 (.slice a l.length c) l.length (vu l)/\Below B w wr/\B<=wr.heap.size/\l.length+Q.length<=4294967296/\Q.length<=n/\0<=q/\q<=l.length/\128<=O/\O<=1114111/\0<=b/\b<=700)
  case atStart=>
   exact⟨E.length,E,vi D,av,au,128,0,72,0,rfl,by rw[show(vi D).length=D.length by simp[vi]],rfl,rfl,rfl,rfl,rfl,by simp[Hid],by omega,HD.out,by rw[show(vi D).length=D.length by simp[vi]];exact aq,ah,bg,by simp[vi];omega,Nat.le_refl _,by omega,by omega,by omega,by omega,by omega,by omega⟩
  case round=>
   clear di hl a5 dt HD de aq ah bg;obtain⟨n,Q,l,a,c,O,q,b,j,cg,rfl,rfl,rfl,rfl,rfl,U,J,hj,am,M,W,bp,cm,hn,q0,q1,n0,n1,b0,b1⟩:=hrel
   cases Q with
   | nil=>
    have d0:Hid (j=E.length):=by have h:=J.out;simp only[List.length_nil,Nat.add_zero] at h;exact h
    obtain rfl:=d0.out;have h1:Hid (l=out):=by have h:=am.out;rw[show dec n l [] O q b=some l from by cases n<;>rfl] at h;exact Option.some.inj h
    have en:=yno (P:=Tryz.prog) (src:=163) (dst:=9) Tryz.underlying163 Tryz.underlying21 Tryz.underlying9 M;clear M;go_wp2;go_ret;rw[h1.out];exact⟨rfl,W⟩
   | cons x r=>
    have cn:j < E.length:=by have:=J.out;simp at this;omega
    obtain⟨n,rfl⟩:∃ n',n=n'+1:=⟨n-1,by simp at hn;omega⟩;have I:=am.out;clear am;unfold dec at I
    cases hx:rd (x::r) 1 1 q b with
    | none=>rw[hx] at I;cases I
    | some sr=>
     obtain⟨C,r1⟩:=sr;simp only[hx] at I;have dz:=yrl _ _ _ _ _ _ _ (by omega) hx;have bm:=yg0 _ _ _ _ _ _ _ hx;have HX:=lh hx;clear hx;obtain⟨s0,s1⟩:=dz;simp only[List.length_cons] at bm cm hn;obtain⟨j1,ch⟩:∃ j1,j1=E.length-r1.length:=⟨_,rfl⟩;have ci:j1<=E.length:=by omega
     have cj:Hid (j1+r1.length=E.length):=by have:=J.out;simp at this;show _=_;omega
     have Y:=lh ch;clear ch
     go_upto_block 2 with fail
     go_cut [8,11] (fun iv pv wc=>iv=.int .i64 C/\pv=.int .i64 j1/\E.drop j1=r1/\wc=wr)
     case first=>
      clear I M W bp cm hn cg
      go_wp2_with fail
      go_loop [8,11,13,14] (fun iv pv wv kv=>∃ (ag:List UInt8) (H:Nat) (i2 wt pl kk:Int),iv=.int .i64 i2/\pv=.int .i64 H/\wv=.int .i64 wt/\kv=.int .i64 kk/\Hid (E.drop H=ag)/\Hid (H+ag.length=E.length)/\Hid (rd ag pl wt i2 b=some (C,r1))/\
        Hid (kk=36*pl)/\36<=kk/\kk<=36+36*(H:Int)/\H<=E.length/\1<=wt/\wt<=2087831270/\q<=i2/\i2<=q+4*wt) (fun _ pv _ _=>E.length+1-(intOf pv).toNat)
      case atStart=>exact⟨x::r,j,q,1,1,36,rfl,rfl,rfl,rfl,U,J,HX.out,rfl,by omega,by omega,by omega,by omega,by omega,by omega,by omega⟩
      case round=>
       clear U J HX cn;obtain⟨ag,H,i2,wt,pl,kk,rfl,rfl,rfl,rfl,U,J,bo,V,k0,k1,e7,w0,w1,t0,t1⟩:=hrel
       cases ag with
       | nil=>have h:=bo.out;simp[rd] at h
       | cons y X=>
        have be:H < E.length:=by have:=J.out;simp at this;omega
        have hy:E[H]=y:=by have h:=U.out;rw[List.drop_eq_getElem_cons be] at h;exact(List.cons.inj h).1
        have u:Hid (E.drop (H+1)=X):=by have h:=U.out;rw[List.drop_eq_getElem_cons be] at h;exact(List.cons.inj h).2
        have A:Hid (H+1+X.length=E.length):=by have h:=J.out;simp only[List.length_cons] at h;show _=_;omega
        have S:=bo.out;unfold rd at S;have fc:(y.toNat:Int)<=255:=by have:=y.toNat_lt;omega
        have bc:=V.out;have an:¬ (yfi y.toNat < 0\/wt > 1099511627776):=fun h=>by rw[if_pos h] at S;cases S
        rw[if_neg an] at S;obtain⟨d,hd⟩:∃ d,yfi (y.toNat:Int)=d:=⟨_,rfl⟩;obtain⟨t,ht⟩:∃ t,thr pl b=t:=⟨_,rfl⟩;rw[hd] at an S;rw[ht] at S;have ay:0<=d:=by omega
        have e0:d<=35:=by rw[<-hd];exact(yvv _).2
        have d2:1<=t/\t<=26:=by rw[<-ht];exact yel _ _
        obtain⟨t2,t3⟩:=d2;have ak:Hid ((48<=(y.toNat:Int)/\(y.toNat:Int)<=57/\d=(y.toNat:Int)-48+26)\/(97<=(y.toNat:Int)/\(y.toNat:Int)<=122/\d=(y.toNat:Int)-97)):=by
         show _\/_
         rw[<-hd] at ay |-;unfold yfi at ay |-
         split at ay
         ·right;rename_i h;rw[if_pos h];exact⟨h.1,h.2,rfl⟩
         ·split at ay
          ·left;rename_i h h';rw[if_neg h,if_pos h'];exact⟨h'.1,h'.2,rfl⟩
          ·omega
        have T:Hid ((kk<=b/\t=1)\/(b+26 < kk/\t=26)\/(b < kk/\kk<=b+26/\t=kk-b)):=by
         show _\/_
         rw[<-ht,bc];unfold thr;omega
        have e8:0<=d*wt:=Int.mul_nonneg (by omega) (by omega);have e9:d*wt<=35*wt:=Int.mul_le_mul_of_nonneg_right (by omega) (by omega);have G:=lh S;clear hd ht U J bo S an bc
        rcases ak.out with⟨e1,e2,e3⟩|⟨e1,e2,e3⟩
        ·have e4:=e3.symm;clear e3 ak
         rcases T.out with⟨f1,f2⟩|⟨f1,f2⟩|⟨f1,f2,f3⟩
         ·subst f2;clear T
          have f:=G.out;clear G
          by_cases N:d < 1
          ·rw[if_pos N] at f
           have i:Hid (i2+d*wt=C/\X=r1):=by split at f;(· have h:=Option.some.inj f;exact⟨(Prod.mk.inj h).1,(Prod.mk.inj h).2⟩);(· cases f)
           clear f;have R:Hid (j1=H+1):=by show _=_;rw[Y.out,<-i.out.2];have h:=A.out;omega
           go_wp2
           all_goals
            go_meet
            exact⟨by rw[i.out.1],by rw[R.out];go_num,by rw[R.out,<-i.out.2];exact u.out,rfl⟩
          ·rw[if_neg N] at f
           have g2:¬ wt≥59652323:=fun h=>by rw[if_pos h] at f;cases f
           rw[if_neg g2] at f;have HH:=lh f;clear f;have y0:wt*10<=wt*(36-1):=Int.mul_le_mul_of_nonneg_left (by omega) (by omega);have y1:wt*(36-1)<=wt*35:=Int.mul_le_mul_of_nonneg_left (by omega) (by omega);go_wp2
           all_goals
            go_round
            case rel=>exact⟨X,H+1,_,_,pl+1,_,rfl,by go_num,rfl,rfl,u,A,HH.out,by have h:=V.out;show _=_;omega,by omega,by push_cast;omega,by omega,by omega,by omega,by omega,by omega⟩
            case measure=>simp[intOf];omega
         ·subst f2;clear T
          have f:=G.out;clear G
          by_cases N:d < 26
          ·rw[if_pos N] at f
           have i:Hid (i2+d*wt=C/\X=r1):=by split at f;(· have h:=Option.some.inj f;exact⟨(Prod.mk.inj h).1,(Prod.mk.inj h).2⟩);(· cases f)
           clear f;have R:Hid (j1=H+1):=by show _=_;rw[Y.out,<-i.out.2];have h:=A.out;omega
           go_wp2
           all_goals
            go_meet
            exact⟨by rw[i.out.1],by rw[R.out];go_num,by rw[R.out,<-i.out.2];exact u.out,rfl⟩
          ·rw[if_neg N] at f
           have g2:¬ wt≥59652323:=fun h=>by rw[if_pos h] at f;cases f
           rw[if_neg g2] at f;have HH:=lh f;clear f;have y0:wt*10<=wt*(36-26):=Int.mul_le_mul_of_nonneg_left (by omega) (by omega);have y1:wt*(36-26)<=wt*35:=Int.mul_le_mul_of_nonneg_left (by omega) (by omega);go_wp2
           all_goals
            go_round
            case rel=>exact⟨X,H+1,_,_,pl+1,_,rfl,by go_num,rfl,rfl,u,A,HH.out,by have h:=V.out;show _=_;omega,by omega,by push_cast;omega,by omega,by omega,by omega,by omega,by omega⟩
            case measure=>simp[intOf];omega
         ·have f4:=f3.symm;clear f3 T
          have f:=G.out;clear G
          by_cases N:d < t
          ·rw[if_pos N] at f
           have i:Hid (i2+d*wt=C/\X=r1):=by split at f;(· have h:=Option.some.inj f;exact⟨(Prod.mk.inj h).1,(Prod.mk.inj h).2⟩);(· cases f)
           clear f;have R:Hid (j1=H+1):=by show _=_;rw[Y.out,<-i.out.2];have h:=A.out;omega
           go_wp2
           all_goals
            go_meet
            exact⟨by rw[i.out.1],by rw[R.out];go_num,by rw[R.out,<-i.out.2];exact u.out,rfl⟩
          ·rw[if_neg N] at f
           have g2:¬ wt≥59652323:=fun h=>by rw[if_pos h] at f;cases f
           rw[if_neg g2] at f;have HH:=lh f;clear f;have y0:wt*10<=wt*(36-t):=Int.mul_le_mul_of_nonneg_left (by omega) (by omega);have y1:wt*(36-t)<=wt*35:=Int.mul_le_mul_of_nonneg_left (by omega) (by omega);go_wp2
           all_goals
            go_round
            case rel=>exact⟨X,H+1,_,_,pl+1,_,rfl,by go_num,rfl,rfl,u,A,HH.out,by have h:=V.out;show _=_;omega,by omega,by push_cast;omega,by omega,by omega,by omega,by omega,by omega⟩
            case measure=>simp[intOf];omega
        ·have e4:=e3.symm;clear e3 ak
         rcases T.out with⟨f1,f2⟩|⟨f1,f2⟩|⟨f1,f2,f3⟩
         ·subst f2;clear T
          have f:=G.out;clear G
          by_cases N:d < 1
          ·rw[if_pos N] at f
           have i:Hid (i2+d*wt=C/\X=r1):=by split at f;(· have h:=Option.some.inj f;exact⟨(Prod.mk.inj h).1,(Prod.mk.inj h).2⟩);(· cases f)
           clear f;have R:Hid (j1=H+1):=by show _=_;rw[Y.out,<-i.out.2];have h:=A.out;omega
           go_wp2
           all_goals
            go_meet
            exact⟨by rw[i.out.1],by rw[R.out];go_num,by rw[R.out,<-i.out.2];exact u.out,rfl⟩
          ·rw[if_neg N] at f
           have g2:¬ wt≥59652323:=fun h=>by rw[if_pos h] at f;cases f
           rw[if_neg g2] at f;have HH:=lh f;clear f;have y0:wt*10<=wt*(36-1):=Int.mul_le_mul_of_nonneg_left (by omega) (by omega);have y1:wt*(36-1)<=wt*35:=Int.mul_le_mul_of_nonneg_left (by omega) (by omega);go_wp2
           all_goals
            go_round
            case rel=>exact⟨X,H+1,_,_,pl+1,_,rfl,by go_num,rfl,rfl,u,A,HH.out,by have h:=V.out;show _=_;omega,by omega,by push_cast;omega,by omega,by omega,by omega,by omega,by omega⟩
            case measure=>simp[intOf];omega
         ·subst f2;clear T
          have f:=G.out;clear G
          by_cases N:d < 26
          ·rw[if_pos N] at f
           have i:Hid (i2+d*wt=C/\X=r1):=by split at f;(· have h:=Option.some.inj f;exact⟨(Prod.mk.inj h).1,(Prod.mk.inj h).2⟩);(· cases f)
           clear f;have R:Hid (j1=H+1):=by show _=_;rw[Y.out,<-i.out.2];have h:=A.out;omega
           go_wp2
           all_goals
            go_meet
            exact⟨by rw[i.out.1],by rw[R.out];go_num,by rw[R.out,<-i.out.2];exact u.out,rfl⟩
          ·rw[if_neg N] at f
           have g2:¬ wt≥59652323:=fun h=>by rw[if_pos h] at f;cases f
           rw[if_neg g2] at f;have HH:=lh f;clear f;have y0:wt*10<=wt*(36-26):=Int.mul_le_mul_of_nonneg_left (by omega) (by omega);have y1:wt*(36-26)<=wt*35:=Int.mul_le_mul_of_nonneg_left (by omega) (by omega);go_wp2
           all_goals
            go_round
            case rel=>exact⟨X,H+1,_,_,pl+1,_,rfl,by go_num,rfl,rfl,u,A,HH.out,by have h:=V.out;show _=_;omega,by omega,by push_cast;omega,by omega,by omega,by omega,by omega,by omega⟩
            case measure=>simp[intOf];omega
         ·have f4:=f3.symm;clear f3 T
          have f:=G.out;clear G
          by_cases N:d < t
          ·rw[if_pos N] at f
           have i:Hid (i2+d*wt=C/\X=r1):=by split at f;(· have h:=Option.some.inj f;exact⟨(Prod.mk.inj h).1,(Prod.mk.inj h).2⟩);(· cases f)
           clear f;have R:Hid (j1=H+1):=by show _=_;rw[Y.out,<-i.out.2];have h:=A.out;omega
           go_wp2
           all_goals
            go_meet
            exact⟨by rw[i.out.1],by rw[R.out];go_num,by rw[R.out,<-i.out.2];exact u.out,rfl⟩
          ·rw[if_neg N] at f
           have g2:¬ wt≥59652323:=fun h=>by rw[if_pos h] at f;cases f
           rw[if_neg g2] at f;have HH:=lh f;clear f;have y0:wt*10<=wt*(36-t):=Int.mul_le_mul_of_nonneg_left (by omega) (by omega);have y1:wt*(36-t)<=wt*35:=Int.mul_le_mul_of_nonneg_left (by omega) (by omega);go_wp2
           all_goals
            go_round
            case rel=>exact⟨X,H+1,_,_,pl+1,_,rfl,by go_num,rfl,rfl,u,A,HH.out,by have h:=V.out;show _=_;omega,by omega,by push_cast;omega,by omega,by omega,by omega,by omega,by omega⟩
            case measure=>simp[intOf];omega
     case rest=>
      obtain⟨rfl,rfl,bb,rfl⟩:=hcut;have b2:=lh bb;clear bb;have fi:0<=C / ((l.length:Int)+1):=Int.ediv_nonneg (by omega) (by omega);have fj:C / ((l.length:Int)+1)<=C:=Int.ediv_le_self _ (by omega);have m0:0<=C % ((l.length:Int)+1):=Int.emod_nonneg _ (by omega);have m1:C % ((l.length:Int)+1) < (l.length:Int)+1:=Int.emod_lt_of_pos _ (by omega);have bj:=ymj (C-q) ((l.length:Int)+1) (q == 0) (by omega) (by omega) (by omega);obtain⟨b3,b4⟩:=bj;have ao:=yo4 (C-q) ((l.length:Int)+1) (q == 0) (by omega) (by omega) (by omega);have hz:=lh (show ad0 (C-q) ((l.length:Int)+1) (q == 0)=(if(q == 0) then(C-q) / 700 else(C-q) / 2)+(if(q == 0) then(C-q) / 700 else(C-q) / 2) / ((l.length:Int)+1) from rfl);have he:=lh (yew 16 (ad0 (C-q) ((l.length:Int)+1) (q == 0)) 0 ao.1 (by omega));have ha:=lh (show ybd (C-q) ((l.length:Int)+1) (q == 0)=(qa 16 (ad0 (C-q) ((l.length:Int)+1) (q == 0)) 0).2+36*(qa 16 (ad0 (C-q) ((l.length:Int)+1) (q == 0)) 0).1 / ((qa 16 (ad0 (C-q) ((l.length:Int)+1) (q == 0)) 0).1+38) from rfl);obtain⟨b',bi⟩:∃ z,ybd (C-q) ((l.length:Int)+1) (q == 0)=z:=⟨_,rfl⟩;obtain⟨dl,a9⟩:∃ z,ad0 (C-q) ((l.length:Int)+1) (q == 0)=z:=⟨_,rfl⟩;obtain⟨o,ct⟩:∃ o:Nat,C % ((l.length:Int)+1)=(o:Int):=⟨(C % ((l.length:Int)+1)).toNat,by omega⟩;obtain⟨nw,cq⟩:∃ z,O+C / ((l.length:Int)+1)=z:=⟨_,rfl⟩;have hs:ya7 (O+C / ((l.length:Int)+1))=true:=by
       cases f:ya7 (O+C / ((l.length:Int)+1)) with
       | true=>rfl
       | false=>rw[f] at I;simp at I
      rw[if_pos hs,cq,ct,bi] at I;rw[cq] at hs;rw[ct] at m0 m1;rw[bi] at b3 b4 ha;rw[a9] at ao hz he ha;have df:Hid (dec n (ydp l o nw) r1 nw ((o:Int)+1) b'=some out):=I;have HS:=lh hs;have cz:128<=nw:=by omega
      have eb:nw<=1114111:=by have h:=hs;simp[ya7] at h;omega
      obtain⟨eh,ei⟩:=ao;have N:0<=(C-q) / 700 / ((l.length:Int)+1):=Int.ediv_nonneg (by omega) (by omega);have g2:(C-q) / 700 / ((l.length:Int)+1)<=(C-q) / 700:=Int.ediv_le_self _ (by omega);have g3:0<=(C-q) / 2 / ((l.length:Int)+1):=Int.ediv_nonneg (by omega) (by omega);have g4:(C-q) / 2 / ((l.length:Int)+1)<=(C-q) / 2:=Int.ediv_le_self _ (by omega);have fk:o<=l.length:=by omega
      clear I hs bi a9 HX U J cn
      cases hf:(q == 0)
      all_goals
       rw[hf] at hz;go_wp2
       go_loop [18,21] (fun dv kv=>∃ (n:Nat) (x k:Int),dv=.int .i64 x/\kv=.int .i64 k/\Hid (qa 16 dl 0=qa n x k)/\0<=x/\x<=1099511627776/\0<=k/\k+36*n<=576) (fun dv _=>(intOf dv).toNat)
       case atStart=>exact⟨16,_,0,rfl,rfl,by have h:=hz.out;simp at h;rw[h];rfl,by omega,by omega,by omega,by omega⟩
       case round=>
        clear N g2 g3 g4 hz;obtain⟨m,x,k,rfl,rfl,hl,x0,x1,k0,k1⟩:=hrel
        by_cases hx:x > 455
        ·obtain⟨m',rfl⟩:∃ m',m=m'+1:=⟨m-1,by
          cases m with
          | zero=>have h1:=hl.out;have h2:=he.out;rw[h1] at h2;simp[qa] at h2;omega
          | succ m=>rfl⟩
         have a2:Hid (qa 16 dl 0=qa m' (x / 35) (k+36)):=by have h:=hl.out;rw[show qa (m'+1) x k=qa m' (x / 35) (k+36) from by rw[qa,if_pos hx]] at h;exact h
         clear hl;have y0:0<=x / 35:=by omega
         go_wp2
         go_round
         case rel=>exact⟨m',_,_,rfl,rfl,a2,y0,by omega,by omega,by omega⟩
         case measure=>simp[intOf];omega
        ·have a2:Hid (qa 16 dl 0=(x,k)):=by
          have h:=hl.out;rw[Hid,h]
          cases m with
          | zero=>rfl
          | succ m=>rw[qa,if_neg hx]
         clear hl;have fa:x<=455:=by omega
         have z0:0<=36*x / (x+38):=Int.ediv_nonneg (by omega) (by omega);have z1:36*x / (x+38)<=36:=Int.ediv_le_of_le_mul (by omega) (by omega);have bj:k+36*x / (x+38)=b':=by have h:=ha.out;rw[a2.out] at h;exact h.symm
         go_wp2_with(first|(go_at_call 185;refine(yjt _ HS.out cz).mono ?_;rintro e w' ⟨rfl,rfl⟩)|(at_builtin;refine wpList_append_own _ rfl _ _ 163 rfl B 21 i0 (.int .i32 0) 1 4 Tryz.underlying163 hi d9 cx ea rfl (by decide) _ _ _ rfl (M.alloc _) ⟨wc.heap.size,0,none⟩ 1 1 [.int .i32 0] rfl rfl ?c1 ?c2 ?c3 ?c4 ?c5 ?_))
         case c1=>exact cell_one_new _ _ _
         case c2=>simp[Value.oneCell']
         case c3=>unfold maxLen;omega
         case c4=>omega
         case c5=>simp;omega
         intro v' w1 ar ap _;obtain⟨ai,eo⟩:=xe W bp M ap;obtain⟨g,c',sp,rfl,bh,hg,fb,dw,ab⟩:=ybh ar (by omega);clear ar ap M W bp bj z0 z1 a2 ha he;obtain⟨L,hL⟩:∃ L,L=vu l++[Value.int .i32 0]++sp:=⟨_,rfl⟩;rw[<-hL] at hg;have ey:L.length=c':=by rw[hL];simp only[List.length_append] at *;omega
         obtain⟨Z,al⟩:∃ Z,Z=(vu l).drop o:=⟨_,rfl⟩;have ce:Z.length=l.length-o:=by rw[al];simp[vu]
         have cd:∀ j v,Z[j]? = some v->w1.cell? ⟨g,o+j,none⟩=some v:=by
          intro j v hv;have hj:j < l.length-o:=by rw[<-ce];exact(List.getElem?_eq_some_iff.1 hv).1
          rw[ja hg _ (by omega),<-hv,al,List.getElem?_drop,<-lge,hL,List.append_assoc,List.getElem?_append_left (by simp[vu];omega)]
         have b9:∀ v∈Z,v.oneCell'=true:=by rw[al];intro v hv;have h:=List.mem_of_mem_drop hv;simp[vu] at h;obtain⟨z,_,rfl⟩:=h;rfl
         have HL:=lh hL;have bz:=lh al;clear hL al;have bx:=lh cd;clear cd;have d4:IntKind.i64.wrap ((o:Int)+1)=(o:Int)+1:=IntWalk.i64_in _ (by omega);have d3:0<=(o:Int)+1:=by omega
         have d5:((o:Int)+1).toNat=o+1:=by omega
         have d6:¬ c'=o:=by omega
         have d7:(o:Int)<=(l.length:Int)+1:=by omega
         have d8:(o:Int)+1<=(l.length:Int)+1:=by omega
         have cf:Hid ((Tryz.prog.info? 21).map (·.size)=some 1):=by rw[hi];simp[Hid,cx]
         have co:Hid (Z.length=Nat.min (l.length+1-o) (l.length-o)):=by show _=min _ _;omega
         have cp:Hid (∀ dp:Option Addr,(0 < Z.length->dp=some ⟨g,o+1,none⟩)->(0 < Z.length->dp=some ⟨g,o+1,none⟩/\∃ ad,some (⟨g,o,none⟩:Addr)=some ad/\∀ j v,Z[j]? = some v->w1.drew.cell? (ad.add j)=some v)):=by
          intro dp az h0;refine⟨az h0,_,rfl,fun j v hv=>?_⟩;have:=bx.out j v hv
          by_cases hj:j=0
          ·subst hj;simpa [Addr.add] using this
          ·simpa [Addr.add,hj] using this
         have bn:Hid (o+1+Z.length<=L.length):=by show _<=_;omega
         obtain⟨dp,az⟩:∃ dp,(if c'=o+1 then some (⟨g,0,none⟩:Addr) else some ⟨g,o+1,none⟩)=dp:=⟨_,rfl⟩;have ba:Hid (0 < Z.length->dp=some ⟨g,o+1,none⟩):=fun h0=>by rw[<-az,if_neg (by omega)]
         go_wp2
         go_region_law (refine step_copy_splice rfl (.tmp 174) (.tmp 177) 163 163 rfl 21 Tryz.underlying163 cf dp (some ⟨g,o,none⟩) (l.length-o) (c'-(o+1)) (l.length+1-o) (c'-o) (by simp[Act.eval,Act.put]) (by simp[Act.eval,Act.put]) g (o+1) L 21 hg Z co (cp.out _ ba.out) bn b9 B w ai.drew bh ?_;intro w2 a1 aj)
         have ex:(splice L (o+1) Z).length=L.length:=length_splice _ _ _ bn;obtain⟨cv,du⟩:∃ cv,w2.cell? ⟨g,o,none⟩=some cv:=⟨_,ja a1.out o (by omega)⟩;have dy:=zz a1.out o;have bf:=lh (zb a1.out o (.int .i32 nw));clear d3 d4 d5 d6 d7 d8 cf co cp bn az ba b9 bx hg a1 ai;have aw:Hid ((w2.setCell ⟨g,o,none⟩ (.int .i32 nw)).heap[g]? = some (.cells (vu (ydp l o nw)++sp).toArray 21 (0,0))):=by
          show _=_
          rw[bf.out,HL.out,bz.out,ypx _ _ _ _ _ (by simp[vu];omega)];simp[vu,ydp]
         clear bf HL bz;go_wp2
         go_roundg r1.length
         case measure=>have h:=cg.out;simp at h;omega
         case rel=>
          refine⟨n,r1,ydp l o nw,some ⟨g,0,none⟩,c',nw,o+1,b',j1,rfl,by rw[yas],rfl,rfl,rfl,rfl,b2,cj,ci,df,?_,aj.setCell bh _,?_,by rw[yas];omega,by omega,by omega,by rw[yas];push_cast;omega,cz,eb,b3,b4⟩
          ·rw[yas];exact yj1 (sp:=sp) bh aw.out (by simp[vu,yas]) dw ab
          ·have h1:=aj.size;have h2:=HB.out;simp;omega
def yy7 (p:Nat)(w:World)(st:RS)(x:Option (List UInt8×Bool×List UInt8))(e:Ending)(w':World):Prop:=
 match x with
 | some (t,u,r)=>Ret p w (st.go r) (.tuple #[.string ⟨t.toArray⟩,.bool u]) e w'
 | none=>va p w e w'
theorem ymu {l t:List UInt8}(h:ydg l true=some t):ybb l≠0/\yak l≠[]/\∃ out,yaf (ybc l) (yak l)=some out/\t=u8 out:=by
 unfold ydg at h
 split at h
 ·cases h
 ·rw[if_neg (by simp)] at h
  split at h
  ·cases h
  ·rename_i b
   cases hd:yaf (ybc l) (yak l) with
   | none=>rw[hd] at h;cases h
   | some out=>rw[hd] at h;simp at h;exact⟨fun a=>b (.inl a),fun a=>b (.inr a),out,rfl,h.symm⟩
theorem ylx {w:World}{p:Nat}{st:RS}{s t:List UInt8}(a:RAt w p st)(h:s.length<=2147483648)(b:s.all yr=true)(i:Hid (ydg s true=some t)) :
  Calls Tryz.prog 171 #[.pointer (some ⟨p,0,none⟩),.string ⟨s.toArray⟩] w fun e w'=>e=.returned (.string ⟨t.toArray⟩)/\RAt w' p st/\Upd p w w':=by
 obtain⟨c,d,out,f,rfl⟩:=ymu i.out;rw[yw3];exact(ynh a h b c d f).mono fun e w' ⟨g,hb⟩=>⟨g,a.below hb,Upd.of_below a.lt hb⟩
theorem yju {w:World}{p:Nat}{st:RS}{x:Option (List UInt8×Bool×List UInt8)}(s:RAt w p st)(hw:st.Wf)(q:vn st.str=some x) :
  Calls Tryz.prog 145 #[.pointer (some ⟨p,0,none⟩)] w fun e w'=>yy7 p w st x e w':=by
 unfold vn at q;simp only at q;obtain⟨u,y⟩:∃ u,decide (st.str.head? = some 117)=u:=⟨_,rfl⟩;obtain⟨l1,d⟩:∃ l1,(if u=true then st.str.tail else st.str)=l1:=⟨_,rfl⟩;rw[y,d] at q;have U:l1.length<=st.str.length:=by rw[<-d];split<;>simp
 have z:=lh q;clear q
 go_enter Tryz.func145,Tryz.ntmps145
 go_upto_region 2 with fail
 go_cut [20] (fun bv wc=>bv=.bool u/\w=wc)
 case first=>
  cases F:st.str with
  | nil=>
   have G:w.cell? ⟨p,1,none⟩=some (.string ⟨#[]⟩):=by have h:=s.str;rw[F] at h;exact h
   rw[F] at y;simp at y;subst y;clear d F;go_wp2
   go_meet
   exact⟨rfl,rfl⟩
  | cons c r=>
   have G:w.cell? ⟨p,1,none⟩=some (.string ⟨(c::r).toArray⟩):=by have h:=s.str;rw[F] at h;exact h
   have A:Hid (u=((c.toNat:Int) == 117)):=by
    rw[F] at y;show _=_;rw[<-y]
    by_cases C:c=117
    ·subst C;rfl
    ·have D:((c.toNat:Int) == 117)=false:=by simp;intro h2;exact C (UInt8.toNat_inj.1 (by show c.toNat=117;omega))
     rw[D];simp[C]
   clear y d F;go_wp2
   all_goals
    go_meet
    exact⟨by rw[A.out],rfl⟩
 case rest=>
 obtain⟨rfl,rfl⟩:=hcut
 go_upto_if 20 with fail
 go_cut [3] (fun pv wc=>pv=.bool u/\RAt wc p (st.go l1)/\Upd p w wc)
 case first=>
  cases u with
  | false=>
   simp at d;have A:Hid (l1=st.str):=d.symm;clear y d;go_wp2
   go_meet
   exact⟨rfl,by rw[A.out,RS.go_self];exact s,Upd.refl p _⟩
  | true=>
   cases F:st.str with
   | nil=>rw[F] at y;simp at y
   | cons c r=>
    have HC:=lh F;have A:Hid (l1=r):=by rw[F] at d;simp at d;exact d.symm
    clear y d F
    go_wp2_with(go_at_call 123;refine(yh s hw HC).mono ?_;rintro e Z ⟨rfl,j,B⟩)
    go_meet
    exact⟨rfl,by rw[A.out];exact j,B⟩
 case rest=>
  clear y d s;obtain⟨rfl,s,I⟩:=hcut;have ag:(st.go l1).Wf:=ygw hw U
  go_wp2_with fail
  refine(yl2 s ag).mono ?_;intro e Z W;have es:(st.go l1).str=l1:=rfl;rw[es] at W
  cases hd:yfv l1 with
  | none=>
   rw[hd] at W;obtain⟨m,o,H,rfl,i,l⟩:=W;have q:Hid (x=none):=by have h:=z.out;rw[hd] at h;exact(Option.some.inj h).symm
   go_wp2;refine⟨rfl,?_⟩
   rw[q.out];exact⟨m,o,H,rfl,i,I.trans l⟩
  | some vl=>
   obtain⟨v,l2⟩:=vl;rw[hd] at W;obtain⟨rfl,j,B⟩:=W;obtain⟨ao,v0,v1⟩:=ykh hd;have h:=z.out;rw[hd] at h;clear z hd;simp only at h;obtain⟨l3,g⟩:∃ l3,(if l2.head? = some 95 then l2.tail else l2)=l3:=⟨_,rfl⟩;rw[g] at h;have ap:l3.length<=l2.length:=by rw[<-g];split<;>simp
   rw[RS.go_go] at j;have z:=lh h;clear h;have ah:(st.go l2).Wf:=ygw hw (by omega)
   go_upto_region 6 with fail
   obtain⟨u2,n⟩:∃ u2,decide (l2.head? = some 95)=u2:=⟨_,rfl⟩
   go_cut [38] (fun bv wc=>bv=.bool u2/\Z=wc)
   case first=>
    cases l2 with
    | nil=>
     have G:Z.cell? ⟨p,1,none⟩=some (.string ⟨#[]⟩):=j.str;simp at n;subst n;clear g;go_wp2
     go_meet
     exact⟨rfl,rfl⟩
    | cons c r=>
     have G:Z.cell? ⟨p,1,none⟩=some (.string ⟨(c::r).toArray⟩):=j.str;have A:Hid (u2=((c.toNat:Int) == 95)):=by
      show _=_;rw[<-n]
      by_cases C:c=95
      ·subst C;rfl
      ·have D:((c.toNat:Int) == 95)=false:=by simp;intro h2;exact C ((c95 c).1 h2)
       rw[D];simp[C]
     clear n g;go_wp2
     all_goals
      go_meet
      exact⟨by rw[A.out],rfl⟩
   case rest=>
   obtain⟨rfl,rfl⟩:=hcut
   go_upto_if 38 with fail
   go_cut [4] (fun vv wc=>vv=.int .i64 v/\RAt wc p (st.go l3)/\Upd p w wc)
   case first=>
    cases u2 with
    | false=>
     have A:Hid (l3=l2):=by have h:¬ l2.head? = some 95:=by simpa using n
                            rw[if_neg h] at g;exact g.symm
     clear n g;go_wp2
     go_meet
     exact⟨rfl,by rw[A.out];exact j,I.trans B⟩
    | true=>
     have h:l2.head? = some 95:=by simpa using n
     cases l2 with
     | nil=>simp at h
     | cons c r=>
      have A:Hid (l3=r):=by rw[if_pos h] at g;exact g.symm
      have HC:Hid ((st.go (c::r)).str=c::r):=rfl;clear n g h
      go_wp2_with(go_at_call 123;refine(yh j ah HC).mono ?_;rintro e w2 ⟨rfl,i,l⟩)
      rw[RS.go_go] at i
      go_meet
      exact⟨rfl,by rw[A.out];exact i,(I.trans B).trans l⟩
   case rest=>
    clear g s I j B;obtain⟨rfl,s,I⟩:=hcut;have G:wc.cell? ⟨p,1,none⟩=some (.string ⟨l3.toArray⟩):=s.str;have ai:(st.go l3).Wf:=ygw hw (by omega);have an:l3.length<=4294967296:=by obtain⟨a,b⟩:=hw;omega
    by_cases X:(l3.length:Int) < v
    ·have q:Hid (x=none):=by have h:=z.out;rw[if_pos X] at h;exact(Option.some.inj h).symm
     go_wp2_with(go_at_call 70;refine(yu s).mono ?_;rintro e w2 ⟨m,o,H,rfl,i,l⟩)
     refine⟨rfl,?_⟩;rw[q.out];exact⟨m,o,H,rfl,i,I.trans l⟩
    ·have h:=z.out;rw[if_neg X] at h;clear z
     obtain⟨id,E⟩:∃ id,l3.take v.toNat=id:=⟨_,rfl⟩;rw[E] at h;have T:id.length<=2147483648:=by rw[<-E];simp;omega
     have z:=lh h;clear h;have ar:=lh E
     go_wp2_with(go_at_call 123;refine(ygf s ai v0 (by show v<=(l3.length:Int);omega)).mono ?_;rintro e w2 ⟨rfl,i,l⟩)
     have M:Hid (RAt w2 p (st.go (l3.drop v.toNat))):=by rw[RS.go_go] at i;exact i
     have O:Upd p w w2:=I.trans l;clear s I G i l
     go_loop [5] (fun iv=>∃ k:Nat,k<=id.length/\iv=.int .i64 k/\(id.take k).all yr=true) (fun iv=>id.length-(intOf iv).toNat)
     case atStart=>exact⟨0,by omega,rfl,by simp⟩
     case round=>
      obtain⟨k,hk,rfl,hp⟩:=hrel;have HP:=lh hp;clear hp
      by_cases V:k < id.length
      ·have D:(id[k].toNat:Int)<=255:=by have:=id[k].toNat_lt;omega
       obtain⟨c,C⟩:∃ c,id[k]=c:=⟨_,rfl⟩;have aj:Hid (id.take (k+1)=id.take k++[c]):=by show _=_;rw[lts V,C]
       rw[C] at D
       by_cases f:yr c=true
       ·have Y:Hid ((48<=(c.toNat:Int)/\(c.toNat:Int)<=57)\/(c.toNat:Int)=95\/(65<=(c.toNat:Int)/\(c.toNat:Int)<=90)\/(97<=(c.toNat:Int)/\(c.toNat:Int)<=122)):=by
         simp[yr,x7,yba] at f;show _\/_;omega
        have L:=lh f;clear f;obtain⟨R,J⟩:∃ b,((c.toNat:Int) == 95)=b:=⟨_,rfl⟩;have S:Hid (R=decide ((c.toNat:Int)=95)):=by show _=_;rw[<-J];rfl
        cases R
        all_goals have ae:Hid (¬ (c.toNat:Int)=95\/(c.toNat:Int)=95):=by show _\/_;omega
        all_goals have Q:=S.out
        all_goals simp at Q
        all_goals have ab:=lh Q
        all_goals clear Q S ae
        all_goals go_wp2_with fail
        all_goals first
         | (exfalso;have:=Y.out;have:=ab.out;omega)
         | (go_round
            case rel=>exact⟨k+1,by omega,by go_num,by rw[aj.out,List.all_append,HP.out];simp[L.out]⟩
            case measure=>simp[intOf];omega)
       ·have Y:Hid (((c.toNat:Int) < 48\/57 < (c.toNat:Int))/\(c.toNat:Int)≠95/\((c.toNat:Int) < 65\/90 < (c.toNat:Int))/\((c.toNat:Int) < 97\/122 < (c.toNat:Int))):=by
         simp[yr,x7,yba] at f;show _/\_;omega
        have q:Hid (x=none):=by
         have ha:id.all yr=false:=by rw[List.all_eq_false];exact⟨c,by rw[<-C];exact List.getElem_mem V,f⟩
         have h:=z.out;rw[if_pos ha] at h;exact(Option.some.inj h).symm
        have J:((c.toNat:Int) == 95)=false:=by simp;exact Y.out.2.1
        clear f
        go_wp2_with(go_at_call 70;refine(yu M.out).mono ?_;rintro e w3 ⟨m,o,H,rfl,N,P⟩)
        all_goals first
         | (exfalso;have:=Y.out;omega)
         | (refine⟨rfl,?_⟩
            rw[q.out];exact⟨m,o,H,rfl,N,O.trans P⟩)
      ·obtain rfl:k=id.length:=by omega
       have f:id.all yr=true:=by have h:=HP.out;rw[List.take_length] at h;exact h
       have h:=z.out;rw[if_neg (by rw[f];simp)] at h;clear z
       cases K:ydg id u with
       | none=>rw[K] at h;cases h
       | some t=>
        rw[K] at h;have q:Hid (x=some (t,u,l3.drop v.toNat)):=(Option.some.inj h).symm;clear h
        cases u with
        | false=>
         have af:Hid (t=id):=by unfold ydg at K;rw[if_neg (by rw[f];simp),if_pos rfl] at K;exact(Option.some.inj K).symm
         clear K f;go_wp2
         go_ret2
         rw[q.out];exact⟨by rw[af.out];rfl,M.out,O⟩
        | true=>
         have HT:=lh K;have L:=lh f;clear K f
         go_wp2_with(go_at_call 171;refine(ylx M.out T L.out HT).mono ?_;rintro e w3 ⟨rfl,N,P⟩)
         go_ret2
         rw[q.out];exact⟨rfl,N,O.trans P⟩
def idN (l:List UInt8):Option (Option (Int×List UInt8×List UInt8)):=
 match ybf l with
 | none=>some none
 | some (d,r)=>(vn r).map fun y=>y.map fun z=>(d,z.1,z.2.2)
def IdRes (p:Nat)(w:World)(st:RS)(x:Option (Int×List UInt8×List UInt8))(e:Ending)(w':World):Prop:=
 match x with
 | some (d,t,r)=>Ret p w (st.go r) (.tuple #[.int .i64 d,.string ⟨t.toArray⟩]) e w'
 | none=>va p w e w'
theorem ydq {w:World}{p:Nat}{st:RS}{x:Option (Int×List UInt8×List UInt8)}(v:RAt w p st)(hw:st.Wf)(c:idN st.str=some x) :
  Calls Tryz.prog 124 #[.pointer (some ⟨p,0,none⟩)] w fun e w'=>IdRes p w st x e w':=by
 unfold idN at c
 go_enter Tryz.func124,Tryz.ntmps124
 go_wp2_with fail
 refine(yhk v hw).mono ?_;intro e B g
 cases hd:ybf st.str with
 | none=>
  rw[hd] at g c;obtain⟨m,o,h,rfl,a,b⟩:=g;have f:Hid (x=none):=(Option.some.inj c).symm;go_wp2;refine⟨rfl,?_⟩;rw[f.out];exact⟨m,o,h,rfl,a,b⟩
 | some s=>
  obtain⟨d,r⟩:=s;rw[hd] at g c;obtain⟨rfl,k,i⟩:=g;have l:=ydt hd;clear hd;simp only at c
  cases j:vn r with
  | none=>rw[j] at c;cases c
  | some y=>
   rw[j] at c;have f:Hid (x=y.map fun z=>(d,z.1,z.2.2)):=(Option.some.inj c).symm;clear c;have n:=ygw hw l;have q:=lh j;clear j
   go_wp2_with fail
   refine(yju k n q.out).mono ?_;intro e C g
   cases y with
   | none=>
    obtain⟨m,o,h,rfl,a,b⟩:=g;go_wp2;refine⟨rfl,?_⟩;rw[f.out];exact⟨m,o,h,rfl,a,i.trans b⟩
   | some z=>
    obtain⟨t,u,A⟩:=z;obtain⟨rfl,a,b⟩:=g;rw[RS.go_go] at a;go_wp2
    go_ret2
    rw[f.out];exact⟨rfl,a,i.trans b⟩

theorem Tryz.infoInt: (Tryz.prog.info? 3).map (fun i=>(i.zero,i.size,i.bytes))=some (some (.int .i64 0),1,8):=by kernel_rfl
def ints (l:List Int):List Value:=l.map (Value.int .i64)
end Go.Proofs.YtfckcdbpiepchaaGreatDoor
