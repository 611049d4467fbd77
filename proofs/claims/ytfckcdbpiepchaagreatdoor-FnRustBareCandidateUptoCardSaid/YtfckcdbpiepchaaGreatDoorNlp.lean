/- The walks of the questions for generic arguments and for bindings; the law FnRustTemplates. -/
import Derived.Test.YtfckcdbpiepchaaGreatDoorNs38
import Derived.Test.YtfckcdbpiepchaaGreatDoorXtp
import Derived.Test.YtfckcdbpiepchaaGreatDoorNkp
namespace Go.Proofs.YtfckcdbpiepchaaGreatDoor
set_option linter.all false
open Go.RowKit
theorem any_drop {f:ya->Bool}{kids:List ya}{k:Nat}(h:k < kids.length):(kids.drop k).any f=(f (kids.getD k .zero)||(kids.drop (k+1)).any f):=by
 rw[List.drop_eq_getElem_cons h,List.any_cons,lgd,lge h];rfl
theorem kids_any {w:World}{k:Nat}{l:UInt8}{nm:List UInt8}{n:Nat}{f:Bool}{kids:List ya}{v:Value}(h:yg w (.mk k l nm n f kids) v) :
  ∃ (kv:Int) (ao:Option Addr) (cap:Nat),v=.agg #[.int .i64 kv,.int .u8 l.toNat,.string ⟨nm.toArray⟩,.int .u64 n,.bool f,.slice ao kids.length cap]/\KV kv k/\qz w ao cap kids:=by
 cases h with
 | @mk kv _ _ _ _ _ _ ao cap V h1 h2 h3 h4 h5 h6 h7 h8=>
 refine⟨kv,ao,cap,rfl,h1,⟨h3,h4,h6,fun i b o hi ha=>⟨V i 0,V i 1,V i 2,V i 3,V i 4,V i 5,?_,?_,?_,?_,?_,?_,h8 i hi⟩⟩⟩
 ·exact h7 i b o 0 hi ha (by omega)
 ·exact h7 i b o 1 hi ha (by omega)
 ·exact h7 i b o 2 hi ha (by omega)
 ·exact h7 i b o 3 hi ha (by omega)
 ·exact h7 i b o 4 hi ha (by omega)
 ·exact h7 i b o 5 hi ha (by omega)
set_option maxHeartbeats 8000000 in
set_option maxRecDepth 100000 in
theorem hasBnds_any:∀ (m:Nat){t:ya}{v:Value}{w:World},t.wt<=m->yg w t v->Calls Tryz.prog 27 #[v] w fun e w'=>Rtn w (.bool t.bnds) e w':=by
 intro m
 induction m with
 | zero=>intro t v w h;have:=yei t;omega
 | succ m ih=>
  intro t v w hm htr;obtain⟨k,l,nm,n,f,kids⟩:=t;rw[zd] at hm;have hch:∀ i,i < kids.length->∀ v w,yg w (kids.getD i .zero) v->Calls Tryz.prog 27 #[v] w fun e w'=>Rtn w (.bool (kids.getD i .zero).bnds) e w':=fun i hi v w h=>ih (by have:=xn (ybi hi);omega) h;obtain⟨kv,ao,cap,rfl,hkv,hK⟩:=kids_any htr;have hkq:∀ z:Nat,1<=z/\z<=21->(kv == (z:Int))=decide (k=z):=fun z hz=>by
   rw[Bool.eq_iff_iff,beq_iff_eq,decide_eq_true_eq];unfold KV at hkv;omega
  have hc1:=hK.c1;have hc2:=hK.c2;have hnn:=hK.nn;unfold maxLen at hc2;obtain⟨B,hB⟩:∃ B,B=w.heap.size:=⟨_,rfl⟩;have b0:=fun x=>zn w #[.int .i64 kv,.int .u8 l.toNat,.string ⟨nm.toArray⟩,.int .u64 n,.bool f,.slice ao kids.length cap] 28 0 _ rfl x;have b5:=fun x=>zn w #[.int .i64 kv,.int .u8 l.toNat,.string ⟨nm.toArray⟩,.int .u64 n,.bool f,.slice ao kids.length cap] 28 5 _ rfl x;have HB:=lh hB;have HK:=lh hK;have HC:=lh hch;clear hB hK hch htr hm ih;rw[bnds_mk]
  by_cases c18:k=18
  ·have q18:=(hkq 18 (by omega)).trans (decide_eq_true c18)
   obtain rfl:kv=18:=by simpa using q18
   rw[decide_eq_true c18]
   go_enter Tryz.func27,Tryz.ntmps27
   go_wp2;go_ret
   exact⟨rfl,_,yb _ _⟩
  have q18:(kv == 18)=false:=(hkq 18 (by omega)).trans (decide_eq_false c18);rw[decide_eq_false c18];clear hkq hkv c18
  go_enter Tryz.func27,Tryz.ntmps27
  go_wp2
  go_loopw [11] (fun i wr=>∃ (j:Nat),j<=kids.length/\i=.int .i64 j/\Below B w wr/\B<=wr.heap.size/\Hid (kids.any ya.bnds=(kids.drop j).any ya.bnds)) (fun i _=>kids.length-(intOf i).toNat)
  case atStart=>exact⟨0,by omega,rfl,(Below.refl _ w).alloc (Nat.le_of_eq HB.out) _,by rw[HB.out];simp,lh rfl⟩
  case round=>
   obtain⟨j,hj,rfl,hbr,hsz,HR⟩:=hrel
   by_cases hlt:j < kids.length
   ·obtain⟨kb,ko,rfl⟩:=hnn (fun h=>by rw[h] at hlt;simp at hlt)
    obtain⟨v0,v1,v2,v3,v4,v5,KK,tr⟩:=(HK.out.at HB.out hbr).elB j hlt;obtain⟨e0,e1,e2,e3,e4,e5⟩:=KK;obtain⟨kv2,c,nm2,n2,f2,kao,kln,kcap,rfl,rfl,rfl,rfl,rfl,rfl⟩:=tr.shape;have hd:=any_drop (f:=ya.bnds) hlt;have HT:=lh tr;have HL:=lh hbr;have HD:=lh hd;have HSZ:=lh hsz;clear hnn tr hd hbr hsz
    go_wp2_with fail
    refine(HC.out j hlt _ _ (HT.out.alc _)).mono ?_;rintro e w1 ⟨rfl,x,rfl⟩;rw[yb,yd];generalize Xt.mk _ _=x1;obtain⟨hb1,hs1⟩:=ku HL.out HSZ.out x1;generalize ovr wr x1=wr1 at hb1 hs1 |-
    cases hq:(kids.getD j .zero).bnds with
    | true=>
     have H1:Hid (kids.any ya.bnds=true):=lh (by rw[HR.out,HD.out,hq];rfl);have HB1:=lh hb1;clear e0 e1 e2 e3 e4 e5 hb1 hs1 hq;go_wp2;go_ret;exact⟨by rw[H1.out];simp,xb HB.out HB1.out⟩
    | false=>
     have H1:Hid (kids.any ya.bnds=(kids.drop (j+1)).any ya.bnds):=lh (by rw[HR.out,HD.out,hq];rfl);have HB1:=lh hb1;have HS1:=lh hs1;clear e0 e1 e2 e3 e4 e5 hb1 hs1 hq;go_wp2
     go_roundw
     case rel=>exact⟨j+1,by omega,by go_num,HB1.out,HS1.out,H1⟩
     case measure=>simp[intOf];omega
   ·have hr:kids.any ya.bnds=false:=by rw[HR.out,List.drop_of_length_le (by omega)];rfl
    have HR2:=lh hr;have HL:=lh hbr;clear hr hbr;go_wp2;go_ret;exact⟨by rw[HR2.out];simp[],xb HB.out HL.out⟩
theorem bnds_st {t:ya}{v:Value}{w:World}(htr:yg w t v):Stays w 27 #[v] (.bool t.bnds):=fun x=>by
 refine(hasBnds_any _ (Nat.le_refl _) (htr.ovr x)).mono ?_;rintro e w' ⟨h1,y,rfl⟩;exact⟨h1,_,yd _ _ _⟩
end Go.Proofs.YtfckcdbpiepchaaGreatDoor
