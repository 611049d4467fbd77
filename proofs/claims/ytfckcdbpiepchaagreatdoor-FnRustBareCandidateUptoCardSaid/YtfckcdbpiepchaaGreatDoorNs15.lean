import Derived.Test.YtfckcdbpiepchaaGreatDoorNs12
import Derived.Deep.RegionWith
namespace Go.Proofs.YtfckcdbpiepchaaGreatDoor
open Go.RowKit
set_option maxRecDepth 100000
set_option maxHeartbeats 8000000
set_option linter.all false
theorem yg.al {w:World}{t:ya}{v:Value}(h:yg w t v)(o:Obj):yg (w.alloc o) t v:=by rw[yb];exact h.ovr _
theorem qz.al {w:World}{ao:Option Addr}{cap:Nat}{kids:List ya}(h:qz w ao cap kids)(o:Obj):qz (w.alloc o) ao cap kids:=by rw[yb];exact h.ovr _
theorem yuj {b:Nat}{t:ya}{x:List UInt8}(d:1<=t.kind/\t.kind<=6)(g:yam b false t x):gb b t x:=by
 intro w D h;have a:=h
 cases t with
 | mk k l nm n f kids=>
 obtain⟨ao,cap,rfl,hK,C,u⟩:=yo h d.1;simp only[ya.kind] at d;have z:((k:Int) == 7)=false:=by simp;omega
 have A:((k:Int) == 8)=false:=by simp;omega
 have B:((k:Int) == 9)=false:=by simp;omega
 have i:((k:Int) == 10)=false:=by simp;omega
 have j:((k:Int) == 11)=false:=by simp;omega
 have m:((k:Int) == 12)=false:=by simp;omega
 have o:((k:Int) == 13)=false:=by simp;omega
 have p:((k:Int) == 14)=false:=by simp;omega
 have q:((k:Int) == 15)=false:=by simp;omega
 have r:((k:Int) == 16)=false:=by simp;omega
 have c:=lh a;clear h a hK
 by_cases s:0 < n
 ·go_enter Tryz.func47,Tryz.ntmps47
  go_wp2_with fail
  refine(g _ _ (c.out.al _)).mono ?_;rintro e v ⟨rfl,y,rfl⟩;go_wp2;go_ret;exact⟨rfl,_,by rw[yb,yd]⟩
 ·go_enter Tryz.func47,Tryz.ntmps47
  go_wp2_with fail
  refine(g _ _ (c.out.al _)).mono ?_;rintro e v ⟨rfl,y,rfl⟩;go_wp2;go_ret;exact⟨rfl,_,by rw[yb,yd]⟩
def xo (b n:Nat)(f:Bool)(nm:List UInt8)(T:List (List UInt8))(u:Bool)(x:List UInt8):List UInt8:=
 qh n b++(if f then [117,110,115,97,102,101,32] else [])++kr nm++[102,110,40]++zl [44,32] T++[41]++(if u then [] else [32,45,62,32]++x)
theorem vj {w:World}{b o cap:Nat}{t:ya}{a:List ya}(h:qz w (some ⟨b,o,none⟩) cap (a++[t])):∃ v0 v1 v2 v3 v4 v5,w.cell? ⟨b,o+a.length*6,none⟩=some v0/\w.cell? ⟨b,o+a.length*6+1,none⟩=some v1/\w.cell? ⟨b,o+a.length*6+2,none⟩=some v2/\
  w.cell? ⟨b,o+a.length*6+3,none⟩=some v3/\w.cell? ⟨b,o+a.length*6+4,none⟩=some v4/\w.cell? ⟨b,o+a.length*6+5,none⟩=some v5/\yg w t (.agg #[v0,v1,v2,v3,v4,v5]):=by
 obtain⟨v0,v1,v2,v3,v4,v5,c,d,e,f,g,i,j⟩:=h.el a.length b o (by simp) rfl;refine⟨v0,v1,v2,v3,v4,v5,c,d,e,f,g,i,?_⟩
 rwa[lgd,List.getElem?_append_right (Nat.le_refl _),Nat.sub_self] at j
theorem xa {n b:Nat}(h:n<=20):(qh n b).length<=100:=by
 unfold qh
 split
 ·simp
 ·have:∀ j,j<=n->(zl [44,32] (((List.range n).map fun i=>zc (n-i) (b+n)).take j)).length<=4*j:=by
   intro j
   induction j with
   | zero=>intro _;simp[zl]
   | succ j c=>
    intro h;have:=c (by omega);rw[ycz _ _ _ (by simp;omega)];rw[lgd,List.getElem?_map,List.getElem?_range (by omega)];simp only[List.length_append,Option.map_some,Option.getD_some,yac]
    split<;>simp<;>omega
  have a:=this n (Nat.le_refl _);rw[List.take_of_length_le (by simp)] at a;simp only[List.length_append,List.length_cons,List.length_nil];omega
theorem ylu {w:World}{tv:Value}{b:Nat}{l:UInt8}{nm:List UInt8}{n:Nat}{a:List ya}{t:ya}{T:List (List UInt8)}{x:List UInt8} (h:yg w (.mk 15 l nm n true (a++[t])) tv) (V:b+n<=20) (ax:nm.length<=20)
  (hT:T.length=a.length) (p:a.length<=1000) (ht:∀ i,i < a.length->gb (b+n) (a.getD i .zero) (T.getD i [])) (hx:x.length<=100000000) (hl:(zl [44,32] T).length<=100000000) (hr:gb (b+n) t x) (hk:1<=t.kind) :
  Calls Tryz.prog 78 #[tv,.int .i64 b] w fun e w'=>Rtn w (.string ⟨(xo b n true nm T (isU t) x).toArray⟩) e w':=by
 obtain⟨ao,cap,rfl,hK,hn,am⟩:=yo h (by omega);obtain⟨Z,ko,rfl⟩:=hK.nn (by simp);have X:=hK.c1;have Y:=hK.c2;unfold maxLen at Y;obtain⟨v0,v1,v2,v3,v4,v5,e0,e1,e2,e3,e4,e5,U⟩:=vj hK;simp only[List.length_append,List.length_cons,List.length_nil,Nat.zero_add] at X;have A:(a++[t]).length=a.length+1:=by simp
 rw[A];obtain⟨a1,az,a0,aq,rfl,rfl,rfl,rfl,rfl,rfl⟩:=U.kv hk;have H:∀ (j:Nat) (u:Value),(#[.int .i64 15,.int .u8 l.toNat,.string ⟨nm.toArray⟩,.int .u64 n,.bool true,.slice (some ⟨Z,ko,none⟩) (a.length+1) cap]:Array Value)[j]? = some u->∀ x,(ovr (w.alloc (.cells #[.int .i64 15,.int .u8 l.toNat,.string ⟨nm.toArray⟩,.int .u64 n,.bool true,.slice (some ⟨Z,ko,none⟩) (a.length+1) cap] 28)) x).cell? ⟨w.heap.size,j,none⟩=some u:=fun j u hj x=>zn _ _ _ _ _ hj x;have b2:=H 2 _ rfl;have b3:=H 3 _ rfl;have b4:=H 4 _ rfl;have b5:=H 5 _ rfl;have k0:=fun o x=>yk e0 o x;have k1:=fun o x=>yk e1 o x;have k2:=fun o x=>yk e2 o x;have k3:=fun o x=>yk e3 o x;have k4:=fun o x=>yk e4 o x;have k5:=fun o x=>yk e5 o x;have F:=lh (vk hK);have k:=lh hT;have m:=lh ht;have S:=lh hr;have W:=xa (n:=n) (b:=b) (by omega);have B:=yah (w:=w.alloc (.cells #[.int .i64 15,.int .u8 l.toNat,.string ⟨nm.toArray⟩,.int .u64 n,.bool true,.slice (some ⟨Z,ko,none⟩) (a.length+1) cap] 28)) V;clear hT ht h hK e0 e1 e2 e3 e4 e5 H A hr;obtain⟨bt,hB⟩:∃ bt,bt=qh n b:=⟨_,rfl⟩;rw[<-hB] at W B;have E:=lh hB;clear hB;have g:=lh B;clear B;obtain⟨C,s⟩:∃ C,C=t.kind:=⟨_,rfl⟩;obtain⟨D,v⟩:∃ D,D=t.letter:=⟨_,rfl⟩;have hu:isU t=(C == 7&&D == 117):=by unfold isU;rw[s,v]
 rw[<-s,<-v] at U;rw[<-s] at k0;rw[<-v] at k1;have r:=lh U;have G:=lh hu;clear s v hk U hu
 by_cases J:nm=[]
 ·subst J
  by_cases K:C=7
  ·subst K
   by_cases f:D=117
   ·subst f
    go_enter Tryz.func78,Tryz.ntmps78
    go_wp2_with fail
    refine g.out.mono ?_;rintro e O ⟨rfl,y,rfl⟩
    go_wp2_with fail
    rw[show(b:Int)+(n:Int)=((b+n:Nat):Int) by omega];refine(jb (T:=T) ?hK k.out p m.out).mono ?_
    case hK=>exact(F.out.al _).ovr _
    rintro e P ⟨N,z,rfl,rfl,d⟩;obtain⟨L,M,rfl,-⟩:=id d;rw[yd] at d |-;generalize Xt.mk _ _=R at d |-
    go_wp2_with fail
    refine(zj (sep:=[44,32]) d (by omega) (by simp)).mono ?_;rintro e Q ⟨rfl,rfl⟩;go_wp2;go_ret;refine⟨?_,_,by rw[yb,yb,yd,yd]⟩;rw[G.out];unfold xo;rw[<-E.out];simp[kr]
   ·have I:((D.toNat:Int) == 117)=false:=u8i (c:=117) fun h=>f (UInt8.toNat_inj.1 h)
    go_enter Tryz.func78,Tryz.ntmps78
    go_wp2_with fail
    refine g.out.mono ?_;rintro e O ⟨rfl,y,rfl⟩
    go_wp2_with fail
    rw[show(b:Int)+(n:Int)=((b+n:Nat):Int) by omega];refine(jb (T:=T) ?hK k.out p m.out).mono ?_
    case hK=>exact(F.out.al _).ovr _
    rintro e P ⟨N,z,rfl,rfl,d⟩;obtain⟨L,M,rfl,-⟩:=id d;rw[yd] at d |-;generalize Xt.mk _ _=R at d |-
    go_wp2_with fail
    refine(zj (sep:=[44,32]) d (by omega) (by simp)).mono ?_;rintro e Q ⟨rfl,rfl⟩
    go_wp2_with fail
    rw[show(b:Int)+(n:Int)=((b+n:Nat):Int) by omega];refine(S.out _ _ (((r.out.al _).ovr _).al _)).mono ?_;rintro e w4 ⟨rfl,q,rfl⟩;go_wp2;go_ret;refine⟨?_,_,by rw[yb,yb,yd,yd,yd]⟩;rw[G.out];unfold xo;rw[<-E.out];simp[kr,f]
  ·have e7:((C:Int) == 7)=false:=by simp;omega
   go_enter Tryz.func78,Tryz.ntmps78
   go_wp2_with fail
   refine g.out.mono ?_;rintro e O ⟨rfl,y,rfl⟩
   go_wp2_with fail
   rw[show(b:Int)+(n:Int)=((b+n:Nat):Int) by omega];refine(jb (T:=T) ?hK k.out p m.out).mono ?_
   case hK=>exact(F.out.al _).ovr _
   rintro e P ⟨N,z,rfl,rfl,d⟩;obtain⟨L,M,rfl,-⟩:=id d;rw[yd] at d |-;generalize Xt.mk _ _=R at d |-
   go_wp2_with fail
   refine(zj (sep:=[44,32]) d (by omega) (by simp)).mono ?_;rintro e Q ⟨rfl,rfl⟩
   go_wp2_with fail
   rw[show(b:Int)+(n:Int)=((b+n:Nat):Int) by omega];refine(S.out _ _ (((r.out.al _).ovr _).al _)).mono ?_;rintro e w4 ⟨rfl,q,rfl⟩;go_wp2;go_ret;refine⟨?_,_,by rw[yb,yb,yd,yd,yd]⟩;rw[G.out];unfold xo;rw[<-E.out];simp[kr,K]
 ·have aw:nm.isEmpty=false:=by simpa using J
  by_cases K:C=7
  ·subst K
   by_cases f:D=117
   ·subst f
    go_enter Tryz.func78,Tryz.ntmps78
    go_wp2_with fail
    refine g.out.mono ?_;rintro e O ⟨rfl,y,rfl⟩
    go_wp2_with fail
    rw[show(b:Int)+(n:Int)=((b+n:Nat):Int) by omega];refine(jb (T:=T) ?hK k.out p m.out).mono ?_
    case hK=>exact(F.out.al _).ovr _
    rintro e P ⟨N,z,rfl,rfl,d⟩;obtain⟨L,M,rfl,-⟩:=id d;rw[yd] at d |-;generalize Xt.mk _ _=R at d |-
    go_wp2_with fail
    refine(zj (sep:=[44,32]) d (by omega) (by simp)).mono ?_;rintro e Q ⟨rfl,rfl⟩;go_wp2;go_ret;refine⟨?_,_,by rw[yb,yb,yd,yd]⟩;rw[G.out];unfold xo;rw[<-E.out];simp[kr,J]
   ·have I:((D.toNat:Int) == 117)=false:=u8i (c:=117) fun h=>f (UInt8.toNat_inj.1 h)
    go_enter Tryz.func78,Tryz.ntmps78
    go_wp2_with fail
    refine g.out.mono ?_;rintro e O ⟨rfl,y,rfl⟩
    go_wp2_with fail
    rw[show(b:Int)+(n:Int)=((b+n:Nat):Int) by omega];refine(jb (T:=T) ?hK k.out p m.out).mono ?_
    case hK=>exact(F.out.al _).ovr _
    rintro e P ⟨N,z,rfl,rfl,d⟩;obtain⟨L,M,rfl,-⟩:=id d;rw[yd] at d |-;generalize Xt.mk _ _=R at d |-
    go_wp2_with fail
    refine(zj (sep:=[44,32]) d (by omega) (by simp)).mono ?_;rintro e Q ⟨rfl,rfl⟩
    go_wp2_with fail
    rw[show(b:Int)+(n:Int)=((b+n:Nat):Int) by omega];refine(S.out _ _ (((r.out.al _).ovr _).al _)).mono ?_;rintro e w4 ⟨rfl,q,rfl⟩;go_wp2;go_ret;refine⟨?_,_,by rw[yb,yb,yd,yd,yd]⟩;rw[G.out];unfold xo;rw[<-E.out];simp[kr,f,J]
  ·have e7:((C:Int) == 7)=false:=by simp;omega
   go_enter Tryz.func78,Tryz.ntmps78
   go_wp2_with fail
   refine g.out.mono ?_;rintro e O ⟨rfl,y,rfl⟩
   go_wp2_with fail
   rw[show(b:Int)+(n:Int)=((b+n:Nat):Int) by omega];refine(jb (T:=T) ?hK k.out p m.out).mono ?_
   case hK=>exact(F.out.al _).ovr _
   rintro e P ⟨N,z,rfl,rfl,d⟩;obtain⟨L,M,rfl,-⟩:=id d;rw[yd] at d |-;generalize Xt.mk _ _=R at d |-
   go_wp2_with fail
   refine(zj (sep:=[44,32]) d (by omega) (by simp)).mono ?_;rintro e Q ⟨rfl,rfl⟩
   go_wp2_with fail
   rw[show(b:Int)+(n:Int)=((b+n:Nat):Int) by omega];refine(S.out _ _ (((r.out.al _).ovr _).al _)).mono ?_;rintro e w4 ⟨rfl,q,rfl⟩;go_wp2;go_ret;refine⟨?_,_,by rw[yb,yb,yd,yd,yd]⟩;rw[G.out];unfold xo;rw[<-E.out];simp[kr,K,J]
theorem ykd {w:World}{tv:Value}{b:Nat}{l:UInt8}{nm:List UInt8}{n:Nat}{a:List ya}{t:ya}{T:List (List UInt8)}{x:List UInt8} (h:yg w (.mk 15 l nm n false (a++[t])) tv) (V:b+n<=20) (ax:nm.length<=20)
  (hT:T.length=a.length) (p:a.length<=1000) (ht:∀ i,i < a.length->gb (b+n) (a.getD i .zero) (T.getD i [])) (hx:x.length<=100000000) (hl:(zl [44,32] T).length<=100000000) (hr:gb (b+n) t x) (hk:1<=t.kind) :
  Calls Tryz.prog 78 #[tv,.int .i64 b] w fun e w'=>Rtn w (.string ⟨(xo b n false nm T (isU t) x).toArray⟩) e w':=by
 obtain⟨ao,cap,rfl,hK,hn,am⟩:=yo h (by omega);obtain⟨Z,ko,rfl⟩:=hK.nn (by simp);have X:=hK.c1;have Y:=hK.c2;unfold maxLen at Y;obtain⟨v0,v1,v2,v3,v4,v5,e0,e1,e2,e3,e4,e5,U⟩:=vj hK;simp only[List.length_append,List.length_cons,List.length_nil,Nat.zero_add] at X;have A:(a++[t]).length=a.length+1:=by simp
 rw[A];obtain⟨a1,az,a0,aq,rfl,rfl,rfl,rfl,rfl,rfl⟩:=U.kv hk;have H:∀ (j:Nat) (u:Value),(#[.int .i64 15,.int .u8 l.toNat,.string ⟨nm.toArray⟩,.int .u64 n,.bool false,.slice (some ⟨Z,ko,none⟩) (a.length+1) cap]:Array Value)[j]? = some u->∀ x,(ovr (w.alloc (.cells #[.int .i64 15,.int .u8 l.toNat,.string ⟨nm.toArray⟩,.int .u64 n,.bool false,.slice (some ⟨Z,ko,none⟩) (a.length+1) cap] 28)) x).cell? ⟨w.heap.size,j,none⟩=some u:=fun j u hj x=>zn _ _ _ _ _ hj x;have b2:=H 2 _ rfl;have b3:=H 3 _ rfl;have b4:=H 4 _ rfl;have b5:=H 5 _ rfl;have k0:=fun o x=>yk e0 o x;have k1:=fun o x=>yk e1 o x;have k2:=fun o x=>yk e2 o x;have k3:=fun o x=>yk e3 o x;have k4:=fun o x=>yk e4 o x;have k5:=fun o x=>yk e5 o x;have F:=lh (vk hK);have k:=lh hT;have m:=lh ht;have S:=lh hr;have W:=xa (n:=n) (b:=b) (by omega);have B:=yah (w:=w.alloc (.cells #[.int .i64 15,.int .u8 l.toNat,.string ⟨nm.toArray⟩,.int .u64 n,.bool false,.slice (some ⟨Z,ko,none⟩) (a.length+1) cap] 28)) V;clear hT ht h hK e0 e1 e2 e3 e4 e5 H A hr;obtain⟨bt,hB⟩:∃ bt,bt=qh n b:=⟨_,rfl⟩;rw[<-hB] at W B;have E:=lh hB;clear hB;have g:=lh B;clear B;obtain⟨C,s⟩:∃ C,C=t.kind:=⟨_,rfl⟩;obtain⟨D,v⟩:∃ D,D=t.letter:=⟨_,rfl⟩;have hu:isU t=(C == 7&&D == 117):=by unfold isU;rw[s,v]
 rw[<-s,<-v] at U;rw[<-s] at k0;rw[<-v] at k1;have r:=lh U;have G:=lh hu;clear s v hk U hu
 by_cases J:nm=[]
 ·subst J
  by_cases K:C=7
  ·subst K
   by_cases f:D=117
   ·subst f
    go_enter Tryz.func78,Tryz.ntmps78
    go_wp2_with fail
    refine g.out.mono ?_;rintro e O ⟨rfl,y,rfl⟩
    go_wp2_with fail
    rw[show(b:Int)+(n:Int)=((b+n:Nat):Int) by omega];refine(jb (T:=T) ?hK k.out p m.out).mono ?_
    case hK=>exact(F.out.al _).ovr _
    rintro e P ⟨N,z,rfl,rfl,d⟩;obtain⟨L,M,rfl,-⟩:=id d;rw[yd] at d |-;generalize Xt.mk _ _=R at d |-
    go_wp2_with fail
    refine(zj (sep:=[44,32]) d (by omega) (by simp)).mono ?_;rintro e Q ⟨rfl,rfl⟩;go_wp2;go_ret;refine⟨?_,_,by rw[yb,yb,yd,yd]⟩;rw[G.out];unfold xo;rw[<-E.out];simp[kr]
   ·have I:((D.toNat:Int) == 117)=false:=u8i (c:=117) fun h=>f (UInt8.toNat_inj.1 h)
    go_enter Tryz.func78,Tryz.ntmps78
    go_wp2_with fail
    refine g.out.mono ?_;rintro e O ⟨rfl,y,rfl⟩
    go_wp2_with fail
    rw[show(b:Int)+(n:Int)=((b+n:Nat):Int) by omega];refine(jb (T:=T) ?hK k.out p m.out).mono ?_
    case hK=>exact(F.out.al _).ovr _
    rintro e P ⟨N,z,rfl,rfl,d⟩;obtain⟨L,M,rfl,-⟩:=id d;rw[yd] at d |-;generalize Xt.mk _ _=R at d |-
    go_wp2_with fail
    refine(zj (sep:=[44,32]) d (by omega) (by simp)).mono ?_;rintro e Q ⟨rfl,rfl⟩
    go_wp2_with fail
    rw[show(b:Int)+(n:Int)=((b+n:Nat):Int) by omega];refine(S.out _ _ (((r.out.al _).ovr _).al _)).mono ?_;rintro e w4 ⟨rfl,q,rfl⟩;go_wp2;go_ret;refine⟨?_,_,by rw[yb,yb,yd,yd,yd]⟩;rw[G.out];unfold xo;rw[<-E.out];simp[kr,f]
  ·have e7:((C:Int) == 7)=false:=by simp;omega
   go_enter Tryz.func78,Tryz.ntmps78
   go_wp2_with fail
   refine g.out.mono ?_;rintro e O ⟨rfl,y,rfl⟩
   go_wp2_with fail
   rw[show(b:Int)+(n:Int)=((b+n:Nat):Int) by omega];refine(jb (T:=T) ?hK k.out p m.out).mono ?_
   case hK=>exact(F.out.al _).ovr _
   rintro e P ⟨N,z,rfl,rfl,d⟩;obtain⟨L,M,rfl,-⟩:=id d;rw[yd] at d |-;generalize Xt.mk _ _=R at d |-
   go_wp2_with fail
   refine(zj (sep:=[44,32]) d (by omega) (by simp)).mono ?_;rintro e Q ⟨rfl,rfl⟩
   go_wp2_with fail
   rw[show(b:Int)+(n:Int)=((b+n:Nat):Int) by omega];refine(S.out _ _ (((r.out.al _).ovr _).al _)).mono ?_;rintro e w4 ⟨rfl,q,rfl⟩;go_wp2;go_ret;refine⟨?_,_,by rw[yb,yb,yd,yd,yd]⟩;rw[G.out];unfold xo;rw[<-E.out];simp[kr,K]
 ·have aw:nm.isEmpty=false:=by simpa using J
  by_cases K:C=7
  ·subst K
   by_cases f:D=117
   ·subst f
    go_enter Tryz.func78,Tryz.ntmps78
    go_wp2_with fail
    refine g.out.mono ?_;rintro e O ⟨rfl,y,rfl⟩
    go_wp2_with fail
    rw[show(b:Int)+(n:Int)=((b+n:Nat):Int) by omega];refine(jb (T:=T) ?hK k.out p m.out).mono ?_
    case hK=>exact(F.out.al _).ovr _
    rintro e P ⟨N,z,rfl,rfl,d⟩;obtain⟨L,M,rfl,-⟩:=id d;rw[yd] at d |-;generalize Xt.mk _ _=R at d |-
    go_wp2_with fail
    refine(zj (sep:=[44,32]) d (by omega) (by simp)).mono ?_;rintro e Q ⟨rfl,rfl⟩;go_wp2;go_ret;refine⟨?_,_,by rw[yb,yb,yd,yd]⟩;rw[G.out];unfold xo;rw[<-E.out];simp[kr,J]
   ·have I:((D.toNat:Int) == 117)=false:=u8i (c:=117) fun h=>f (UInt8.toNat_inj.1 h)
    go_enter Tryz.func78,Tryz.ntmps78
    go_wp2_with fail
    refine g.out.mono ?_;rintro e O ⟨rfl,y,rfl⟩
    go_wp2_with fail
    rw[show(b:Int)+(n:Int)=((b+n:Nat):Int) by omega];refine(jb (T:=T) ?hK k.out p m.out).mono ?_
    case hK=>exact(F.out.al _).ovr _
    rintro e P ⟨N,z,rfl,rfl,d⟩;obtain⟨L,M,rfl,-⟩:=id d;rw[yd] at d |-;generalize Xt.mk _ _=R at d |-
    go_wp2_with fail
    refine(zj (sep:=[44,32]) d (by omega) (by simp)).mono ?_;rintro e Q ⟨rfl,rfl⟩
    go_wp2_with fail
    rw[show(b:Int)+(n:Int)=((b+n:Nat):Int) by omega];refine(S.out _ _ (((r.out.al _).ovr _).al _)).mono ?_;rintro e w4 ⟨rfl,q,rfl⟩;go_wp2;go_ret;refine⟨?_,_,by rw[yb,yb,yd,yd,yd]⟩;rw[G.out];unfold xo;rw[<-E.out];simp[kr,f,J]
  ·have e7:((C:Int) == 7)=false:=by simp;omega
   go_enter Tryz.func78,Tryz.ntmps78
   go_wp2_with fail
   refine g.out.mono ?_;rintro e O ⟨rfl,y,rfl⟩
   go_wp2_with fail
   rw[show(b:Int)+(n:Int)=((b+n:Nat):Int) by omega];refine(jb (T:=T) ?hK k.out p m.out).mono ?_
   case hK=>exact(F.out.al _).ovr _
   rintro e P ⟨N,z,rfl,rfl,d⟩;obtain⟨L,M,rfl,-⟩:=id d;rw[yd] at d |-;generalize Xt.mk _ _=R at d |-
   go_wp2_with fail
   refine(zj (sep:=[44,32]) d (by omega) (by simp)).mono ?_;rintro e Q ⟨rfl,rfl⟩
   go_wp2_with fail
   rw[show(b:Int)+(n:Int)=((b+n:Nat):Int) by omega];refine(S.out _ _ (((r.out.al _).ovr _).al _)).mono ?_;rintro e w4 ⟨rfl,q,rfl⟩;go_wp2;go_ret;refine⟨?_,_,by rw[yb,yb,yd,yd,yd]⟩;rw[G.out];unfold xo;rw[<-E.out];simp[kr,K,J]
theorem ynf {w:World}{q:Value}{b:Nat}{l:UInt8}{nm:List UInt8}{n:Nat}{f:Bool}{a:List ya}{t:ya}{T:List (List UInt8)}{x:List UInt8} (h:yg w (.mk 15 l nm n f (a++[t])) q) (c:b+n<=20) (d:nm.length<=20)
  (j:T.length=a.length) (g:a.length<=1000) (o:∀ i,i < a.length->gb (b+n) (a.getD i .zero) (T.getD i [])) (p:x.length<=100000000) (m:(zl [44,32] T).length<=100000000) (hr:gb (b+n) t x) (k:1<=t.kind) :
  Calls Tryz.prog 78 #[q,.int .i64 b] w fun e w'=>Rtn w (.string ⟨(xo b n f nm T (isU t) x).toArray⟩) e w':=by
 cases f with
 | true=>exact ylu h c d j g o p m hr k
 | false=>exact ykd h c d j g o p m hr k
theorem yq0 {b k:Nat}{l:UInt8}{nm:List UInt8}{n:Nat}{f:Bool}{kids:List ya}{x:List UInt8}(m:k=15\/k=16)
  (d:∀ w i,yg w (.mk k l nm n f kids) i->Calls Tryz.prog (if k=15 then 78 else 79) #[i,.int .i64 b] w fun e w'=>Rtn w (.string ⟨x.toArray⟩) e w'):gb b (.mk k l nm n f kids) x:=by
 intro w i h;have a:=h;obtain⟨ao,cap,rfl,hK,p,o⟩:=yo h (by omega);have c:=lh a;clear h a hK
 rcases m with rfl|rfl
 ·by_cases g:0 < n
  ·go_enter Tryz.func47,Tryz.ntmps47
   go_wp2_with fail
   refine(d _ _ (c.out.al _)).mono ?_;rintro e j ⟨rfl,y,rfl⟩;go_wp2;go_ret;exact⟨rfl,_,by rw[yb,yd]⟩
  ·go_enter Tryz.func47,Tryz.ntmps47
   go_wp2_with fail
   refine(d _ _ (c.out.al _)).mono ?_;rintro e j ⟨rfl,y,rfl⟩;go_wp2;go_ret;exact⟨rfl,_,by rw[yb,yd]⟩
 ·by_cases g:0 < n
  ·go_enter Tryz.func47,Tryz.ntmps47
   go_wp2_with fail
   refine(d _ _ (c.out.al _)).mono ?_;rintro e j ⟨rfl,y,rfl⟩;go_wp2;go_ret;exact⟨rfl,_,by rw[yb,yd]⟩
  ·go_enter Tryz.func47,Tryz.ntmps47
   go_wp2_with fail
   refine(d _ _ (c.out.al _)).mono ?_;rintro e j ⟨rfl,y,rfl⟩;go_wp2;go_ret;exact⟨rfl,_,by rw[yb,yd]⟩
def yjr (b:Nat)(t:ya)(x:List UInt8):Prop:=∀ w tv,yg w t tv->Calls Tryz.prog 105 #[tv,.int .i64 b] w fun e w'=>Rtn w (.string ⟨x.toArray⟩) e w'
def ykg (b n m:Nat)(T:List (List UInt8)):List UInt8:=[100,121,110,32]++qh n b++zl [32,43,32] T++(if m=0 then [] else [32,43,32]++zc m b)
theorem yly {w:World}{tv:Value}{b:Nat}{l:UInt8}{nm:List UInt8}{n m:Nat}{f:Bool}{a:List ya}{l2:UInt8}{nm2:List UInt8}{f2:Bool}{T:List (List UInt8)} (h:yg w (.mk 16 l nm n f (a++[.mk 19 l2 nm2 m f2 []])) tv) (U:b+n<=20) (hm:m<=b)
  (hT:T.length=a.length) (bn:a.length<=1000) (ht:∀ i,i < a.length->yjr (b+n) (a.getD i .zero) (T.getD i [])) (hl:(zl [32,43,32] T).length<=100000000) :
  Calls Tryz.prog 79 #[tv,.int .i64 b] w fun e w'=>Rtn w (.string ⟨(ykg b n m T).toArray⟩) e w':=by
 obtain⟨i0,hi,ap,aq,ar⟩:=info_parts Tryz.infoStr;obtain⟨ao,cap,rfl,hK,hn,a6⟩:=yo h (by omega);obtain⟨I,J,rfl⟩:=hK.nn (by simp);have aj:=hK.c1;have ak:=hK.c2;unfold maxLen at ak;obtain⟨v0,v1,v2,v3,v4,v5,X,Y,Z,S,e4,e5,R⟩:=vj hK;simp only[List.length_append,List.length_cons,List.length_nil,Nat.zero_add] at aj;have K:(a++[ya.mk 19 l2 nm2 m f2 []]).length=a.length+1:=by simp
 rw[K];obtain⟨bq,bo,bp,ba,rfl,rfl,rfl,rfl,rfl,rfl⟩:=R.kv (by show 1<=19;omega);have k3:∀ o x,(ovr (w.alloc o) x).cell? ⟨I,J+a.length*6+3,none⟩=some (.int .u64 m):=fun o x=>yk S o x;have bb:∀ (j:Nat) (u:Value),(#[.int .i64 16,.int .u8 l.toNat,.string ⟨nm.toArray⟩,.int .u64 n,.bool f,.slice (some ⟨I,J,none⟩) (a.length+1) cap]:Array Value)[j]? = some u->∀ x,(ovr (w.alloc (.cells #[.int .i64 16,.int .u8 l.toNat,.string ⟨nm.toArray⟩,.int .u64 n,.bool f,.slice (some ⟨I,J,none⟩) (a.length+1) cap] 28)) x).cell? ⟨w.heap.size,j,none⟩=some u:=fun j u hj x=>zn _ _ _ _ _ hj x;have b3:=bb 3 _ rfl;have b5:=bb 5 _ rfl;have N:=(vk hK).al (.cells #[.int .i64 16,.int .u8 l.toNat,.string ⟨nm.toArray⟩,.int .u64 n,.bool f,.slice (some ⟨I,J,none⟩) (a.length+1) cap] 28);have F:=lh hT;have af:=lh ht;have ai:=xa (n:=n) (b:=b) (by omega);clear hT ht h hK X Y Z S e4 e5 bb K R;obtain⟨bt,hB⟩:∃ bt,bt=qh n b:=⟨_,rfl⟩;rw[<-hB] at ai;have E:=lh hB;clear hB;obtain⟨B,M⟩:∃ B,B=(w.alloc (.cells #[.int .i64 16,.int .u8 l.toNat,.string ⟨nm.toArray⟩,.int .u64 n,.bool f,.slice (some ⟨I,J,none⟩) (a.length+1) cap] 28)).heap.size:=⟨_,rfl⟩
 go_enter Tryz.func79,Tryz.ntmps79
 go_wp2;have au:=k3 (.cells #[.int .i64 16,.int .u8 l.toNat,.string ⟨nm.toArray⟩,.int .u64 n,.bool f,.slice (some ⟨I,J,none⟩) (a.length+1) cap] 28)
 have O:=yb w (.cells #[.int .i64 16,.int .u8 l.toNat,.string ⟨nm.toArray⟩,.int .u64 n,.bool f,.slice (some ⟨I,J,none⟩) (a.length+1) cap] 28);clear k3;generalize w.alloc (.cells #[.int .i64 16,.int .u8 l.toNat,.string ⟨nm.toArray⟩,.int .u64 n,.bool f,.slice (some ⟨I,J,none⟩) (a.length+1) cap] 28)=W0 at M b3 b5 au N O |-;have HW:=lh O;clear O;have HB:Hid (B=W0.heap.size):=M;have HK:=lh N;clear M N
 go_loopw [7,9,25] (fun v v9 i wr=>∃ (k:Nat) (sa:Option Addr) (c:Nat),k<=a.length/\v=.slice sa k c/\i=.int .i64 k/\wr.ownsRow B 9 1 (.slice sa k c) k (ke (T.take k))/\Below B W0 wr/\B<=wr.heap.size) (fun _ _ i _=>a.length-(intOf i).toNat)
 case atStart=>exact⟨0,none,0,by omega,rfl,rfl,⟨by simp[ke],.inl ⟨rfl,rfl⟩⟩,Below.refl _ _,Nat.le_of_eq HB.out⟩
 case round=>
  obtain⟨k,sa,c,hk,rfl,rfl,p,s,Q⟩:=hrel;obtain⟨y,hy⟩:=xb HB.out s
  by_cases G:k < a.length
  ·obtain⟨v0,v1,v2,v3,v4,v5,X,Y,Z,S,e4,e5,R⟩:=(HK.out.ovr y).el k I J G rfl
   rw[<-hy] at X Y Z S e4 e5 R;obtain⟨kv,l9,br,n9,f9,a9,bc,av,rfl,rfl,rfl,rfl,rfl,rfl⟩:=R.shape;have HY:=lh hy;clear hy;have hx:ke (T.take (k+1))=ke (T.take k)++[.string ⟨(T.getD k []).toArray⟩]:=by
    rw[lts (by rw[F.out];exact G)];unfold ke;rw[List.map_append,lgd,lge (by rw[F.out];exact G)]
    rfl
   have HX:=lh hx;clear hx
   go_wp2_with fail
   rw[show(b:Int)+(n:Int)=((b+n:Nat):Int) by omega];refine(af.out k G _ _ (R.al _)).mono ?_;rintro e w1 ⟨rfl,x,rfl⟩;rw[yb,yd];generalize Xt.mk _ _=W;have g:=yab p W;obtain⟨r,D⟩:=ku s Q W;generalize ovr wr W=ax at g r D |-;generalize T.getD k []=tk at HX |-;clear p s Q X Y Z S e4 e5 R HY
   go_wp2_with(at_builtin;refine wpList_append_own _ rfl _ _ 66 rfl B 9 i0 (.string ⟨#[]⟩) 1 16 Tryz.underlying66 hi ap aq ar rfl (by decide) _ _ _ rfl (g.alloc _) ⟨ax.heap.size,0,none⟩ 1 1 [.string ⟨tk.toArray⟩] rfl rfl ?c1 ?c2 ?c3 ?c4 ?c5 ?_)
   case c1=>exact cell_one_new _ _ _
   case c2=>simp[Value.oneCell']
   case c3=>unfold maxLen;omega
   case c4=>omega
   case c5=>simp;omega
   intro v' w2 A t _;obtain⟨P,V⟩:=xe r D g t;have C:w2.ownsRow B 9 1 v' (k+1) (ke (T.take (k+1))):=by rw[HX.out];simpa using A
   obtain⟨a',c',rfl,-,-,-⟩:=zq C;clear A t g r D;go_wp2
   go_roundw
   case rel=>
    refine⟨?_,?_,?_,?_,?_,?_,?_,?_,?_,?_,?_,?_,?_,?rl,?fr⟩
    case fr=>rfl
    case rl=>exact⟨k+1,a',c',by omega,rfl,by go_num,C,P,V⟩
   case measure=>simp[intOf];omega
  ·obtain rfl:k=a.length:=by omega
   have ah:T.take a.length=T:=by rw[List.take_of_length_le (by rw[F.out];exact Nat.le_refl _)]
   rw[ah] at p;have hS:=yd0 p F.out.symm;clear p s Q;have HS:=lh hS;clear hS;subst hy
   by_cases H:m=0
   ·have an:¬ 0 < m:=by omega
    have HM:=lh H;clear H
    go_wp2_with fail
    refine(yah U).mono ?_;rintro e w1 ⟨rfl,z,rfl⟩;rw[<-E.out];have d:=HS.out.ovr z;rw[yd] at d |-;generalize Xt.mk _ _=W at d |-
    go_wp2_with fail
    refine(zj (sep:=[32,43,32]) d (by omega) (by simp)).mono ?_;rintro e w3 ⟨rfl,rfl⟩;clear d;go_wp2;go_ret;refine⟨?_,_,by rw[HW.out,yd]⟩;unfold ykg;rw[<-E.out];simp[HM.out]
   ·have an:0 < m:=by omega
    have HM:=lh H;clear H;have am:=yac m b
    go_wp2_with fail
    refine(yah U).mono ?_;rintro e w1 ⟨rfl,z,rfl⟩;rw[<-E.out];have d:=HS.out.ovr z;rw[yd] at d |-;generalize Xt.mk _ _=W at d |-
    go_wp2_with fail
    refine(zj (sep:=[32,43,32]) d (by omega) (by simp)).mono ?_;rintro e w3 ⟨rfl,rfl⟩;clear d
    go_wp2_with fail
    refine(yad hm (by omega)).mono ?_;rintro e w4 ⟨rfl,q,rfl⟩;generalize L:zc m b=lt at am |-;have ad:=lh L;clear L;go_wp2;go_ret;refine⟨?_,_,by rw[HW.out,yd,yd]⟩;unfold ykg;rw[<-E.out];simp[HM.out,ad.out]
theorem ynr {b:Nat}{l:UInt8}{nm:List UInt8}{n:Nat}{f:Bool}{p:ya}{x:List UInt8}(u:yam b false p x):yjr b (.mk 17 l nm n f [p]) x:=by
 intro w H h;obtain⟨ao,cap,rfl,hK,D,s⟩:=yo h (by omega);obtain⟨z,C,rfl⟩:=hK.nn (by simp);have m:=hK.c1;have q:=hK.c2;unfold maxLen at q;obtain⟨v0,v1,v2,v3,v4,v5,c,d,g,i,j,k,r⟩:=hK.el 0 z C (by simp) rfl;simp only[List.length_cons,List.length_nil,Nat.zero_add,Nat.zero_mul,Nat.add_zero] at m c d g i j k |-;obtain⟨kv,kl,B,G,F,v,A,t,rfl,rfl,rfl,rfl,rfl,rfl⟩:=r.shape;have E:=fun o=>yi c o;have k1:=fun o=>yi d o;have k2:=fun o=>yi g o;have k3:=fun o=>yi i o;have k4:=fun o=>yi j o;have k5:=fun o=>yi k o;have a:=lh r;clear h hK c d g i j k r
 go_enter Tryz.func105,Tryz.ntmps105
 go_wp2_with fail
 refine(u _ _ ((a.out.al _).al _)).mono ?_;rintro e I ⟨rfl,y,rfl⟩;go_wp2;go_ret;exact⟨rfl,_,by rw[yb,yb,yd,yd]⟩
theorem vg {P:Program}{l:Array Oper}{o:Oper}{a:Act}{w:World}{K:Act->World->Prop}{Q:Exit->Act->World->Prop}{E:Prop}
  (L:o.guard=none) (s x:Operand) (t:TypeId) (y:o.op=Op.call { callee:=Callee.builtin Builtin.append,args:=#[s,x],argTypes:=#[t,t] })
  (f:Nat) (e:TypeId) (i:TypeInfo) (z:Value) (size d:Nat) (B:P.underlying t=some (.slice e)) (C:P.info? e=some i) (D:i.zero=some z) (F:i.size=size) (G:i.bytes=d) (H:z.cells.size=size) (I:0 < size)
  (v:Value) (n:Nat) (xs:List Value) (N:a.eval s=v) (h:w.ownsRow f e size v n xs)
  (q:Addr) (m c:Nat) (b:List Value) (O:a.eval x=.slice (some q) m c) (M:b.length=m*size) (J:∀ j u,b[j]? = some u->w.cell? (q.add j)=some u) (r:∀ u∈b,u.oneCell'=true)
  (b1:n+m<=maxLen) (A:(n+m)*d<=140737488355328) (g:f<=w.heap.size)
  (hK:∀ p w',w'.ownsRow f e size p (n+m) (xs++b)->w.grownBy w' v.ownBlock->K (a.put o.dst p) w') :
  if Region.wanted o (yielded l a.tmps)=true then Oper.wp P o a w K Q else E:=by
 have hw:Region.wanted o (yielded l a.tmps)=true:=by simp[Region.wanted,L]
 rw[if_pos hw];obtain⟨p,w',k,R,S,_⟩:=run_append_own (P:=P) w f t o.type e i z size d B C D F G H I v n xs h q m c b M J r b1 A g;unfold Oper.wp;simp[execOp,y,resolve,invoke,builtin,N,O,k,Result.andThen];exact hK p w' R S
theorem yhw {B:Nat}{w wr a:World}{e:TypeId}{v:Value}{n:Nat}{xs:List Value}(hb:Below B w wr)(f:B<=wr.heap.size)(d:wr.ownsRow B e 1 v n xs)
  (b:wr.grownBy a v.ownBlock):Below B w a/\B<=a.heap.size:=
 ⟨hb.grown b f (fun k c=>yaq d k c),by have:=b.size;omega⟩
theorem xj (w:World):w.drew=ovr w ⟨w.drawn+1,#[]⟩:=by unfold ovr World.drew;simp
def yo5 (b:Nat)(t:ya)(x:List UInt8):Prop:=∃ l nm n f u y,t=.mk 18 l nm n f [u]/\nm.length<=4000/\y.length<=100000000/\gb b u y/\x=nm++[32,61,32]++y
theorem ynp {b:Nat}{l:UInt8}{nm:List UInt8}{n:Nat}{f:Bool}{p:ya}{d:List ya}{xp:List UInt8}{T:List (List UInt8)}(ch:p.kind≠6)(ba:1<=p.kind)(a8:d≠[])(hT:T.length=d.length)(cj:d.length<=1000)
  (ht:∀ i,i < d.length->yo5 b (d.getD i .zero) (T.getD i [])) (hx:xp.length<=100000000) (hl:(zl [44,32] T).length<=100000000) (hq:yam b false p xp):yjr b (.mk 17 l nm n f (p::d)) (xp++[60]++zl [44,32] T++[62]):=by
 intro w tv h;obtain⟨i0,hi,be,bg,bh⟩:=info_parts Tryz.infoStr;obtain⟨ao,cap,rfl,hK,hn,bu⟩:=yo h (by omega);obtain⟨R,S,rfl⟩:=hK.nn (by simp);have al:=hK.c1;have a9:=hK.c2;unfold maxLen at a9;have cf:0 < d.length:=List.length_pos_iff.mpr a8;obtain⟨v0,v1,v2,v3,v4,v5,e0,e1,e2,e3,e4,e5,M⟩:=hK.el 0 R S (by simp) rfl;have P:(p::d).length=d.length+1:=by simp
 rw[P] at al |-;have bt:¬ cap=1:=by omega
 rw[List.getD_cons_zero] at M;obtain⟨L,J,K,q,rfl,rfl,rfl,rfl,rfl,rfl⟩:=M.kv ba;simp only[Nat.zero_mul,Nat.add_zero] at al e0 e1 e2 e3 e4 e5 |-;have k0:=fun o=>yi e0 o;have k1:=fun o=>yi e1 o;have k2:=fun o=>yi e2 o;have k3:=fun o=>yi e3 o;have k4:=fun o=>yi e4 o;have k5:=fun o=>yi e5 o;have q6:((p.kind:Int) == 6)=false:=by simp;omega
 have q1:(((d.length+1:Nat):Int) == 1)=false:=by simp;omega
 have q2:((d.length:Int)+1 == 1)=false:=by simp;omega
 have ac:=lh M;have ab:=lh (xz hK);have F:=lh hT;have a0:=lh ht;clear h hK e0 e1 e2 e3 e4 e5 M hT ht P
 go_enter Tryz.func105,Tryz.ntmps105
 go_wp2;obtain⟨xw,t⟩:∃ xw,(w.alloc (.cells #[.int .i64 17,.int .u8 l.toNat,.string ⟨nm.toArray⟩,.int .u64 n,.bool f,.slice (some ⟨R,S,none⟩) (d.length+1) cap] 28)).alloc (.cells #[.int .i64 p.kind,.int .u8 p.letter.toNat,.string ⟨L.toArray⟩,.int .u64 p.num,.bool p.flag,.slice J K q] 28)=ovr w xw:=⟨_,by rw[yb,yb,yd]⟩
 have Q:(w.alloc (.cells #[.int .i64 17,.int .u8 l.toNat,.string ⟨nm.toArray⟩,.int .u64 n,.bool f,.slice (some ⟨R,S,none⟩) (d.length+1) cap] 28)).heap.size=w.heap.size+1:=by simp
 have O:∀ (j:Nat) (u:Value),(#[.int .i64 p.kind,.int .u8 p.letter.toNat,.string ⟨L.toArray⟩,.int .u64 p.num,.bool p.flag,.slice J K q]:Array Value)[j]? = some u->∀ x,(ovr ((w.alloc (.cells #[.int .i64 17,.int .u8 l.toNat,.string ⟨nm.toArray⟩,.int .u64 n,.bool f,.slice (some ⟨R,S,none⟩) (d.length+1) cap] 28)).alloc (.cells #[.int .i64 p.kind,.int .u8 p.letter.toNat,.string ⟨L.toArray⟩,.int .u64 p.num,.bool p.flag,.slice J K q] 28)) x).cell? ⟨w.heap.size+1,j,none⟩=some u:=fun j u hj x=>by
  have:=zn _ 28 _ _ hj x (w:=w.alloc (.cells #[.int .i64 17,.int .u8 l.toNat,.string ⟨nm.toArray⟩,.int .u64 n,.bool f,.slice (some ⟨R,S,none⟩) (d.length+1) cap] 28))
  rwa[Q] at this
 generalize (w.alloc (.cells #[.int .i64 17,.int .u8 l.toNat,.string ⟨nm.toArray⟩,.int .u64 n,.bool f,.slice (some ⟨R,S,none⟩) (d.length+1) cap] 28)).alloc (.cells #[.int .i64 p.kind,.int .u8 p.letter.toNat,.string ⟨L.toArray⟩,.int .u64 p.num,.bool p.flag,.slice J K q] 28)=Y at t O |-;have b0:=O 0 _ rfl;have b1:=O 1 _ rfl;have b2:=O 2 _ rfl;have b3:=O 3 _ rfl;have b4:=O 4 _ rfl;have b5:=O 5 _ rfl;obtain⟨B,ak⟩:∃ B,B=Y.heap.size:=⟨_,rfl⟩;have HB:Hid (B=Y.heap.size):=ak;have HW:=lh t;have HK:Hid (qz Y (some ⟨R,S+6,none⟩) (cap-1) d):=lh (by rw[t];exact ab.out.ovr _);have ad:Hid (yg Y p _):=lh (by rw[t];exact ac.out.ovr _);clear ak t ab ac Q O k0 k1 k2 k3 k4 k5
 go_loopw [6,8,36] (fun v v9 i wr=>∃ (k:Nat) (sa:Option Addr) (c:Nat),k<=d.length/\v=.slice sa k c/\i=.int .i64 k/\wr.ownsRow B 9 1 (.slice sa k c) k (ke (T.take k))/\Below B Y wr/\B<=wr.heap.size) (fun _ _ i _=>d.length-(intOf i).toNat)
 case atStart=>exact⟨0,none,0,by omega,rfl,rfl,⟨by simp[ke],.inl ⟨rfl,rfl⟩⟩,Below.refl _ _,Nat.le_of_eq HB.out⟩
 case round=>
  obtain⟨k,sa,c,hk,rfl,rfl,m,g,I⟩:=hrel;obtain⟨y,hy⟩:=xb HB.out g
  by_cases H:k < d.length
  ·obtain⟨v0,v1,v2,v3,v4,v5,e0,e1,e2,e3,e4,e5,M⟩:=(HK.out.ovr y).el k R (S+6) H rfl
   rw[<-hy] at e0 e1 e2 e3 e4 e5 M;obtain⟨bl,a,bn,bf,u,Z,X,ce,ck,hu,ap⟩:=a0.out k H;rw[X] at M;obtain⟨cm,r,E,s,bq,br⟩:=yo M (by omega);simp only[List.length_cons,List.length_nil,Nat.zero_add] at E
   injection E with E
   simp only[Array.mk.injEq,List.cons.injEq,and_true] at E;obtain⟨rfl,rfl,rfl,rfl,rfl,rfl⟩:=E;obtain⟨ub,uo,rfl⟩:=s.nn (by simp);obtain⟨c0,c1,c2,c3,c4,c5,d0,d1,d2,d3,d4,d5,N⟩:=s.el 0 ub uo (by simp) rfl;have bc:=s.c1;have an:=s.c2;unfold maxLen at an;simp only[List.length_cons,List.length_nil,Nat.zero_add] at bc;rw[List.getD_cons_zero] at N;simp only[Nat.zero_mul,Nat.add_zero] at d0 d1 d2 d3 d4 d5;obtain⟨cn,ul,cp,un,uf,bx,co,bi,rfl,rfl,rfl,rfl,rfl,rfl⟩:=N.shape;have f0:=fun o=>yi d0 o;have f1:=fun o=>yi d1 o;have f2:=fun o=>yi d2 o;have f3:=fun o=>yi d3 o;have f4:=fun o=>yi d4 o;have f5:=fun o=>yi d5 o;have HY:=lh hy;clear hy;have hx:ke (T.take (k+1))=ke (T.take k)++[.string ⟨(a++32::61::32::Z).toArray⟩]:=by
    rw[show a++32::61::32::Z=a++[32,61,32]++Z by simp];rw[lts (by rw[F.out];exact H)];unfold ke;rw[List.map_append,<-ap,lgd,lge (by rw[F.out];exact H)]
    rfl
   have HX:=lh hx;clear hx ap;have HU:=lh hu;clear hu;have az:=lh N;clear N;have b7:=lh X;clear X;clear s M d0 d1 d2 d3 d4 d5 b0 b1 b2 b3 b4 b5;go_wp2;have C2:∀ x,(ovr ((wr.alloc (.cells #[.int .i64 18,.int .u8 bl.toNat,.string ⟨a.toArray⟩,.int .u64 bn,.bool bf,.slice (some ⟨ub,uo,none⟩) 1 r] 28)).drew) x).cell? ⟨wr.heap.size,2,none⟩=some (.string ⟨a.toArray⟩):=fun x=>by
    rw[xj,yd];exact zn _ _ _ _ _ rfl _
   have U:∀ x o,((ovr ((wr.alloc (.cells #[.int .i64 18,.int .u8 bl.toNat,.string ⟨a.toArray⟩,.int .u64 bn,.bool bf,.slice (some ⟨ub,uo,none⟩) 1 r] 28)).drew) x).alloc o).ownsRow B 9 1 (.slice sa k c) k (ke (T.take k)):=fun x o=>by
    rw[xj,yb,yb,yd,yd,yd];exact yab m _
   have V:∀ x o,B<=((ovr ((wr.alloc (.cells #[.int .i64 18,.int .u8 bl.toNat,.string ⟨a.toArray⟩,.int .u64 bn,.bool bf,.slice (some ⟨ub,uo,none⟩) 1 r] 28)).drew) x).alloc o).heap.size:=fun x o=>by
    rw[xj,yb,yb,yd,yd,yd];exact(ku g I _).2
   have aa:∀ x o,Below B Y ((ovr ((wr.alloc (.cells #[.int .i64 18,.int .u8 bl.toNat,.string ⟨a.toArray⟩,.int .u64 bn,.bool bf,.slice (some ⟨ub,uo,none⟩) 1 r] 28)).drew) x).alloc o):=fun x o=>by
    rw[xj,yb,yb,yd,yd,yd];exact(ku g I _).1
   have q3:¬ 9223372036854775807 < a.length+3:=by omega
   have q4:¬ 9223372036854775807 < a.length+3+Z.length:=by omega
   have q5:¬ 9223372036854775807 < a.length+(Z.length+1+1+1):=by omega
   go_region_law (first
    | (go_simp
       go_wp2_with fail
       refine(HU.out _ _ (by rw[xj,yb,yd];exact az.out.ovr _)).mono ?_;rintro e w1 ⟨rfl,x,rfl⟩
       go_wp2)
    | (refine vg rfl (.tmp 40) (.tmp 51) 66 rfl B 9 i0 (.string ⟨#[]⟩) 1 16 Tryz.underlying66 hi be bg bh rfl (by decide) _ _ _ rfl (U _ _) _ 1 1 [.string ⟨(a++32::61::32::Z).toArray⟩] rfl rfl (by exact cell_one_new _ _ _) (by simp[Value.oneCell']) (by unfold maxLen;omega) (by omega) (V _ _) ?_
       intro v' w2 C A))
   all_goals
    obtain⟨W,am⟩:=yhw (aa _ _) (V _ _) (U _ _) A;have D:w2.ownsRow B 9 1 v' (k+1) (ke (T.take (k+1))):=by rw[HX.out];exact C
    obtain⟨a',c',rfl,-,-,-⟩:=zq D;clear C A m g I aa V U C2;go_wp2
    go_roundw
    case rel=>
     refine⟨?_,?_,?_,?_,?_,?_,?_,?_,?_,?_,?_,?_,?_,?_,?_,?_,?_,?_,?_,?_,?rl,?fr⟩
     case fr=>rfl
     case rl=>exact⟨k+1,a',c',by omega,rfl,by go_num,D,W,am⟩
    case measure=>simp[intOf];omega
  ·obtain rfl:k=d.length:=by omega
   have a7:T.take d.length=T:=by rw[List.take_of_length_le (by rw[F.out];exact Nat.le_refl _)]
   rw[a7] at m;have hS:=yd0 m F.out.symm;have HS:=lh hS;clear m g I hS HK;subst hy;have g0:=b0 y;have g1:=b1 y;have g2:=b2 y;have g3:=b3 y;have g4:=b4 y;have g5:=b5 y;clear b0 b1 b2 b3 b4 b5
   go_wp2_with fail
   refine(hq _ _ (ad.out.ovr y)).mono ?_;rintro e w1 ⟨rfl,z,rfl⟩;have G:=HS.out.ovr z;rw[yd] at G |-;generalize Xt.mk _ _=x1 at G |-
   go_wp2_with fail
   refine(zj (sep:=[44,32]) G (by omega) (by simp)).mono ?_;rintro e w3 ⟨rfl,rfl⟩;clear G;go_wp2;go_ret;refine⟨?_,_,by rw[HW.out,yd]⟩;simp
theorem yus (w:World)(C:Array Value)(t:TypeId)(x:Xt):(ovr (w.alloc (.cells C t)) x).heap[w.heap.size]? = some (.cells C t (0,0)):=by
 have a:(w.alloc (.cells C t)).heap[w.heap.size]? = some (.cells C t (0,0)):=by unfold World.alloc;simp
 unfold ovr;dsimp only;rw[Array.getElem?_append_left (by unfold World.alloc;simp)];exact a
theorem ymv (w:World)(C a:Array Value)(t:TypeId)(x:Xt):(ovr (w.alloc (.cells C t)) x).setRow w.heap.size a=ovr (w.alloc (.cells a t)) x:=by
 unfold ovr World.alloc World.setRow
 congr 1
 apply Array.ext_getElem?
 intro k;rw[Array.getElem?_modify];dsimp only
 split
 ·rename_i b
  subst b;rw[Array.getElem?_append_left (by simp),Array.getElem?_append_left (by simp)];simp
 ·rename_i b
  rcases Nat.lt_or_ge k (w.heap.size+1) with h|h
  ·rw[Array.getElem?_append_left (by simpa using h),Array.getElem?_append_left (by simpa using h),Array.getElem?_push,Array.getElem?_push,if_neg (by omega),if_neg (by omega)]
  ·rw[Array.getElem?_append_right (by simpa using h),Array.getElem?_append_right (by simpa using h)]
   simp
theorem ypl {c d:World}{B:Nat}{e:TypeId}{v:Value}{n:Nat}{xs:List Value}{x:Xt}(j:c.heap.size=B)(k:d.heap.size=B)(h:(ovr c x).ownsRow B e 1 v n xs):(ovr d x).ownsRow B e 1 v n xs:=by
 obtain⟨a1,a2⟩:=h;refine⟨a1,a2.imp id ?_⟩;rintro ⟨g,cap,b,f,i,a,r⟩;refine⟨g,cap,b,f,i,?_,r⟩;unfold ovr at a |-;dsimp only at a |-;rw[Array.getElem?_append_right (by omega)] at a |-;rw[j] at a;rw[k];exact a
theorem ynq {b:Nat}{l:UInt8}{nm:List UInt8}{n:Nat}{f:Bool}{l6:UInt8}{nm6:List UInt8}{n6:Nat}{f6:Bool}{q:ya}{g m:List ya}{xq:List UInt8}{K T:List (List UInt8)}(cu:b<=20)(cx:g≠[])(bo:K.length=g.length)(c8:g.length<=1000)
  (bz:∀ i,i < g.length->ymm b (g.getD i .zero) (K.getD i [])) (cy:m≠[]) (hT:T.length=m.length) (et:m.length<=1000)
  (ht:∀ i,i < m.length->yo5 b (m.getD i .zero) (T.getD i [])) (hx:xq.length<=100000000) (hl:(zl [44,32] (K++T)).length<=100000000) (hq:yam b false q xq):yjr b (.mk 17 l nm n f (.mk 6 l6 nm6 n6 f6 (q::g)::m)) (xq++[60]++zl [44,32] (K++T)++[62]):=by
 intro w tv h;obtain⟨i0,hi,db,dc,dd⟩:=info_parts Tryz.infoStr;obtain⟨ao,cap,rfl,hK,hn,dn⟩:=yo h (by omega);obtain⟨I,J,rfl⟩:=hK.nn (by simp);have br:=hK.c1;have cz:=hK.c2;unfold maxLen at cz;have eq:0 < m.length:=List.length_pos_iff.mpr cy;have eo:0 < g.length:=List.length_pos_iff.mpr cx;obtain⟨v0,v1,v2,v3,v4,v5,e0,e1,e2,e3,e4,e5,tr⟩:=hK.el 0 I J (by simp) rfl;have ah:(ya.mk 6 l6 nm6 n6 f6 (q::g)::m).length=m.length+1:=by simp
 rw[ah] at br |-;have dl:¬ cap=1:=by omega
 rw[List.getD_cons_zero] at tr;obtain⟨ew,p,Y,hQ,er,dm⟩:=yo tr (by omega)
 injection Y with Y
 simp only[Array.mk.injEq,List.cons.injEq,and_true] at Y;obtain⟨rfl,rfl,rfl,rfl,rfl,rfl⟩:=Y;obtain⟨qb,qo,rfl⟩:=hQ.nn (by simp);have bu:=hQ.c1;have bv:=hQ.c2;unfold maxLen at bv;have Q:(q::g).length=g.length+1:=by simp
 rw[Q] at bu e5;have c7:¬ p=1:=by omega
 obtain⟨r0,r1,r2,r3,r4,r5,d0,d1,d2,d3,d4,d5,ae⟩:=hQ.el 0 qb qo (by simp) rfl;rw[List.getD_cons_zero] at ae;obtain⟨ab,ql,ad,qn,qf,G,ac,A,rfl,rfl,rfl,rfl,rfl,rfl⟩:=ae.shape;simp only[Nat.zero_mul,Nat.add_zero] at br e0 e1 e2 e3 e4 e5 d0 d1 d2 d3 d4 d5 |-;have k0:=fun o=>yi e0 o;have k1:=fun o=>yi e1 o;have k2:=fun o=>yi e2 o;have k3:=fun o=>yi e3 o;have k4:=fun o=>yi e4 o;have k5:=fun o=>yi e5 o;have q1:(((m.length+1:Nat):Int) == 1)=false:=by simp;omega
 have q2:((m.length:Int)+1 == 1)=false:=by simp;omega
 have bc:=lh ae;have ba:=lh (xz hK);have cm:=lh (xz hQ);have U:=lh hT;have co:=lh ht;have ag:=lh bo;have a9:=lh bz;have D0:=lh d0;have D1:=lh d1;have D2:=lh d2;have D3:=lh d3;have D4:=lh d4;have D5:=lh d5;clear h hK e0 e1 e2 e3 e4 e5 tr hT ht ah hQ ae bo bz Q d0 d1 d2 d3 d4 d5
 go_enter Tryz.func105,Tryz.ntmps105
 go_wp2_with fail
 refine(yiv (T:=K) ?hK ag.out c8 a9.out cu).mono ?_
 case hK=>rw[yb,yb,yd];exact cm.out.ovr _
 rintro e w1 ⟨vs,x,rfl,rfl,hS,d⟩;obtain⟨av,aw,rfl,-,-,-⟩:=zq d;clear hS;have D:(w.alloc (.cells #[.int .i64 17,.int .u8 l.toNat,.string ⟨nm.toArray⟩,.int .u64 n,.bool f,.slice (some ⟨I,J,none⟩) (m.length+1) cap] 28)).heap.size=w.heap.size+1:=by simp
 have L:((w.alloc (.cells #[.int .i64 17,.int .u8 l.toNat,.string ⟨nm.toArray⟩,.int .u64 n,.bool f,.slice (some ⟨I,J,none⟩) (m.length+1) cap] 28)).alloc (.cells #[.int .i64 6,.int .u8 l6.toNat,.string ⟨nm6.toArray⟩,.int .u64 n6,.bool f6,.slice (some ⟨qb,qo,none⟩) (g.length+1) p] 28)).heap.size=w.heap.size+2:=by simp
 have s:∀ (a:Addr) (v:Value),w.cell? a=some v->(ovr ((w.alloc (.cells #[.int .i64 17,.int .u8 l.toNat,.string ⟨nm.toArray⟩,.int .u64 n,.bool f,.slice (some ⟨I,J,none⟩) (m.length+1) cap] 28)).alloc (.cells #[.int .i64 6,.int .u8 l6.toNat,.string ⟨nm6.toArray⟩,.int .u64 n6,.bool f6,.slice (some ⟨qb,qo,none⟩) (g.length+1) p] 28)) x).cell? a=some v:=fun a v h=>yf (yi (yi h _) _) _;have m0:=s _ _ D0.out;have m1:=s _ _ D1.out;have m2:=s _ _ D2.out;have m3:=s _ _ D3.out;have m4:=s _ _ D4.out;have m5:=s _ _ D5.out;have nb:∀ (j:Nat) (u:Value),(#[.int .i64 6,.int .u8 l6.toNat,.string ⟨nm6.toArray⟩,.int .u64 n6,.bool f6,.slice (some ⟨qb,qo,none⟩) (g.length+1) p]:Array Value)[j]? = some u->(ovr ((w.alloc (.cells #[.int .i64 17,.int .u8 l.toNat,.string ⟨nm.toArray⟩,.int .u64 n,.bool f,.slice (some ⟨I,J,none⟩) (m.length+1) cap] 28)).alloc (.cells #[.int .i64 6,.int .u8 l6.toNat,.string ⟨nm6.toArray⟩,.int .u64 n6,.bool f6,.slice (some ⟨qb,qo,none⟩) (g.length+1) p] 28)) x).cell? ⟨w.heap.size+1,j,none⟩=some u:=fun j u hj=>by
  have:=zn _ 28 _ _ hj x (w:=w.alloc (.cells #[.int .i64 17,.int .u8 l.toNat,.string ⟨nm.toArray⟩,.int .u64 n,.bool f,.slice (some ⟨I,J,none⟩) (m.length+1) cap] 28))
  rwa[D] at this
 have R:(ovr ((w.alloc (.cells #[.int .i64 17,.int .u8 l.toNat,.string ⟨nm.toArray⟩,.int .u64 n,.bool f,.slice (some ⟨I,J,none⟩) (m.length+1) cap] 28)).alloc (.cells #[.int .i64 6,.int .u8 l6.toNat,.string ⟨nm6.toArray⟩,.int .u64 n6,.bool f6,.slice (some ⟨qb,qo,none⟩) (g.length+1) p] 28)) x).heap[w.heap.size+1]? = some (.cells #[.int .i64 6,.int .u8 l6.toNat,.string ⟨nm6.toArray⟩,.int .u64 n6,.bool f6,.slice (some ⟨qb,qo,none⟩) (g.length+1) p] 28 (0,0)):=by
  rw[<-D];exact yus _ _ _ _
 have n0:=nb 0 _ rfl;have n1:=nb 1 _ rfl;have n2:=nb 2 _ rfl;have n3:=nb 3 _ rfl;have n4:=nb 4 _ rfl;have n5:=nb 5 _ rfl;clear s nb;generalize hV:ovr ((w.alloc (.cells #[.int .i64 17,.int .u8 l.toNat,.string ⟨nm.toArray⟩,.int .u64 n,.bool f,.slice (some ⟨I,J,none⟩) (m.length+1) cap] 28)).alloc (.cells #[.int .i64 6,.int .u8 l6.toNat,.string ⟨nm6.toArray⟩,.int .u64 n6,.bool f6,.slice (some ⟨qb,qo,none⟩) (g.length+1) p] 28)) x=V at m0 m1 m2 m3 m4 m5 n0 n1 n2 n3 n4 n5 d R |-;have HO:=lh d;clear d;obtain⟨E,F⟩:∃ E,E=(w.alloc (.cells #[.int .i64 17,.int .u8 l.toNat,.string ⟨nm.toArray⟩,.int .u64 n,.bool f,.slice (some ⟨I,J,none⟩) (m.length+1) cap] 28)).alloc (.cells #[.int .i64 ab,.int .u8 ql.toNat,.string ⟨ad.toArray⟩,.int .u64 qn,.bool qf,.slice G ac A] 28):=⟨_,rfl⟩;have bp:V.setRow (w.heap.size+1) #[.int .i64 ab,.int .u8 ql.toNat,.string ⟨ad.toArray⟩,.int .u64 qn,.bool qf,.slice G ac A]=ovr E x:=by
  rw[<-hV,F,<-D];exact ymv _ _ _ _ _
 have M:E.heap.size=w.heap.size+2:=by rw[F];simp
 have t:(ovr E x).ownsRow (w.heap.size+2) 9 1 (.slice av g.length aw) g.length (ke K):=by
  have:=HO.out;rw[<-hV,L] at this;exact ypl L M this
 obtain⟨xw,bq⟩:∃ xw,E=ovr w xw:=⟨_,by rw[F,yb,yb,yd]⟩;have bb:∀ (j:Nat) (u:Value),(#[.int .i64 ab,.int .u8 ql.toNat,.string ⟨ad.toArray⟩,.int .u64 qn,.bool qf,.slice G ac A]:Array Value)[j]? = some u->∀ x,(ovr E x).cell? ⟨w.heap.size+1,j,none⟩=some u:=fun j u hj x=>by
  have:=zn _ 28 _ _ hj x (w:=w.alloc (.cells #[.int .i64 17,.int .u8 l.toNat,.string ⟨nm.toArray⟩,.int .u64 n,.bool f,.slice (some ⟨I,J,none⟩) (m.length+1) cap] 28));rw[F]
  rwa[D] at this
 have bx:(ovr E x).cell? ⟨w.heap.size,5,none⟩=some (.slice (some ⟨I,J,none⟩) (m.length+1) cap):=by
  rw[F,yb,yd];exact zn _ _ _ _ _ rfl _
 have a5:=lh t;have HW:=lh bq;have ck:=lh M;clear bq t M hV HO k0 k1 k2 k3 k4 k5 L D;have eh:=lh F;clear F;have bt:(Tryz.prog.info? 28).map (·.size)=some 6:=by kernel_rfl
 go_wp2_with(with_reducible refine wpList_store_row ?a1 28 (.tmp 5) (.tmp 31) ?a2 (w.heap.size+1) #[.int .i64 ab,.int .u8 ql.toNat,.string ⟨ad.toArray⟩,.int .u64 qn,.bool qf,.slice G ac A] ?a3 ?a4 28 _ R ?a6 ?a7 ?a8 ?_;(case a2=>rfl);(case a1=>rfl);(case a3=>simp[Act.eval]);(case a4=>simp[Act.eval]);(case a6=>rw[bt];simp);(case a7=>simp);(case a8=>simp[Value.oneCell']);rw[bp];clear bp R m0 m1 m2 m3 m4 m5 n0 n1 n2 n3 n4 n5)
 have b0:=bb 0 _ rfl;have b1:=bb 1 _ rfl;have b2:=bb 2 _ rfl;have b3:=bb 3 _ rfl;have b4:=bb 4 _ rfl;have b5:=bb 5 _ rfl;obtain⟨B,bk⟩:∃ B,B=E.heap.size:=⟨_,rfl⟩;have HB:Hid (B=E.heap.size):=bk;have HK:Hid (qz E (some ⟨I,J+6,none⟩) (cap-1) m):=lh (by rw[HW.out];exact ba.out.ovr _);have bd:Hid (yg E q _):=lh (by rw[HW.out];exact bc.out.ovr _);clear bk ba bc bb bx;have bm:(ovr E x).ownsRow B 9 1 (.slice av g.length aw) g.length (ke K):=by have:=a5.out;rwa[<-ck.out,<-HB.out] at this
 have cl:=lh bm;clear bm a5
 go_loopw [6,8,36] (fun v v9 i wr=>∃ (k:Nat) (sa:Option Addr) (c:Nat),k<=m.length/\v=.slice sa (g.length+k) c/\i=.int .i64 k/\wr.ownsRow B 9 1 (.slice sa (g.length+k) c) (g.length+k) (ke (K++T.take k))/\Below B E wr/\B<=wr.heap.size) (fun _ _ i _=>m.length-(intOf i).toNat)
 case atStart=>exact⟨0,av,aw,by omega,rfl,rfl,by simpa using cl.out,by rw[HB.out];exact qp _ _,by rw[HB.out];exact(qp _ _).size⟩
 case round=>
  obtain⟨k,sa,c,hk,rfl,rfl,d,C,Z⟩:=hrel;obtain⟨y,hy⟩:=xb HB.out C
  by_cases X:k < m.length
  ·obtain⟨v0,v1,v2,v3,v4,v5,e0,e1,e2,e3,e4,e5,tr⟩:=(HK.out.ovr y).el k I (J+6) X rfl
   rw[<-hy] at e0 e1 e2 e3 e4 e5 tr;obtain⟨bl,r,bn,bf,u,yt,au,ep,eu,hu,b7⟩:=co.out k X;rw[au] at tr;obtain⟨ex,H,S,N,dj,dk⟩:=yo tr (by omega);simp only[List.length_cons,List.length_nil,Nat.zero_add] at S
   injection S with S
   simp only[Array.mk.injEq,List.cons.injEq,and_true] at S;obtain⟨rfl,rfl,rfl,rfl,rfl,rfl⟩:=S;obtain⟨ub,uo,rfl⟩:=N.nn (by simp);obtain⟨c0,c1,c2,c3,c4,c5,d0,d1,d2,d3,d4,d5,af⟩:=N.el 0 ub uo (by simp) rfl;have c9:=N.c1;have b6:=N.c2;unfold maxLen at b6;simp only[List.length_cons,List.length_nil,Nat.zero_add] at c9;rw[List.getD_cons_zero] at af;simp only[Nat.zero_mul,Nat.add_zero] at d0 d1 d2 d3 d4 d5;obtain⟨ey,ul,e6,un,uf,d6,ez,de,rfl,rfl,rfl,rfl,rfl,rfl⟩:=af.shape;have f0:=fun o=>yi d0 o;have f1:=fun o=>yi d1 o;have f2:=fun o=>yi d2 o;have f3:=fun o=>yi d3 o;have f4:=fun o=>yi d4 o;have f5:=fun o=>yi d5 o;have HY:=lh hy;clear hy;have hx:ke (K++T.take (k+1))=ke (K++T.take k)++[.string ⟨(r++32::61::32::yt).toArray⟩]:=by
    rw[show r++32::61::32::yt=r++[32,61,32]++yt by simp];rw[lts (by rw[U.out];exact X)];unfold ke;rw[<-List.append_assoc,List.map_append,<-b7,lgd,lge (by rw[U.out];exact X)]
    rfl
   have HX:=lh hx;clear hx b7;have HU:=lh hu;clear hu;have cn:=lh af;clear af;have eg:=lh au;clear au;clear N tr d0 d1 d2 d3 d4 d5 b0 b1 b2 b3 b4 b5;go_wp2;have C2:∀ x,(ovr ((wr.alloc (.cells #[.int .i64 18,.int .u8 bl.toNat,.string ⟨r.toArray⟩,.int .u64 bn,.bool bf,.slice (some ⟨ub,uo,none⟩) 1 H] 28)).drew) x).cell? ⟨wr.heap.size,2,none⟩=some (.string ⟨r.toArray⟩):=fun x=>by
    rw[xj,yd];exact zn _ _ _ _ _ rfl _
   have al:∀ x o,((ovr ((wr.alloc (.cells #[.int .i64 18,.int .u8 bl.toNat,.string ⟨r.toArray⟩,.int .u64 bn,.bool bf,.slice (some ⟨ub,uo,none⟩) 1 H] 28)).drew) x).alloc o).ownsRow B 9 1 (.slice sa (g.length+k) c) (g.length+k) (ke (K++T.take k)):=fun x o=>by
    rw[xj,yb,yb,yd,yd,yd];exact yab d _
   have am:∀ x o,B<=((ovr ((wr.alloc (.cells #[.int .i64 18,.int .u8 bl.toNat,.string ⟨r.toArray⟩,.int .u64 bn,.bool bf,.slice (some ⟨ub,uo,none⟩) 1 H] 28)).drew) x).alloc o).heap.size:=fun x o=>by
    rw[xj,yb,yb,yd,yd,yd];exact(ku C Z _).2
   have a0:∀ x o,Below B E ((ovr ((wr.alloc (.cells #[.int .i64 18,.int .u8 bl.toNat,.string ⟨r.toArray⟩,.int .u64 bn,.bool bf,.slice (some ⟨ub,uo,none⟩) 1 H] 28)).drew) x).alloc o):=fun x o=>by
    rw[xj,yb,yb,yd,yd,yd];exact(ku C Z _).1
   have q3:¬ 9223372036854775807 < r.length+3:=by omega
   have q4:¬ 9223372036854775807 < r.length+3+yt.length:=by omega
   have q5:¬ 9223372036854775807 < r.length+(yt.length+1+1+1):=by omega
   go_region_law (first
    | (go_simp
       go_wp2_with fail
       refine(HU.out _ _ (by rw[xj,yb,yd];exact cn.out.ovr _)).mono ?_;rintro e w1 ⟨rfl,x,rfl⟩
       go_wp2)
    | (refine vg rfl (.tmp 40) (.tmp 51) 66 rfl B 9 i0 (.string ⟨#[]⟩) 1 16 Tryz.underlying66 hi db dc dd rfl (by decide) _ _ _ rfl (al _ _) _ 1 1 [.string ⟨(r++32::61::32::yt).toArray⟩] rfl rfl (by exact cell_one_new _ _ _) (by simp[Value.oneCell']) (by unfold maxLen;omega) (by omega) (am _ _) ?_
       intro v' w2 t O))
   all_goals
    obtain⟨ar,bw⟩:=yhw (a0 _ _) (am _ _) (al _ _) O;have P:w2.ownsRow B 9 1 v' (g.length+k+1) (ke (K++T.take (k+1))):=by rw[HX.out];exact t
    obtain⟨a',c',rfl,-,-,-⟩:=zq P;clear t O d C Z a0 am al C2;go_wp2
    go_roundw
    case rel=>
     exact⟨k+1,a',c',by omega,rfl,by go_num,P,ar,bw⟩
    case measure=>simp[intOf];omega
  ·obtain rfl:k=m.length:=by omega
   have cv:T.take m.length=T:=by rw[List.take_of_length_le (by rw[U.out];exact Nat.le_refl _)]
   rw[cv] at d;have hS:=yd0 d (by rw[List.length_append,ag.out,U.out]);have HS:=lh hS;clear d C Z hS HK;subst hy;have g0:=b0 y;have g1:=b1 y;have g2:=b2 y;have g3:=b3 y;have g4:=b4 y;have g5:=b5 y;clear b0 b1 b2 b3 b4 b5
   go_wp2_with fail
   refine(hq _ _ (bd.out.ovr y)).mono ?_;rintro e w1 ⟨rfl,z,rfl⟩;have W:=HS.out.ovr z;rw[yd] at W |-;generalize Xt.mk _ _=x1 at W |-
   go_wp2_with fail
   refine(zj (sep:=[44,32]) W (by omega) (by simp)).mono ?_;rintro e w3 ⟨rfl,rfl⟩;clear W;go_wp2;go_ret;refine⟨?_,_,by rw[HW.out,yd]⟩;simp
end Go.Proofs.YtfckcdbpiepchaaGreatDoor
