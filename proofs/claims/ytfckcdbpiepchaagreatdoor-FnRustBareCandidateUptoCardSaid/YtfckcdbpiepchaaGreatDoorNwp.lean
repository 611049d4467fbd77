/- The walk of the law FnRustBareCandidate. -/
import Derived.Test.YtfckcdbpiepchaaGreatDoorNs38
import Derived.Test.YtfckcdbpiepchaaGreatDoorXtp
import Derived.Test.YtfckcdbpiepchaaGreatDoorNvp
namespace Go.Proofs.YtfckcdbpiepchaaGreatDoor
set_option linter.all false
open Go.RowKit
set_option maxHeartbeats 2000000 in
set_option maxRecDepth 100000 in
theorem barelaw_any {t:ya}{v h:Value}{how:List Int}{w:World}(htr:yg w t v)(hs:Sml t)(hG:Gl w)(hH:jk w h how) :
  Calls Tryz.prog 6 #[v,h] w fun e w'=>e=.returned (.bool true)/\Below w.heap.size w w':=by
 have hz:=fun o=>yzl (htr.alc o);have hf:=fun o=>yvq (htr.alc o) hs (hG.alloc o) (hH.al o);have ha:=fun o=>bnds_st (htr.alc o);have hn:=fun hF o=>yrg (htr.alc o) hF (hG.alloc o) (hH.al o);have hb:=fun(hF:Fit t how) o z=>bare_walk t.wt (Nat.le_refl _) hF.wt hF.ne ((htr.alc o).ovr z);have hd:=fun(x:List UInt8) (hT:yn1 t how true x) o=>yup hT false false false false false false (p:=0) (by omega) (hG.alloc o);obtain⟨kv,l,nm,n,f,ao,ln,cap,rfl⟩:=yek htr;obtain⟨hoa,hoc,rfl,hc1,hc2,-⟩:=hH;unfold maxLen at hc2;have b0:=fun x=>zn w #[.int .i64 kv,.int .u8 l.toNat,.string ⟨nm.toArray⟩,.int .u64 n,.bool f,.slice ao ln cap] 28 0 _ rfl x;have b1:=fun x=>zn w #[.int .i64 kv,.int .u8 l.toNat,.string ⟨nm.toArray⟩,.int .u64 n,.bool f,.slice ao ln cap] 28 1 _ rfl x;have b2:=fun x=>zn w #[.int .i64 kv,.int .u8 l.toNat,.string ⟨nm.toArray⟩,.int .u64 n,.bool f,.slice ao ln cap] 28 2 _ rfl x;have b3:=fun x=>zn w #[.int .i64 kv,.int .u8 l.toNat,.string ⟨nm.toArray⟩,.int .u64 n,.bool f,.slice ao ln cap] 28 3 _ rfl x;have b4:=fun x=>zn w #[.int .i64 kv,.int .u8 l.toNat,.string ⟨nm.toArray⟩,.int .u64 n,.bool f,.slice ao ln cap] 28 4 _ rfl x;have b5:=fun x=>zn w #[.int .i64 kv,.int .u8 l.toNat,.string ⟨nm.toArray⟩,.int .u64 n,.bool f,.slice ao ln cap] 28 5 _ rfl x;have HZ:=lh hz;have HF:=lh hf;have HA:=lh ha;have HN:=lh hn;have HB:=lh hb;have HD:=lh hd;clear hz hf ha hn hb hd htr hs hG;unfold ydj at HD
 by_cases hzb:zzB t=true
 ·rw[hzb] at HZ
  by_cases hlen:how.length<=2147483647
  ·have q1:decide ((2147483647:Int) < (how.length:Int))=false:=decide_eq_false (by omega)
   by_cases hfb:yng t how=true
   ·have hF:=yyt hfb
    rw[hfb] at HF
    by_cases hab:t.bnds=false
    ·rw[hab] at HA
     obtain⟨x,hx,hne,hT⟩:=ys5 hF true;obtain⟨hx1,hx2⟩:=bare_text hF hab hx;have HN1:=lh (HN.out hF);have HT1:=lh hx1;have HB1:=lh (HB.out hF);have HD1:=lh (HD.out x hT);rw[ytf] at HD1;clear HN HB HD hab hF hx hT hx1 hfb hzb;generalize (wGo false how 24 t .zero).out=out at HN1 HD1
     go_enter Tryz.func6,Tryz.ntmps6
     go_wp2_with fail
     refine(HZ.out _).at.mono ?_;rintro e w1 ⟨rfl,z,rfl⟩
     go_wp2_with fail
     refine(HF.out _ z).mono ?_;rintro e w1 ⟨rfl,z1,rfl⟩
     go_wp2_with fail
     refine(HA.out _ z1).mono ?_;rintro e w1 ⟨rfl,z1,rfl⟩
     go_wp2_with fail
     refine(HN1.out _ z1).mono ?_;rintro e w1 ⟨rfl,z2,rfl⟩
     go_wp2_with fail
     refine(HD1.out _ z2).mono ?_;rintro e w1 ⟨rfl,z3,rfl⟩
     go_wp2_with fail
     refine(HB1.out _ z3).mono ?_;rintro e w1 ⟨v',z4,rfl,rfl,hI⟩;rw[yd] at hI |-;generalize Xt.mk _ _=z5 at hI |-;have hR:=ypd hI.at HT1.out;obtain⟨kv3,l3,nm3,n3,f3,ao3,ln3,cap3,rfl⟩:=yek hI.at;have HR:=lh hR;clear hI hR
     go_wp2_with fail
     refine HR.out.mono ?_;rintro e w1 ⟨rfl,hb5⟩;have HB5:=lh hb5;clear hb5;go_wp2;go_ret;exact⟨by simp,(ybx _ z5).trans (vm HB5.out (ybx _ z5).size)⟩
    ·have hab':t.bnds=true:=by simpa using hab
     rw[hab'] at HA;clear HN HB HD
     go_enter Tryz.func6,Tryz.ntmps6
     go_wp2_with fail
     refine(HZ.out _).at.mono ?_;rintro e w1 ⟨rfl,z,rfl⟩
     go_wp2_with fail
     refine(HF.out _ z).mono ?_;rintro e w1 ⟨rfl,z1,rfl⟩
     go_wp2_with fail
     refine(HA.out _ z1).mono ?_;rintro e w1 ⟨rfl,z1,rfl⟩;go_wp2;go_ret;exact⟨rfl,ybx _ z1⟩
   ·have hfb':yng t how=false:=by simpa using hfb
    rw[hfb'] at HF
    go_enter Tryz.func6,Tryz.ntmps6
    go_wp2_with fail
    refine(HZ.out _).at.mono ?_;rintro e w1 ⟨rfl,z,rfl⟩
    go_wp2_with fail
    refine(HF.out _ z).mono ?_;rintro e w1 ⟨rfl,z1,rfl⟩;go_wp2;go_ret;exact⟨rfl,ybx _ z1⟩
  ·have q1:decide ((2147483647:Int) < (how.length:Int))=true:=decide_eq_true (by omega)
   go_enter Tryz.func6,Tryz.ntmps6
   go_wp2_with fail
   refine(HZ.out _).at.mono ?_;rintro e w1 ⟨rfl,z,rfl⟩;go_wp2;go_ret;exact⟨rfl,ybx _ z⟩
 ·have hzb':zzB t=false:=by simpa using hzb
  rw[hzb'] at HZ
  go_enter Tryz.func6,Tryz.ntmps6
  go_wp2_with fail
  refine(HZ.out _).at.mono ?_;rintro e w1 ⟨rfl,z,rfl⟩;go_wp2;go_ret;exact⟨rfl,ybx _ z⟩
end Go.Proofs.YtfckcdbpiepchaaGreatDoor
