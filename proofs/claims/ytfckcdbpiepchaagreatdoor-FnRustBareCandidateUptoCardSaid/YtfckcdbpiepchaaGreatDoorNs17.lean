import Derived.Test.YtfckcdbpiepchaaGreatDoorNs14
import Derived.Test.YtfckcdbpiepchaaGreatDoorNs16
import Derived.Lib.OthersKept
import Derived.Lib.ValidLaws
namespace Go.Proofs.YtfckcdbpiepchaaGreatDoor
open Go.RowKit
set_option maxRecDepth 100000
set_option maxHeartbeats 8000000
set_option linter.all false
theorem jy (k:Int)(w:World):Calls Tryz.prog 52 #[.int .i64 k] w fun e w'=>e=.returned (.bool (decide (1<=k/\k<=6)))/\w'=w:=by
 go_enter Tryz.func52,Tryz.ntmps52
 by_cases a:1<=k<;>by_cases b:k<=6<;>(go_wp2;go_ret;exact⟨by simp[a,b],rfl⟩)
theorem ydo (c:UInt8)(w:World):Calls Tryz.prog 108 #[.int .u8 c.toNat] w fun e w'=>e=.returned (.bool (yr c))/\w'=w:=by
 have hd:yr c=(decide (48<=(c.toNat:Int)/\(c.toNat:Int)<=57)||decide ((c.toNat:Int)=95)||decide ((65<=(c.toNat:Int)/\(c.toNat:Int)<=90)\/(97<=(c.toNat:Int)/\(c.toNat:Int)<=122))):=rfl
 rw[hd];clear hd;have a:(0:Int)<=c.toNat:=by omega
 have b:(c.toNat:Int)<=255:=by have:=c.toNat_lt;omega
 generalize (c.toNat:Int)=z at a b |-
 go_enter Tryz.func108,Tryz.ntmps108
 go_wp2
 all_goals (go_ret;refine⟨?_,rfl⟩;show Ending.returned (Value.bool _)=Ending.returned (Value.bool _);first|rfl|(congr 2;rw[Bool.eq_iff_iff];simp<;>omega))
def gn (k:Int)(want:Nat):Bool:=
 match want with
 | 0=>decide (1<=k/\k<=6)
 | 1=>decide (1<=k/\k<=16)
 | 2=>decide ((1<=k/\k<=16)\/k=19\/k=20\/k=21)
 | 3=>decide (k=20\/k=21)
 | 4=>decide (k=17)
 | _=>decide (k=18)
theorem yke (k:Int)(want:Nat)(hw:want<=5)(w:World):Calls Tryz.prog 51 #[.int .i64 k,.int .i64 want] w fun e w'=>e=.returned (.bool (gn k want))/\w'=w:=by
 rcases(by omega:want=0\/want=1\/want=2\/want=3\/want=4\/want=5) with rfl|rfl|rfl|rfl|rfl|rfl
 ·go_enter Tryz.func51,Tryz.ntmps51
  go_wp2_with(go_at_call 52;refine(jy _ _).mono ?_;rintro e w' ⟨rfl,rfl⟩)
  all_goals (go_ret;refine⟨?_,rfl⟩;show Ending.returned (Value.bool _)=Ending.returned (Value.bool _);first|rfl|(congr 2;rw[Bool.eq_iff_iff];simp[gn]<;>omega))
 ·go_enter Tryz.func51,Tryz.ntmps51
  go_wp2
  all_goals (go_ret;refine⟨?_,rfl⟩;show Ending.returned (Value.bool _)=Ending.returned (Value.bool _);first|rfl|(congr 2;rw[Bool.eq_iff_iff];simp[gn]<;>omega))
 ·go_enter Tryz.func51,Tryz.ntmps51
  go_wp2
  all_goals (go_ret;refine⟨?_,rfl⟩;show Ending.returned (Value.bool _)=Ending.returned (Value.bool _);first|rfl|(congr 2;rw[Bool.eq_iff_iff];simp[gn]<;>omega))
 ·go_enter Tryz.func51,Tryz.ntmps51
  go_wp2
  all_goals (go_ret;refine⟨?_,rfl⟩;show Ending.returned (Value.bool _)=Ending.returned (Value.bool _);first|rfl|(congr 2;rw[Bool.eq_iff_iff];simp[gn]<;>omega))
 ·go_enter Tryz.func51,Tryz.ntmps51
  go_wp2
  all_goals (go_ret;refine⟨?_,rfl⟩;show Ending.returned (Value.bool _)=Ending.returned (Value.bool _);first|rfl|(congr 2;rw[Bool.eq_iff_iff];simp[gn]<;>omega))
 ·go_enter Tryz.func51,Tryz.ntmps51
  go_wp2
  all_goals (go_ret;refine⟨?_,rfl⟩;show Ending.returned (Value.bool _)=Ending.returned (Value.bool _);first|rfl|(congr 2;rw[Bool.eq_iff_iff];simp[gn]<;>omega))
theorem ygi (l:List UInt8)(w:World)(p:l.length<=maxLen) :
  Calls Tryz.prog 106 #[.string ⟨l.toArray⟩] w fun e w'=>e=.returned (.bool (jr l))/\w'=w:=by
 unfold maxLen at p
 go_enter Tryz.func106,Tryz.ntmps106
 go_wp2
 go_loop [3] (fun i=>∃ k:Nat,k<=l.length/\i=.int .i64 k/\(l.take k).all yr=true) (fun i=>l.length-(intOf i).toNat)
 case atStart=>exact⟨0,by omega,rfl,by simp⟩
 case round=>
  obtain⟨k,q,rfl,f⟩:=hrel
  by_cases d:k < l.length
  ·have j:l.take (k+1)=l.take k++[l[k]]:=by rw[lts d]
   have n:=lh j;clear j;have m:=lh f;clear f
   go_wp2_with fail
   refine(ydo _ _).mono ?_;rintro e w' ⟨rfl,rfl⟩
   cases a:yr l[k] with
   | true=>
    have b:=lh a;clear a;go_wp2
    go_round
    case rel=>exact⟨k+1,by omega,by go_num,by rw[n.out,List.all_append,m.out];simp[b.out]⟩
    case measure=>simp[intOf];omega
   | false=>
    have b:=lh a;clear a;go_wp2;go_ret;have o:l.all yr=false:=by rw[List.all_eq_false];exact⟨_,List.getElem_mem d,by simp[b.out]⟩
    exact⟨by unfold jr;rw[o];rfl,rfl⟩
  ·obtain rfl:k=l.length:=by omega
   rw[List.take_length] at f
   by_cases g:l=[]
   ·subst g
    go_wp2;go_ret
    exact⟨rfl,rfl⟩
   ·have r:¬ l.length=0:=fun h=>g (List.eq_nil_of_length_eq_zero h)
    go_wp2;go_ret
    refine⟨?_,rfl⟩;unfold jr;rw[f]
    cases l with
    | nil=>exact absurd rfl g
    | cons c l=>simp
def yb1 (w:World):Prop:=Lib.Utf8Tabs (Tryz.laysValid_ren.g 3) (Tryz.laysValid_ren.g 4) w
theorem yb1.below {w w':World}(h:yb1 w)(hb:Below w.heap.size w w'):yb1 w':=Utf8Tabs_below h hb
theorem yb1.ovr {w:World}(h:yb1 w)(x:Xt):yb1 (ovr w x):=h.below (qp w x)
theorem ylb {w:World}{B e n:Nat}{v:Value}{xs:List Value}{k:Nat}{s:ByteArray}{pos:Nat}(h:w.ownsRow B e 1 v n xs)(l:w.heap[k]? = some (.stringIter s pos))(a:Nat):(w.iterAt k s a).ownsRow B e 1 v n xs:=by
 obtain⟨i,j⟩:=h;refine⟨i,j.imp id ?_⟩;rintro ⟨g,cap,b,d,f,c,r⟩;refine⟨g,cap,b,d,f,?_,r⟩;rw[Lib.iterAt_other _ _ _ _ _ (fun e=>by subst e;rw[l] at c;cases c)];exact c
theorem yj2 {w:World}{B e n:Nat}{v:Value}{xs:List Value}{k:Nat}{s:ByteArray}{pos:Nat}(h:w.ownsRow B e 1 v n xs)(c:w.heap[k]? = some (.stringIter s pos)):some k≠v.ownBlock:=by
 rcases h.2 with⟨rfl,_⟩|⟨g,cap,b,rfl,hb,a,rest⟩
 ·simp[Value.ownBlock]
 ·intro e
  simp only[Value.ownBlock,Option.some.injEq] at e;subst e;rw[c] at a
  cases a
theorem yma (s:ByteArray):∀ (f k:Nat),∀ c∈xf s f k,0<=c
 | 0,k,c,h=>by simp[xf] at h
 | f+1,k,c,h=>by
  unfold xf at h
  split at h
  ·rcases List.mem_cons.1 h with rfl|h
   ·omega
   ·exact yma s f _ c h
  ·simp at h
def ywf (B:Nat)(x:Option (List Int))(e:Ending)(w:World):Prop:=
 match x with
 | some l=>∃ a c,e=.returned (.tuple #[.slice a l.length c,.bool true])/\w.ownsRow B 3 1 (.slice a l.length c) l.length (ints l)
 | none=>e=.returned (.tuple #[.slice none 0 0,.bool false])
theorem yct (nm:List UInt8)(hl:nm.length<=4294967296)(w:World)(hT:yb1 w) :
  Calls Tryz.prog 107 #[.string ⟨nm.toArray⟩] w fun e w'=>ywf w.heap.size (ga nm) e w'/\Below w.heap.size w w':=by
 obtain⟨i0,hi,ae,af,ag⟩:=info_parts Tryz.infoInt;have u:(⟨nm.toArray⟩:ByteArray).size=nm.length:=by simp[ByteArray.size]
 have E:Calls Tryz.prog 133 #[.string ⟨nm.toArray⟩] w _:=Any.utf8_ValidString Tryz.laysValid ⟨nm.toArray⟩ w (by rw[u];omega) hT;rw[show(⟨nm.toArray⟩:ByteArray).data.toList=nm from rfl] at E;unfold ga
 cases hv:Lib.validD nm with
 | false=>
  rw[hv] at E
  go_enter Tryz.func107,Tryz.ntmps107
  go_wp2_with fail
  refine E.mono ?_;rintro e x ⟨rfl,hb⟩;go_wp2
  go_ret2
  exact⟨rfl,hb⟩
 | true=>
  rw[hv] at E;rw[if_pos rfl];obtain⟨R,Z⟩:∃ R,R=xf ⟨nm.toArray⟩ nm.length 0:=⟨_,rfl⟩;rw[<-Z];have X:=lh Z;clear Z;have Y:=lh u;clear u;generalize hs:(⟨nm.toArray⟩:ByteArray)=s at E X Y;obtain⟨B,hB⟩:∃ B,B=w.heap.size:=⟨_,rfl⟩;have HB:Hid (B=w.heap.size):=hB;rw[<-hB] at E |-;clear hB hv
  go_enter Tryz.func107,Tryz.ntmps107
  go_wp2_with fail
  refine E.mono ?_;rintro e x ⟨rfl,hb⟩;have y:=hb.size;rw[<-HB.out] at y;go_wp2;obtain⟨f,p⟩:∃ f,f=x.heap.size+1:=⟨_,rfl⟩;have Q:(x.alloc (.cells #[] 3)).heap.size=f:=by rw[p];simp
  have J:((x.alloc (.cells #[] 3)).iter s 0).heap[f]? = some (.stringIter s 0):=by rw[<-Q];exact World.iter_heap _ _ _
  have C:((x.alloc (.cells #[] 3)).iter s 0).ownsRow B 3 1 (.slice (some ⟨x.heap.size,0,none⟩) 0 0) 0 []:=
   yj1 (sp:=[]) y (by unfold World.iter;rw[heap_alloc_old _ _ (by simp)];exact ym _ _) rfl rfl (by unfold maxLen;omega)
  have j:Below B w ((x.alloc (.cells #[] 3)).iter s 0):=(hb.alloc y _).alloc (by simp;omega) _;have m:B<=((x.alloc (.cells #[] 3)).iter s 0).heap.size:=by unfold World.iter;simp;omega
  have M:B<=f:=by omega
  rw[<-p];generalize (x.alloc (.cells #[] 3)).iter s 0=W0 at J C j m |-;generalize x.heap.size=g0 at C |-;clear Q E hb y p
  go_loopg [4,6] nm.length (fun gf v4 v6 wr=>∃ (pos:Nat) (l:List Int) (a:Option Addr) (c:Nat),v4=.slice a l.length c/\wr.ownsRow B 3 1 (.slice a l.length c) l.length (ints l)/\wr.heap[f]? = some (.stringIter s pos)/\Below B w wr/\B<=wr.heap.size/\
   Hid (R=l++xf s gf pos)/\s.size<=pos+gf/\l.length<=pos/\pos<=s.size)
  case atStart=>exact⟨0,[],_,0,rfl,C,J,j,m,X,by rw[Y.out];omega,by simp,by omega⟩
  case round=>
   clear J C j m X;obtain⟨pos,l,a,c,rfl,q,o,k,T,i,ar,av,aw⟩:=hrel;have ay:s.size<=4294967296:=by rw[Y.out];exact hl
   by_cases z:pos < s.size
   ·obtain⟨L,rfl⟩:∃ L,gk=L+1:=⟨gk-1,by omega⟩
    have A:∀ K,(Instr.next (.pointer (some ⟨f,0,none⟩)) true K).run Tryz.prog wr=_:=fun K=>Lib.run_next_any_at wr f s pos K o z;have ad:=Lib.width_pos s pos;have V:pos+(Utf8.decode s pos).2<=s.size:=by
     have h1:=Lib.decodeL_le (s.data.toList.drop pos) (fun h0=>by
      have h2:=congrArg List.length h0;rw[List.length_drop,Array.length_toList] at h2;have h9:s.data.size=s.size:=rfl;simp at h2;omega)
     rw[Lib.decodeL_drop,List.length_drop,Array.length_toList] at h1;have h9:s.data.size=s.size:=rfl;omega
    have ab:=Lib.rune_le s pos;have O:xf s (L+1) pos=((Utf8.decode s pos).1:Int)::xf s L (pos+(Utf8.decode s pos).2):=by rw[xf,if_pos z]
    rw[O] at i;clear O;obtain⟨H,S⟩:∃ H,(Utf8.decode s pos).1=H:=⟨_,rfl⟩;obtain⟨D,G⟩:∃ D,(Utf8.decode s pos).2=D:=⟨_,rfl⟩;rw[S] at A i ab;rw[G] at A i ad V;have d:=Lib.iterAt_heap wr f s pos (pos+D) o;have n:=Lib.below_iterAt k M s (pos+D);have b:=ylb q o (pos+D);have v:=Lib.iterAt_size wr f s (pos+D);clear S G;obtain⟨W,N⟩:∃ W,wr.iterAt f s (pos+D)=W:=⟨_,rfl⟩;rw[N] at A d n b v;rw[<-v] at T;clear q o k N v;have ax:(H:Int)<=1114111:=by omega
    go_wp2_with(at_builtin;refine wpList_append_own _ rfl _ _ 38 rfl B 3 i0 (.int .i64 0) 1 8 Tryz.underlying38 hi ae af ag rfl (by decide) _ _ _ rfl (b.alloc _) ⟨W.heap.size,0,none⟩ 1 1 [.int .i64 (H:Int)] rfl rfl ?c1 ?c2 ?c3 ?c4 ?c5 ?_)
    case c1=>exact cell_one_new _ _ _
    case c2=>simp[Value.oneCell']
    case c3=>unfold maxLen;omega
    case c4=>omega
    case c5=>simp;omega
    intro v' w2 r h _;have F:f < W.heap.size:=(Array.getElem?_eq_some_iff.1 d).1;have P:w2.heap[f]? = some (.stringIter s (pos+D)):=by
     rw[h.block f (by simp;omega) (yj2 (b.alloc (.cells #[.int .i64 (H:Int)] 3)) (by rw[heap_alloc_old _ _ F];exact d)),heap_alloc_old _ _ F];exact d
    obtain⟨I,U⟩:=xe n T b h;have t:w2.ownsRow B 3 1 v' (l++[(H:Int)]).length (ints (l++[(H:Int)])):=by simpa [ints] using r
    obtain⟨a',c',rfl,-,-,-⟩:=zq t;clear r h b n d;go_wp2
    go_roundg L
    case measure=>omega
    case rel=>exact⟨pos+D,l++[(H:Int)],a',c',rfl,t,P,I,U,lh (by rw[i.out];simp),by omega,by simp;omega,V⟩
   ·have A:∀ K,(Instr.next (.pointer (some ⟨f,0,none⟩)) true K).run Tryz.prog wr=_:=fun K=>Lib.run_next_end_at wr f s pos K o z
    have aa:R=l:=by
     rw[i.out]
     cases gk with
     | zero=>simp[xf]
     | succ g=>rw[xf,if_neg z];simp
    go_wp2
    go_ret2
    rw[aa];exact⟨⟨a,c,rfl,q⟩,k⟩
theorem ze (nm:List UInt8)(hl:nm.length<=4294967296)(w:World)(hT:yb1 w) :
  Calls Tryz.prog 81 #[.string ⟨nm.toArray⟩] w fun e w'=>e=.returned (.bool (zh nm))/\Below w.heap.size w w':=by
 obtain⟨r,hr⟩:∃ r,zh nm=r:=⟨_,rfl⟩;rw[hr];have I:=lh hr;clear hr;have s:=ygi nm w (by unfold maxLen;omega);have y:=yct nm hl w hT
 cases t:jr nm with
 | true=>
  rw[t] at s;have b:r=decide (nm.length<=1000):=by rw[<-I.out];unfold zh;rw[if_pos t]
  have HP:=lh t;have C:=lh b;clear t b I
  go_enter Tryz.func81,Tryz.ntmps81
  go_wp2_with fail
  refine s.mono ?_;rintro e w' ⟨rfl,rfl⟩;clear s y
  by_cases h1:nm.length<=1000
  ·have h2:(nm.length:Int)<=1000:=by omega
   go_wp2;go_ret
   exact⟨by rw[C.out,decide_eq_true h1];rfl,Below.refl _ _⟩
  ·have h2:¬ (nm.length:Int)<=1000:=by omega
   go_wp2;go_ret
   exact⟨by rw[C.out];show Ending.returned (Value.bool (decide ((nm.length:Int)<=1000)))=_;congr 2;rw[decide_eq_decide];omega,Below.refl _ _⟩
 | false=>
  rw[t] at s;have b:r=match ga nm with
    | none=>false
    | some l=>decide (l≠[]/\l.length<=60)&&l.all fun c=>decide (c < 128->yr (UInt8.ofNat c.toNat)=true):=by rw[<-I.out];unfold zh;rw[if_neg (by rw[t];simp)];cases ga nm<;>rfl
  have HP:=lh t;clear t I
  cases A:ga nm with
  | none=>
   rw[A] at y b;simp only at b;rw[b];clear b
   go_enter Tryz.func81,Tryz.ntmps81
   go_wp2_with fail
   refine s.mono ?_;rintro e w' ⟨rfl,rfl⟩;clear s
   go_wp2_with fail
   refine y.mono ?_;rintro e w' ⟨Q,hb⟩;obtain rfl:e=.returned (.tuple #[.slice none 0 0,.bool false]):=Q;clear y;go_wp2;go_ret;exact⟨rfl,hb⟩
  | some l=>
   rw[A] at y b;simp only at b;have Y:∀ c∈l,0<=c:=fun c P=>by
    unfold ga at A
    split at A
    ·obtain rfl:=Option.some.inj A
     exact yma _ _ _ c P
    ·cases A
   have HZ:=lh Y;clear Y A
   go_enter Tryz.func81,Tryz.ntmps81
   go_wp2_with fail
   refine s.mono ?_;rintro e w' ⟨rfl,rfl⟩;clear s
   go_wp2_with fail
   refine y.mono ?_;rintro e Z ⟨⟨a,c,rfl,f⟩,hb⟩;clear y
   by_cases N:l=[]
   ·subst N
    have L:=lh b;simp only[List.length_nil];clear b f;go_wp2;go_ret;exact⟨by rw[L.out];simp,hb⟩
   ·have G:0 < l.length:=List.length_pos_iff.2 N
    have aj:((l.length:Int) == 0)=false:=by simp;omega
    by_cases E:l.length<=60
    ·have F:¬ (60:Int) < (l.length:Int):=by omega
     obtain⟨g,c2,sp,hv,hB,W,H,R,S⟩:=ybh f G
     cases hv
     have m:∀ k,k < l.length->Z.cell? ⟨g,k,none⟩=some (.int .i64 (l.getD k 0)):=fun k J=>by
      have h9:(ints l++sp)[k]? = some (.int .i64 (l.getD k 0)):=by
       rw[List.getElem?_append_left (by rw[H];exact J)];unfold ints;rw[List.getElem?_map,lge J,lgd,lge J];rfl
      simp[World.cell?,W,h9]
     have HC:=lh m;unfold maxLen at S;have ak:l.length<=c:=by omega
     clear f W m H R hB;have p:r=l.all fun c=>decide (c < 128->yr (UInt8.ofNat c.toNat)=true):=by rw[b,decide_eq_true ⟨N,E⟩,Bool.true_and]
     have q:=lh p;clear b p;go_wp2
     go_loop [6,31] (fun v i=>∃ k:Nat,k<=l.length/\i=.int .i64 k/\(l.take k).all (fun c=>decide (c < 128->yr (UInt8.ofNat c.toNat)=true))=true) (fun _ i=>l.length-(intOf i).toNat)
     case atStart=>exact⟨0,by omega,rfl,by simp⟩
     case round=>
      obtain⟨k,J,rfl,d⟩:=hrel
      by_cases n:k < l.length
      ·have O:=HC.out k n
       have o:l.getD k 0∈l:=by rw[lgd,lge n];exact List.getElem_mem n
       have X:l.take (k+1)=l.take k++[l.getD k 0]:=by rw[lts n,lgd,lge n];rfl
       have T:=HZ.out _ o;have M:=lh X;have V:=lh o;have K:=lh d;clear X o d;generalize l.getD k 0=z at O T M V K |-
       by_cases D:z < 128
       ·have B:z=(((UInt8.ofNat z.toNat).toNat:Nat):Int):=by rw[UInt8.toNat_ofNat'];omega
        have x:=ydo (UInt8.ofNat z.toNat) Z;rw[<-B] at x;have U:z<=255:=by omega
        have ad:=lh B;clear B
        cases j:yr (UInt8.ofNat z.toNat) with
        | true=>
         rw[j] at x;have u:=lh j;clear j
         go_wp2_with fail
         refine x.mono ?_;rintro e w' ⟨rfl,rfl⟩;clear x;go_wp2
         go_round
         case rel=>exact⟨k+1,by omega,by go_num,by rw[M.out,List.all_append,K.out];simp[u.out]⟩
         case measure=>simp[intOf];omega
        | false=>
         rw[j] at x;have u:=lh j;clear j
         go_wp2_with fail
         refine x.mono ?_;rintro e w' ⟨rfl,rfl⟩;clear x;go_wp2;go_ret;have:r=false:=by
          rw[q.out,List.all_eq_false];exact⟨z,V.out,by simp[u.out,D]⟩
         exact⟨by rw[this];rfl,hb⟩
       ·go_wp2
        go_round
        case rel=>exact⟨k+1,by omega,by go_num,by rw[M.out,List.all_append,K.out];simp;omega⟩
        case measure=>simp[intOf];omega
      ·obtain rfl:k=l.length:=by omega
       rw[List.take_length] at d;go_wp2;go_ret;exact⟨by rw[q.out,d];rfl,hb⟩
    ·have F:(60:Int) < (l.length:Int):=by omega
     have p:r=false:=by rw[b,decide_eq_false (by rintro ⟨_,h⟩;exact E h)];rfl
     have q:=lh p;clear b p f;go_wp2;go_ret;exact⟨by rw[q.out];rfl,hb⟩
theorem yqm {nm:List UInt8}(g:nm≠[])(f:nm≠[67]):ybe nm=(decide (∀ j,j < nm.length->yc7 (decide (j=0)) (nm.getD j 0)=true)&&decide (nm.length<=20)):=by
 cases nm with
 | nil=>exact absurd rfl g
 | cons c r=>
  unfold ybe;rw[Bool.eq_iff_iff];simp only[Bool.or_eq_true,Bool.and_eq_true,decide_eq_true_eq,beq_iff_eq,List.all_eq_true]
  constructor
  ·rintro (h|⟨⟨b,i⟩,e⟩)
   ·exact absurd h f
   ·refine⟨fun j d=>?_,e⟩
    cases j with
    | zero=>exact b
    | succ j=>
     rw[List.getD_cons_succ,decide_eq_false (by omega)];have a:j < r.length:=by simpa using d
     rw[lgd,lge a];exact i _ (List.getElem_mem a)
  ·rintro ⟨b,e⟩
   refine .inr ⟨⟨b 0 (by simp),fun x k=>?_⟩,e⟩;obtain⟨j,d,rfl⟩:=List.getElem_of_mem k;have:=b (j+1) (by simpa using d);rw[List.getD_cons_succ,decide_eq_false (by omega),lgd,lge d] at this;exact this
theorem yty (i:Nat)(c:UInt8):yc7 (decide (i=0)) c=true↔((97<=(c.toNat:Int)/\(c.toNat:Int)<=122)\/((i:Int)≠0/\((c.toNat:Int)=45\/(48<=(c.toNat:Int)/\(c.toNat:Int)<=57)))):=by
 have a:(c == 45)=true↔(c.toNat:Int)=45:=by
  rw[beq_iff_eq]
  constructor
  ·rintro rfl;rfl
  ·intro h;apply UInt8.toNat_inj.1;show c.toNat=45;omega
 unfold yc7 kt;simp only[Bool.or_eq_true,Bool.and_eq_true,decide_eq_true_eq,Bool.not_eq_true',decide_eq_false_iff_not,a];omega
theorem yim (nm:List UInt8)(G:nm.length<=4294967296)(w:World):Calls Tryz.prog 84 #[.string ⟨nm.toArray⟩] w fun e w'=>e=.returned (.bool (ybe nm))/\w'=w:=by
 by_cases y:nm=[]
 ·subst y
  go_enter Tryz.func84,Tryz.ntmps84
  go_wp2;go_ret
  exact⟨rfl,rfl⟩
 by_cases l:nm=[67]
 ·subst l
  go_enter Tryz.func84,Tryz.ntmps84
  go_wp2;go_ret
  exact⟨rfl,rfl⟩
 rw[yqm y l];obtain⟨r,hr⟩:∃ r,r=(decide (∀ j,j < nm.length->yc7 (decide (j=0)) (nm.getD j 0)=true)&&decide (nm.length<=20)):=⟨_,rfl⟩;rw[<-hr];have n:=lh hr;clear hr;have E:(nm == [67])=false:=by simpa using l
 have n0:nm.isEmpty=false:=by cases nm;exact absurd rfl y;rfl
 go_enter Tryz.func84,Tryz.ntmps84
 go_wp2
 go_loop [3,4] (fun i v=>∃ k:Nat,k<=nm.length/\i=.int .i64 k/\∀ j,j < k->yc7 (decide (j=0)) (nm.getD j 0)=true) (fun i _=>nm.length-(intOf i).toNat)
 case atStart=>exact⟨0,by omega,rfl,fun j z=>by omega⟩
 case round=>
  obtain⟨k,F,rfl,f⟩:=hrel
  by_cases g:k < nm.length
  ·have b:nm.getD k 0=nm[k]:=by rw[lgd,lge g];rfl
   have a:=yty k (nm[k]);rw[<-b] at a;have D:(0:Int)<=((nm[k]).toNat:Int):=by omega
   have x:=lh f;clear f
   rcases(by omega:(97<=((nm[k]).toNat:Int)/\((nm[k]).toNat:Int)<=122)\/(k=0/\((nm[k]).toNat:Int) < 97)\/(k=0/\122 < ((nm[k]).toNat:Int))\/(k≠0/\((nm[k]).toNat:Int)=45)\/(k≠0/\48<=((nm[k]).toNat:Int)/\((nm[k]).toNat:Int)<=57)\/(k≠0/\((nm[k]).toNat:Int) < 48/\((nm[k]).toNat:Int)≠45)\/(k≠0/\57 < ((nm[k]).toNat:Int)/\((nm[k]).toNat:Int) < 97)\/(k≠0/\122 < ((nm[k]).toNat:Int))) with d|d|d|d|d|d|d|d
   ·have c:Hid (yc7 (decide (k=0)) (nm.getD k 0)=true):=lh (a.2 (by rw[b];omega))
    have m:¬ ((nm[k]).toNat:Int) < 97:=by omega
    have B:¬ 122 < ((nm[k]).toNat:Int):=by omega
    clear a b d;go_wp2
    go_round
    case rel=>exact⟨k+1,by omega,by go_num,fun j z=>by
     rcases Nat.lt_or_ge j k with h|h
     ·exact x.out j h
     ·obtain rfl:j=k:=by omega
      exact c.out⟩
    case measure=>simp[intOf];omega
   ·have c:Hid (¬ yc7 (decide (k=0)) (nm.getD k 0)=true):=lh (fun h=>by have:=a.1 h;rw[b] at this;omega)
    have m:((nm[k]).toNat:Int) < 97:=by omega
    have o:((k:Int) == 0)=true:=by simp;omega
    clear a b d;go_wp2;go_ret;have:r=false:=by
     rw[n.out,Bool.and_eq_false_iff]
     left
     rw[decide_eq_false_iff_not];exact fun h=>c.out (h k g)
    exact⟨by rw[this];rfl,rfl⟩
   ·have c:Hid (¬ yc7 (decide (k=0)) (nm.getD k 0)=true):=lh (fun h=>by have:=a.1 h;rw[b] at this;omega)
    have m:¬ ((nm[k]).toNat:Int) < 97:=by omega
    have B:122 < ((nm[k]).toNat:Int):=by omega
    have o:((k:Int) == 0)=true:=by simp;omega
    clear a b d;go_wp2;go_ret;have:r=false:=by
     rw[n.out,Bool.and_eq_false_iff]
     left
     rw[decide_eq_false_iff_not];exact fun h=>c.out (h k g)
    exact⟨by rw[this];rfl,rfl⟩
   ·have c:Hid (yc7 (decide (k=0)) (nm.getD k 0)=true):=lh (a.2 (by rw[b];omega))
    have m:((nm[k]).toNat:Int) < 97:=by omega
    have o:((k:Int) == 0)=false:=by simp;omega
    have u:(((nm[k]).toNat:Int) != 45)=false:=by simp;omega
    clear a b d;go_wp2
    go_round
    case rel=>exact⟨k+1,by omega,by go_num,fun j z=>by
     rcases Nat.lt_or_ge j k with h|h
     ·exact x.out j h
     ·obtain rfl:j=k:=by omega
      exact c.out⟩
    case measure=>simp[intOf];omega
   ·have c:Hid (yc7 (decide (k=0)) (nm.getD k 0)=true):=lh (a.2 (by rw[b];omega))
    have m:((nm[k]).toNat:Int) < 97:=by omega
    have o:((k:Int) == 0)=false:=by simp;omega
    have u:(((nm[k]).toNat:Int) != 45)=true:=by simp;omega
    have A:¬ ((nm[k]).toNat:Int) < 48:=by omega
    have C:¬ 57 < ((nm[k]).toNat:Int):=by omega
    clear a b d;go_wp2
    go_round
    case rel=>exact⟨k+1,by omega,by go_num,fun j z=>by
     rcases Nat.lt_or_ge j k with h|h
     ·exact x.out j h
     ·obtain rfl:j=k:=by omega
      exact c.out⟩
    case measure=>simp[intOf];omega
   ·have c:Hid (¬ yc7 (decide (k=0)) (nm.getD k 0)=true):=lh (fun h=>by have:=a.1 h;rw[b] at this;omega)
    have m:((nm[k]).toNat:Int) < 97:=by omega
    have o:((k:Int) == 0)=false:=by simp;omega
    have u:(((nm[k]).toNat:Int) != 45)=true:=by simp;omega
    have A:((nm[k]).toNat:Int) < 48:=by omega
    clear a b d;go_wp2;go_ret;have:r=false:=by
     rw[n.out,Bool.and_eq_false_iff]
     left
     rw[decide_eq_false_iff_not];exact fun h=>c.out (h k g)
    exact⟨by rw[this];rfl,rfl⟩
   ·have c:Hid (¬ yc7 (decide (k=0)) (nm.getD k 0)=true):=lh (fun h=>by have:=a.1 h;rw[b] at this;omega)
    have m:((nm[k]).toNat:Int) < 97:=by omega
    have o:((k:Int) == 0)=false:=by simp;omega
    have u:(((nm[k]).toNat:Int) != 45)=true:=by simp;omega
    have A:¬ ((nm[k]).toNat:Int) < 48:=by omega
    have C:57 < ((nm[k]).toNat:Int):=by omega
    clear a b d;go_wp2;go_ret;have:r=false:=by
     rw[n.out,Bool.and_eq_false_iff]
     left
     rw[decide_eq_false_iff_not];exact fun h=>c.out (h k g)
    exact⟨by rw[this];rfl,rfl⟩
   ·have c:Hid (¬ yc7 (decide (k=0)) (nm.getD k 0)=true):=lh (fun h=>by have:=a.1 h;rw[b] at this;omega)
    have m:¬ ((nm[k]).toNat:Int) < 97:=by omega
    have B:122 < ((nm[k]).toNat:Int):=by omega
    have o:((k:Int) == 0)=false:=by simp;omega
    have u:(((nm[k]).toNat:Int) != 45)=true:=by simp;omega
    have A:¬ ((nm[k]).toNat:Int) < 48:=by omega
    have C:57 < ((nm[k]).toNat:Int):=by omega
    clear a b d;go_wp2;go_ret;have:r=false:=by
     rw[n.out,Bool.and_eq_false_iff]
     left
     rw[decide_eq_false_iff_not];exact fun h=>c.out (h k g)
    exact⟨by rw[this];rfl,rfl⟩
  ·obtain rfl:k=nm.length:=by omega
   have t:r=decide (nm.length<=20):=by rw[n.out,decide_eq_true f,Bool.true_and]
   have p:=lh t;clear t f
   by_cases q:nm.length<=20
   ·have s:(nm.length:Int)<=20:=by omega
    go_wp2;go_ret
    exact⟨by rw[p.out,decide_eq_true q];rfl,rfl⟩
   ·have s:¬ (nm.length:Int)<=20:=by omega
    go_wp2;go_ret
    exact⟨by rw[p.out,decide_eq_false q];rfl,rfl⟩
theorem ytq (c:UInt8):c=97\/c=115\/c=108\/c=120\/c=110\/c=105\/c=104\/c=116\/c=109\/c=121\/c=111\/c=106\/(c≠97/\c≠115/\c≠108/\c≠120/\c≠110/\c≠105/\c≠104/\c≠116/\c≠109/\c≠121/\c≠111/\c≠106):=by
 by_cases h:c=97\/c=115\/c=108\/c=120\/c=110\/c=105\/c=104\/c=116\/c=109\/c=121\/c=111\/c=106
 ·rcases h with h|h|h|h|h|h|h|h|h|h|h|h<;>simp[h]
 ·simp only[not_or] at h
  exact .inr (.inr (.inr (.inr (.inr (.inr (.inr (.inr (.inr (.inr (.inr (.inr h)))))))))))
theorem u8f {l:UInt8}{c:Nat}(a:c < 256)(h:l≠UInt8.ofNat c):((l.toNat:Int) == (c:Int))=false:=u8i fun e=>h (by apply UInt8.toNat_inj.1;rw[UInt8.toNat_ofNat'];omega)
theorem yqg {c:UInt8}(h:c≠97/\c≠115/\c≠108/\c≠120/\c≠110/\c≠105/\c≠104/\c≠116/\c≠109/\c≠121/\c≠111/\c≠106):yx c=(0,false):=by
 have b:∀ c:UInt8,yx c=(0,false)\/c=97\/c=115\/c=108\/c=120\/c=110\/c=105\/c=104\/c=116\/c=109\/c=121\/c=111\/c=106:=by
  intro c;have:∀ x:Fin 256,yx (UInt8.ofNat x.val)=(0,false)\/UInt8.ofNat x.val=97\/UInt8.ofNat x.val=115\/UInt8.ofNat x.val=108\/UInt8.ofNat x.val=120\/UInt8.ofNat x.val=110\/UInt8.ofNat x.val=105\/UInt8.ofNat x.val=104\/UInt8.ofNat x.val=116\/UInt8.ofNat x.val=109\/UInt8.ofNat x.val=121\/UInt8.ofNat x.val=111\/UInt8.ofNat x.val=106:=by decide
  have a:=this ⟨c.toNat,c.toNat_lt⟩
  simpa using a
 rcases b c with a|a|a|a|a|a|a|a|a|a|a|a|a
 ·exact a
 all_goals (subst a;simp at h)
theorem zf (c:UInt8)(w:World):Calls Tryz.prog 109 #[.int .u8 c.toNat] w fun e w'=>e=.returned (.tuple #[.int .u64 (yx c).1,.bool (yx c).2])/\w'=w:=by
 rcases ytq c with rfl|rfl|rfl|rfl|rfl|rfl|rfl|rfl|rfl|rfl|rfl|rfl|h
 iterate 12
  ·go_enter Tryz.func109,Tryz.ntmps109
   go_wp2
   go_ret2
   exact⟨rfl,rfl⟩
 ·rw[yqg h]
  have o:((c.toNat:Int) == 97)=false:=u8f (c:=97) (by omega) h.1;have k:((c.toNat:Int) == 115)=false:=u8f (c:=115) (by omega) h.2.1;have f:((c.toNat:Int) == 108)=false:=u8f (c:=108) (by omega) h.2.2.1;have m:((c.toNat:Int) == 120)=false:=u8f (c:=120) (by omega) h.2.2.2.1;have i:((c.toNat:Int) == 110)=false:=u8f (c:=110) (by omega) h.2.2.2.2.1;have b:((c.toNat:Int) == 105)=false:=u8f (c:=105) (by omega) h.2.2.2.2.2.1;have a:((c.toNat:Int) == 104)=false:=u8f (c:=104) (by omega) h.2.2.2.2.2.2.1;have l:((c.toNat:Int) == 116)=false:=u8f (c:=116) (by omega) h.2.2.2.2.2.2.2.1;have g:((c.toNat:Int) == 109)=false:=u8f (c:=109) (by omega) h.2.2.2.2.2.2.2.2.1;have n:((c.toNat:Int) == 121)=false:=u8f (c:=121) (by omega) h.2.2.2.2.2.2.2.2.2.1;have j:((c.toNat:Int) == 111)=false:=u8f (c:=111) (by omega) h.2.2.2.2.2.2.2.2.2.2.1;have d:((c.toNat:Int) == 106)=false:=u8f (c:=106) (by omega) h.2.2.2.2.2.2.2.2.2.2.2;clear h
  go_enter Tryz.func109,Tryz.ntmps109
  go_wp2
  go_ret2
  exact⟨rfl,rfl⟩
abbrev Lk:=Nat->Nat->ya->Nat->Option Nat
def ybq (r:Lk)(want b:Nat):List ya->Nat->Option Nat
 | [],l=>some l
 | t::ts,l=>(r want b t l).bind (ybq r want b ts)
def gq (l:UInt8)(nm:List UInt8):Bool:=if l=67\/l=83 then zh nm||nm.isEmpty else decide (97<=l.toNat/\l.toNat<=122)&&zh nm
def z8 (r:Lk)(b:Nat)(k:Nat)(c:UInt8)(nm:List UInt8)(n:Nat)(kids:List ya)(l:Nat):Option Nat:=
  if 4611686018427387904<=n then none
  else if k=1 then if kids=[]/\zh nm=true then some l else none
  else if k=2 then match kids with
   | [p,q]=>(r 0 0 p l).bind fun l=>r 1 b q l
   | _=>none
  else if k=3 then match kids with
   | [p,q,s]=>(r 0 0 p l).bind fun l=>(r 1 b q l).bind fun l=>r 0 b s l
   | _=>none
  else if k=4 then match kids with
   | [q,s]=>(r 1 b q l).bind fun l=>r 0 b s l
   | _=>none
  else if k=5 then match kids with
   | [p]=>if gq c nm=true then r 0 b p l else none
   | _=>none
  else match kids with
   | p::q::a=>(r 0 b p l).bind fun l=>ybq r 2 b (q::a) l
   | _=>none
def qr (r:Lk)(b:Nat):ya->Nat->Option Nat
 | .mk k c nm n _ kids,l=>z8 r b k c nm n kids l
def jp (r:Lk)(b:Nat)(k:Nat)(c:UInt8)(n:Nat)(kids:List ya)(l:Nat):Option Nat:=
  if k=7 then if kids=[]/\(kw c).isSome=true then some l else none
  else if k=8 then match kids with
   | [p,q]=>(r 1 b p l).bind fun l=>r 3 b q l
   | _=>none
  else if k=10 then ybq r 1 b kids l
  else if(k=11\/k=12)/\b < n then none
  else match kids with
   | [p]=>r 1 b p l
   | _=>none
def jv (r:Lk)(b:Nat):ya->Nat->Option Nat
 | .mk k c _ n _ kids,l=>jp r b k c n kids l
def zo (r:Lk)(b:Nat)(k:Nat)(c:UInt8)(nm:List UInt8)(n:Nat)(f:Bool)(kids:List ya)(l:Nat):Option Nat:=
  if k=15\/k=16 then
   if 20 < n\/kids=[]\/20 < b+n then none
   else if k=15 then
    if ya8 (kids.getLastD .zero)=false/\ybe nm=true then(ybq r 1 (b+n) kids.dropLast l).bind fun l=>r 1 (b+n) (kids.getLastD .zero) l else none
   else if 2<=kids.length then
    (ybq r 4 (b+n) kids.dropLast l).bind fun l=>if(kids.getLastD .zero).kind=19 then r 2 b (kids.getLastD .zero) l else none
   else none
  else if k=17 then match kids with
   | p::a=>(r 0 b p l).bind fun l=>ybq r 5 b a l
   | _=>none
  else if k=18 then match kids with
   | [p]=>if zh nm=true then r 1 b p l else none
   | _=>none
  else if k=19 then if kids=[]/\n<=b then some l else none
  else if k=20 then if kids=[]/\qv c n f=true/\n < 18446744073709551616 then some l else none
  else if kids=[] then some l else none
def zx (r:Lk)(b:Nat):ya->Nat->Option Nat
 | .mk k c nm n f kids,l=>zo r b k c nm n f kids l
def yl:Nat->Lk
 | 0=>fun _ _ _ _=>none
 | d+1=>fun want b t l=>
  match l with
  | 0=>none
  | l+1=>
   if gn t.kind want=false then none
   else if t.kind<=6 then qr (yl d) b t l
   else if t.kind<=14 then jv (yl d) b t l
   else zx (yl d) b t l
def yt1 (want d b:Nat)(t:ya):Prop:=
 match want with
 | 0=>Rt .path d b t
 | 1=>Rt .type d b t
 | 2=>Rt .arg d b t
 | 3=>Rt .const d b t
 | 4=>Rt .bound d b t
 | _=>∃ l nm n f p e,t=.mk 18 l nm n f [p]/\zh nm=true/\d=e+1/\Rt .type e b p
def LkG (r:Lk)(d:Nat):Prop:=∀ want b t l l',want<=5->b<=20->r want b t l=some l'->yt1 want d b t/\t.wt+l'=l
theorem bind_some {α β:Type}{x:Option α}{f:α->Option β}{y:β}(h:x.bind f=some y):∃ a,x=some a/\f a=some y:=by
 cases x with
 | none=>cases h
 | some a=>exact⟨a,rfl,h⟩
theorem ybp {r:Lk}{d want b:Nat}(hr:LkG r d)(hw:want<=5)(hb:b<=20):∀ (a:List ya) (l c:Nat),ybq r want b a l=some c->(∀ i,i < a.length->yt1 want d b (a.getD i .zero))/\(a.map ya.wt).sum+c=l
 | [],l,c,h=>by
  obtain rfl:=Option.some.inj h;exact⟨fun i hi=>by simp at hi,by simp⟩
 | t::a,l,c,h=>by
  obtain⟨l1,f,g⟩:=bind_some h;obtain⟨e,j⟩:=hr want b t l l1 hw hb f;obtain⟨g3,g4⟩:=ybp hr hw hb a l1 c g;refine⟨fun i hi=>?_,by rw[List.map_cons,List.sum_cons];omega⟩
  cases i with
  | zero=>exact e
  | succ i=>exact g3 i (by simpa using hi)
theorem ypu {l:UInt8}{nm:List UInt8}(h:gq l nm=true):(97<=l.toNat/\l.toNat<=122/\zh nm=true)\/((l=67\/l=83)/\(nm=[]\/zh nm=true)):=by
 unfold gq at h
 split at h
 ·rename_i a
  refine .inr ⟨a,?_⟩;rw[Bool.or_eq_true] at h
  rcases h with h|h
  ·exact .inr h
  ·exact .inl (by simpa using h)
 ·rw[Bool.and_eq_true,decide_eq_true_eq] at h
  exact .inl ⟨h.1.1,h.1.2,h.2⟩
theorem ypt {r:Lk}{d b:Nat}(hr:LkG r d)(hb:b<=20){t:ya}{l i:Nat}(o:1<=t.kind/\t.kind<=6)(h:qr r b t l=some i):Rt .path (d+1) b t/\t.wt+i=l+1:=by
 obtain⟨k,c,nm,n,f,kids⟩:=t;replace h:z8 r b k c nm n kids l=some i:=h;unfold z8 at h;simp only[ya.kind] at o;rw[zd]
 by_cases j:4611686018427387904<=n
 ·rw[if_pos j] at h;cases h
 rw[if_neg j] at h;have e:n < 4611686018427387904:=by omega
 rcases(by omega:k=1\/k=2\/k=3\/k=4\/k=5\/k=6) with rfl|rfl|rfl|rfl|rfl|rfl
 ·rw[if_pos (show(1:Nat)=1 from rfl)] at h
  split at h
  ·rename_i a
   obtain rfl:=Option.some.inj h;rw[a.1];exact⟨.crate a.2 e,by simp;omega⟩
  ·cases h
 ·rw[if_neg (show ¬ (2:Nat)=1 by decide),if_pos (show(2:Nat)=2 from rfl)] at h
  split at h
  ·obtain⟨l1,g,a⟩:=bind_some h
   obtain⟨a1,a2⟩:=hr _ _ _ _ _ (by omega) (by omega) g;obtain⟨a3,a4⟩:=hr _ _ _ _ _ (by omega) hb a;exact⟨.impl e a1 a3,by simp;omega⟩
  ·cases h
 ·rw[if_neg (show ¬ (3:Nat)=1 by decide),if_neg (show ¬ (3:Nat)=2 by decide),if_pos (show(3:Nat)=3 from rfl)] at h
  split at h
  ·obtain⟨l1,g,a⟩:=bind_some h
   obtain⟨l2,a,m⟩:=bind_some a;obtain⟨a1,a2⟩:=hr _ _ _ _ _ (by omega) (by omega) g;obtain⟨a3,a4⟩:=hr _ _ _ _ _ (by omega) hb a;obtain⟨a5,a6⟩:=hr _ _ _ _ _ (by omega) hb m;exact⟨.timpl e a1 a3 a5,by simp;omega⟩
  ·cases h
 ·rw[if_neg (show ¬ (4:Nat)=1 by decide),if_neg (show ¬ (4:Nat)=2 by decide),if_neg (show ¬ (4:Nat)=3 by decide),if_pos (show(4:Nat)=4 from rfl)] at h
  split at h
  ·obtain⟨l1,g,a⟩:=bind_some h
   obtain⟨a1,a2⟩:=hr _ _ _ _ _ (by omega) hb g;obtain⟨a3,a4⟩:=hr _ _ _ _ _ (by omega) hb a;exact⟨.tdef e a1 a3,by simp;omega⟩
  ·cases h
 ·rw[if_neg (show ¬ (5:Nat)=1 by decide),if_neg (show ¬ (5:Nat)=2 by decide),if_neg (show ¬ (5:Nat)=3 by decide),if_neg (show ¬ (5:Nat)=4 by decide),if_pos (show(5:Nat)=5 from rfl)] at h
  split at h
  ·split at h
   ·rename_i a
    obtain⟨a1,a2⟩:=hr _ _ _ _ _ (by omega) hb h;exact⟨.nested e (ypu a) a1,by simp;omega⟩
   ·cases h
  ·cases h
 ·rw[if_neg (show ¬ (6:Nat)=1 by decide),if_neg (show ¬ (6:Nat)=2 by decide),if_neg (show ¬ (6:Nat)=3 by decide),if_neg (show ¬ (6:Nat)=4 by decide),if_neg (show ¬ (6:Nat)=5 by decide)] at h
  split at h
  ·obtain⟨l1,g,a⟩:=bind_some h
   obtain⟨a1,a2⟩:=hr _ _ _ _ _ (by omega) hb g;obtain⟨a3,a4⟩:=ybp hr (by omega) hb _ _ _ a;exact⟨.gen e (by simp) a1 a3,by rw[List.map_cons,List.sum_cons];omega⟩
  ·cases h
theorem yps {r:Lk}{d b:Nat}(hr:LkG r d)(hb:b<=20){t:ya}{l j:Nat}(q:7<=t.kind/\t.kind<=14)(h:jv r b t l=some j):Rt .type (d+1) b t/\t.wt+j=l+1:=by
 obtain⟨k,c,nm,n,f,kids⟩:=t;replace h:jp r b k c n kids l=some j:=h;unfold jp at h;simp only[ya.kind] at q;rw[zd]
 by_cases m:k=7
 ·subst m
  rw[if_pos (show(7:Nat)=7 from rfl)] at h
  split at h
  ·rename_i g
   obtain rfl:=Option.some.inj h;obtain⟨x,s⟩:=Option.isSome_iff_exists.1 g.2;rw[g.1];exact⟨.basic s,by simp;omega⟩
  ·cases h
 rw[if_neg m] at h
 by_cases o:k=8
 ·subst o
  rw[if_pos (show(8:Nat)=8 from rfl)] at h
  split at h
  ·obtain⟨l1,p,g⟩:=bind_some h
   obtain⟨a1,a2⟩:=hr _ _ _ _ _ (by omega) hb p;obtain⟨a3,a4⟩:=hr _ _ _ _ _ (by omega) hb g;exact⟨.array a1 a3,by simp;omega⟩
  ·cases h
 rw[if_neg o] at h
 by_cases a:k=10
 ·subst a
  rw[if_pos (show(10:Nat)=10 from rfl)] at h;obtain⟨a3,a4⟩:=ybp hr (by omega) hb _ _ _ h;exact⟨.tuple a3,by omega⟩
 rw[if_neg a] at h
 by_cases e:(k=11\/k=12)/\b < n
 ·rw[if_pos e] at h;cases h
 rw[if_neg e] at h
 split at h
 ·obtain⟨a1,a2⟩:=hr _ _ _ _ _ (by omega) hb h
  refine⟨?_,by simp;omega⟩
  rcases(by omega:k=9\/(k=11\/k=12)\/(k=13\/k=14)) with rfl|i|i
  ·exact .slice a1
  ·exact .ref i (by omega) a1
  ·exact .ptr i a1
 ·cases h
theorem ybs {kids:List ya}(h:kids≠[]):kids=kids.dropLast++[kids.getLastD .zero]:=by
 rw[List.getLastD_eq_getLast?,List.getLast?_eq_some_getLast h];exact(List.dropLast_concat_getLast h).symm
theorem yn4 {kids:List ya}(h:kids≠[]):(kids.map ya.wt).sum=(kids.dropLast.map ya.wt).sum+(kids.getLastD .zero).wt:=by
 conv=>lhs;rw[ybs h]
 simp
theorem yvb {d b:Nat}{t:ya}(c:t.kind=19)(h:Rt .arg d b t):∃ l nm m f,t=.mk 19 l nm m f []/\m<=b:=by
 cases h with
 | life a=>exact⟨_,_,_,_,rfl,a⟩
 | argC h=>have:=(km h).2.2 rfl;omega
 | argT h=>have:=(km h).2.1 rfl;omega
theorem ym8 {r:Lk}{d b want:Nat}(hr:LkG r d)(hb:b<=20){t:ya}{l E:Nat}(K:15<=t.kind/\t.kind<=21)(j:gn t.kind want=true)(hw:want<=5)(h:zx r b t l=some E):yt1 want (d+1) b t/\t.wt+E=l+1:=by
 obtain⟨k,c,nm,n,f,kids⟩:=t;replace h:zo r b k c nm n f kids l=some E:=h;unfold zo at h;simp only[ya.kind] at K j;rw[zd];have z:k<=16->Rt .type (d+1) b (.mk k c nm n f kids)->yt1 want (d+1) b (.mk k c nm n f kids):=fun v g=>by
  rcases(by omega:want=0\/want=1\/want=2\/want=3\/want=4\/want=5) with rfl|rfl|rfl|rfl|rfl|rfl
  ·simp only[gn,decide_eq_true_eq] at j;omega
  ·exact g
  ·exact .argT g
  all_goals (simp only[gn,decide_eq_true_eq] at j;omega)
 have y:k=20\/k=21->Rt .const (d+1) b (.mk k c nm n f kids)->yt1 want (d+1) b (.mk k c nm n f kids):=fun v g=>by
  rcases(by omega:want=0\/want=1\/want=2\/want=3\/want=4\/want=5) with rfl|rfl|rfl|rfl|rfl|rfl
  ·simp only[gn,decide_eq_true_eq] at j;omega
  ·simp only[gn,decide_eq_true_eq] at j;omega
  ·exact .argC g
  ·exact g
  all_goals (simp only[gn,decide_eq_true_eq] at j;omega)
 by_cases w:k=15\/k=16
 ·rw[if_pos w] at h
  by_cases u:20 < n\/kids=[]\/20 < b+n
  ·rw[if_pos u] at h;cases h
  rw[if_neg u] at h;have o:kids≠[]:=fun h=>u (.inr (.inl h))
  by_cases v:k=15
  ·subst v
   rw[if_pos (show(15:Nat)=15 from rfl)] at h
   split at h
   ·rename_i g
    obtain⟨l1,C,x⟩:=bind_some h;obtain⟨a1,a2⟩:=ybp hr (by omega) (by omega) _ _ _ C;obtain⟨a3,a4⟩:=hr _ _ _ _ _ (by omega) (by omega) x;have s:=Rt.fn (l:=c) (f:=f) (by omega) g.2 g.1 a1 a3;rw[<-ybs o] at s;exact⟨z (by omega) s,by rw[yn4 o];omega⟩
   ·cases h
  ·obtain rfl:k=16:=by omega
   rw[if_neg (show ¬ (16:Nat)=15 by decide)] at h
   split at h
   ·rename_i g
    obtain⟨l1,C,x⟩:=bind_some h;obtain⟨a1,a2⟩:=ybp hr (by omega) (by omega) _ _ _ C
    split at x
    ·rename_i H
     obtain⟨a3,a4⟩:=hr _ _ _ _ _ (by omega) (by omega) x;obtain⟨l2,nm2,m,f2,I,J⟩:=yvb H a3;have D:kids.dropLast≠[]:=fun h=>by
      have:=congrArg List.length h;rw[List.length_dropLast] at this;simp at this;omega
     have s:=Rt.dyn (l:=c) (nm:=nm) (f:=f) (l2:=l2) (nm2:=nm2) (f2:=f2) (n:=n) (by omega) D a1 J;rw[<-I,<-ybs o] at s;exact⟨z (by omega) s,by rw[yn4 o];omega⟩
    ·cases x
   ·cases h
 rw[if_neg w] at h
 rcases(by omega:k=17\/k=18\/k=19\/k=20\/k=21) with rfl|rfl|rfl|rfl|rfl
 ·rw[if_pos (show(17:Nat)=17 from rfl)] at h
  split at h
  ·obtain⟨l1,v,g⟩:=bind_some h
   obtain⟨a1,a2⟩:=hr _ _ _ _ _ (by omega) hb v;obtain⟨a3,a4⟩:=ybp hr (by omega) hb _ _ _ g;rename_i p a;have hd:1<=d:=by
    have A:Rt .path d b p:=a1
    cases A<;>omega
   obtain⟨e,rfl⟩:∃ e,d=e+1:=⟨d-1,by omega⟩;have s:Rt .bound (e+2) b (.mk 17 c nm n f (p::a)):=.bound a1 (fun i hi=>by
    obtain⟨l2,nm2,n2,f2,q,F,B,G,-,-⟩:=a3 i hi;exact⟨nm2,n2,f2,l2,q,B,G⟩) (fun i hi=>by
    obtain⟨l2,nm2,n2,f2,q,F,B,G,g3,g4⟩:=a3 i hi;obtain rfl:F=e:=by omega
    rw[B];exact g4)
   refine⟨?_,by rw[List.map_cons,List.sum_cons];omega⟩;obtain rfl:want=4:=by
    rcases(by omega:want=0\/want=1\/want=2\/want=3\/want=4\/want=5) with rfl|rfl|rfl|rfl|rfl|rfl<;>first|rfl|(simp[gn] at j)
   exact s
  ·cases h
 ·rw[if_neg (show ¬ (18:Nat)=17 by decide),if_pos (show(18:Nat)=18 from rfl)] at h
  split at h
  ·split at h
   ·rename_i g
    obtain⟨a1,a2⟩:=hr _ _ _ _ _ (by omega) hb h;refine⟨?_,by simp;omega⟩;obtain rfl:want=5:=by
     rcases(by omega:want=0\/want=1\/want=2\/want=3\/want=4\/want=5) with rfl|rfl|rfl|rfl|rfl|rfl<;>first|rfl|(simp[gn] at j)
    exact⟨c,nm,n,f,_,d,rfl,g,rfl,a1⟩
   ·cases h
  ·cases h
 ·rw[if_neg (show ¬ (19:Nat)=17 by decide),if_neg (show ¬ (19:Nat)=18 by decide),if_pos (show(19:Nat)=19 from rfl)] at h
  split at h
  ·rename_i g
   obtain rfl:=Option.some.inj h;refine⟨?_,by rw[g.1];simp;omega⟩;rw[g.1];obtain rfl:want=2:=by
    rcases(by omega:want=0\/want=1\/want=2\/want=3\/want=4\/want=5) with rfl|rfl|rfl|rfl|rfl|rfl<;>first|rfl|(simp[gn] at j)
   exact .life g.2
  ·cases h
 ·rw[if_neg (show ¬ (20:Nat)=17 by decide),if_neg (show ¬ (20:Nat)=18 by decide),if_neg (show ¬ (20:Nat)=19 by decide),if_pos (show(20:Nat)=20 from rfl)] at h
  split at h
  ·rename_i g
   obtain rfl:=Option.some.inj h;refine⟨y (.inl rfl) ?_,by rw[g.1];simp;omega⟩;rw[g.1];exact .num g.2.1 g.2.2
  ·cases h
 ·rw[if_neg (show ¬ (21:Nat)=17 by decide),if_neg (show ¬ (21:Nat)=18 by decide),if_neg (show ¬ (21:Nat)=19 by decide),if_neg (show ¬ (21:Nat)=20 by decide)] at h
  split at h
  ·rename_i g
   obtain rfl:=Option.some.inj h;refine⟨y (.inr rfl) ?_,by rw[g];simp;omega⟩;rw[g];exact .hole
  ·cases h
theorem yd4:∀ d,LkG (yl d) d
 | 0=>fun want b t l k _ _ h=>by cases h
 | d+1=>fun want b t l k hw hb h=>by
  unfold yl at h
  cases l with
  | zero=>cases h
  | succ l=>
   dsimp only at h
   split at h
   ·cases h
   rename_i j;have a:gn t.kind want=true:=by simpa using j
   have e:1<=t.kind/\t.kind<=21:=by
    rcases(by omega:want=0\/want=1\/want=2\/want=3\/want=4\/want=5) with rfl|rfl|rfl|rfl|rfl|rfl
    all_goals (simp only[gn,decide_eq_true_eq] at a;omega)
   split at h
   ·rename_i i
    obtain⟨c,g⟩:=ypt (yd4 d) hb ⟨e.1,i⟩ h;refine⟨?_,g⟩
    rcases(by omega:want=0\/want=1\/want=2\/want=3\/want=4\/want=5) with rfl|rfl|rfl|rfl|rfl|rfl
    ·exact c
    ·exact .tpath c
    ·exact .argT (.tpath c)
    all_goals (simp only[gn,decide_eq_true_eq] at a;omega)
   rename_i i
   split at h
   ·rename_i f
    obtain⟨c,g⟩:=yps (yd4 d) hb ⟨by omega,f⟩ h;refine⟨?_,g⟩
    rcases(by omega:want=0\/want=1\/want=2\/want=3\/want=4\/want=5) with rfl|rfl|rfl|rfl|rfl|rfl
    ·simp only[gn,decide_eq_true_eq] at a;omega
    ·exact c
    ·exact .argT c
    all_goals (simp only[gn,decide_eq_true_eq] at a;omega)
   ·rename_i f
    exact ym8 (yd4 d) hb ⟨by omega,e.2⟩ a hw h
theorem rt_ne {md:Sm}{d b:Nat}{t:ya}(h:Rt md d b t):t.ne=true:=by
 induction h with
 | crate=>rw[jo];exact⟨by omega,by omega,by simp⟩
 | impl _ _ _ e i2=>rw[jo];exact⟨by omega,by omega,by simp[e,i2]⟩
 | timpl _ _ _ _ e i2 i3=>rw[jo];exact⟨by omega,by omega,by simp[e,i2,i3]⟩
 | tdef _ _ _ e i2=>rw[jo];exact⟨by omega,by omega,by simp[e,i2]⟩
 | nested _ _ _ e=>rw[jo];exact⟨by omega,by omega,by simp[e]⟩
 | @gen d b l nm n f p a _ m _ _ e i2=>
  rw[jo];refine⟨fun _=>by have:=List.length_pos_iff.2 m;simp;omega,by omega,fun x c=>?_⟩
  rcases List.mem_cons.1 c with rfl|c
  ·exact e
  ·obtain⟨i,hi,rfl⟩:=List.getElem_of_mem c
   have:=i2 i hi
   rwa[lgd,lge hi] at this
 | tpath _ i=>exact i
 | basic=>rw[jo];exact⟨by omega,by omega,by simp⟩
 | array _ _ e i2=>rw[jo];exact⟨by omega,by omega,by simp[e,i2]⟩
 | slice _ e=>rw[jo];exact⟨by omega,by omega,by simp[e]⟩
 | tuple _ i2=>
  rw[jo];refine⟨by omega,by omega,fun x c=>?_⟩;obtain⟨i,hi,rfl⟩:=List.getElem_of_mem c;have:=i2 i hi
  rwa[lgd,lge hi] at this
 | ref o _ _ e=>rw[jo];exact⟨by omega,by omega,by simp[e]⟩
 | ptr o _ e=>rw[jo];exact⟨by omega,by omega,by simp[e]⟩
 | fn _ _ _ _ _ e i2=>
  rw[jo];refine⟨by omega,by omega,fun x c=>?_⟩
  rcases List.mem_append.1 c with c|c
  ·obtain⟨i,hi,rfl⟩:=List.getElem_of_mem c
   have:=e i hi
   rwa[lgd,lge hi] at this
  ·rw[List.mem_singleton.1 c];exact i2
 | dyn _ _ _ _ e=>
  rw[jo];refine⟨by omega,by omega,fun x c=>?_⟩
  rcases List.mem_append.1 c with c|c
  ·obtain⟨i,hi,rfl⟩:=List.getElem_of_mem c
   have:=e i hi
   rwa[lgd,lge hi] at this
  ·rw[List.mem_singleton.1 c,jo];exact⟨by omega,by omega,by simp⟩
 | life=>rw[jo];exact⟨by omega,by omega,by simp⟩
 | argC _ i=>exact i
 | argT _ i=>exact i
 | hole=>rw[jo];exact⟨by omega,by omega,by simp⟩
 | num _ q=>rw[jo];exact⟨by omega,fun _=>q,by simp⟩
 | bound _ k _ e i2=>
  rw[jo];refine⟨by omega,by omega,fun x c=>?_⟩
  rcases List.mem_cons.1 c with rfl|c
  ·exact e
  ·obtain⟨i,hi,rfl⟩:=List.getElem_of_mem c
   have j:=i2 i hi;obtain⟨nm2,n2,f2,l2,t,g,-⟩:=k i hi;rw[g] at j;rw[lgd,lge hi,Option.getD_some] at g;rw[g];rw[jo];exact⟨by omega,by omega,fun x c=>by rw[List.mem_singleton.1 c];exact j⟩
theorem yri {t:ya}{b:Nat}(h:yl 24 0 0 t 300=some b):Rt .path 24 0 t/\t.wt<=300/\t.ne=true:=by
 obtain⟨a,c⟩:=yd4 24 0 0 t 300 b (by omega) (by omega) h;exact⟨a,by omega,rt_ne a⟩
end Go.Proofs.YtfckcdbpiepchaaGreatDoor
