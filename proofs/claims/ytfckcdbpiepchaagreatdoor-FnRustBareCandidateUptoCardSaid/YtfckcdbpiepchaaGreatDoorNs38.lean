import Derived.Test.YtfckcdbpiepchaaGreatDoorNs37
import Derived.ChangeArms
import Derived.Test.YtfckcdbpiepchaaGreatDoorRows
import Derived.LaidMore
import Derived.Lib.LaidTab
import Derived.Lib.LaidU8T
import Derived.PinnedBridge
import Derived.Maps.Keyed
import Derived.Maps.StringElems
import Derived.Stop.Joined
import Derived.ShutString
import Derived.ChangeOld
import Derived.OpenVars
import Derived.Lay
import Derived.Deep.DeepHandedRow
import Derived.Deep.DeepWitnessRowRef
import Derived.SevenTiedAt
namespace Go.Proofs.YtfckcdbpiepchaaGreatDoor
open Go.RowKit
set_option maxRecDepth 100000
set_option maxHeartbeats 8000000
set_option linter.all false
theorem ycr {H:Type}{d:DataW H}{l:List (DataW H)}(h:d∈l):Rows.uptoBulk d<=Rows.uptoBulkAll l:=by
 induction l with
 | nil=>cases h
 | cons x r a=>
  simp only[Rows.uptoBulkAll]
  rcases List.mem_cons.1 h with e|e
  ·subst e;omega
  ·have:=a e;omega
theorem ymb {H:Type}(a:List UInt8):Rows.uptoBulk (DataW.lit (H:=H) (.string a))=a.length+1:=by simp[Rows.uptoBulk]
theorem ytm {w:World}{b:Nat}{a:Addr}{n:Nat}{c:List Value}(h:w.cells? b a n=some c):c.length=n/\∀ i v,c[i]? = some v->w.cell? (a.add i)=some v:=by
 unfold World.cells? at h
 split at h
 ·have e:=mapM_some_length h
  rw[List.length_range] at e;refine⟨e.symm▸rfl,fun i v hi=>?_⟩;have d:i < n:=by
   have:=(List.getElem?_eq_some_iff.1 hi).1;omega
  have:=mapM_some_get h i i (by simp[d]);rw[this];exact hi
 ·cases h
theorem ywk {α:Type}{l:List α}(h:l.length=6):∃ a b c d e f,l=[a,b,c,d,e,f]:=by
 match l,h with
 | [a,b,c,d,e,f],_=>exact⟨a,b,c,d,e,f,rfl⟩
theorem ywb (b o i j:Nat):((⟨b,o,none⟩:Addr).add i).add j=⟨b,o+(i+j),none⟩:=by
 unfold Addr.add
 by_cases c:i=0
 ·subst c
  by_cases a:j=0
  ·subst a;rfl
  ·rw[if_pos rfl,if_neg a];simp
 ·rw[if_neg c]
  by_cases a:j=0
  ·subst a;rfl
  ·rw[if_neg a];simp[Nat.add_assoc]
theorem wf_u8 {z:Int}(h:(Lit.int .u8 z).wf=true):0<=z/\z<=255:=by
 simp only[Lit.wf,Bool.and_eq_true,decide_eq_true_eq] at h;have a:IntKind.u8.min=0:=rfl;have b:IntKind.u8.max=255:=rfl;omega
theorem ywv {z:Int}(h:(Lit.int .u64 z).wf=true):0<=z/\z < 18446744073709551616:=by
 simp only[Lit.wf,Bool.and_eq_true,decide_eq_true_eq] at h;have a:IntKind.u64.min=0:=rfl;have b:IntKind.u64.max=18446744073709551615:=rfl;omega
theorem ypa {H:Type}{enc:TypeId×Value->H}{W:World} : ∀ (p:Nat) (U:List Value) (x:DataW H×List MemPlace),DataW.trod enc Tryz.prog W 0 (fun _=>true) true p 28 U=some x->
  ∃ v0 v1 v2 v3 v4 v5 t,U=[v0,v1,v2,v3,v4,v5]/\yg W t (.agg #[v0,v1,v2,v3,v4,v5])/\(Rows.uptoBulk x.1<=1048576->Sml t):=by
 intro p
 induction p using Nat.strongRecOn with
 | _ p ih=>
  intro U x h;obtain⟨xs,n,rfl,rfl,L,ah,K⟩:=DataW.trod_struct Tryz.underlying28 h;have I:Tryz.prog.cellsOf 28=6:=by kernel_rfl
  rw[I] at L;obtain⟨v0,v1,v2,v3,v4,v5,rfl⟩:=ywk L;obtain⟨x0,x1,x2,x3,x4,x5,rfl⟩:=ywk (l:=xs) (by rw[ah];rfl);have c0:Tryz.prog.cellsOf 3=1:=by kernel_rfl
  have c1:Tryz.prog.cellsOf 5=1:=by kernel_rfl
  have c2:Tryz.prog.cellsOf 9=1:=by kernel_rfl
  have c3:Tryz.prog.cellsOf 25=1:=by kernel_rfl
  have c4:Tryz.prog.cellsOf 4=1:=by kernel_rfl
  have c5:Tryz.prog.cellsOf 26=1:=by kernel_rfl
  have f0:=K 0 _ rfl;have f1:=K 1 _ rfl;have f2:=K 2 _ rfl;have f3:=K 3 _ rfl;have f4:=K 4 _ rfl;have f5:=K 5 _ rfl;simp only[c0,c1,c2,c3,c4,c5,List.drop,List.take,List.getElem?_cons_zero,List.getElem?_cons_succ] at f0 f1 f2 f3 f4 f5;obtain⟨z0,e0,rfl,w0⟩:=DataW.trod_int Tryz.underlying3 f0;obtain⟨R,e1,rfl,w1⟩:=DataW.trod_int Tryz.underlying5 f1;obtain⟨s2,e2,rfl,w2⟩:=DataW.trod_string Tryz.underlying9 f2;obtain⟨z3,e3,rfl,w3⟩:=DataW.trod_int Tryz.underlying25 f3;obtain⟨F,e4,rfl⟩:=DataW.trod_bool Tryz.underlying4 f4;obtain rfl:=List.singleton_inj.1 e0;obtain rfl:=List.singleton_inj.1 e1;obtain rfl:=List.singleton_inj.1 e2;obtain rfl:=List.singleton_inj.1 e3;obtain rfl:=List.singleton_inj.1 e4;have f6:DataW.trod enc Tryz.prog W 0 (fun _=>true) true n 26 ([v5].take (Tryz.prog.cellsOf 26))=some x5:=f5;rw[c5] at f6;have E:∃ k,KV z0 k:=by
   by_cases h:1<=z0/\z0<=21
   ·exact⟨z0.toNat,.inl ⟨by omega,by omega,by omega⟩⟩
   ·exact⟨0,.inr ⟨rfl,h⟩⟩
  obtain⟨k,E⟩:=E;have a2:0<=R/\R<=255:=wf_u8 w1;have a3:0<=z3/\z3 < 18446744073709551616:=ywv w3;obtain⟨l,rfl⟩:∃ l:UInt8,R=(l.toNat:Int):=⟨UInt8.ofNat R.toNat,by rw[UInt8.toNat_ofNat'];omega⟩;obtain⟨m,rfl⟩:∃ m:Nat,z3=(m:Int):=⟨z3.toNat,by omega⟩;obtain⟨nm,rfl⟩:∃ nm:List UInt8,s2=⟨nm.toArray⟩:=⟨s2.data.toList,by cases s2;simp⟩;have N:nm.length<=maxLen:=by
   have:(⟨nm.toArray⟩:ByteArray).size=nm.length:=rfl
   rwa[this] at w2
  rcases DataW.trod_slice Tryz.underlying26 f6 with⟨Y,rfl⟩|⟨a,g,cap,c,rest,n',rfl,Y,rfl,-,ad,aa,az,hE,-,-⟩
  ·obtain rfl:=List.singleton_inj.1 Y
   refine⟨_,_,_,_,_,_,.mk k l nm m F [],rfl,.mk (V:=fun _ _=>default) E (by omega) (Nat.zero_le _) (by unfold maxLen;omega) N (fun h=>absurd rfl h) (fun i b o j hi=>absurd hi (Nat.not_lt_zero _)) (fun i hi=>absurd hi (Nat.not_lt_zero _)),fun hb=>.mk ?_ (fun i hi=>absurd hi (Nat.not_lt_zero _))⟩;have:=ycr (H:=H) (d:=.lit (.string nm)) (l:=[.lit (.int .i64 z0),.lit (.int .u8 l.toNat),.lit (.string nm),.lit (.int .u64 m),.lit (.bool F),.nil]) (by simp);rw[ymb] at this;have s:Rows.uptoBulkAll (H:=H) [.lit (.int .i64 z0),.lit (.int .u8 l.toNat),.lit (.string nm),.lit (.int .u64 m),.lit (.bool F),.nil]+1<=1048576:=by simpa [Rows.uptoBulk] using hb
   omega
  ·obtain rfl:=List.singleton_inj.1 Y
   have an:Tryz.prog.cellsOf 28=6:=I;rw[I] at hE;have hk:∀ i,∃ t,i < g->∃ u z A B C D,(∀ j v,[u,z,A,B,C,D][j]? = some v->W.cell? ((a.add (i*6)).add j)=some v)/\yg W t (.agg #[u,z,A,B,C,D])/\(Rows.uptoBulkAll (c.map (·.1))<=1048576->Sml t):=by
    intro i
    by_cases hi:i < g
    ·have y:=hE i hi
     rw[lge (by omega)] at y;obtain⟨X,s,P⟩:=Option.bind_eq_some_iff.1 y;obtain⟨u,z,A,B,C,D,t,rfl,h4,Z⟩:=ih n' (by omega) X _ P;refine⟨t,fun _=>⟨u,z,A,B,C,D,(ytm s).2,h4,fun hb=>Z ?_⟩⟩;have:=ycr (H:=H) (d:=(c[i]'(by omega)).1) (l:=c.map (·.1)) (List.mem_map_of_mem (List.getElem_mem _));omega
    ·exact⟨.zero,fun h=>absurd h hi⟩
   obtain⟨T,Q⟩:=Classical.skolem.1 hk;have r:((List.range g).map T).length=g:=by simp
   have M:∀ i,i < g->((List.range g).map T).getD i .zero=T i:=fun i hi=>by
    rw[lgd,List.getElem?_map,List.getElem?_range hi];rfl
   have O:((List.range g).map T)≠[]->a=⟨a.block,a.off,none⟩:=fun ae=>by
    have hp:0 < g:=by
     rcases Nat.eq_zero_or_pos g with h|h
     ·exact absurd (by rw[h];rfl) ae
     ·exact h
    obtain⟨u,z,A,B,C,D,y,-,-⟩:=Q 0 hp;have s:=y 0 u rfl;obtain⟨ab,ap,S⟩:=a
    cases S with
    | none=>rfl
    | some q=>
     unfold World.cell? at s
     split at s<;>simp[Addr.add] at s
   have G:∀ i j,i < g->(a.add (i*6)).add j=⟨a.block,a.off+(i*6+j),none⟩:=fun i j hi=>by
    have y:=O (fun h=>by have:=congrArg List.length h;rw[r] at this;simp at this;omega);rw[y];exact ywb _ _ _ _
   have J:∀ i j,i < g->j < 6->∃ v,W.cell? ⟨a.block,a.off+(i*6+j),none⟩=some v:=fun i j hi hj=>by
    obtain⟨u,z,A,B,C,D,y,-,-⟩:=Q i hi;have s:=y j _ (lge (by simpa using hj));exact⟨_,by rw[<-s,G i j hi]⟩
   refine⟨_,_,_,_,_,_,.mk k l nm m F ((List.range g).map T),rfl,?_,fun hb=>?_⟩
   ·have:=yg.mk (w:=W) (kv:=z0) (k:=k) (l:=l) (nm:=nm) (n:=m) (f:=F) (kids:=(List.range g).map T) (ao:=some a) (cap:=cap) (V:=fun i j=>(W.cell? ⟨a.block,a.off+(i*6+j),none⟩).getD default) E (by omega) (by rw[r];exact ad) aa N (fun h=>⟨a.block,a.off,by rw[<-O h]⟩)
     (fun i b o j hi ha hj=>by
      rw[r] at hi;obtain rfl:=Option.some.inj ha;obtain⟨v,hv⟩:=J i j hi hj
      show W.cell? ⟨b,o+(i*6+j),none⟩=some ((W.cell? ⟨b,o+(i*6+j),none⟩).getD default)
      have ag:W.cell? ⟨b,o+(i*6+j),none⟩=some v:=hv;rw[ag];rfl)
     (fun i hi=>by
      rw[r] at hi;rw[M i hi];obtain⟨u,z,A,B,C,D,y,s,-⟩:=Q i hi;have e:∀ j v,[u,z,A,B,C,D][j]? = some v->(W.cell? ⟨a.block,a.off+(i*6+j),none⟩).getD default=v:=fun j v hv=>by
       have P:=y j v hv;rw[G i j hi] at P;rw[P];rfl
      show yg W (T i) (.agg #[(W.cell? ⟨a.block,a.off+(i*6+0),none⟩).getD default,(W.cell? ⟨a.block,a.off+(i*6+1),none⟩).getD default,(W.cell? ⟨a.block,a.off+(i*6+2),none⟩).getD default,(W.cell? ⟨a.block,a.off+(i*6+3),none⟩).getD default,(W.cell? ⟨a.block,a.off+(i*6+4),none⟩).getD default,(W.cell? ⟨a.block,a.off+(i*6+5),none⟩).getD default])
      rw[e 0 u rfl,e 1 z rfl,e 2 A rfl,e 3 B rfl,e 4 C rfl,e 5 D rfl];exact s)
    rw[r] at this;exact this
   ·have s:Rows.uptoBulkAll (H:=H) [.lit (.int .i64 z0),.lit (.int .u8 l.toNat),.lit (.string nm),.lit (.int .u64 m),.lit (.bool F),.slice (c.map (·.1)) (rest.map (·.1))]+1<=1048576:=by simpa [Rows.uptoBulk] using hb
    refine .mk ?_ (fun i hi=>?_)
    ·have:=ycr (H:=H) (d:=.lit (.string nm)) (l:=[.lit (.int .i64 z0),.lit (.int .u8 l.toNat),.lit (.string nm),.lit (.int .u64 m),.lit (.bool F),.slice (c.map (·.1)) (rest.map (·.1))]) (by simp)
     rw[ymb] at this;omega
    ·rw[r] at hi
     rw[M i hi];obtain⟨u,z,A,B,C,D,-,-,Z⟩:=Q i hi;refine Z ?_;have:=ycr (H:=H) (d:=.slice (c.map (·.1)) (rest.map (·.1))) (l:=[.lit (.int .i64 z0),.lit (.int .u8 l.toNat),.lit (.string nm),.lit (.int .u64 m),.lit (.bool F),.slice (c.map (·.1)) (rest.map (·.1))]) (by simp);simp only[Rows.uptoBulk] at this;omega
section
open Go.WideElems Go.Maps
def ye8:List (String×DataW Unit):=Rows.fnRustNewStyleUptoRow.laid
theorem gPow : Tryz.prog.globalNamed "internal/strconv.uint64pow10" = some 4 := by kernel_rfl
theorem tPow:(Tryz.prog.globals[4]?).map (·.type)=some 167:=by kernel_rfl
theorem gBas : Tryz.prog.globalNamed "loop.example/pub-g01453/pub/rustdemangle.rustBasicTypes" = some 3 := by kernel_rfl
theorem tBas:(Tryz.prog.globals[3]?).map (·.type)=some 156:=by kernel_rfl
theorem uX:U8Extra Tryz.prog Tryz.laysValid_ren:=⟨by kernel_rfl,by kernel_rfl,by kernel_rfl,by kernel_rfl,by kernel_rfl,by kernel_rfl,by kernel_rfl⟩
def ywt (c:Nat):Option (List UInt8):=
 match (Rows.laid_loop_example_pub_g01453_pub_rustdemangle_rustBasicTypes (H:=Unit)).atKey (.int .u8 c) .nil with
 | .lit (.string s)=>some s
 | .nil=>none
 | _=>some [0]
theorem yy4:∀ c:Fin 256,ywt c.val=kw (UInt8.ofNat c.val):=by decide +kernel
theorem yzm {W:World}(h:laidMetH Tryz.prog ye8 W):Gl W:=by
 rw[MakeChecks.laidMetH_plain _ _ _ (by kernel_rfl)] at h
 have K : Lib.VarReads Tryz.prog W "internal/strconv.uint64pow10" Rows.laid_internal_strconv_uint64pow10 := Lib.laidMet.reads h (by unfold ye8 Rows.fnRustNewStyleUptoRow; simp)
 have z : Lib.VarReads Tryz.prog W "unicode/utf8.acceptRanges" Rows.laid_unicode_utf8_acceptRanges := Lib.laidMet.reads h (by unfold ye8 Rows.fnRustNewStyleUptoRow; simp)
 have L : Lib.VarReads Tryz.prog W "loop.example/pub-g01453/pub/rustdemangle.rustBasicTypes" Rows.laid_loop_example_pub_g01453_pub_rustdemangle_rustBasicTypes := Lib.laidMet.reads h (by unfold ye8 Rows.fnRustNewStyleUptoRow; simp)
 have A : Lib.VarReads Tryz.prog W "unicode/utf8.first" Rows.laid_unicode_utf8_first := Lib.laidMet.reads h (by unfold ye8 Rows.fnRustNewStyleUptoRow; simp)
 have w:yec W:=by
  obtain⟨g,t,B,f,p,n,u,v,hd⟩:=K;obtain rfl:=Option.some.inj (gPow.symm.trans n);obtain rfl:=Option.some.inj (tPow.symm.trans u);unfold yec Lib.TabIs;rw[v,<-Lib.cells_of_tab (zs:=Lib.pow10Tab) Tryz.underlying167 Tryz.underlying25 (by kernel_rfl) (by kernel_rfl) hd]
 have H:yb1 W:=by
  have C:(Rows.laid_unicode_utf8_first:DataW Unit)=Lib.firstData:=Pinned.utf8First_eq;have D:(Rows.laid_unicode_utf8_acceptRanges:DataW Unit)=Lib.acceptData:=by kernel_rfl
  rw[C] at A;rw[D] at z;exact utf8Tabs_of_readsT (U8Types.of196 Tryz.laysValid) uX A z
 refine⟨H,w,fun w' hb=>w.below hb,fun w' hb=>?_⟩;obtain⟨g,t,B,f,p,n,u,v,hd⟩:=L;obtain rfl:=Option.some.inj (gBas.symm.trans n);obtain rfl:=Option.some.inj (tBas.symm.trans u)
 rcases WideElems.open_map Tryz.underlying156 hd with⟨_,o⟩|⟨bm,E,d,m,rfl,q,j,_,F,o⟩
 ·simp[Rows.laid_loop_example_pub_g01453_pub_rustdemangle_rustBasicTypes] at o
 simp only[Prod.mk.injEq] at o;have i:W.cell? ⟨3,0,none⟩=some (.map (some bm)):=by
  have:=World.var?_cell n v 0;rw[Array.eq_one_of_toList q] at this
  simpa using this
 obtain⟨x,rfl⟩:=ybj hb;have r:bm < W.heap.size:=(Array.getElem?_eq_some_iff.1 j).1;have k:(ovr W x).heap[bm]? = some (.map E d):=by rw[(qp W x).block bm r];exact j
 refine⟨bm,yf i x,fun c=>?_⟩;have J:(zeroValue 9).run Tryz.prog (ovr W x)=.ok (.string ⟨#[]⟩) (ovr W x):=by kernel_rfl
 have l:keyOf Tryz.prog 5 (.int .u8 (c.toNat:Int))=some (.int .u8 (c.toNat:Int)):=keyOf_int_mk Tryz.underlying5 (by
  have:=c.toNat_lt;have N:IntKind.u8.min=0:=rfl;have O:IntKind.u8.max=255:=rfl;simp only[Lit.wf,Bool.and_eq_true,decide_eq_true_eq]
  omega)
 have b:=yy4 ⟨c.toNat,c.toNat_lt⟩;simp only[UInt8.ofNat_toNat] at b;unfold ywt at b;rw[o.1] at b
 rcases fit_look true (int_keyed Tryz.underlying5) Tryz.underlying156 J k F l with⟨a,_,e⟩|⟨M,y,_,_,a,G,e,_⟩
 ·rw[e .nil] at b
  simp only[if_true] at a;rw[a,<-b];rfl
 ·obtain⟨s,I,rfl,_⟩:=WideElems.elemAt_string Tryz.underlying9 G
  rw[e .nil] at b;simp only[if_true] at a;rw[a,I,<-b];simp
end
section
open Go.ChangeShapes Go.WideShapes Go.ChangeAt
theorem own:ownKnob Tryz.prog.godebug=none:=by kernel_rfl
theorem yj9:laidOutB Tryz.prog=true:=by kernel_rfl
noncomputable def yar (os : Os) : World := (World.doorLaid Tryz.prog 400 os).layVars Tryz.prog (ye8.filter fun x => ["unicode/utf8.first"].contains x.1)
theorem yj8 (os:Os):(yar os).os=os:=World.layVars_os _ _ _
def yoi:List Nat:=(List.range 15).filter fun b=>b≠1
theorem ysm (os:Os)(args:Array Value):laidMetH Tryz.prog ye8 ((yar os).forCall (fun _ _=>0) ⟨#[],args,[]⟩).memory:=by
 rw[MakeChecks.laidMetH_plain _ _ _ (by kernel_rfl)];have a:laidMet Tryz.prog ye8 (yar os):=by
  refine laidMet_layVars (w0 := World.doorLaid Tryz.prog 400 os) ["unicode/utf8.first"] yoi (by unfold yar; exact rfl) (by kernel_rfl) (by kernel_rfl) ?_
  have e : (ye8.filter fun x => !["unicode/utf8.first"].contains x.1) = [("math/bits.deBruijn32tab", Rows.laid_math_bits_deBruijn32tab), ("math/bits.deBruijn64tab", Rows.laid_math_bits_deBruijn64tab), ("internal/strconv.uint64pow10", Rows.laid_internal_strconv_uint64pow10), ("unicode/utf8.acceptRanges", Rows.laid_unicode_utf8_acceptRanges), ("loop.example/pub-g01453/pub/rustdemangle.ErrNotMangledName", Rows.laid_loop_example_pub_g01453_pub_rustdemangle_ErrNotMangledName), ("loop.example/pub-g01453/pub/rustdemangle.rustBasicTypes", Rows.laid_loop_example_pub_g01453_pub_rustdemangle_rustBasicTypes)] := by kernel_rfl
  rw[e];exact LaidIn.of_run yoi 8 (by kernel_rfl) (by kernel_rfl) (by kernel_rfl) (by kernel_rfl)
 exact a.of_heap (by simp[World.memory,World.forCall,Input.heap])
theorem yum {H:Type}{enc:TypeId×Value->H}{W:World}{v:Value}{d:DataW H}{p:List MemPlace}(h:DataW.Trod enc Tryz.prog W 0 (fun _=>true) true 28 v d p)(hb:Rows.uptoBulk d<=1048576):∃ t,yg W t v/\Sml t:=by
 obtain⟨a,e⟩:=h;obtain⟨v0,v1,v2,v3,v4,v5,t,c,g,f⟩:=ypa a _ _ e;have i:v=.agg #[v0,v1,v2,v3,v4,v5]:=by
  cases v with
  | agg b=>
   have:b.toList=[v0,v1,v2,v3,v4,v5]:=c;rw[show b=#[v0,v1,v2,v3,v4,v5] from Array.toList_inj.1 this]
  | _=>have:=congrArg List.length c;simp[Value.cells] at this
 exact⟨t,by rw[i];exact g,f hb⟩
theorem yvg {H:Type}{enc:TypeId×Value->H}{W:World}{v:Value}{d:DataW H}{p:List MemPlace}{r:Nat}(hw:Value.okWide Tryz.prog W .any r 38 v)(h:DataW.Trod enc Tryz.prog W 0 (fun _=>true) true 38 v d p):∃ l,jk W v l:=by
 obtain⟨a,b,cap,rfl⟩:=okWide_slice Tryz.underlying38 hw;obtain⟨u,z⟩:=h
 rcases open_ints Tryz.underlying38 Tryz.underlying3 (by kernel_rfl) z with⟨i,_⟩|⟨x,l,c,zs,i,_,A,B,y,_,f,C⟩
 ·simp[Value.cells] at i
  obtain⟨rfl,rfl,rfl⟩:=i;exact⟨[],none,0,rfl,Nat.le_refl _,by unfold maxLen;omega,fun h=>absurd rfl h,fun g o s=>by cases s⟩
 ·simp[Value.cells] at i
  obtain⟨rfl,rfl,rfl⟩:=i;have y:zs.length=cap:=by simpa using y
  have m:(zs.take b).length=b:=by rw[List.length_take];omega
  have t:zs.take b≠[]->∃ g o,x=⟨g,o,none⟩:=fun j=>by
   have D:0 < b:=by
    rcases Nat.eq_zero_or_pos b with h|h
    ·exact absurd (by rw[h];rfl) j
    ·exact h
   have n:=f 0 (by omega);obtain⟨g,o,sp⟩:=x
   cases sp with
   | none=>exact⟨g,o,rfl⟩
   | some q=>
    unfold World.cell? at n
    split at n<;>simp[Addr.add] at n
  refine⟨zs.take b,some x,cap,by rw[m],by rw[m];exact A,B,fun j=>?_,fun g o s k w=>?_⟩
  ·obtain⟨g,o,rfl⟩:=t j;exact⟨g,o,rfl⟩
  ·obtain rfl:=Option.some.inj s
   rw[m] at w;have n:=f k (by omega);have e:(⟨g,o,none⟩:Addr).add k=⟨g,o+k,none⟩:=by
    unfold Addr.add
    split
    ·rename_i h;rw[h];rfl
    ·rfl
   rw[e] at n;rw[n]
   congr 2
   rw[lgd,lgd,List.getElem?_take,if_pos w]
theorem yv7 {H:Type}{d:DataW H}{l:List (DataW H)}(h:Rows.uptoSmall H l=true)(a:d∈l):Rows.uptoBulk d<=1048576:=
 Nat.le_trans (ycr a) (of_decide_eq_true h)
end
end Go.Proofs.YtfckcdbpiepchaaGreatDoor
