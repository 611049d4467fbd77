import Derived.Test.YtfckcdbpiepchaaGreatDoorNs19
import Derived.Test.YtfckcdbpiepchaaGreatDoorNs26
import Derived.Test.YtfckcdbpiepchaaGreatDoorNs35
namespace Go.Proofs.YtfckcdbpiepchaaGreatDoor
open Go.RowKit
set_option maxRecDepth 100000
set_option maxHeartbeats 8000000
set_option linter.all false
theorem yxo {l:List UInt8}(a:l.length<=4294967296)(ng:Bool)(mx:Int):(rs1 l ng mx).Wg:=
 ⟨by simp[rs1],by simp[rs1],by simpa [rs1] using a,by simp[rs1],by simp[rs1]⟩
theorem yxp {l:List UInt8}(ng:Bool)(mx:Int):At l l.length 0 0 0 (rs1 l ng mx):=
 ⟨by simp[rs1,Vw],rfl,rfl,rfl,Nat.zero_le _,Nat.le_refl _,by omega,fun h=>absurd rfl h⟩
theorem yr3 {c:UInt8}(h:gr .path c=true):x7 (c.toNat:Int)=false:=by
 unfold gr yb4 at h;simp only[Bool.or_eq_true,beq_iff_eq] at h
 rcases h with((((((h|h)|h)|h)|h)|h)|h)<;>(rw[h];rfl)
theorem yoc {ng:Bool}{v:Bool}{b:Nat}{t:ya}{x:List UInt8}(h:qq ng (.path v) b t x):x≠[]:=by
 obtain⟨d,hd,_⟩:=ykz h (.inl ⟨v,rfl⟩);rintro rfl
 cases hd
def yde (mx:Int)(l:List UInt8):List UInt8:=if 0 < mx/\mx < l.length then l.take mx.toNat else l
theorem yww {ng:Bool}{l:List UInt8}{mx:Int}{st:RS}{x:List UInt8}{n:Nat}(h:Wd (rs1 l ng mx) st x n)(f:x≠[]):yde mx st.out=yde mx x/\st.out≠[]/\st.max=mx/\st.nogen=ng:=by
 have e:st.max=mx:=h.mx;refine⟨?_,?_,e,h.ng⟩
 ·rcases h.o2 rfl with a|⟨⟨a,b⟩,c⟩
  ·rw[a];rfl
  ·rw[e] at a b c
   have d:(rs1 l ng mx).out++x=x:=rfl;rw[d] at c;have g:mx.toNat+1<=x.length:=yfq c (by omega);unfold yde;rw[if_pos ⟨a,b⟩,if_pos ⟨a,by omega⟩];have:=congrArg (List.take mx.toNat) c
   rwa[List.take_take,List.take_take,Nat.min_eq_left (by omega)] at this
 ·rcases h.o2 rfl with a|⟨⟨a,b⟩,c⟩
  ·rw[a];exact f
  ·rintro d
   rw[d] at b;simp at b;omega
theorem ypq {t:ya}{how:List Int}(e:Rt .path 24 0 t)(hw:t.wt<=300){W:WS}(f:W=wGo false how 24 t .zero)(hr:ycg W){s:List UInt8}(k:W.out <+: s)(b:Fl s W)(r:s.length<=4294967296)(ng:Bool) :
  ∃ x,qq ng (.path true) 0 t x/\gr .path (s.getD 0 0)=true/\s≠[]/\∀ mx,∃ N st g,jg N (.path true) (rs1 s ng mx)=some (some (st,g))/\Wd (rs1 s ng mx) st x (2000*t.wt-100)/\At s s.length 0 0 (y8 s s.length W) st:=by
 have a:=yva yiw e f hr k b (by omega);have i:=yxm (ng:=ng) a (Nat.le_refl _);obtain⟨c,p,q,d⟩:=qm a (Nat.le_refl _);obtain⟨x,l,j⟩:=i.1 true;refine⟨x,l,d,fun h=>by rw[h] at c;simp at c,fun mx=>?_⟩;obtain⟨st,g,m,n,o⟩:=j _ (rs1 s ng mx) (Nat.le_refl _) (yxp ng mx) rfl (by show 0+2000*t.wt<=_;omega);exact⟨_,st,g,m,n,o⟩
theorem ykw {w:World}{p:Nat}{st:RS}{c:UInt8}{r:List UInt8}{y z:Option RS}(C:RAt w p st)(u:st.str=c::r)(D:x7 (c.toNat:Int)=false)
  (j:Calls Tryz.prog 100 #[.pointer (some ⟨p,0,none⟩),.bool true] w fun e w'=>yia p w y e w')
  (n:∀ h,y=some h->h.str=[]->z=some h)
  (q:∀ h,y=some h->h.str≠[]->∀ w',RAt w' p { h with skip:=true }->Upd p w w'->Calls Tryz.prog 100 #[.pointer (some ⟨p,0,none⟩),.bool false] w' fun e l=>yia p w' z e l)
  (s:y=none->z=none) :
  Calls Tryz.prog 69 #[.pointer (some ⟨p,0,none⟩)] w fun e w'=>yia p w z e w':=by
 have k1:=C.str;rw[u] at k1;clear u;have H:=lh j;have v:=lh n;have x:=lh q;have A:=lh s;clear j n q s
 go_enter Tryz.func69,Tryz.ntmps69
 go_wp2_with(first|(go_at_call 99;refine(yb5 _ _).mono ?_;rintro e w' ⟨rfl,rfl⟩;rw[D]))
 refine H.out.mono ?_;intro e E k
 cases y with
 | none=>
  obtain⟨m,o,g,rfl,a,b⟩:=k;obtain rfl:=A.out rfl;go_wp2;exact⟨rfl,m,o,g,rfl,a,b⟩
 | some y=>
  obtain⟨rfl,a,b⟩:=k;have k2:=a.str
  by_cases i:y.str=[]
  ·rw[i] at k2
   obtain rfl:=v.out y rfl i;clear i;go_wp2;go_end0;exact⟨rfl,a,b⟩
  ·have t:0 < y.str.length:=List.length_pos_iff.2 i
   have k3:=a.skip;have f3:=a.free 5;have B:=lh (x.out y rfl i);clear i
   go_wp2_with fail
   refine(B.out _ (a.set_skip true) (b.set 5 _ (by omega))).mono ?_;intro e F k
   cases z with
   | none=>
    obtain⟨m,o,g,rfl,d,f⟩:=k;go_wp2;exact⟨rfl,m,o,g,rfl,d,(b.set 5 _ (by omega)).trans f⟩
   | some z=>
    obtain⟨rfl,d,f⟩:=k;go_wp2;go_end0;exact⟨rfl,d,(b.set 5 _ (by omega)).trans f⟩
theorem ykv {t:ya}{how:List Int}(q:Rt .path 24 0 t)(hw:t.wt<=300){W:WS}(s:W=wGo false how 24 t .zero)(hr:ycg W)(l:W.out.length<=4294967296)(ng:Bool) :
  ∃ x,qq ng (.path true) 0 t x/\∀ mx,∃ st,st.str=[]/\st.out≠[]/\st.max=mx/\yde mx st.out=yde mx x/\
   ∀ w p,Env p w->RAt w p (rs1 W.out ng mx)->Calls Tryz.prog 69 #[.pointer (some ⟨p,0,none⟩)] w fun e w'=>yia p w (some st) e w':=by
 have d:Fl W.out W:=fun _=>by
  rw[lgd,List.getElem?_eq_none (Nat.le_refl _)];rfl
 obtain⟨x,m,k,i,u⟩:=ypq q hw s hr (List.prefix_rfl) d l ng;refine⟨x,m,fun mx=>?_⟩;obtain⟨N,st,g,z,A,n⟩:=u mx;obtain⟨c1,c2,c3,c4⟩:=yww A (yoc m);have f:y8 W.out W.out.length W=W.out.length:=by unfold y8;rw[if_neg (by omega)]
 rw[f] at n;have a:st.str=[]:=by rw[n.str];exact yh8 (Nat.le_refl _)
 refine⟨st,a,c2,c3,c1,fun w p o j=>?_⟩;obtain⟨c,r,b⟩:∃ c r,W.out=c::r:=by
  cases h:W.out with
  | nil=>exact absurd h i
  | cons c r=>exact⟨c,r,rfl⟩
 refine ykw (y:=some st) j (show(rs1 W.out ng mx).str=c::r from b) (yr3 (by rw[b] at k;exact k)) ?_ (fun B h _=>h) (fun B h v=>?_) (fun h=>by cases h)
 ·have:=ye2 N (.path true) _ _ z (yxo l ng mx) w p j o
  exact this.mono fun e w' h=>h.1
 ·cases h;exact absurd a v
def ygg (o:Int):Prop:=(0<=o/\o<=6)\/∃ p:Nat,1<=p/\p<=30/\o=((p*65536:Nat):Int)
def gj (a:Bool×Int)(o:Int):Bool×Int:=if o=1 then(true,a.2) else if o<=6 then a else(a.1,((2 ^ (o / 65536).toNat:Nat):Int))
theorem yi3 {o:Int}(h:ygg o)(w:World):Calls Tryz.prog 67 #[.int .i64 o] w fun e w'=>e=.returned (.bool (decide (6 < o)))/\w'=w:=by
 rcases h with⟨a,b⟩|⟨p,a,b,rfl⟩
 ·have:o=0\/o=1\/o=2\/o=3\/o=4\/o=5\/o=6:=by omega
  clear a b
  rcases this with rfl|rfl|rfl|rfl|rfl|rfl|rfl
  all_goals
   go_enter Tryz.func67,Tryz.ntmps67
   go_wp2;go_ret
   exact⟨rfl,rfl⟩
 ·have:p=1\/p=2\/p=3\/p=4\/p=5\/p=6\/p=7\/p=8\/p=9\/p=10\/p=11\/p=12\/p=13\/p=14\/p=15\/p=16\/p=17\/p=18\/p=19\/p=20\/p=21\/p=22\/p=23\/p=24\/p=25\/p=26\/p=27\/p=28\/p=29\/p=30:=by omega
  clear a b
  rcases this with rfl|rfl|rfl|rfl|rfl|rfl|rfl|rfl|rfl|rfl|rfl|rfl|rfl|rfl|rfl|rfl|rfl|rfl|rfl|rfl|rfl|rfl|rfl|rfl|rfl|rfl|rfl|rfl|rfl|rfl
  all_goals
   go_enter Tryz.func67,Tryz.ntmps67
   go_wp2;go_ret
   exact⟨rfl,rfl⟩
theorem ym6 {p:Nat}(b:1<=p)(c:p<=30)(w:World):Calls Tryz.prog 68 #[.int .i64 ((p*65536:Nat):Int)] w fun e w'=>e=.returned (.int .i64 ((2 ^ p:Nat):Int))/\w'=w:=by
 have:p=1\/p=2\/p=3\/p=4\/p=5\/p=6\/p=7\/p=8\/p=9\/p=10\/p=11\/p=12\/p=13\/p=14\/p=15\/p=16\/p=17\/p=18\/p=19\/p=20\/p=21\/p=22\/p=23\/p=24\/p=25\/p=26\/p=27\/p=28\/p=29\/p=30:=by omega
 clear b c
 rcases this with rfl|rfl|rfl|rfl|rfl|rfl|rfl|rfl|rfl|rfl|rfl|rfl|rfl|rfl|rfl|rfl|rfl|rfl|rfl|rfl|rfl|rfl|rfl|rfl|rfl|rfl|rfl|rfl|rfl|rfl
 ·have a:bits BinOp.and IntKind.i64 65536 2031616=65536:=by decide
  go_enter Tryz.func68,Tryz.ntmps68
  go_wp2;go_ret
  exact⟨rfl,rfl⟩
 ·have a:bits BinOp.and IntKind.i64 131072 2031616=131072:=by decide
  go_enter Tryz.func68,Tryz.ntmps68
  go_wp2;go_ret
  exact⟨rfl,rfl⟩
 ·have a:bits BinOp.and IntKind.i64 196608 2031616=196608:=by decide
  go_enter Tryz.func68,Tryz.ntmps68
  go_wp2;go_ret
  exact⟨rfl,rfl⟩
 ·have a:bits BinOp.and IntKind.i64 262144 2031616=262144:=by decide
  go_enter Tryz.func68,Tryz.ntmps68
  go_wp2;go_ret
  exact⟨rfl,rfl⟩
 ·have a:bits BinOp.and IntKind.i64 327680 2031616=327680:=by decide
  go_enter Tryz.func68,Tryz.ntmps68
  go_wp2;go_ret
  exact⟨rfl,rfl⟩
 ·have a:bits BinOp.and IntKind.i64 393216 2031616=393216:=by decide
  go_enter Tryz.func68,Tryz.ntmps68
  go_wp2;go_ret
  exact⟨rfl,rfl⟩
 ·have a:bits BinOp.and IntKind.i64 458752 2031616=458752:=by decide
  go_enter Tryz.func68,Tryz.ntmps68
  go_wp2;go_ret
  exact⟨rfl,rfl⟩
 ·have a:bits BinOp.and IntKind.i64 524288 2031616=524288:=by decide
  go_enter Tryz.func68,Tryz.ntmps68
  go_wp2;go_ret
  exact⟨rfl,rfl⟩
 ·have a:bits BinOp.and IntKind.i64 589824 2031616=589824:=by decide
  go_enter Tryz.func68,Tryz.ntmps68
  go_wp2;go_ret
  exact⟨rfl,rfl⟩
 ·have a:bits BinOp.and IntKind.i64 655360 2031616=655360:=by decide
  go_enter Tryz.func68,Tryz.ntmps68
  go_wp2;go_ret
  exact⟨rfl,rfl⟩
 ·have a:bits BinOp.and IntKind.i64 720896 2031616=720896:=by decide
  go_enter Tryz.func68,Tryz.ntmps68
  go_wp2;go_ret
  exact⟨rfl,rfl⟩
 ·have a:bits BinOp.and IntKind.i64 786432 2031616=786432:=by decide
  go_enter Tryz.func68,Tryz.ntmps68
  go_wp2;go_ret
  exact⟨rfl,rfl⟩
 ·have a:bits BinOp.and IntKind.i64 851968 2031616=851968:=by decide
  go_enter Tryz.func68,Tryz.ntmps68
  go_wp2;go_ret
  exact⟨rfl,rfl⟩
 ·have a:bits BinOp.and IntKind.i64 917504 2031616=917504:=by decide
  go_enter Tryz.func68,Tryz.ntmps68
  go_wp2;go_ret
  exact⟨rfl,rfl⟩
 ·have a:bits BinOp.and IntKind.i64 983040 2031616=983040:=by decide
  go_enter Tryz.func68,Tryz.ntmps68
  go_wp2;go_ret
  exact⟨rfl,rfl⟩
 ·have a:bits BinOp.and IntKind.i64 1048576 2031616=1048576:=by decide
  go_enter Tryz.func68,Tryz.ntmps68
  go_wp2;go_ret
  exact⟨rfl,rfl⟩
 ·have a:bits BinOp.and IntKind.i64 1114112 2031616=1114112:=by decide
  go_enter Tryz.func68,Tryz.ntmps68
  go_wp2;go_ret
  exact⟨rfl,rfl⟩
 ·have a:bits BinOp.and IntKind.i64 1179648 2031616=1179648:=by decide
  go_enter Tryz.func68,Tryz.ntmps68
  go_wp2;go_ret
  exact⟨rfl,rfl⟩
 ·have a:bits BinOp.and IntKind.i64 1245184 2031616=1245184:=by decide
  go_enter Tryz.func68,Tryz.ntmps68
  go_wp2;go_ret
  exact⟨rfl,rfl⟩
 ·have a:bits BinOp.and IntKind.i64 1310720 2031616=1310720:=by decide
  go_enter Tryz.func68,Tryz.ntmps68
  go_wp2;go_ret
  exact⟨rfl,rfl⟩
 ·have a:bits BinOp.and IntKind.i64 1376256 2031616=1376256:=by decide
  go_enter Tryz.func68,Tryz.ntmps68
  go_wp2;go_ret
  exact⟨rfl,rfl⟩
 ·have a:bits BinOp.and IntKind.i64 1441792 2031616=1441792:=by decide
  go_enter Tryz.func68,Tryz.ntmps68
  go_wp2;go_ret
  exact⟨rfl,rfl⟩
 ·have a:bits BinOp.and IntKind.i64 1507328 2031616=1507328:=by decide
  go_enter Tryz.func68,Tryz.ntmps68
  go_wp2;go_ret
  exact⟨rfl,rfl⟩
 ·have a:bits BinOp.and IntKind.i64 1572864 2031616=1572864:=by decide
  go_enter Tryz.func68,Tryz.ntmps68
  go_wp2;go_ret
  exact⟨rfl,rfl⟩
 ·have a:bits BinOp.and IntKind.i64 1638400 2031616=1638400:=by decide
  go_enter Tryz.func68,Tryz.ntmps68
  go_wp2;go_ret
  exact⟨rfl,rfl⟩
 ·have a:bits BinOp.and IntKind.i64 1703936 2031616=1703936:=by decide
  go_enter Tryz.func68,Tryz.ntmps68
  go_wp2;go_ret
  exact⟨rfl,rfl⟩
 ·have a:bits BinOp.and IntKind.i64 1769472 2031616=1769472:=by decide
  go_enter Tryz.func68,Tryz.ntmps68
  go_wp2;go_ret
  exact⟨rfl,rfl⟩
 ·have a:bits BinOp.and IntKind.i64 1835008 2031616=1835008:=by decide
  go_enter Tryz.func68,Tryz.ntmps68
  go_wp2;go_ret
  exact⟨rfl,rfl⟩
 ·have a:bits BinOp.and IntKind.i64 1900544 2031616=1900544:=by decide
  go_enter Tryz.func68,Tryz.ntmps68
  go_wp2;go_ret
  exact⟨rfl,rfl⟩
 ·have a:bits BinOp.and IntKind.i64 1966080 2031616=1966080:=by decide
  go_enter Tryz.func68,Tryz.ntmps68
  go_wp2;go_ret
  exact⟨rfl,rfl⟩
theorem RAt.set_nogen {w:World}{p:Nat}{st:RS}(h:RAt w p st)(x:Bool):RAt (w.setCell ⟨p,8,none⟩ (.bool x)) p { st with nogen:=x }:=by
 obtain⟨a,e,hb,b,c,d⟩:=h;exact⟨a,e,by rw[zb hb];rfl,b,c,ownsRow_setCell_below d (by simp) _⟩
theorem RAt.set_max {w:World}{p:Nat}{st:RS}(h:RAt w p st)(x:Int):RAt (w.setCell ⟨p,9,none⟩ (.int .i64 x)) p { st with max:=x }:=by
 obtain⟨a,e,hb,b,c,d⟩:=h;exact⟨a,e,by rw[zb hb];rfl,b,c,ownsRow_setCell_below d (by simp) _⟩
theorem RAt.cell8 {w:World}{p:Nat}{st:RS}(h:RAt w p st):w.cell? ⟨p,8,none⟩=some (.bool st.nogen):=by
 obtain⟨a,b,hb,_⟩:=h;exact ja hb 8 (by simp[ju])
theorem vm {A B:Nat}{w w':World}(h:Below B w w')(a:A<=B):Below A w w':=⟨h.os,h.tape,h.output,h.size,fun k b=>h.block k (by omega)⟩
structure yie (w:World)(p:Nat)(l:List UInt8)(ng:Bool)(mx:Int):Prop where
 at_:RAt w p (rs1 l ng mx)
 buf:jn w p=none
theorem yie.set_nogen {w:World}{p:Nat}{l:List UInt8}{ng:Bool}{mx:Int}(h:yie w p l ng mx):yie (w.setCell ⟨p,8,none⟩ (.bool true)) p l true mx:=
 ⟨h.at_.set_nogen true,by rw[yfy (by decide)];exact h.buf⟩
theorem yie.set_max {w:World}{p:Nat}{l:List UInt8}{ng:Bool}{mx:Int}(h:yie w p l ng mx)(x:Int):yie (w.setCell ⟨p,9,none⟩ (.int .i64 x)) p l ng x:=
 ⟨h.at_.set_max x,by rw[yfy (by decide)];exact h.buf⟩
theorem yr6 {b:List Int}{k:Nat}(h:k < b.length)(a:Bool×Int):(b.take (k+1)).foldl gj a=gj ((b.take k).foldl gj a) (b.getD k 0):=by
 rw[lts h,List.foldl_append,lgd,lge h];rfl
theorem yjw {w:World}{l:List UInt8}{so:Value}{t:List Int}{z:RS}{ng:Bool}{mx:Int}(hl:l.length<=4294967000)(hd:∀ c∈l,c≠46)(hO:jk w so t)(W:∀ o∈t,ygg o)
  (hF:t.foldl gj (false,0)=(ng,mx)) (hz:z.str=[]) (hm:z.max=mx) (ho:z.out≠[])
  (T:∀ w' p,Below w.heap.size w w'->w.heap.size<=p->RAt w' p (rs1 l ng mx)->Calls Tryz.prog 69 #[.pointer (some ⟨p,0,none⟩)] w' fun e A=>yia p w' (some z) e A) :
  Calls Tryz.prog 45 #[.string ⟨(95::82::l).toArray⟩,so] w fun e w'=>e=.returned (.tuple #[.string ⟨(yde mx z.out).toArray⟩,.nilIface])/\Below w.heap.size w w':=by
 have a9:∀ (fn:Fn) (first cap:Array Value) (w:World),(Instr.makeFunc fn first cap).run Tryz.prog w=.ok (.func fn first cap) w:=fun _ _ _ _=>rfl;have Y:Lib.hasPrefix (⟨(95::82::l).toArray⟩:ByteArray).data.toList (⟨#[95,82]⟩:ByteArray).data.toList=true:=by simp[Lib.hasPrefix]
 have aq:Hid (∀ c∈(95::82::l:List UInt8),c≠46):=by
  intro c H
  rcases List.mem_cons.1 H with rfl|H
  ·decide
  ·rcases List.mem_cons.1 H with rfl|H
   ·decide
   ·exact hd c H
 obtain⟨oa,oc,rfl,bb,ar,U,V⟩:=hO;have HI:=lh T;have ak:=lh W;have HF:=lh hF;have H3:=lh U;have H4:=lh V;unfold maxLen at ar;clear T hd W hF U V
 go_enter_defers Tryz.func45,Tryz.ntmps45
 go_wp2_with(first
  | (go_at_call 64;refine(Tryz.strings_HasPrefix _ _ _).mono ?_;rintro e w' ⟨rfl,rfl⟩;rw[Y])
  | (go_at_call 66;refine(ykq (95::82::l) (by simp;omega) aq.out _).mono ?_;rintro e w' ⟨rfl,rfl⟩))
 have D:∀ o,Below (w.heap.size+1+1) ((w.alloc (Obj.cells #[Value.string ⟨#[]⟩] 9)).alloc (Obj.cells #[Value.nilIface] 56)) (((w.alloc (Obj.cells #[Value.string ⟨#[]⟩] 9)).alloc (Obj.cells #[Value.nilIface] 56)).alloc o):=fun o=>(Below.refl _ _).alloc (by simp) o;have E:Below w.heap.size w ((w.alloc (Obj.cells #[Value.string ⟨#[]⟩] 9)).alloc (Obj.cells #[Value.nilIface] 56)):=((Below.refl _ w).alloc (Nat.le_refl _) _).alloc (by simp) _;have N:=lh D;have C:=lh E;have al:=lh (yyq w l (Obj.cells #[Value.string ⟨#[]⟩] 9) (Obj.cells #[Value.nilIface] 56));have ai:=lh (yne w l (Obj.cells #[Value.string ⟨#[]⟩] 9) (Obj.cells #[Value.nilIface] 56));have Z:((w.alloc (Obj.cells #[Value.string ⟨#[]⟩] 9)).alloc (Obj.cells #[Value.nilIface] 56)).cell? ⟨w.heap.size,0,none⟩=some (.string ⟨#[]⟩):=by go_simp
 have aa:((w.alloc (Obj.cells #[Value.string ⟨#[]⟩] 9)).alloc (Obj.cells #[Value.nilIface] 56)).cell? ⟨w.heap.size+1,0,none⟩=some .nilIface:=by simp[go_sem]
 have O:((w.alloc (Obj.cells #[Value.string ⟨#[]⟩] 9)).alloc (Obj.cells #[Value.nilIface] 56)).frozen? ⟨w.heap.size,0,none⟩=false:=by go_simp
 have P:((w.alloc (Obj.cells #[Value.string ⟨#[]⟩] 9)).alloc (Obj.cells #[Value.nilIface] 56)).frozen? ⟨w.heap.size+1,0,none⟩=false:=by simp[go_sem]
 have G:((w.alloc (Obj.cells #[Value.string ⟨#[]⟩] 9)).alloc (Obj.cells #[Value.nilIface] 56)).heap.size=w.heap.size+1+1:=by simp
 have am:=lh Z;have an:=lh aa;have ag:=lh O;have ah:=lh P;have az:=lh G;clear D E Z aa O P G
 go_loopw [10,38] (fun _ i wr=>∃ (k:Nat) (b:Bool) (j:Int),k<=t.length/\i=.int .i64 k/\yie wr (w.heap.size+1+1) l b j/\Hid ((t.take k).foldl gj (false,0)=(b,j))/\Hid (Below (w.heap.size+1+1) ((w.alloc (Obj.cells #[Value.string ⟨#[]⟩] 9)).alloc (Obj.cells #[Value.nilIface] 56)) wr)) (fun _ i _=>t.length-(intOf i).toNat)
 case atStart=>exact⟨0,false,0,by omega,rfl,⟨al.out,ai.out⟩,lh rfl,lh (N.out _)⟩
 case round=>
  obtain⟨k,b,j,hk,rfl,d,HT,r⟩:=hrel;have v:Below w.heap.size w wr:=C.out.trans (vm r.out (by omega))
  by_cases q:k < t.length
  ·obtain⟨g,o,rfl⟩:=H3.out (fun h=>by rw[h] at q;simp at q)
   have H:wr.cell? ⟨g,o+k,none⟩=some (.int .i64 (t.getD k 0)):=by
    obtain⟨x,hx⟩:=ybj v;rw[hx];exact yf (H4.out g o rfl k q) x
   have I:ygg (t.getD k 0):=by
    rw[lgd,lge q];exact ak.out _ (List.getElem_mem q)
   have K:=yr6 q (false,0);rw[HT.out] at K;have n:=lh K;have k8:=d.at_.cell8;have k9:=d.at_.max;have f8:=d.at_.free 8;have f9:=d.at_.free 9;have m:=lh d;clear K HT d v;generalize t.getD k 0=y at H I n
   by_cases h1:y=1
   ·subst h1
    clear I;go_wp2
    go_roundw
    case rel=>exact⟨k+1,true,j,by omega,by go_num,m.out.set_nogen,lh n.out,lh (r.out.setCell (by simp) _)⟩
    case measure=>simp[intOf];omega
   ·have q1:(y == 1)=false:=by simpa using h1
    rcases I with⟨h2,Q⟩|⟨pw,h2,Q,rfl⟩
    ·have J:gj (b,j) y=(b,j):=by unfold gj;rw[if_neg h1,if_pos Q]
     rw[J] at n;have hM:Hid (ygg y):=lh (.inl ⟨h2,Q⟩);have q3:decide (6 < y)=false:=decide_eq_false (by omega)
     go_wp2_with(go_at_call 67;refine(yi3 hM.out _).mono ?_;rintro e w' ⟨rfl,rfl⟩;rw[q3])
     go_roundw
     case rel=>exact⟨k+1,b,j,by omega,by go_num,m.out,n,r⟩
     case measure=>simp[intOf];omega
    ·have J:gj (b,j) ((pw*65536:Nat):Int)=(b,((2 ^ pw:Nat):Int)):=by
      unfold gj;rw[if_neg h1,if_neg (by omega),show(((pw*65536:Nat):Int) / 65536).toNat=pw by omega]
     rw[J] at n;have hM:Hid (ygg ((pw*65536:Nat):Int)):=lh (.inr ⟨pw,h2,Q,rfl⟩);have q3:decide (6 < ((pw*65536:Nat):Int))=true:=decide_eq_true (by omega);have ap:Hid (∀ w,Calls Tryz.prog 68 #[.int .i64 ((pw*65536:Nat):Int)] w fun e w'=>e=.returned (.int .i64 ((2 ^ pw:Nat):Int))/\w'=w):=lh (ym6 h2 Q);generalize ((pw*65536:Nat):Int)=y at *;generalize ((2 ^ pw:Nat):Int)=m2 at *
     go_wp2_with(first|(go_at_call 67;refine(yi3 hM.out _).mono ?_;rintro e w' ⟨rfl,rfl⟩;rw[q3])|(go_at_call 68;refine(ap.out _).mono ?_;rintro e w' ⟨rfl,rfl⟩))
     go_roundw
     case rel=>exact⟨k+1,b,m2,by omega,by go_num,m.out.set_max m2,n,lh (r.out.setCell (by simp) _)⟩
     case measure=>simp[intOf];omega
  ·obtain rfl:k=t.length:=by omega
   have s:=HT.out;rw[List.take_length,HF.out] at s;obtain⟨rfl,rfl⟩:=Prod.mk.inj s;have m:=lh d;have B:=lh v;clear d v s HT
   go_wp2_with fail
   refine(HI.out _ (w.heap.size+1+1) B.out (by omega) m.out.at_).mono ?_;rintro e w1 ⟨rfl,u,R⟩;have s1:w1.cell? ⟨w.heap.size+1+1,1,none⟩=some (.string ⟨#[]⟩):=by have:=u.str;rw[hz] at this;exact this
   have m1:w1.cell? ⟨w.heap.size+1+1,9,none⟩=some (.int .i64 z.max):=u.max
   go_wp2_with fail
   refine(ykm u ho).mono ?_;rintro e L ⟨rfl,S,X⟩;have k2:=(R.trans S).under m.out.buf (w.heap.size+1+1) (Nat.le_refl _) (by have:=B.out.size;have:=m.out.at_.lt;omega);have m2:L.cell? ⟨w.heap.size+1+1,9,none⟩=some (.int .i64 z.max):=by rw[<-m1];exact World.cell?_of_block (w:=w1) (a:=⟨w.heap.size+1+1,9,none⟩) X
   have k3:=r.out.trans k2;have r0:L.cell? ⟨w.heap.size,0,none⟩=some (.string ⟨#[]⟩):=by rw[k3.cell (p:=⟨w.heap.size,0,none⟩) (by simp;omega)];exact am.out
   have r1:L.cell? ⟨w.heap.size+1,0,none⟩=some .nilIface:=by rw[k3.cell (p:=⟨w.heap.size+1,0,none⟩) (by simp)];exact an.out
   have f0:L.frozen? ⟨w.heap.size,0,none⟩=false:=by rw[k3.frozen (p:=⟨w.heap.size,0,none⟩) (by simp;omega)];exact ag.out
   have f1:L.frozen? ⟨w.heap.size+1,0,none⟩=false:=by rw[k3.frozen (p:=⟨w.heap.size+1,0,none⟩) (by simp)];exact ah.out
   have HK:Hid (Below w.heap.size w L):=lh (C.out.trans (vm k3 (by omega)));clear k2 k3 R S u s1 m1 X;rw[hm] at m2;clear hm hz HI
   by_cases h0:0 < mx
   ·by_cases F:mx < z.out.length
    ·obtain⟨mn,rfl⟩:∃ mn:Nat,mx=(mn:Int):=⟨mx.toNat,by omega⟩
     have hcut:yde (mn:Int) z.out=z.out.take mn:=by unfold yde;rw[if_pos ⟨h0,F⟩];rfl
     have M:=lh hcut;clear hcut
     go_wp2_with fail
     refine leaves_cons (f:=65) (args:=#[.pointer (some ⟨w.heap.size,0,none⟩),.pointer (some ⟨w.heap.size+1,0,none⟩)]) (by simp) (by simp[go_sem]) ?_;refine(ysr _ _ _).mono ?_;rintro e u' A ⟨rfl,rfl,rfl⟩;simp[Leaves,settle,results,Tryz.results45,go_sem,r0,r1,M.out];refine Below.setCell (Below.setCell HK.out ?_ _) ?_ _<;>first|exact Nat.le_refl _|exact Nat.le_succ _|(simp;done)
    ·have hcut:yde mx z.out=z.out:=by unfold yde;rw[if_neg (fun h=>F h.2)]
     have M:=lh hcut;clear hcut
     go_wp2_with fail
     refine leaves_cons (f:=65) (args:=#[.pointer (some ⟨w.heap.size,0,none⟩),.pointer (some ⟨w.heap.size+1,0,none⟩)]) (by simp) (by simp[go_sem]) ?_;refine(ysr _ _ _).mono ?_;rintro e u' A ⟨rfl,rfl,rfl⟩;simp[Leaves,settle,results,Tryz.results45,go_sem,r0,r1,M.out];refine Below.setCell (Below.setCell HK.out ?_ _) ?_ _<;>first|exact Nat.le_refl _|exact Nat.le_succ _|(simp;done)
   ·have hcut:yde mx z.out=z.out:=by unfold yde;rw[if_neg (fun h=>h0 h.1)]
    have M:=lh hcut;clear hcut
    go_wp2_with fail
    refine leaves_cons (f:=65) (args:=#[.pointer (some ⟨w.heap.size,0,none⟩),.pointer (some ⟨w.heap.size+1,0,none⟩)]) (by simp) (by simp[go_sem]) ?_;refine(ysr _ _ _).mono ?_;rintro e u' A ⟨rfl,rfl,rfl⟩;simp[Leaves,settle,results,Tryz.results45,go_sem,r0,r1,M.out];refine Below.setCell (Below.setCell HK.out ?_ _) ?_ _<;>first|exact Nat.le_refl _|exact Nat.le_succ _|(simp;done)
def ydj (b0 b1 b2 b3 b4 b5 b6:Bool)(mx:Int):Value:=.agg #[.bool b0,.bool b1,.bool b2,.bool b3,.bool b4,.bool b5,.bool b6,.int .i64 mx]
def kg (b:Bool)(z:Int):List Int:=if b=true then [z] else []
def yii (b0 b1 b2 b3 b4 b5 b6:Bool)(p:Nat):List Int:=kg b0 0++kg b1 1++kg b2 2++kg b3 3++kg b4 4++kg b5 5++kg b6 6++kg (decide (0 < p)) ((p*65536:Nat):Int)
theorem yx5 {w:World}{B s n:Nat}{e:TypeId}{v:Value}{xs:List Value}(h:w.ownsRow B e s v n xs):∃ a c,v=.slice a n c:=by
 rcases h.2 with⟨rfl,rfl⟩|⟨g,cap,b,rfl,_⟩
 ·exact⟨none,0,rfl⟩
 ·exact⟨_,cap,rfl⟩
theorem ybo (b:Bool)(z:Int):(kg b z).length<=1:=by cases b<;>simp[kg]
theorem Tryz.infoOpt: (Tryz.prog.info? 80).map (fun i=>(i.zero,i.size,i.bytes))=some (some (.int .i64 0),1,8):=by kernel_rfl
structure yex (W w:World)(v:Value)(l:List Int):Prop where
 own:w.ownsRow W.heap.size 80 1 v l.length (ints l)
 low:Below W.heap.size W w
 le:l.length<=100
theorem yex.sl {W w:World}{v:Value}{l:List Int}(h:yex W w v l):∃ a c,v=.slice a l.length c:=yx5 h.own
theorem yex.app {W w c:World}{v v2:Value}{l:List Int}(h:yex W w v l)(o:Obj){z:Int}(b:(w.alloc o).grownBy c v.ownBlock)(f:c.ownsRow W.heap.size 80 1 v2 (l.length+1) (ints l++[.int .i64 z]))(g:l.length<=99):yex W c v2 (l++[z]):=by
 have a:Below W.heap.size W (w.alloc o):=h.low.alloc h.low.size o;refine⟨?_,⟨b.os.trans a.os,b.tape.trans a.tape,b.output.trans a.output,Nat.le_trans a.size b.size,fun k d=>?_⟩,by simp;omega⟩
 ·have:ints (l++[z])=ints l++[.int .i64 z]:=by simp[ints]
  rw[this,List.length_append];exact f
 ·rw[b.block k (Nat.lt_of_lt_of_le d a.size) (fun e=>?_),a.block k d]
  have:=(ygn h.own e.symm).1;omega
theorem yex.ints {W w:World}{v:Value}{l:List Int}(h:yex W w v l):jk w v l:=by
 obtain⟨a,c,rfl⟩:=h.sl;obtain⟨s,t,r,x,n,p⟩:=zq h.own
 cases r
 refine⟨a,c,rfl,n,p,fun j=>?_,fun g o m k q=>?_⟩
 ·rcases h.own.2 with⟨b,e⟩|⟨g,d,f,b,_⟩
  ·exact absurd (List.length_eq_zero_iff.1 e) j
  ·simp only[Value.slice.injEq] at b;exact⟨g,0,b.1⟩
 ·have i:o=0:=by
   rcases h.own.2 with⟨b,e⟩|⟨u,d,f,b,_⟩
   ·omega
   ·simp only[Value.slice.injEq] at b;rw[m] at b;simp at b;exact b.1.2
  subst m;subst i;have:=h.own.cells (g:=g) rfl k (.int .i64 (l.getD k 0)) (by unfold Go.Proofs.YtfckcdbpiepchaaGreatDoor.ints;rw[List.getElem?_map,lgd,lge q];rfl)
  rwa[show(⟨g,0,none⟩:Addr).add k=⟨g,0+k,none⟩ by simp[Addr.add];omega] at this
theorem ym5 {p:Nat}(a:1<=p)(b:p<=30)(w:World):Calls Tryz.prog 46 #[.int .i64 p] w fun e w'=>e=.returned (.int .i64 ((p*65536:Nat):Int))/\w'=w:=by
 have:p=1\/p=2\/p=3\/p=4\/p=5\/p=6\/p=7\/p=8\/p=9\/p=10\/p=11\/p=12\/p=13\/p=14\/p=15\/p=16\/p=17\/p=18\/p=19\/p=20\/p=21\/p=22\/p=23\/p=24\/p=25\/p=26\/p=27\/p=28\/p=29\/p=30:=by omega
 clear a b
 rcases this with rfl|rfl|rfl|rfl|rfl|rfl|rfl|rfl|rfl|rfl|rfl|rfl|rfl|rfl|rfl|rfl|rfl|rfl|rfl|rfl|rfl|rfl|rfl|rfl|rfl|rfl|rfl|rfl|rfl|rfl
 all_goals
  go_enter Tryz.func46,Tryz.ntmps46
  go_wp2;go_ret
  exact⟨rfl,rfl⟩
theorem ysl (b0 b1 o q r s t:Bool){p:Nat}(Z:p<=30)(w:World) :
  Calls Tryz.prog 36 #[ydj b0 b1 o q r s t p] w fun e w'=>∃ so,e=.returned so/\jk w' so (yii b0 b1 o q r s t p)/\Below w.heap.size w w':=by
 obtain⟨i0,hi,k,l,m⟩:=info_parts Tryz.infoOpt;unfold ydj;obtain⟨W,G⟩:∃ W,W=w.alloc (.cells #[.bool b0,.bool b1,.bool o,.bool q,.bool r,.bool s,.bool t,.int .i64 p] 24):=⟨_,rfl⟩;have T:Hid (Below w.heap.size w W):=lh (by rw[G];exact(Below.refl _ w).alloc (Nat.le_refl _) _);have A:Hid (W.heap.size=w.heap.size+1):=lh (by rw[G];simp);have y:W.heap[w.heap.size]? = some (.cells #[.bool b0,.bool b1,.bool o,.bool q,.bool r,.bool s,.bool t,.int .i64 p] 24 (0,0)):=by rw[G];exact ym w _
 have hB:Hid (∀ w',Below W.heap.size W w'->w'.heap[w.heap.size]? = some (.cells #[.bool b0,.bool b1,.bool o,.bool q,.bool r,.bool s,.bool t,.int .i64 p] 24 (0,0))):=lh (fun w' h=>by rw[h.block _ (by have:=A.out;omega)];exact y);have H:yex W W (.slice none 0 0) []:=⟨W.ownsRow_nil _ _ _,Below.refl _ _,Nat.zero_le _⟩;have K:W.cell? ⟨w.heap.size,0,none⟩=some (.bool b0):=zm y rfl;clear y
 go_enter Tryz.func36,Tryz.ntmps36
 go_upto_region 1 with fail
 rw[<-G];clear G;have j:([]:List Int).length<=0:=Nat.le_refl _
 go_upto_if 5 with fail
 go_cut [3] (fun v n=>yex W n v (([]:List Int)++kg b0 0))
 case first=>
  have E:=H.le
  cases b0 with
  | true=>
   have f:=lh H;clear H K
   go_wp2_with(at_builtin;refine wpList_append_own _ rfl _ _ 59 rfl W.heap.size 80 i0 (.int .i64 0) 1 8 Tryz.underlying59 hi k l m rfl (by decide) _ _ _ rfl (f.out.own.alloc _) ⟨_,0,none⟩ 1 1 [.int .i64 0] rfl rfl ?c1 ?c2 ?c3 ?c4 ?c5 ?_)
   case c1=>exact cell_one_new _ _ _
   case c2=>simp[Value.oneCell']
   case c3=>unfold maxLen;omega
   case c4=>omega
   case c5=>have u:=f.out.low.size;first|omega|(simp;done)|(simp;omega)
   intro C D d b _;have i:=lh (f.out.app _ b d (by omega));clear d b;obtain⟨a2,c2,rfl⟩:=i.out.sl;go_wp2
   go_meet
   exact i.out
  | false=>
   have f:=lh H;clear H;go_wp2
   go_meet
   rw[show kg false 0=[] from rfl,List.append_nil];exact f.out
 case rest=>
 have g:(([]:List Int)++kg b0 0).length<=1:=by
  have:=ybo b0 0;rw[List.length_append];omega
 clear H K j;have H:=hcut;have j:=g;clear hcut g;generalize I:([]:List Int)++kg b0 0=l1 at H j;have K:wc.cell? ⟨w.heap.size,1,none⟩=some (.bool b1):=zm (hB.out _ H.low) rfl
 go_upto_if 10 with fail
 go_cut [3] (fun v n=>yex W n v (l1++kg b1 1))
 case first=>
  have E:=H.le
  cases b1 with
  | true=>
   obtain⟨a,c,rfl⟩:=H.sl;have f:=lh H;clear H K
   go_wp2_with(at_builtin;refine wpList_append_own _ rfl _ _ 59 rfl W.heap.size 80 i0 (.int .i64 0) 1 8 Tryz.underlying59 hi k l m rfl (by decide) _ _ _ rfl (f.out.own.alloc _) ⟨_,0,none⟩ 1 1 [.int .i64 1] rfl rfl ?c1 ?c2 ?c3 ?c4 ?c5 ?_)
   case c1=>exact cell_one_new _ _ _
   case c2=>simp[Value.oneCell']
   case c3=>unfold maxLen;omega
   case c4=>omega
   case c5=>have u:=f.out.low.size;first|omega|(simp;done)|(simp;omega)
   intro C D d b _;have i:=lh (f.out.app _ b d (by omega));clear d b;obtain⟨a2,c2,rfl⟩:=i.out.sl;go_wp2
   go_meet
   exact i.out
  | false=>
   have f:=lh H;clear H;go_wp2
   go_meet
   rw[show kg false 1=[] from rfl,List.append_nil];exact f.out
 case rest=>
 have g:(l1++kg b1 1).length<=2:=by
  have:=ybo b1 1;rw[List.length_append];omega
 clear H K j;have H:=hcut;have j:=g;clear hcut g;generalize J:l1++kg b1 1=l2 at H j;have K:wc.cell? ⟨w.heap.size,2,none⟩=some (.bool o):=zm (hB.out _ H.low) rfl
 go_upto_if 15 with fail
 go_cut [3] (fun v n=>yex W n v (l2++kg o 2))
 case first=>
  have E:=H.le
  cases o with
  | true=>
   obtain⟨a,c,rfl⟩:=H.sl;have f:=lh H;clear H K
   go_wp2_with(at_builtin;refine wpList_append_own _ rfl _ _ 59 rfl W.heap.size 80 i0 (.int .i64 0) 1 8 Tryz.underlying59 hi k l m rfl (by decide) _ _ _ rfl (f.out.own.alloc _) ⟨_,0,none⟩ 1 1 [.int .i64 2] rfl rfl ?c1 ?c2 ?c3 ?c4 ?c5 ?_)
   case c1=>exact cell_one_new _ _ _
   case c2=>simp[Value.oneCell']
   case c3=>unfold maxLen;omega
   case c4=>omega
   case c5=>have u:=f.out.low.size;first|omega|(simp;done)|(simp;omega)
   intro C D d b _;have i:=lh (f.out.app _ b d (by omega));clear d b;obtain⟨a2,c2,rfl⟩:=i.out.sl;go_wp2
   go_meet
   exact i.out
  | false=>
   have f:=lh H;clear H;go_wp2
   go_meet
   rw[show kg false 2=[] from rfl,List.append_nil];exact f.out
 case rest=>
 have g:(l2++kg o 2).length<=3:=by
  have:=ybo o 2;rw[List.length_append];omega
 clear H K j;have H:=hcut;have j:=g;clear hcut g;generalize L:l2++kg o 2=l3 at H j;have K:wc.cell? ⟨w.heap.size,3,none⟩=some (.bool q):=zm (hB.out _ H.low) rfl
 go_upto_if 20 with fail
 go_cut [3] (fun v n=>yex W n v (l3++kg q 3))
 case first=>
  have E:=H.le
  cases q with
  | true=>
   obtain⟨a,c,rfl⟩:=H.sl;have f:=lh H;clear H K
   go_wp2_with(at_builtin;refine wpList_append_own _ rfl _ _ 59 rfl W.heap.size 80 i0 (.int .i64 0) 1 8 Tryz.underlying59 hi k l m rfl (by decide) _ _ _ rfl (f.out.own.alloc _) ⟨_,0,none⟩ 1 1 [.int .i64 3] rfl rfl ?c1 ?c2 ?c3 ?c4 ?c5 ?_)
   case c1=>exact cell_one_new _ _ _
   case c2=>simp[Value.oneCell']
   case c3=>unfold maxLen;omega
   case c4=>omega
   case c5=>have u:=f.out.low.size;first|omega|(simp;done)|(simp;omega)
   intro C D d b _;have i:=lh (f.out.app _ b d (by omega));clear d b;obtain⟨a2,c2,rfl⟩:=i.out.sl;go_wp2
   go_meet
   exact i.out
  | false=>
   have f:=lh H;clear H;go_wp2
   go_meet
   rw[show kg false 3=[] from rfl,List.append_nil];exact f.out
 case rest=>
 have g:(l3++kg q 3).length<=4:=by
  have:=ybo q 3;rw[List.length_append];omega
 clear H K j;have H:=hcut;have j:=g;clear hcut g;generalize M:l3++kg q 3=U at H j;have K:wc.cell? ⟨w.heap.size,4,none⟩=some (.bool r):=zm (hB.out _ H.low) rfl
 go_upto_if 25 with fail
 go_cut [3] (fun v n=>yex W n v (U++kg r 4))
 case first=>
  have E:=H.le
  cases r with
  | true=>
   obtain⟨a,c,rfl⟩:=H.sl;have f:=lh H;clear H K
   go_wp2_with(at_builtin;refine wpList_append_own _ rfl _ _ 59 rfl W.heap.size 80 i0 (.int .i64 0) 1 8 Tryz.underlying59 hi k l m rfl (by decide) _ _ _ rfl (f.out.own.alloc _) ⟨_,0,none⟩ 1 1 [.int .i64 4] rfl rfl ?c1 ?c2 ?c3 ?c4 ?c5 ?_)
   case c1=>exact cell_one_new _ _ _
   case c2=>simp[Value.oneCell']
   case c3=>unfold maxLen;omega
   case c4=>omega
   case c5=>have u:=f.out.low.size;first|omega|(simp;done)|(simp;omega)
   intro C D d b _;have i:=lh (f.out.app _ b d (by omega));clear d b;obtain⟨a2,c2,rfl⟩:=i.out.sl;go_wp2
   go_meet
   exact i.out
  | false=>
   have f:=lh H;clear H;go_wp2
   go_meet
   rw[show kg false 4=[] from rfl,List.append_nil];exact f.out
 case rest=>
 have g:(U++kg r 4).length<=5:=by
  have:=ybo r 4;rw[List.length_append];omega
 clear H K j;have H:=hcut;have j:=g;clear hcut g;generalize N:U++kg r 4=V at H j;have K:wc.cell? ⟨w.heap.size,5,none⟩=some (.bool s):=zm (hB.out _ H.low) rfl
 go_upto_if 30 with fail
 go_cut [3] (fun v n=>yex W n v (V++kg s 5))
 case first=>
  have E:=H.le
  cases s with
  | true=>
   obtain⟨a,c,rfl⟩:=H.sl;have f:=lh H;clear H K
   go_wp2_with(at_builtin;refine wpList_append_own _ rfl _ _ 59 rfl W.heap.size 80 i0 (.int .i64 0) 1 8 Tryz.underlying59 hi k l m rfl (by decide) _ _ _ rfl (f.out.own.alloc _) ⟨_,0,none⟩ 1 1 [.int .i64 5] rfl rfl ?c1 ?c2 ?c3 ?c4 ?c5 ?_)
   case c1=>exact cell_one_new _ _ _
   case c2=>simp[Value.oneCell']
   case c3=>unfold maxLen;omega
   case c4=>omega
   case c5=>have u:=f.out.low.size;first|omega|(simp;done)|(simp;omega)
   intro C D d b _;have i:=lh (f.out.app _ b d (by omega));clear d b;obtain⟨a2,c2,rfl⟩:=i.out.sl;go_wp2
   go_meet
   exact i.out
  | false=>
   have f:=lh H;clear H;go_wp2
   go_meet
   rw[show kg false 5=[] from rfl,List.append_nil];exact f.out
 case rest=>
 have g:(V++kg s 5).length<=6:=by
  have:=ybo s 5;rw[List.length_append];omega
 clear H K j;have H:=hcut;have j:=g;clear hcut g;generalize O:V++kg s 5=l6 at H j;have K:wc.cell? ⟨w.heap.size,6,none⟩=some (.bool t):=zm (hB.out _ H.low) rfl
 go_upto_if 35 with fail
 go_cut [3] (fun v n=>yex W n v (l6++kg t 6))
 case first=>
  have E:=H.le
  cases t with
  | true=>
   obtain⟨a,c,rfl⟩:=H.sl;have f:=lh H;clear H K
   go_wp2_with(at_builtin;refine wpList_append_own _ rfl _ _ 59 rfl W.heap.size 80 i0 (.int .i64 0) 1 8 Tryz.underlying59 hi k l m rfl (by decide) _ _ _ rfl (f.out.own.alloc _) ⟨_,0,none⟩ 1 1 [.int .i64 6] rfl rfl ?c1 ?c2 ?c3 ?c4 ?c5 ?_)
   case c1=>exact cell_one_new _ _ _
   case c2=>simp[Value.oneCell']
   case c3=>unfold maxLen;omega
   case c4=>omega
   case c5=>have u:=f.out.low.size;first|omega|(simp;done)|(simp;omega)
   intro C D d b _;have i:=lh (f.out.app _ b d (by omega));clear d b;obtain⟨a2,c2,rfl⟩:=i.out.sl;go_wp2
   go_meet
   exact i.out
  | false=>
   have f:=lh H;clear H;go_wp2
   go_meet
   rw[show kg false 6=[] from rfl,List.append_nil];exact f.out
 case rest=>
 have g:(l6++kg t 6).length<=7:=by
  have:=ybo t 6;rw[List.length_append];omega
 clear H K j;have H:=hcut;have j:=g;clear hcut g;generalize P:l6++kg t 6=l7 at H j;have K:wc.cell? ⟨w.heap.size,7,none⟩=some (.int .i64 p):=zm (hB.out _ H.low) rfl;have X:=lh T.out
 by_cases B:p=0
 ·subst B
  have f:=lh H;clear H;go_wp2;go_ret;refine⟨_,rfl,?_,X.out.trans (vm f.out.low (by have:=A.out;omega))⟩;have x:=f.out.ints;rw[<-P,<-O,<-N,<-M,<-L,<-J,<-I] at x;unfold yii;rw[show kg (decide (0 < 0)) ((0*65536:Nat):Int)=[] from rfl,List.append_nil]
  simpa using x
 ·have q1:¬ p=0:=B
  have q2:((p:Int) != 0)=true:=by simpa using B
  have q3:¬ (p:Int)=0:=by omega
  have Y:Hid (∀ w,Calls Tryz.prog 46 #[.int .i64 p] w fun e w'=>e=.returned (.int .i64 ((p*65536:Nat):Int))/\w'=w):=lh (ym5 (by omega) Z);have Q:kg (decide (0 < p)) ((p*65536:Nat):Int)=[((p*65536:Nat):Int)]:=by unfold kg;rw[decide_eq_true (by omega)];rfl
  have F:=lh Q;clear Q;generalize R:((p*65536:Nat):Int)=z at Y F;have S:=lh R;clear R;obtain⟨a,c,rfl⟩:=H.sl;have f:=lh H;clear H
  go_wp2_with(first
   | (go_at_call 46;refine(Y.out _).mono ?_;rintro e w' ⟨rfl,rfl⟩)
   | (at_builtin;refine wpList_append_own _ rfl _ _ 59 rfl W.heap.size 80 i0 (.int .i64 0) 1 8 Tryz.underlying59 hi k l m rfl (by decide) _ _ _ rfl (f.out.own.alloc _) ⟨_,0,none⟩ 1 1 [.int .i64 z] rfl rfl ?c1 ?c2 ?c3 ?c4 ?c5 ?_))
  case c1=>exact cell_one_new _ _ _
  case c2=>simp[Value.oneCell']
  case c3=>unfold maxLen;omega
  case c4=>omega
  case c5=>have u:=f.out.low.size;first|omega|(simp;done)|(simp;omega)
  intro C D d b _;have i:=lh (f.out.app _ b d (by omega));clear d b;obtain⟨a2,c2,rfl⟩:=i.out.sl;go_wp2;go_ret;refine⟨_,rfl,?_,X.out.trans (vm i.out.low (by have:=A.out;omega))⟩;have x:=i.out.ints;have hq:yii b0 b1 o q r s t p=l7++[z]:=by
   unfold yii;rw[S.out,F.out,<-P,<-O,<-N,<-M,<-L,<-J,<-I];simp
  rw[hq]
  first|exact x|(simp only[List.length_append,List.length_cons,List.length_nil] at x |-;exact x)|simpa using x
theorem yu3 (b0 b1 d e f g i:Bool){p:Nat}(l:p<=30):∀ o∈yii b0 b1 d e f g i p,ygg o:=by
 have c:∀ (b:Bool) (z:Int),0<=z->z<=6->∀ o∈kg b z,ygg o:=by
  intro b z j k o a;unfold kg at a
  split at a
  ·rw[List.mem_singleton.1 a];exact .inl ⟨j,k⟩
  ·cases a
 intro o a;unfold yii at a;simp only[List.mem_append] at a
 rcases a with((((((a|a)|a)|a)|a)|a)|a)|a
 ·exact c _ _ (by omega) (by omega) o a
 ·exact c _ _ (by omega) (by omega) o a
 ·exact c _ _ (by omega) (by omega) o a
 ·exact c _ _ (by omega) (by omega) o a
 ·exact c _ _ (by omega) (by omega) o a
 ·exact c _ _ (by omega) (by omega) o a
 ·exact c _ _ (by omega) (by omega) o a
 ·unfold kg at a
  split at a
  ·rename_i h
   rw[List.mem_singleton.1 a];exact .inr ⟨p,of_decide_eq_true h,l,rfl⟩
  ·cases a
def yij (p:Nat):Int:=if 0 < p then((2 ^ p:Nat):Int) else 0
theorem ypm (b0 b1 f g h i j:Bool){p:Nat}(k:p<=30):(yii b0 b1 f g h i j p).foldl gj (false,0)=(b1,yij p):=by
 have c:∀ (b:Bool) (z:Int) (a:Bool×Int),z≠1->z<=6->(kg b z).foldl gj a=a:=by
  intro b z a e c
  cases b with
  | true=>show gj a z=a;unfold gj;rw[if_neg e,if_pos c]
  | false=>rfl
 unfold yii;simp only[List.foldl_append];rw[c b0 0 _ (by omega) (by omega)];have e:(kg b1 1).foldl gj (false,(0:Int))=(b1,0):=by cases b1<;>rfl
 rw[e,c f 2 _ (by omega) (by omega),c g 3 _ (by omega) (by omega),c h 4 _ (by omega) (by omega),c i 5 _ (by omega) (by omega),c j 6 _ (by omega) (by omega)];unfold yij
 by_cases d:0 < p
 ·rw[if_pos d]
  have:kg (decide (0 < p)) ((p*65536:Nat):Int)=[((p*65536:Nat):Int)]:=by unfold kg;rw[decide_eq_true d];rfl
  rw[this]
  show gj (b1,0) _=_
  unfold gj;rw[if_neg (by omega),if_neg (by omega),show(((p*65536:Nat):Int) / 65536).toNat=p by omega]
 ·rw[if_neg d]
  have:kg (decide (0 < p)) ((p*65536:Nat):Int)=[]:=by unfold kg;rw[decide_eq_false d];rfl
  rw[this];rfl
theorem yrb {w:World}{l:List UInt8}{so:Value}{d:List Int}{z:RS}{ng:Bool}{mx:Int}(h:l.length<=4294967000)(hd:∀ c∈l,c≠46)(hO:jk w so d)(b:∀ o∈d,ygg o)
  (g:d.foldl gj (false,0)=(ng,mx)) (k:z.str=[]) (i:z.max=mx) (j:z.out≠[])
  (a:∀ w' p,Below w.heap.size w w'->w.heap.size<=p->RAt w' p (rs1 l ng mx)->Calls Tryz.prog 69 #[.pointer (some ⟨p,0,none⟩)] w' fun e f=>yia p w' (some z) e f) :
  Calls Tryz.prog 35 #[.string ⟨(95::82::l).toArray⟩,so] w fun e w'=>e=.returned (.tuple #[.string ⟨(yde mx z.out).toArray⟩,.nilIface])/\Below w.heap.size w w':=by
 have H:=lh (yjw (w:=w) h hd hO b g k i j a);obtain⟨m,n,rfl,-⟩:=hO;clear hd a b
 go_enter Tryz.func35,Tryz.ntmps35
 go_wp2_with fail
 refine H.out.mono ?_;rintro e q ⟨rfl,hb⟩;go_wp2
 go_ret2
 exact⟨rfl,hb⟩
theorem yq7 {w:World}{l:List UInt8}(b0 b1 b d f g h:Bool){p:Nat}(r:p<=30){z:RS}(C:l.length<=4294967000)(hd:∀ c∈l,c≠46)(F:z.str=[])(D:z.max=yij p)(E:z.out≠[])
  (o:∀ w' j,Below w.heap.size w w'->w.heap.size<=j->RAt w' j (rs1 l b1 (yij p))->Calls Tryz.prog 69 #[.pointer (some ⟨j,0,none⟩)] w' fun e s=>yia j w' (some z) e s) :
  Calls Tryz.prog 17 #[.string ⟨(95::82::l).toArray⟩,ydj b0 b1 b d f g h p] w fun e w'=>e=.returned (.tuple #[.string ⟨(yde (yij p) z.out).toArray⟩,.int .i64 0])/\Below w.heap.size w w':=by
 have H:Hid (∀ (a:World) (so:Value),Below w.heap.size w a->jk a so (yii b0 b1 b d f g h p)->Calls Tryz.prog 35 #[.string ⟨(95::82::l).toArray⟩,so] a fun e w'=>e=.returned (.tuple #[.string ⟨(yde (yij p) z.out).toArray⟩,.nilIface])/\Below a.heap.size a w'):=
  lh fun a so q y=>yrb C hd y (yu3 b0 b1 b d f g h r) (ypm b0 b1 b d f g h r) F D E (fun w' j A B=>o w' j (q.trans (vm A q.size)) (Nat.le_trans q.size B))
 have t:Hid (∀ w,Calls Tryz.prog 36 #[ydj b0 b1 b d f g h p] w fun e w'=>∃ so,e=.returned so/\jk w' so (yii b0 b1 b d f g h p)/\Below w.heap.size w w'):=lh fun w=>ysl b0 b1 b d f g h r w;clear hd o;unfold ydj at t |-
 go_enter Tryz.func17,Tryz.ntmps17
 go_wp2_with fail
 refine(t.out _).mono ?_;rintro e a ⟨so,rfl,u,m⟩;have i:Below w.heap.size w a:=((Below.refl _ w).alloc (Nat.le_refl _) _).trans (vm m (by simp));have x:=lh (H.out a so i u);obtain⟨I,J,rfl,-⟩:=u;have k:=lh i;clear i m
 go_wp2_with fail
 refine x.out.mono ?_;rintro e G ⟨rfl,n⟩;have v:Hid (Below w.heap.size w G):=lh (k.out.trans (vm n k.out.size));clear n;go_wp2
 go_ret2
 exact⟨rfl,v.out⟩
end Go.Proofs.YtfckcdbpiepchaaGreatDoor
