/- The walk of a tree without its generic arguments. -/
import Derived.Test.YtfckcdbpiepchaaGreatDoorNs38
import Derived.Test.YtfckcdbpiepchaaGreatDoorXtp
import Derived.Test.YtfckcdbpiepchaaGreatDoorNlp
import Derived.Deep.RegionLaw
import Derived.Laws.CopyOwn
namespace Go.Proofs.YtfckcdbpiepchaaGreatDoor
set_option linter.all false
open Go.RowKit
theorem infoRust: (Tryz.prog.info? 28).map (fun i=>(i.zero,i.size,i.bytes))=some (some (.agg #[.int .i64 0,.int .u8 0,.string ⟨#[]⟩,.int .u64 0,.bool false,.slice none 0 0]),6,72):=by kernel_rfl
def InD (D:Nat->Prop)(w:World)(t:ya)(v:Value):Prop:=∀ w2,(∀ k,D k->w2.heap[k]? = w.heap[k]?)->yg w2 t v
theorem InD.mono {D D':Nat->Prop}{w w':World}{t:ya}{v:Value}(h:InD D w t v)(hD:∀ k,D k->D' k)(hk:∀ k,D k->w'.heap[k]? = w.heap[k]?):InD D' w' t v:=
 fun w2 h2=>h w2 fun k hd=>(h2 k (hD k hd)).trans (hk k hd)
theorem InD.at {D:Nat->Prop}{w:World}{t:ya}{v:Value}(h:InD D w t v):yg w t v:=h w fun _ _=>rfl
theorem app_own2 {P:Program}{w:World}{base:Nat}{t ty e:TypeId}{i:TypeInfo}{z:Value}{size bytes:Nat}(ht:P.underlying t=some (.slice e))(hi:P.info? e=some i)(hz:i.zero=some z)
  (hsize:i.size=size) (hby:i.bytes=bytes) (hzs:z.cells.size=size) (hsz:0 < size) {v:Value} {n:Nat} {xs:List Value} (hown:w.ownsRow base e size v n xs)
  {a:Addr} {c:Nat} {news:List Value} (hl:news.length=1*size) (hnews:∀ j u,news[j]? = some u->w.cell? (a.add j)=some u) (h1:∀ u∈news,u.oneCell'=true)
  (h63:n+1<=maxLen) (hbytes:(n+1)*bytes<=140737488355328) (hbase:base<=w.heap.size) :
  ∃ v' w',(Builtin.append_ #[t,t] ty #[v,.slice (some a) 1 c]).run P w=.ok v' w'/\w'.ownsRow base e size v' (n+1) (xs++news)/\w.grownBy w' v.ownBlock/\∀ g,v'.ownBlock=some g->v.ownBlock=some g\/w.heap.size<=g:=by
 obtain⟨v',w',hr,h2,h3,-⟩:=run_append_own (P:=P) w base t ty e i z size bytes ht hi hz hsize hby hzs hsz v n xs hown a 1 c news hl hnews h1 h63 hbytes hbase;refine⟨v',w',hr,h2,h3,?_⟩;subst hsize;subst hby
 have hm:((n+1:Nat):Int)<=9223372036854775807:=by simp only[maxLen] at h63;omega
 rcases hown.2 with⟨rfl,rfl⟩|⟨g0,cap,cur,rfl,hbg,hg,hnc,hcm,hcs,htake⟩
 ·have hr2:=run_append_nil (P:=P) w t ty e i z ht hi hz a 1 c news hl hnews (by omega) (by omega) (by have hb:=hbytes;simp only[Nat.zero_add] at hb;omega)
  rw[hr] at hr2
  cases hr2
  intro g hg
  cases hg
  exact .inr (Nat.le_refl _)
 ·by_cases hroom:n+1<=cap
  ·have hfit:n*i.size+news.length<=cur.size:=by rw[hl,hcs,<-Nat.add_mul];exact Nat.mul_le_mul_right _ hroom
   have hr2:=run_append_room (P:=P) w t ty e i ht hi g0 n cap cur hg a 1 c news hl hnews h1 hroom hfit;rw[hr] at hr2
   cases hr2
   exact fun g hg=>.inl hg
  ·have hr2:=run_append_grow (P:=P) w t ty e i z ht hi hz ⟨g0,0,none⟩ n cap xs hown.1 (hown.cells (g:=g0) rfl) a 1 c news hl hnews (by omega) hm (growslice_fits (by omega) hbytes)
   rw[hr] at hr2
   cases hr2
   intro g hg
   cases hg
   exact .inr (Nat.le_refl _)
theorem step_append_own2 {P:Program}{ops:Array Oper}{o:Oper}{a:Act}{w:World}{K:Act->World->Prop}{Q:Exit->Act->World->Prop}{E:Prop}
  (hg:o.guard=none) (s x:Operand) (t:TypeId) (hop:o.op=Op.call { callee:=Callee.builtin Builtin.append,args:=#[s,x],argTypes:=#[t,t] })
  (base:Nat) (e:TypeId) (i:TypeInfo) (z:Value) (size bytes:Nat) (h1:P.underlying t=some (.slice e)) (h2:P.info? e=some i) (h3:i.zero=some z) (h4:i.size=size) (h5:i.bytes=bytes) (h6:z.cells.size=size) (h7:0 < size)
  (v:Value) (n:Nat) (xs:List Value) (hs:a.eval s=v) (hown:w.ownsRow base e size v n xs)
  (ad:Addr) (c:Nat) (news:List Value) (hx:a.eval x=.slice (some ad) 1 c) (hn:news.length=1*size) (hc:∀ j u,news[j]? = some u->w.cell? (ad.add j)=some u) (h1c:∀ u∈news,u.oneCell'=true)
  (b1:n+1<=maxLen) (b2:(n+1)*bytes<=140737488355328) (hbase:base<=w.heap.size)
  (hK:∀ v' w',w'.ownsRow base e size v' (n+1) (xs++news)->w.grownBy w' v.ownBlock->(∀ g,v'.ownBlock=some g->v.ownBlock=some g\/w.heap.size<=g)->K (a.put o.dst v') w') :
  if Region.wanted o (yielded ops a.tmps)=true then Oper.wp P o a w K Q else E:=by
 have hw:Region.wanted o (yielded ops a.tmps)=true:=by simp[Region.wanted,hg]
 rw[if_pos hw];obtain⟨v',w',hrun,r1,r2,r3⟩:=app_own2 (P:=P) (w:=w) (ty:=o.type) h1 h2 h3 h4 h5 h6 h7 hown hn hc h1c b1 b2 hbase;unfold Oper.wp;simp[execOp,hop,resolve,invoke,builtin,hs,hx,Result.andThen];rw[hrun];exact hK v' w' r1 r2 r3
theorem six_new (w:World)(v0 v1 v2 v3 v4 v5:Value)(t:TypeId):∀ j u,[v0,v1,v2,v3,v4,v5][j]? = some u->(w.alloc (.cells #[v0,v1,v2,v3,v4,v5] t)).cell? ((⟨w.heap.size,0,none⟩:Addr).add j)=some u:=by
 intro j u hj;have hb:=ym w (.cells #[v0,v1,v2,v3,v4,v5] t)
 rcases j with _|_|_|_|_|_|j
 ·cases hj;exact zm (j:=0) hb rfl
 ·cases hj;exact zm (j:=1) hb rfl
 ·cases hj;exact zm (j:=2) hb rfl
 ·cases hj;exact zm (j:=3) hb rfl
 ·cases hj;exact zm (j:=4) hb rfl
 ·cases hj;exact zm (j:=5) hb rfl
 ·simp at hj
theorem tree_bd {w:World}{k:Nat}{l:UInt8}{nm:List UInt8}{n:Nat}{f:Bool}{kids:List ya}{v:Value}(h:yg w (.mk k l nm n f kids) v):n < 18446744073709551616/\nm.length<=maxLen:=by
 cases h with
 | mk h1 h2 h3 h4 h5=>exact⟨h2,h5⟩
theorem tree_of_kids {w:World}{kv:Int}{k:Nat}{l:UInt8}{nm:List UInt8}{n:Nat}{f:Bool}{kids:List ya}{ao:Option Addr}{cap:Nat}(hk:KV kv k)(hn:n < 18446744073709551616)(hm:nm.length<=maxLen)(h:qz w ao cap kids) :
  yg w (.mk k l nm n f kids) (.agg #[.int .i64 kv,.int .u8 l.toNat,.string ⟨nm.toArray⟩,.int .u64 n,.bool f,.slice ao kids.length cap]):=by
 obtain⟨V,hV⟩:∃ V:Nat->Nat->Value,∀ i b o,i < kids.length->ao=some ⟨b,o,none⟩->(∀ j,j < 6->w.cell? ⟨b,o+(i*6+j),none⟩=some (V i j))/\yg w (kids.getD i .zero) (.agg #[V i 0,V i 1,V i 2,V i 3,V i 4,V i 5]):=by
  by_cases hne:kids=[]
  ·exact⟨fun _ _=>undef,fun i b o hi=>by rw[hne] at hi;simp at hi⟩
  obtain⟨b,o,hbo⟩:=h.nn hne;refine⟨fun i j=>(w.cell? ⟨b,o+(i*6+j),none⟩).getD undef,fun i b' o' hi ha=>?_⟩;rw[hbo] at ha
  cases ha
  obtain⟨v0,v1,v2,v3,v4,v5,e0,e1,e2,e3,e4,e5,ht⟩:=h.el i b o hi hbo;have g0:w.cell? ⟨b,o+(i*6+0),none⟩=some v0:=e0;have g1:w.cell? ⟨b,o+(i*6+1),none⟩=some v1:=e1;have g2:w.cell? ⟨b,o+(i*6+2),none⟩=some v2:=e2;have g3:w.cell? ⟨b,o+(i*6+3),none⟩=some v3:=e3;have g4:w.cell? ⟨b,o+(i*6+4),none⟩=some v4:=e4;have g5:w.cell? ⟨b,o+(i*6+5),none⟩=some v5:=e5;dsimp only;refine⟨fun j hj=>?_,?_⟩
  ·rcases(by omega:j=0\/j=1\/j=2\/j=3\/j=4\/j=5) with rfl|rfl|rfl|rfl|rfl|rfl
   ·rw[g0];rfl
   ·rw[g1];rfl
   ·rw[g2];rfl
   ·rw[g3];rfl
   ·rw[g4];rfl
   ·rw[g5];rfl
  ·rw[g0,g1,g2,g3,g4,g5]
   exact ht
 exact .mk (V:=V) hk hn h.c1 h.c2 hm h.nn (fun i b o j hi ha hj=>(hV i b o hi ha).1 j hj) (fun i hi=>by
  obtain⟨b,o,ha⟩:=h.nn (fun h0=>by rw[h0] at hi;simp at hi);exact(hV i b o hi ha).2)
theorem kids_row {w:World}{g cap:Nat}{cs:Array Value}{ty:TypeId}{fz:Nat×Nat}{kids:List ya}(hg:w.heap[g]? = some (.cells cs ty fz))(h1:kids.length<=cap)(h2:cap<=maxLen)
  (h:∀ i,i < kids.length->∃ v0 v1 v2 v3 v4 v5,cs[i*6]? = some v0/\cs[i*6+1]? = some v1/\cs[i*6+2]? = some v2/\cs[i*6+3]? = some v3/\cs[i*6+4]? = some v4/\cs[i*6+5]? = some v5/\yg w (kids.getD i .zero) (.agg #[v0,v1,v2,v3,v4,v5])) :
  qz w (some ⟨g,0,none⟩) cap kids:=by
 refine⟨h1,h2,fun _=>⟨g,0,rfl⟩,fun i b o hi ha=>?_⟩
 cases ha
 obtain⟨v0,v1,v2,v3,v4,v5,e0,e1,e2,e3,e4,e5,ht⟩:=h i hi;refine⟨v0,v1,v2,v3,v4,v5,zm hg ?_,zm hg ?_,zm hg ?_,zm hg ?_,zm hg ?_,zm hg ?_,ht⟩
 all_goals (simp only[Nat.zero_add];assumption)
def BareR (w:World)(t:ya)(e:Ending)(w':World):Prop:=∃ v' x,e=.returned v'/\w'=ovr w x/\InD (fun k=>w.heap.size<=k/\k < (ovr w x).heap.size) (ovr w x) t v'
def zeroC:Array Value:=#[.int .i64 0,.int .u8 0,.string ⟨#[]⟩,.int .u64 0,.bool false,.slice none 0 0]
theorem six_set {w:World}{R:Nat}{a0 a1 a2 a3 a4 a5 b0 b1 b2 b3 b4 b5:Value}{t:TypeId}{fz:Nat×Nat}(h:w.heap[R]? = some (.cells #[b0,b1,b2,b3,b4,b5] t fz)) :
  (((((w.setCell ⟨R,0,none⟩ a0).setCell ⟨R,1,none⟩ a1).setCell ⟨R,2,none⟩ a2).setCell ⟨R,3,none⟩ a3).setCell ⟨R,4,none⟩ a4).setCell ⟨R,5,none⟩ a5=w.setRow R #[a0,a1,a2,a3,a4,a5]:=by
 rw[setCell_eq_setRow w R 0 _ t fz a0 h];rw[setCell_eq_setRow _ R 1 _ t fz a1 (setRow_heap w R _ _ t fz h),setRow_setRow];rw[setCell_eq_setRow _ R 2 _ t fz a2 (setRow_heap w R _ _ t fz h),setRow_setRow];rw[setCell_eq_setRow _ R 3 _ t fz a3 (setRow_heap w R _ _ t fz h),setRow_setRow];rw[setCell_eq_setRow _ R 4 _ t fz a4 (setRow_heap w R _ _ t fz h),setRow_setRow];rw[setCell_eq_setRow _ R 5 _ t fz a5 (setRow_heap w R _ _ t fz h),setRow_setRow]
 rfl
structure Zc (w:World)(R:Nat):Prop where
 c0:w.cell? ⟨R,0,none⟩=some (.int .i64 0)
 c1:w.cell? ⟨R,1,none⟩=some (.int .u8 0)
 c2:w.cell? ⟨R,2,none⟩=some (.string ⟨#[]⟩)
 c3:w.cell? ⟨R,3,none⟩=some (.int .u64 0)
 c4:w.cell? ⟨R,4,none⟩=some (.bool false)
 c5:w.cell? ⟨R,5,none⟩=some (.slice none 0 0)
 f0:w.frozen? ⟨R,0,none⟩=false
 f1:w.frozen? ⟨R,1,none⟩=false
 f2:w.frozen? ⟨R,2,none⟩=false
 f3:w.frozen? ⟨R,3,none⟩=false
 f4:w.frozen? ⟨R,4,none⟩=false
 f5:w.frozen? ⟨R,5,none⟩=false
theorem zc_of {w:World}{R:Nat} (h:w.heap[R]? = some (.cells zeroC 28 (0,0))):Zc w R:=
 ⟨zm h rfl,zm h rfl,zm h rfl,zm h rfl,zm h rfl,zm h rfl,zz h 0,zz h 1,zz h 2,zz h 3,zz h 4,zz h 5⟩
set_option maxHeartbeats 16000000 in
set_option maxRecDepth 100000 in
theorem bare_gen_walk {p:ya}(hch:∀ v w,yg w p v->Calls Tryz.prog 28 #[v] w fun e w'=>BareR w p.bare e w')
  {l:UInt8} {nm:List UInt8} {n:Nat} {f:Bool} {a:List ya} {v:Value} {w:World} (htr:yg w (.mk 6 l nm n f (p::a)) v) :
  Calls Tryz.prog 28 #[v] w fun e w'=>BareR w (.mk 6 0 [] 0 false [p.bare]) e w':=by
 obtain⟨hn64,hnml⟩:=tree_bd htr;obtain⟨ao,cap,rfl,hK,-,-⟩:=yo htr (by omega);obtain⟨kb,ko,rfl⟩:=hK.nn (by simp);have hc1:=hK.c1;have hc2:=hK.c2;unfold maxLen at hc2;simp only[List.length_cons] at hc1;obtain⟨v0,v1,v2,v3,v4,v5,KK,tr⟩:=hK.k0;obtain⟨kv2,c,nm2,n2,f2,kao,kln,kcap,rfl,rfl,rfl,rfl,rfl,rfl⟩:=tr.shape;have e0:=fun o o2=>yi (yi KK.c0 o) o2;have e1:=fun o o2=>yi (yi KK.c1 o) o2;have e2:=fun o o2=>yi (yi KK.c2 o) o2;have e3:=fun o o2=>yi (yi KK.c3 o) o2;have e4:=fun o o2=>yi (yi KK.c4 o) o2;have e5:=fun o o2=>yi (yi KK.c5 o) o2;have HC:=lh hch;have HT:=lh tr;simp only[List.length_cons];clear hch hK KK tr htr
 go_enter Tryz.func28,Tryz.ntmps28
 go_wp2_with fail
 refine(HC.out _ _ ((HT.out.alc _).alc _)).mono ?_;rintro e w1 ⟨v',x,rfl,rfl,hI⟩;have hz1:(ovr ((w.alloc (.cells #[.int .i64 6,.int .u8 l.toNat,.string ⟨nm.toArray⟩,.int .u64 n,.bool f,.slice (some ⟨kb,ko,none⟩) (a.length+1) cap] 28)).alloc (.cells #[.int .i64 0,.int .u8 0,.string ⟨#[]⟩,.int .u64 0,.bool false,.slice none 0 0] 28)) x).heap[w.heap.size+1]? = some (.cells #[.int .i64 0,.int .u8 0,.string ⟨#[]⟩,.int .u64 0,.bool false,.slice none 0 0] 28):=by
  have h1:=heap_alloc2_new w (.cells #[.int .i64 6,.int .u8 l.toNat,.string ⟨nm.toArray⟩,.int .u64 n,.bool f,.slice (some ⟨kb,ko,none⟩) (a.length+1) cap] 28) (.cells #[.int .i64 0,.int .u8 0,.string ⟨#[]⟩,.int .u64 0,.bool false,.slice none 0 0] 28);rw[(qp _ x).block _ (Array.getElem?_eq_some_iff.1 h1).1];exact h1
 have hs2:((w.alloc (.cells #[.int .i64 6,.int .u8 l.toNat,.string ⟨nm.toArray⟩,.int .u64 n,.bool f,.slice (some ⟨kb,ko,none⟩) (a.length+1) cap] 28)).alloc (.cells #[.int .i64 0,.int .u8 0,.string ⟨#[]⟩,.int .u64 0,.bool false,.slice none 0 0] 28)).heap.size=w.heap.size+2:=by simp
 have hbel:Below w.heap.size w (ovr ((w.alloc (.cells #[.int .i64 6,.int .u8 l.toNat,.string ⟨nm.toArray⟩,.int .u64 n,.bool f,.slice (some ⟨kb,ko,none⟩) (a.length+1) cap] 28)).alloc (.cells #[.int .i64 0,.int .u8 0,.string ⟨#[]⟩,.int .u64 0,.bool false,.slice none 0 0] 28)) x):=(((Below.refl _ w).alloc (Nat.le_refl _) _).alloc (by simp) _).trans (vm (qp _ x) (by rw[hs2];omega));have hsz:w.heap.size+2<=(ovr ((w.alloc (.cells #[.int .i64 6,.int .u8 l.toNat,.string ⟨nm.toArray⟩,.int .u64 n,.bool f,.slice (some ⟨kb,ko,none⟩) (a.length+1) cap] 28)).alloc (.cells #[.int .i64 0,.int .u8 0,.string ⟨#[]⟩,.int .u64 0,.bool false,.slice none 0 0] 28)) x).heap.size:=by rw[<-hs2];exact(qp _ x).size
 rw[hs2] at hI;generalize ovr ((w.alloc (.cells #[.int .i64 6,.int .u8 l.toNat,.string ⟨nm.toArray⟩,.int .u64 n,.bool f,.slice (some ⟨kb,ko,none⟩) (a.length+1) cap] 28)).alloc (.cells #[.int .i64 0,.int .u8 0,.string ⟨#[]⟩,.int .u64 0,.bool false,.slice none 0 0] 28)) x=W1 at hz1 hbel hsz hI |-;obtain⟨kv3,l3,nm3,n3,f3,ao3,ln3,cap3,rfl⟩:=yek hI.at;have hZ:=fun o=>zc_of (w:=W1.alloc o) (R:=w.heap.size+1) (by rw[heap_alloc_old _ _ (by omega)];exact hz1);have z0:=fun o=>(hZ o).c0;have z1:=fun o=>(hZ o).c1;have z2:=fun o=>(hZ o).c2;have z3:=fun o=>(hZ o).c3;have z4:=fun o=>(hZ o).c4;have z5:=fun o=>(hZ o).c5;have y0:=fun o=>(hZ o).f0;have y1:=fun o=>(hZ o).f1;have y2:=fun o=>(hZ o).f2;have y3:=fun o=>(hZ o).f3;have y4:=fun o=>(hZ o).f4;have y5:=fun o=>(hZ o).f5;have HI:=lh hI;have HZ1:=lh hz1;have HB:=lh hbel;have HS:=lh hsz;clear hI hZ hz1 hbel hsz hs2 HC HT e0 e1 e2 e3 e4 e5;go_wp2;clear z0 z1 z2 z3 z4 z5 y0 y1 y2 y3 y4 y5;rw[six_set (by rw[heap_alloc_old _ _ (by have:=HS.out;omega)];exact HZ1.out)];refine bodyPost_ret (results_cell_row rfl _ _ (w.heap.size+1) 28 _ (0,0) _ rfl (setRow_heap _ _ _ _ _ _ (by rw[heap_alloc_old _ _ (by have:=HS.out;omega)];exact HZ1.out)) Tryz.underlying28 rfl (by kernel_rfl)) rfl ?_;obtain⟨x',hx'⟩:=ybj (below_setRow (HB.out.alloc (by have:=HS.out;omega) (.cells #[.int .i64 kv3,.int .u8 l3.toNat,.string ⟨nm3.toArray⟩,.int .u64 n3,.bool f3,.slice ao3 ln3 cap3] 28)) (show w.heap.size<=w.heap.size+1 by omega) #[.int .i64 6,.int .u8 0,.string ⟨#[]⟩,.int .u64 0,.bool false,.slice (some ⟨W1.heap.size,0,none⟩) 1 1]);refine⟨_,x',rfl,hx',?_⟩;rw[<-hx'];intro w2 h2;have hsz:=HS.out;have hg:w2.heap[W1.heap.size]? = some (.cells #[.int .i64 kv3,.int .u8 l3.toNat,.string ⟨nm3.toArray⟩,.int .u64 n3,.bool f3,.slice ao3 ln3 cap3] 28 (0,0)):=by
  rw[h2 _ ⟨by omega,by simp⟩,setRow_other _ _ _ _ (by omega)];exact ym _ _
 have ht:=HI.out w2 (fun k hk=>by
  have hk1:=hk.1;have hk2:=hk.2;rw[h2 k ⟨by omega,by simp;omega⟩,setRow_other _ _ _ _ (by omega),heap_alloc_old _ _ hk2])
 exact tree_of_kids (k:=6) (kv:=6) (l:=0) (nm:=[]) (n:=0) (f:=false) (kids:=[p.bare]) (.inl ⟨rfl,by omega,by omega⟩) (by omega) (by simp) (kids_row hg (Nat.le_refl _) (by unfold maxLen;omega) (fun i hi=>by
  obtain rfl:i=0:=by simpa using hi
  exact⟨_,_,_,_,_,_,rfl,rfl,rfl,rfl,rfl,rfl,ht⟩))
theorem own_ovr {w:World}{B size n:Nat}{e:TypeId}{v:Value}{xs:List Value}(h:w.ownsRow B e size v n xs)(x:Xt):(ovr w x).ownsRow B e size v n xs:=
 h.kept (row:=none) ⟨rfl,rfl,rfl,(qp w x).size,fun k hk _=>(qp w x).block k hk⟩ (by cases v.ownBlock with|none=>exact .inl rfl|some g=>exact .inr (by simp))
structure BL (w wr:World)(kv:Int)(l:UInt8)(nm:List UInt8)(n:Nat)(f:Bool)(kids:List ya)(j:Nat)(a:Option Addr)(c:Nat)(L:List Value):Prop where
 out:wr.heap[w.heap.size+2]? = some (.cells #[.int .i64 kv,.int .u8 l.toNat,.string ⟨nm.toArray⟩,.int .u64 n,.bool f,.slice a j c] 28 (0,0))
 res:wr.heap[w.heap.size+1]? = some (.cells zeroC 28 (0,0))
 own:wr.ownsRow (w.heap.size+3) 28 6 (.slice a j c) j L
 bel:Below w.heap.size w wr
 sz:w.heap.size+3<=wr.heap.size
 kid:∀ i,i < j->∃ v0 v1 v2 v3 v4 v5,L[i*6]? = some v0/\L[i*6+1]? = some v1/\L[i*6+2]? = some v2/\L[i*6+3]? = some v3/\L[i*6+4]? = some v4/\L[i*6+5]? = some v5/\InD (fun k=>w.heap.size+3<=k/\k < wr.heap.size/\(Value.slice a j c).ownBlock≠some k) wr (kids.getD i .zero).bare (.agg #[v0,v1,v2,v3,v4,v5])
set_option maxHeartbeats 4000000 in
theorem BL.next {w wr D w2:World}{kv:Int}{l:UInt8}{nm:List UInt8}{n:Nat}{f:Bool}{kids:List ya}{j:Nat}{a a':Option Addr}{c c':Nat}{L:List Value}{x:Xt}{o o1:Obj}{v0 v1 v2 v3 v4 v5:Value}(h:BL w wr kv l nm n f kids j a c L)(hD:D=(wr.alloc o1).drew)
  (hI:InD (fun k=>D.heap.size<=k/\k < (ovr D x).heap.size) (ovr D x) (kids.getD j .zero).bare (.agg #[v0,v1,v2,v3,v4,v5]))
  (ho:w2.ownsRow (w.heap.size+3) 28 6 (.slice a' (j+1) c') (j+1) (L++[v0,v1,v2,v3,v4,v5])) (hg:((ovr D x).alloc o).grownBy w2 (Value.slice a j c).ownBlock)
  (hf:∀ g,(Value.slice a' (j+1) c').ownBlock=some g->(Value.slice a j c).ownBlock=some g\/((ovr D x).alloc o).heap.size<=g) :
  BL w (w2.setCell ⟨w.heap.size+2,5,none⟩ (.slice a' (j+1) c')) kv l nm n f kids (j+1) a' c' (L++[v0,v1,v2,v3,v4,v5]):=by
 have hDs:D.heap.size=wr.heap.size+1:=by rw[hD];simp[World.drew]
 have hDk:∀ k,k < wr.heap.size->D.heap[k]? = wr.heap[k]?:=fun k hk=>by rw[hD];exact heap_alloc_old (w:=wr) o1 hk
 have hx:D.heap.size<=(ovr D x).heap.size:=(qp D x).size;have hps:((ovr D x).alloc o).heap.size=(ovr D x).heap.size+1:=by simp
 have hpk:∀ k,k < (ovr D x).heap.size->((ovr D x).alloc o).heap[k]? = (ovr D x).heap[k]?:=fun k hk=>heap_alloc_old (w:=ovr D x) o hk;have hpw:∀ k,k < wr.heap.size->((ovr D x).alloc o).heap[k]? = wr.heap[k]?:=fun k hk=>by rw[hpk k (by omega),(qp D x).block k (by omega),hDk k hk]
 have hol:=h.own.lt;have hsz:=h.sz;have hgs:=hg.size;have hkeep:∀ k,k < ((ovr D x).alloc o).heap.size->(Value.slice a j c).ownBlock≠some k->w2.heap[k]? = ((ovr D x).alloc o).heap[k]?:=fun k h1 h2=>hg.block k h1 (fun h3=>h2 h3.symm);have hlow:∀ k,k < w.heap.size+3->w2.heap[k]? = wr.heap[k]?:=fun k hk=>by
  rw[hkeep k (by omega) (fun h3=>by have:=(hol k h3).1;omega),hpw k (by omega)]
 have hout2:w2.heap[w.heap.size+2]? = some (.cells #[.int .i64 kv,.int .u8 l.toNat,.string ⟨nm.toArray⟩,.int .u64 n,.bool f,.slice a j c] 28 (0,0)):=by rw[hlow _ (by omega)];exact h.out
 have hset:∀ k,k≠w.heap.size+2->(w2.setCell ⟨w.heap.size+2,5,none⟩ (.slice a' (j+1) c')).heap[k]? = w2.heap[k]?:=fun k hk=>Below.heap_setCell _ _ _ _ hk;have hss:(w2.setCell ⟨w.heap.size+2,5,none⟩ (.slice a' (j+1) c')).heap.size=w2.heap.size:=by simp[World.setCell]
 have hL:L.length=j*6:=h.own.1;refine⟨by rw[zb hout2];rfl,by rw[hset _ (by omega),hlow _ (by omega)];exact h.res,ownsRow_setCell_other ho (fun h3=>by have h4:w.heap.size+3<=w.heap.size+2:=(ho.lt _ h3).1;omega) _,?_,by rw[hss];omega,?_⟩
 ·have hb:Below w.heap.size w w2:=⟨by rw[hg.os];rw[show((ovr D x).alloc o).os=D.os from rfl,hD];exact h.bel.os,by rw[hg.tape,show((ovr D x).alloc o).tape=D.tape from rfl,hD];exact h.bel.tape,by rw[hg.output,show((ovr D x).alloc o).output=D.output from rfl,hD];exact h.bel.output,by omega,fun k hk=>by rw[hlow k (by omega)];exact h.bel.block k hk⟩
  exact hb.setCell (show w.heap.size<=w.heap.size+2 by omega) _
 ·intro i hi
  rcases Nat.lt_or_ge i j with hij|hij
  ·obtain⟨u0,u1,u2,u3,u4,u5,e0,e1,e2,e3,e4,e5,hk⟩:=h.kid i hij
   refine⟨u0,u1,u2,u3,u4,u5,?_,?_,?_,?_,?_,?_,hk.mono (fun k hk=>?_) (fun k hk=>?_)⟩
   ·rw[List.getElem?_append_left (by omega)];exact e0
   ·rw[List.getElem?_append_left (by omega)];exact e1
   ·rw[List.getElem?_append_left (by omega)];exact e2
   ·rw[List.getElem?_append_left (by omega)];exact e3
   ·rw[List.getElem?_append_left (by omega)];exact e4
   ·rw[List.getElem?_append_left (by omega)];exact e5
   ·refine⟨hk.1,by rw[hss];have:=hk.2.1;omega,fun h3=>?_⟩
    rcases hf k h3 with h4|h4
    ·exact hk.2.2 h4
    ·have:=hk.2.1;omega
   ·have h1:=hk.1
    have h2:=hk.2.1;rw[hset k (by omega),hkeep k (by omega) hk.2.2,hpw k h2]
  ·obtain rfl:i=j:=by omega
   refine⟨v0,v1,v2,v3,v4,v5,?_,?_,?_,?_,?_,?_,hI.mono (fun k hk=>?_) (fun k hk=>?_)⟩
   ·rw[List.getElem?_append_right (by omega),hL];simp
   ·rw[List.getElem?_append_right (by omega),hL];simp
   ·rw[List.getElem?_append_right (by omega),hL];simp
   ·rw[List.getElem?_append_right (by omega),hL];simp
   ·rw[List.getElem?_append_right (by omega),hL];simp
   ·rw[List.getElem?_append_right (by omega),hL];simp
   ·have h1:=hk.1
    have h2:=hk.2;refine⟨by omega,by rw[hss];omega,fun h3=>?_⟩
    rcases hf k h3 with h4|h4
    ·have:=(hol k h4).2;omega
    ·omega
   ·have h1:=hk.1
    have h2:=hk.2;rw[hset k (by omega),hkeep k (by omega) (fun h3=>by have:=(hol k h3).2;omega),hpk k h2]
theorem BL.keep {w wr D w2:World}{kv:Int}{l:UInt8}{nm:List UInt8}{n:Nat}{f:Bool}{kids:List ya}{j:Nat}{a:Option Addr}{c:Nat}{L:List Value}{x:Xt}{o o1:Obj}(h:BL w wr kv l nm n f kids j a c L)(hD:D=(wr.alloc o1).drew)
  (hg:((ovr D x).alloc o).grownBy w2 (Value.slice a j c).ownBlock):w2.heap[w.heap.size+2]? = some (.cells #[.int .i64 kv,.int .u8 l.toNat,.string ⟨nm.toArray⟩,.int .u64 n,.bool f,.slice a j c] 28 (0,0)):=by
 have hDs:D.heap.size=wr.heap.size+1:=by rw[hD];simp[World.drew]
 have hx:D.heap.size<=(ovr D x).heap.size:=(qp D x).size;have hps:((ovr D x).alloc o).heap.size=(ovr D x).heap.size+1:=by simp
 have hsz:=h.sz;rw[hg.block _ (by omega) (fun h3=>by have:=(h.own.lt _ h3.symm).1;omega),heap_alloc_old _ _ (by omega),(qp D x).block _ (by omega),hD];rw[show(wr.alloc o1).drew.heap=(wr.alloc o1).heap from rfl,heap_alloc_old _ _ (by omega)];exact h.out
theorem BL.tree {w wr w2:World}{kv:Int}{k:Nat}{l:UInt8}{nm:List UInt8}{n:Nat}{f:Bool}{kids:List ya}{a:Option Addr}{c:Nat}{L:List Value}(h:BL w wr kv l nm n f kids kids.length a c L)(hk:KV kv k)(hn:n < 18446744073709551616)(hm:nm.length<=maxLen)
  (h2:∀ k,w.heap.size+3<=k->k < wr.heap.size->w2.heap[k]? = wr.heap[k]?):yg w2 (.mk k l nm n f (kids.map ya.bare)) (.agg #[.int .i64 kv,.int .u8 l.toNat,.string ⟨nm.toArray⟩,.int .u64 n,.bool f,.slice a kids.length c]):=by
 have hkt:∀ i,i < kids.length->∃ v0 v1 v2 v3 v4 v5,L[i*6]? = some v0/\L[i*6+1]? = some v1/\L[i*6+2]? = some v2/\L[i*6+3]? = some v3/\L[i*6+4]? = some v4/\L[i*6+5]? = some v5/\yg w2 (kids.getD i .zero).bare (.agg #[v0,v1,v2,v3,v4,v5]):=fun i hi=>by
  obtain⟨v0,v1,v2,v3,v4,v5,e0,e1,e2,e3,e4,e5,ht⟩:=h.kid i hi;exact⟨v0,v1,v2,v3,v4,v5,e0,e1,e2,e3,e4,e5,ht w2 fun k hk=>h2 k hk.1 hk.2.1⟩
 have hK:qz w2 a c (kids.map ya.bare):=by
  rcases h.own.2 with⟨hv,h0⟩|⟨g,cap,cur,hv,hb,hg,hc1,hc2,hcs,htk⟩
  ·injection hv with h1 h2 h3
   subst h1;subst h3;have hk0:kids=[]:=List.eq_nil_of_length_eq_zero h0;subst hk0;exact⟨Nat.le_refl _,by unfold maxLen;omega,fun h=>absurd rfl h,fun i b o hi=>by simp at hi⟩
  ·injection hv with h1 h3 h4
   subst h1;subst h4;have hgl:g < wr.heap.size:=(Array.getElem?_eq_some_iff.1 hg).1;refine kids_row (cs:=cur) (by rw[h2 g hb hgl];exact hg) (by rw[List.length_map];exact hc1) hc2 fun i hi=>?_;rw[List.length_map] at hi;obtain⟨v0,v1,v2,v3,v4,v5,e0,e1,e2,e3,e4,e5,ht⟩:=hkt i hi;have hL:∀ m v,L[m]? = some v->cur[m]? = some v:=fun m v hm=>by
    rw[<-htk,List.getElem?_take] at hm
    split at hm
    ·simpa using hm
    ·cases hm
   exact⟨v0,v1,v2,v3,v4,v5,hL _ _ e0,hL _ _ e1,hL _ _ e2,hL _ _ e3,hL _ _ e4,hL _ _ e5,by rw[getD_bare hi];exact ht⟩
 have:=tree_of_kids (l:=l) (f:=f) hk hn hm hK
 rwa[List.length_map] at this
set_option maxHeartbeats 16000000 in
set_option maxRecDepth 100000 in
theorem bare_loop_walk {k:Nat}{l:UInt8}{nm:List UInt8}{n:Nat}{f:Bool}{kids:List ya}{v:Value}{w:World}(hk:k≠6)(hl:kids.length<=300)
  (hch:∀ i,i < kids.length->∀ v w,yg w (kids.getD i .zero) v->Calls Tryz.prog 28 #[v] w fun e w'=>BareR w (kids.getD i .zero).bare e w') (htr:yg w (.mk k l nm n f kids) v) :
  Calls Tryz.prog 28 #[v] w fun e w'=>BareR w (.mk k l nm n f (kids.map ya.bare)) e w':=by
 obtain⟨i0,hi,hz0,hz1,hz2⟩:=info_parts infoRust;obtain⟨hn64,hnml⟩:=tree_bd htr;obtain⟨kv,ao,cap,rfl,hkv,hK⟩:=kids_any htr;have q6:(kv == 6)=false:=by
  rw[Bool.eq_false_iff,ne_eq,beq_iff_eq];unfold KV at hkv;omega
 have hc1:=hK.c1;have hc2:=hK.c2;have hnn:=hK.nn;unfold maxLen at hc2;obtain⟨B,hB⟩:∃ B,B=w.heap.size:=⟨_,rfl⟩;have HC:=lh hch;have HK:=lh hK;have HV:=lh (And.intro hkv (And.intro hn64 hnml));have HB:=lh hB;clear hch hK htr hkv hn64 hnml hB
 go_enter Tryz.func28,Tryz.ntmps28
 go_wp2
 go_loopw [21] (fun i wr=>∃ (j:Nat) (a:Option Addr) (c:Nat) (L:List Value),j<=kids.length/\i=.int .i64 j/\BL w wr kv l nm n f kids j a c L) (fun i _=>kids.length-(intOf i).toNat)
 case atStart=>
  have hs2:((w.alloc (.cells #[.int .i64 kv,.int .u8 l.toNat,.string ⟨nm.toArray⟩,.int .u64 n,.bool f,.slice ao kids.length cap] 28)).alloc (.cells #[.int .i64 0,.int .u8 0,.string ⟨#[]⟩,.int .u64 0,.bool false,.slice none 0 0] 28)).heap.size=w.heap.size+2:=by simp
  exact⟨0,none,0,[],by omega,rfl,⟨by rw[<-hs2];exact ym _ _,by rw[heap_alloc_old _ _ (by rw[hs2];omega)];exact heap_alloc2_new w _ _,⟨rfl,.inl ⟨rfl,rfl⟩⟩,(((Below.refl _ w).alloc (Nat.le_refl _) _).alloc (by simp) _).alloc (by rw[hs2];omega) _,by simp,fun i hi=>absurd hi (Nat.not_lt_zero _)⟩⟩
 case round=>
  obtain⟨j,a,c,L,hj,rfl,hBL⟩:=hrel;have HBL:=lh hBL;clear hBL
  by_cases hlt:j < kids.length
  ·obtain⟨kb,ko,rfl⟩:=hnn (fun h=>by rw[h] at hlt;simp at hlt)
   obtain⟨v0,v1,v2,v3,v4,v5,KK,tr⟩:=(HK.out.at HB.out (by rw[HB.out];exact HBL.out.bel)).elB j hlt;obtain⟨e0,e1,e2,e3,e4,e5⟩:=KK;obtain⟨kv2,c2,nm2,n2,f2,kao,kln,kcap,rfl,rfl,rfl,rfl,rfl,rfl⟩:=tr.shape;have HT:=lh tr;have hsz:=HBL.out.sz;have hDp:∀ x,(ovr ((wr.alloc (.cells #[.int .i64 kv2,.int .u8 c2.toNat,.string ⟨nm2.toArray⟩,.int .u64 n2,.bool f2,.slice kao kln kcap] 28)).drew) x).heap[w.heap.size+2]? = some (.cells #[.int .i64 kv,.int .u8 l.toNat,.string ⟨nm.toArray⟩,.int .u64 n,.bool f,.slice a j c] 28 (0,0)):=fun x=>by
    rw[(qp _ x).block _ (by simp[World.drew];omega),show(wr.alloc (.cells #[.int .i64 kv2,.int .u8 c2.toNat,.string ⟨nm2.toArray⟩,.int .u64 n2,.bool f2,.slice kao kln kcap] 28)).drew.heap=(wr.alloc (.cells #[.int .i64 kv2,.int .u8 c2.toNat,.string ⟨nm2.toArray⟩,.int .u64 n2,.bool f2,.slice kao kln kcap] 28)).heap from rfl,heap_alloc_old _ _ (by omega)];exact HBL.out.out
   have C5a:((wr.alloc (.cells #[.int .i64 kv2,.int .u8 c2.toNat,.string ⟨nm2.toArray⟩,.int .u64 n2,.bool f2,.slice kao kln kcap] 28)).drew).cell? ⟨w.heap.size+1+1,5,none⟩=some (.slice a j c):=by have:=hDp ⟨((wr.alloc (.cells #[.int .i64 kv2,.int .u8 c2.toNat,.string ⟨nm2.toArray⟩,.int .u64 n2,.bool f2,.slice kao kln kcap] 28)).drew).drawn,#[]⟩;rw[ycj] at this;exact zm this rfl
   have C5b:∀ x,(ovr ((wr.alloc (.cells #[.int .i64 kv2,.int .u8 c2.toNat,.string ⟨nm2.toArray⟩,.int .u64 n2,.bool f2,.slice kao kln kcap] 28)).drew) x).cell? ⟨w.heap.size+1+1,5,none⟩=some (.slice a j c):=fun x=>zm (hDp x) rfl;have C5c:∀ x o,((ovr ((wr.alloc (.cells #[.int .i64 kv2,.int .u8 c2.toNat,.string ⟨nm2.toArray⟩,.int .u64 n2,.bool f2,.slice kao kln kcap] 28)).drew) x).alloc o).cell? ⟨w.heap.size+1+1,5,none⟩=some (.slice a j c):=fun x o=>yi (C5b x) o;have HOW:∀ x o,((ovr ((wr.alloc (.cells #[.int .i64 kv2,.int .u8 c2.toNat,.string ⟨nm2.toArray⟩,.int .u64 n2,.bool f2,.slice kao kln kcap] 28)).drew) x).alloc o).ownsRow (w.heap.size+3) 28 6 (.slice a j c) j L:=fun x o=>by
    rw[xj,yb,yb,yd,yd,yd];exact own_ovr HBL.out.own _
   have HSZ:∀ x o,w.heap.size+3<=((ovr ((wr.alloc (.cells #[.int .i64 kv2,.int .u8 c2.toNat,.string ⟨nm2.toArray⟩,.int .u64 n2,.bool f2,.slice kao kln kcap] 28)).drew) x).alloc o).heap.size:=fun x o=>by
    have h1:=(qp ((wr.alloc (.cells #[.int .i64 kv2,.int .u8 c2.toNat,.string ⟨nm2.toArray⟩,.int .u64 n2,.bool f2,.slice kao kln kcap] 28)).drew) x).size;have h2:(wr.alloc (.cells #[.int .i64 kv2,.int .u8 c2.toNat,.string ⟨nm2.toArray⟩,.int .u64 n2,.bool f2,.slice kao kln kcap] 28)).drew.heap.size=wr.heap.size+1:=by simp[World.drew]
    simp;omega
   have HT2:yg ((wr.alloc (.cells #[.int .i64 kv2,.int .u8 c2.toNat,.string ⟨nm2.toArray⟩,.int .u64 n2,.bool f2,.slice kao kln kcap] 28)).drew) (kids.getD j .zero) (.agg #[.int .i64 kv2,.int .u8 c2.toNat,.string ⟨nm2.toArray⟩,.int .u64 n2,.bool f2,.slice kao kln kcap]):=by
    rw[xj,yb,yd];exact HT.out.ovr _
   clear hnn tr hDp hsz;go_wp2
   go_region_law (first
    | (go_simp
       go_wp2_with fail
       refine(HC.out j hlt _ _ HT2).mono ?_;rintro e w1 ⟨v',x,rfl,rfl,hI⟩;obtain⟨kv3,l3,nm3,n3,f3,ao3,ln3,cap3,rfl⟩:=yek hI.at
       go_wp2)
    | (refine step_append_own2 rfl (.tmp 26) (.tmp 29) 26 rfl (w.heap.size+3) 28 i0 (.agg zeroC) 6 72 Tryz.underlying26 hi hz0 hz1 hz2 rfl (by decide) _ _ _ rfl (HOW _ _) _ 1 _ rfl rfl (six_new _ _ _ _ _ _ _ _) (by simp[Value.oneCell']) (by unfold maxLen;omega) (by omega) (HSZ _ _) ?_
       intro v' w2 hown2 hgrow hfr;obtain⟨a',c',rfl⟩:=jl hown2;have hk2:=HBL.out.keep rfl hgrow;have e5w:w2.cell? ⟨w.heap.size+1+1,5,none⟩=some (.slice a j c):=zm hk2 rfl;have g5w:w2.frozen? ⟨w.heap.size+1+1,5,none⟩=false:=zz hk2 5;clear hk2))
   all_goals
    have hN:=lh (HBL.out.next rfl hI hown2 hgrow hfr);clear hown2 hgrow hfr hI HOW HSZ HT2 C5a C5b C5c e5w g5w;go_wp2
    go_roundw
    case rel=>exact⟨j+1,a',c',_,by omega,by go_num,hN.out⟩
    case measure=>simp[intOf];omega
  ·obtain rfl:j=kids.length:=by omega
   have Z:=zc_of HBL.out.res;obtain⟨z0,z1,z2,z3,z4,z5,y0,y1,y2,y3,y4,y5⟩:=Z;have p0:wr.cell? ⟨w.heap.size+2,0,none⟩=some (.int .i64 kv):=zm HBL.out.out rfl;have p1:wr.cell? ⟨w.heap.size+2,1,none⟩=some (.int .u8 l.toNat):=zm HBL.out.out rfl;have p2:wr.cell? ⟨w.heap.size+2,2,none⟩=some (.string ⟨nm.toArray⟩):=zm HBL.out.out rfl;have p3:wr.cell? ⟨w.heap.size+2,3,none⟩=some (.int .u64 n):=zm HBL.out.out rfl;have p4:wr.cell? ⟨w.heap.size+2,4,none⟩=some (.bool f):=zm HBL.out.out rfl;have p5:wr.cell? ⟨w.heap.size+2,5,none⟩=some (.slice a kids.length c):=zm HBL.out.out rfl;go_wp2;clear z0 z1 z2 z3 z4 z5 y0 y1 y2 y3 y4 y5 p0 p1 p2 p3 p4 p5;rw[six_set HBL.out.res];refine bodyPost_ret (results_cell_row rfl _ _ (w.heap.size+1) 28 _ (0,0) _ rfl (setRow_heap _ _ _ _ _ _ HBL.out.res) Tryz.underlying28 rfl (by kernel_rfl)) rfl ?_;obtain⟨x',hx'⟩:=ybj (below_setRow HBL.out.bel (show w.heap.size<=w.heap.size+1 by omega) #[.int .i64 kv,.int .u8 l.toNat,.string ⟨nm.toArray⟩,.int .u64 n,.bool f,.slice a kids.length c]);refine⟨_,x',rfl,hx',?_⟩;rw[<-hx'];intro w2 h2;have hsz:=HBL.out.sz;exact HBL.out.tree HV.out.1 HV.out.2.1 HV.out.2.2 fun k hk1 hk2=>by rw[h2 k ⟨by omega,by simp;exact hk2⟩,setRow_other _ _ _ _ (by omega)]
theorem bare_walk:∀ (m:Nat){t:ya}{v:Value}{w:World},t.wt<=m->m<=300->t.ne=true->yg w t v->Calls Tryz.prog 28 #[v] w fun e w'=>BareR w t.bare e w':=by
 intro m
 induction m with
 | zero=>intro t v w h;have:=yei t;omega
 | succ m ih=>
  intro t v w hm hm3 hn htr;obtain⟨k,l,nm,n,f,kids⟩:=t;rw[zd] at hm;rw[jo] at hn;have hkl:=vx kids;have hch:∀ i,i < kids.length->∀ v w,yg w (kids.getD i .zero) v->Calls Tryz.prog 28 #[v] w fun e w'=>BareR w (kids.getD i .zero).bare e w':=
   fun i hi v w h=>ih (by have:=xn (ybi hi);omega) (by omega) (hn.2.2 _ (ybi hi)) h
  by_cases h6:k=6
  ·subst h6
   have h2:=hn.1 rfl;obtain⟨p,a,rfl⟩:∃ p a,kids=p::a:=by cases kids with|nil=>simp at h2|cons p a=>exact⟨p,a,rfl⟩
   rw[bare_gen];exact bare_gen_walk (fun v w h=>hch 0 (by simp) v w h) htr
  ·rw[bare_not h6]
   exact bare_loop_walk h6 (by omega) hch htr
end Go.Proofs.YtfckcdbpiepchaaGreatDoor
