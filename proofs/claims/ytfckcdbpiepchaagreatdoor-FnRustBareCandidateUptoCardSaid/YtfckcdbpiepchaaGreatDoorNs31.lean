import Derived.Test.YtfckcdbpiepchaaGreatDoorNs30
namespace Go.Proofs.YtfckcdbpiepchaaGreatDoor
open Go.RowKit
set_option maxRecDepth 100000
set_option maxHeartbeats 8000000
set_option linter.all false
theorem Tryz.infoStrH: (Tryz.prog.info? 9).map (fun i=>(i.zero,i.size,i.bytes))=some (some (.string ⟨#[]⟩),1,16):=by kernel_rfl
theorem Tryz.infoIntH: (Tryz.prog.info? 3).map (fun i=>(i.zero,i.size,i.bytes))=some (some (.int .i64 0),1,8):=by kernel_rfl
theorem yj6 {w:World}{B p:Nat}{h:Value}{pl:Bool}{st:WS}{a d j m:Nat}(e:WAt w B p h pl st) (f:w.cell? ⟨p,2,none⟩=some (.slice (some ⟨a,0,none⟩) st.marks.length d)) (i:j < st.marks.length) (k:m=st.marks.getD j 0):w.cell? ⟨a,j,none⟩=some (.int .i64 m):=by
 obtain⟨so,sx,sm,sb,sk,c⟩:=e;have b:=c.cell 2 sm rfl;rw[f] at b
 cases b
 have:=c.m.cells (g:=a) rfl j (.int .i64 m) (by show(yb2 st.marks)[j]? = _;unfold yb2;rw[List.getElem?_map,k,lgd,lge i];rfl)
 rwa[show(⟨a,0,none⟩:Addr).add j=⟨a,j,none⟩ by simp[Addr.add];omega] at this
theorem yoo {w:World}{B p a j m:Nat}{h so sx sb sk:Value}{pl:Bool}{st:WS}{b:Nat} (hb:w.heap[p]? = some (.cells (gp so sx (.slice (some ⟨a,0,none⟩) st.marks.length b) h st pl sb sk).toArray 70 (0,0)))
  (c:w.ownsRow B 3 1 (.slice (some ⟨a,0,none⟩) st.marks.length b) st.marks.length (yb2 st.marks)) (d:j < st.marks.length) (e:m=st.marks.getD j 0) :
  w.cell? ⟨p,0,none⟩=some so/\w.cell? ⟨p,2,none⟩=some (.slice (some ⟨a,0,none⟩) st.marks.length b)/\w.cell? ⟨p,7,none⟩=some (.int .i64 st.bound)/\w.cell? ⟨a,j,none⟩=some (.int .i64 m):=by
 refine⟨zm hb rfl,zm hb rfl,zm hb rfl,?_⟩;have:=c.cells (g:=a) rfl j (.int .i64 m) (by show(yb2 st.marks)[j]? = _;unfold yb2;rw[List.getElem?_map,e,lgd,lge d];rfl)
 rwa[show(⟨a,0,none⟩:Addr).add j=⟨a,j,none⟩ by simp[Addr.add];omega] at this
theorem yss {w:World}{p a j m:Nat}{h so sx sb sk v:Value}{pl:Bool}{st:WS}{b:Nat} (hb:w.heap[p]? = some (.cells (gp so sx (.slice (some ⟨a,0,none⟩) st.marks.length b) h st pl sb sk).toArray 70 (0,0)))
  (c:(w.setCell ⟨p,9,none⟩ v).cell? ⟨a,j,none⟩=some (.int .i64 m)) :
  (w.setCell ⟨p,9,none⟩ v).cell? ⟨p,0,none⟩=some so/\(w.setCell ⟨p,9,none⟩ v).cell? ⟨p,2,none⟩=some (.slice (some ⟨a,0,none⟩) st.marks.length b)/\(w.setCell ⟨p,9,none⟩ v).cell? ⟨p,7,none⟩=some (.int .i64 st.bound)/\(w.setCell ⟨p,9,none⟩ v).cell? ⟨a,j,none⟩=some (.int .i64 m):=
 ⟨zm (zb hb 9 v) rfl,zm (zb hb 9 v) rfl,zm (zb hb 9 v) rfl,c⟩
theorem yqs {how:List Int}{d:Nat}{t:ya}{st:WS}{m n:Nat}{u:List UInt8} (b:u=(wPl (d+1) t .zero).out) (a:zr how u (st.texts.zip st.marks) st.used=(some m,n)) :
  wGo false how (d+1) t st=({ st with used:=n,backs:=st.backs++[⟨st.out.length,m,st.bound⟩] } : WS).put (66::jd m):=by
 rw[wGo,if_neg (by decide)];dsimp only;rw[<-b,a]
theorem yqt {how:List Int}{d:Nat}{t:ya}{st:WS}{n:Nat}{u:List UInt8} (b:u=(wPl (d+1) t .zero).out) (a:zr how u (st.texts.zip st.marks) st.used=(none,n)) :
  wGo false how (d+1) t st={ yc (fun j t w=>wGo false how (d-j) t w) t { st with used:=n } with texts:=(yc (fun j t w=>wGo false how (d-j) t w) t { st with used:=n }).texts++[u],marks:=(yc (fun j t w=>wGo false how (d-j) t w) t { st with used:=n }).marks++[st.out.length] }:=by
 rw[wGo,if_neg (by decide)];dsimp only;rw[<-b,a]
theorem yix {w0:World}{B p:Nat}{h:Value}{how:List Int}(E:WE w0 B p h false how):∀ e,PcC w0 B p h false how e:=by
 intro e
 induction e using Nat.strongRecOn with
 | _ e ih=>
  intro t v w st ho ba al hW hF hb
  cases e with
  | zero=>exact absurd ho yoj
  | succ d=>
   have cz:=yg5 ho;have hU:=(ys7 ho).o;have bt:=hF.of (qx false how (d+1) t st);have b3:=bt.tm;have b2:=fun w' (ak:Below B w0 w')=>yky (d:=d) (by omega) ho (ba.at E.hB ak) (yf3 E ak).1 (yf3 E ak).2;have c9:=fun w' b5 (ak:Below B w0 w') (dw:WAt w' B p h false b5) (du:j4 (yc (fun j t w=>wGo false how (d-j) t w) t b5)) (cv:b5.bound+20*(d+1)<=1000)=>yfn E (fun e he=>ih e (by omega)) ho ba ak dw du cv;obtain⟨u,hu⟩:∃ u,u=(wPl (d+1) t .zero).out:=⟨_,rfl⟩;have X:=fun m n hf=>yqs (how:=how) (st:=st) (m:=m) (n:=n) hu hf;have U:=fun n hf=>yqt (how:=how) (st:=st) (n:=n) hu hf;rw[<-hu] at b2 hU;obtain⟨R,hR⟩:∃ R,R=wGo false how (d+1) t st:=⟨_,rfl⟩;rw[<-hR] at hF X U |-;obtain⟨k,c,nm,n,f,kids⟩:=t;obtain⟨ao,cap,rfl,hK,hn,d7⟩:=yo ba cz;have hB:=E.hB;have c7:=al.size;rw[<-hB] at c7;have hH:=E.hw rfl;obtain⟨so,sx,sm,sb,sk,hP⟩:=hW;have c5:=fun o=>(hP.at.alloc o).plain;have d3:=hb;have HE:=lh E;have ci:=lh b2;have cl:=lh c9;have ch:=lh X;have cd:=lh U;have HL:=lh al;have HP:=lh hP;have HF:=lh hF;have O:=lh bt;have a4:=lh b3;have HH:=lh hH;have b7:=lh hb;clear E b2 c9 X U al hP hF bt b3 hH hb ih ho ba hK cz hu hR d3
   go_enter Tryz.func40,Tryz.ntmps40
   go_wp2_with fail
   refine(ci.out _ (HL.out.alloc c7 _)).mono ?_;rintro e w1 ⟨rfl,a7⟩;have ai:=(HP.out.below ((Below.refl _ w).alloc (Nat.le_refl _) _)).below a7;have bu:=(Fr.alloc B w (.cells #[.int .i64 k,.int .u8 c.toNat,.string ⟨nm.toArray⟩,.int .u64 n,.bool f,.slice ao kids.length cap] 28)).trans (Fr.of_below a7);have cs:Below B w0 w1:=HL.out.trans (bu.below c7);have ct:w1.heap[w.heap.size]? = some (.cells #[.int .i64 k,.int .u8 c.toNat,.string ⟨nm.toArray⟩,.int .u64 n,.bool f,.slice ao kids.length cap] 28 (0,0)):=(Fr.of_below (B:=B) a7).cell (ym w _);obtain⟨ax,cx,rfl⟩:=jl ai.x;obtain⟨am,cm,rfl⟩:=jl ai.m;have c1:=ai.cell 1 (.slice ax st.texts.length cx) rfl;have cf:=lh ai;have bh:=lh bu;have cb:=lh cs;have ck:=lh ct;have d6:=O.out.x;clear ai bu cs ct a7 c5;go_wp2
   go_loopw [22] (fun i wr=>∃ (k n:Nat),k<=st.texts.length/\i=.int .i64 k/\Below B w0 wr/\Fr B w1 wr/\qu wr B p h false { st with used:=n } so (.slice ax st.texts.length cx) (.slice am st.marks.length cm) sb sk/\n<=st.used+k/\Hid (zr how u ((st.texts.zip st.marks).drop k) n=zr how u (st.texts.zip st.marks) st.used)) (fun i _=>st.texts.length-(intOf i).toNat)
   case atStart=>exact⟨0,st.used,by omega,rfl,cb.out,Fr.refl _ _,cf.out,by omega,lh rfl⟩
   case round=>
    obtain⟨j,q,hj,rfl,an,ar,F,hq,az⟩:=hrel
    by_cases c6:j < st.texts.length
    ·obtain⟨g,d0⟩:∃ g,ax=some ⟨g,0,none⟩:=by
      rcases F.x.2 with⟨he,_⟩|⟨g,co,ds,he,_⟩
      ·simp only[Value.slice.injEq] at he;omega
      ·simp only[Value.slice.injEq] at he;exact⟨g,he.1⟩
     subst d0;obtain⟨I,dz⟩:∃ g,am=some ⟨g,0,none⟩:=by
      have b3:=a4.out
      rcases F.m.2 with⟨he,_⟩|⟨g,co,ds,he,_⟩
      ·simp only[Value.slice.injEq] at he;omega
      ·simp only[Value.slice.injEq] at he;exact⟨g,he.1⟩
     subst dz;obtain⟨b,a8⟩:∃ b,b=st.texts.getD j []:=⟨_,rfl⟩;obtain⟨m,av⟩:∃ m,m=st.marks.getD j 0:=⟨_,rfl⟩;have H:j < st.marks.length:=by have:=a4.out;omega
     have ex:wr.cell? ⟨g,j,none⟩=some (.string ⟨b.toArray⟩):=by
      have:=F.x.cells (g:=g) rfl j (.string ⟨b.toArray⟩) (by show(ke st.texts)[j]? = _;unfold ke;rw[List.getElem?_map,a8,lgd,lge c6];rfl)
      rwa[show(⟨g,0,none⟩:Addr).add j=⟨g,j,none⟩ by simp[Addr.add];omega] at this
     have em:wr.cell? ⟨I,j,none⟩=some (.int .i64 m):=by
      have:=F.m.cells (g:=I) rfl j (.int .i64 m) (by show(yb2 st.marks)[j]? = _;unfold yb2;rw[List.getElem?_map,av,lgd,lge H];rfl)
      rwa[show(⟨I,0,none⟩:Addr).add j=⟨I,j,none⟩ by simp[Addr.add];omega] at this
     have b4:=yqn a4.out c6;rw[<-a8,<-av] at b4;have e4:m<=1000000000:=O.out.mm m (by rw[av,lgd,lge H];exact List.getElem_mem H);have J:Hid (zr how u ((b,m)::(st.texts.zip st.marks).drop (j+1)) q=zr how u (st.texts.zip st.marks) st.used):=lh (by rw[<-b4];exact az.out);have a2:=lh F;have P:=lh an;have ab:=lh ar;have dh:=lh a8;have ac:=lh av;clear F an ar az b4 a8 av
     by_cases b0:b=u
     ·by_cases bs:1 < u.length
      ·have q2:decide ((1:Int) < (u.length:Int))=true:=decide_eq_true (by omega)
       subst b0;have d9:=O.out.u
       go_wp2_with fail
       refine(ykl a2.out (HH.out.at hB P.out) (by show q<=_;omega)).mono ?_;rintro e C ⟨rfl,r,L⟩;have a6:Below B w0 C:=P.out.trans (L.below (by rw[hB];exact P.out.size))
       by_cases ad:ybg how q=true
       ·have h0:how≠[]:=by rintro rfl;unfold ybg at ad;simp at ad
        have aq:zr how b (st.texts.zip st.marks) st.used=(some m,q+1):=by
         rw[<-J.out,zr,if_pos (show b=b/\1 < b.length from⟨rfl,bs⟩),if_neg h0,if_pos ad]
        have HR:=lh (ch.out m (q+1) aq);rw[if_neg h0] at r;replace r:qu C B p h false { st with used:=q+1 } so (.slice (some ⟨g,0,none⟩) st.texts.length cx) (.slice (some ⟨I,0,none⟩) st.marks.length cm) sb sk:=r;have eq:C.cell? ⟨I,j,none⟩=some (.int .i64 m):=by
         have:=r.m.cells (g:=I) rfl j (.int .i64 m) (by show(yb2 st.marks)[j]? = _;unfold yb2;rw[List.getElem?_map,ac.out,lgd,lge H];rfl)
         rwa[show(⟨I,0,none⟩:Addr).add j=⟨I,j,none⟩ by simp[Addr.add];omega] at this
        obtain⟨a0,k0,rfl⟩:=jl r.o;obtain⟨i0,hi,bb,bc,bd⟩:=info_parts Tryz.infoBack;have e0:=r.cell 0 (.slice a0 st.out.length k0) rfl;have e2:=r.cell 2 (.slice (some ⟨I,0,none⟩) st.marks.length cm) rfl;have e7:=r.cell 7 (.int .i64 st.bound) rfl;have e9:=r.cell 9 sk rfl;have c8:B<=C.heap.size:=Nat.le_trans r.pB (Nat.le_of_lt r.lt);have ez:=O.out.k;have e6:=O.out.o;have G:=lh r;have ca:=lh (ab.out.trans L);have dm:=lh a6;clear r L a6 J em ex aq hB;rw[ad];clear HE ci cl ch cd HL HP HF O a4 HH b7 cf cb ck P a2 ab dh dm d6 hn d7 d9 hq hj;go_wp2;have HD:Hid (∀ k o,Below C.heap.size C ((C.drewN k).alloc o)):=lh fun k o=>(show Below C.heap.size C (C.drewN k) from⟨rfl,rfl,rfl,Nat.le_refl _,fun _ _=>rfl⟩).alloc (Nat.le_refl _) o;have b8:Hid (Below C.heap.size C C.drew):=lh ⟨rfl,rfl,rfl,Nat.le_refl _,fun _ _=>rfl⟩;have ce:Hid (∀ o,(C.drew.alloc o).ownsRow B 73 3 sk st.backs.length (yfk st.backs)):=lh fun o=>(G.out.below (HD.out 1 o)).k;have cj:Hid (∀ o,B<=(C.drew.alloc o).heap.size):=lh fun o=>Nat.le_trans c8 (HD.out 1 o).size;have af:Hid (∀ w',Below C.heap.size C w'->w'.cell? ⟨p,0,none⟩=some (.slice a0 st.out.length k0)/\w'.cell? ⟨p,2,none⟩=some (.slice (some ⟨I,0,none⟩) st.marks.length cm)/\w'.cell? ⟨p,7,none⟩=some (.int .i64 st.bound)/\w'.cell? ⟨I,j,none⟩=some (.int .i64 m)):=lh fun w' h=>by
         have hq:=G.out.below h;exact⟨hq.cell 0 _ rfl,hq.cell 2 _ rfl,hq.cell 7 _ rfl,yj6 hq.at (hq.cell 2 _ rfl) H ac.out⟩
        have k9:∀ o,(C.alloc o).cell? ⟨p,9,none⟩=some sk:=fun o=>zm (G.out.below ((Below.refl _ C).alloc (Nat.le_refl _) o)).blk rfl;have fb:(0:Int)<=(j:Int):=by omega
        have fd:(j:Int) < (st.marks.length:Int):=by omega
        refine wp_region_noPanic ?_;refine wp_region_held_drew (S:=fun w'=>w'.cell? ⟨p,0,none⟩=some (.slice a0 st.out.length k0)/\w'.cell? ⟨p,2,none⟩=some (.slice (some ⟨I,0,none⟩) st.marks.length cm)/\w'.cell? ⟨p,7,none⟩=some (.int .i64 st.bound)/\w'.cell? ⟨I,j,none⟩=some (.int .i64 m)) (by kernel_rfl) (af.out _ b8.out) (fun y=>?_);refine wpAnyH_take (i:=0) (v:=?_) rfl (by kernel_rfl) (by kernel_rfl) (by kernel_rfl) (fun _ _ _ h=>h) (Or.inl ⟨by rfl,?_⟩) (by assumption) ?_
        rotate_left
        ·(intro w a;(try dsimp only at a);go_simp;try(with_reducible rfl))
        try simp only[Act.put,List.setIfInBounds_toArray,List.set_cons_zero,List.set_cons_succ]
        refine wpAnyH_take (i:=1) (v:=?_) rfl (by kernel_rfl) (by kernel_rfl) (by kernel_rfl) (fun _ _ _ h=>h) (Or.inl ⟨by rfl,?_⟩) (by assumption) ?_
        rotate_left
        ·(intro w a;(try dsimp only at a);go_simp;try(with_reducible rfl))
        try simp only[Act.put,List.setIfInBounds_toArray,List.set_cons_zero,List.set_cons_succ]
        refine wpAnyH_take (i:=2) (v:=?_) rfl (by kernel_rfl) (by kernel_rfl) (by kernel_rfl) (fun _ _ _ h=>h) (Or.inl ⟨by rfl,?_⟩) (by assumption) ?_
        rotate_left
        ·(intro w a;(try dsimp only at a);go_simp;try(with_reducible rfl))
        try simp only[Act.put,List.setIfInBounds_toArray,List.set_cons_zero,List.set_cons_succ]
        refine wpAnyH_take (i:=3) (v:=?_) rfl (by kernel_rfl) (by kernel_rfl) (by kernel_rfl) (fun _ _ _ h=>h) (Or.inl ⟨by rfl,?_⟩) (by assumption) ?_
        rotate_left
        ·(intro w a;(try dsimp only at a);go_simp;try(with_reducible rfl))
        try simp only[Act.put,List.setIfInBounds_toArray,List.set_cons_zero,List.set_cons_succ]
        refine wpAnyH_take (i:=5) (v:=?_) rfl (by kernel_rfl) (by kernel_rfl) (by kernel_rfl) (fun _ _ _ h=>h) (Or.inl ⟨by rfl,?_⟩) (by assumption) ?_
        rotate_left
        ·(intro w a;(try dsimp only at a);go_simp;try(with_reducible rfl))
        try simp only[Act.put,List.setIfInBounds_toArray,List.set_cons_zero,List.set_cons_succ]
        refine wpAnyH_take (i:=6) (v:=?_) rfl (by kernel_rfl) (by kernel_rfl) (by kernel_rfl) (fun _ _ _ h=>h) (Or.inl ⟨by rfl,?_⟩) (by assumption) ?_
        rotate_left
        ·(intro w a;(try dsimp only at a);go_simp;try(with_reducible rfl))
        try simp only[Act.put,List.setIfInBounds_toArray,List.set_cons_zero,List.set_cons_succ]
        refine wpAnyH_take (i:=7) (v:=?_) rfl (by kernel_rfl) (by kernel_rfl) (by kernel_rfl) (fun _ _ _ h=>h) (Or.inl ⟨by rfl,?_⟩) (by assumption) ?_
        rotate_left
        ·(intro w a;(try dsimp only at a);go_simp;try(with_reducible rfl))
        try simp only[Act.put,List.setIfInBounds_toArray,List.set_cons_zero,List.set_cons_succ]
        refine wpAnyH_take (i:=8) (v:=?_) rfl (by kernel_rfl) (by kernel_rfl) (by kernel_rfl) (fun _ _ _ h=>h) (Or.inl ⟨by rfl,?_⟩) (by assumption) ?_
        rotate_left
        ·(intro w a;(try dsimp only at a);go_simp;try(with_reducible rfl))
        try simp only[Act.put,List.setIfInBounds_toArray,List.set_cons_zero,List.set_cons_succ]
        refine wpAnyH_take (i:=9) (v:=?_) rfl (by kernel_rfl) (by kernel_rfl) (by kernel_rfl) (fun _ _ _ h=>h) (Or.inl ⟨by rfl,?_⟩) (by assumption) ?_
        rotate_left
        ·(intro w a;(try dsimp only at a);go_simp;try(with_reducible rfl))
        try simp only[Act.put,List.setIfInBounds_toArray,List.set_cons_zero,List.set_cons_succ]
        refine wpAnyH_take (i:=10) (v:=?_) rfl (by kernel_rfl) (by kernel_rfl) (by kernel_rfl) (fun _ _ _ h=>h) (Or.inl ⟨by rfl,?_⟩) (by assumption) ?_
        rotate_left
        ·(intro w a;(try dsimp only at a);go_simp;try(with_reducible rfl))
        try simp only[Act.put,List.setIfInBounds_toArray,List.set_cons_zero,List.set_cons_succ]
        refine wpAnyH_take (i:=11) (v:=?_) rfl (by kernel_rfl) (by kernel_rfl) (by kernel_rfl) (fun _ _ _ h=>h) (Or.inl ⟨by rfl,?_⟩) (by assumption) ?_
        rotate_left
        ·(intro w a;(try dsimp only at a);go_simp;try(with_reducible rfl))
        try simp only[Act.put,List.setIfInBounds_toArray,List.set_cons_zero,List.set_cons_succ]
        refine wpAnyH_take (i:=12) (v:=?_) rfl (by kernel_rfl) (by kernel_rfl) (by kernel_rfl) (fun _ _ _ h=>h) (Or.inl ⟨by rfl,?_⟩) (by assumption) ?_
        rotate_left
        ·(intro w a;(try dsimp only at a);go_simp;try(with_reducible rfl))
        try simp only[Act.put,List.setIfInBounds_toArray,List.set_cons_zero,List.set_cons_succ]
        refine wpAnyH_take (i:=13) (v:=?_) rfl (by kernel_rfl) (by kernel_rfl) (by kernel_rfl) (fun _ _ _ h=>h) (Or.inl ⟨by rfl,?_⟩) (by assumption) ?_
        rotate_left
        ·(intro w a;(try dsimp only at a);go_simp;try(with_reducible rfl))
        try simp only[Act.put,List.setIfInBounds_toArray,List.set_cons_zero,List.set_cons_succ]
        refine wpAnyH_take (i:=14) (v:=?_) rfl (by kernel_rfl) (by kernel_rfl) (by kernel_rfl) (fun _ _ _ h=>h) (Or.inl ⟨by rfl,?_⟩) (by assumption) ?_
        rotate_left
        ·(intro w a;(try dsimp only at a);go_simp;try(with_reducible rfl))
        try simp only[Act.put,List.setIfInBounds_toArray,List.set_cons_zero,List.set_cons_succ]
        refine wpAnyH_take (i:=15) (v:=?_) rfl (by kernel_rfl) (by kernel_rfl) (by kernel_rfl) (fun _ _ _ h=>h) (Or.inl ⟨by rfl,?_⟩) (by assumption) ?_
        rotate_left
        ·(intro w a;(try dsimp only at a);go_simp;try(with_reducible rfl))
        try simp only[Act.put,List.setIfInBounds_toArray,List.set_cons_zero,List.set_cons_succ]
        refine wpAnyH_take (i:=16) (v:=?_) rfl (by kernel_rfl) (by kernel_rfl) (by kernel_rfl) (fun _ _ _ h=>h) (Or.inl ⟨by rfl,?_⟩) (by assumption) ?_
        rotate_left
        ·(intro w a;(try dsimp only at a);go_simp;try(with_reducible rfl))
        try simp only[Act.put,List.setIfInBounds_toArray,List.set_cons_zero,List.set_cons_succ]
        refine wpAnyH_take (i:=17) (v:=?_) rfl (by kernel_rfl) (by kernel_rfl) (by kernel_rfl) (fun _ _ _ h=>h) (Or.inl ⟨by rfl,?_⟩) (by assumption) ?_
        rotate_left
        ·(intro w a;(try dsimp only at a);go_simp;try(with_reducible rfl))
        try simp only[Act.put,List.setIfInBounds_toArray,List.set_cons_zero,List.set_cons_succ]
        refine wpAnyH_take (i:=18) (v:=?_) rfl (by kernel_rfl) (by kernel_rfl) (by kernel_rfl) (fun _ _ _ h=>h) (Or.inl ⟨by rfl,?_⟩) (by assumption) ?_
        rotate_left
        ·(intro w a;(try dsimp only at a);go_simp;try(with_reducible rfl))
        try simp only[Act.put,List.setIfInBounds_toArray,List.set_cons_zero,List.set_cons_succ]
        refine wpAnyH_take (i:=19) (v:=?_) rfl (by kernel_rfl) (by kernel_rfl) (by kernel_rfl) (fun _ _ _ h=>h) (Or.inl ⟨by rfl,?_⟩) (by assumption) ?_
        rotate_left
        ·(intro w a;(try dsimp only at a);go_simp;try(with_reducible rfl))
        try simp only[Act.put,List.setIfInBounds_toArray,List.set_cons_zero,List.set_cons_succ]
        refine wpAnyH_take (i:=20) (v:=?_) rfl (by kernel_rfl) (by kernel_rfl) (by kernel_rfl) (fun _ _ _ h=>h) (Or.inl ⟨by rfl,?_⟩) (by assumption) ?_
        rotate_left
        ·(intro w a;(try dsimp only at a);go_simp;try(with_reducible rfl))
        try simp only[Act.put,List.setIfInBounds_toArray,List.set_cons_zero,List.set_cons_succ]
        refine wpAnyH_take (i:=21) (v:=?_) rfl (by kernel_rfl) (by kernel_rfl) (by kernel_rfl) (fun _ _ _ h=>h) (Or.inl ⟨by rfl,?_⟩) (by assumption) ?_
        rotate_left
        ·(intro w a;(try dsimp only at a);go_simp;try(with_reducible rfl))
        try simp only[Act.put,List.setIfInBounds_toArray,List.set_cons_zero,List.set_cons_succ]
        refine wpAnyH_ready (rs:=[4,22]) (by kernel_rfl) (by simp) ?_;refine AllReadyH.cons rfl (fun K hK=>?_) (AllReadyH.cons rfl (fun K hK=>?_) AllReadyH.nil)
        ·go_simp
         refine hK.out _ _ (af.out _ b8.out) (fun y=>?_);clear hK K
         try simp only[Act.put,List.setIfInBounds_toArray,List.set_cons_zero,List.set_cons_succ]
         refine wpAnyH_ready (rs:=[22]) (by kernel_rfl) (by simp) ?_;refine AllReadyH.cons rfl (fun K hK=>?_) AllReadyH.nil
         go_simp
         refine hK.out _ _ (af.out _ (HD.out 1 _)) (fun y=>?_);clear hK K
         try simp only[Act.put,List.setIfInBounds_toArray,List.set_cons_zero,List.set_cons_succ]
         refine wpAnyH_ready (rs:=[23]) (by kernel_rfl) (by simp) ?_;refine AllReadyH.cons rfl (fun K hK=>?_) AllReadyH.nil;refine vg (by rfl) (.tmp 43) (.tmp 61) 68 (by rfl) B 73 i0 (.agg #[.int .i64 0,.int .i64 0,.int .i64 0]) 3 24 Tryz.underlying68 hi bb bc bd (by rfl) (by decide) _ _ _ (by rfl) (ce.out _) _ 1 1 [.int .i64 st.out.length,.int .i64 m,.int .i64 st.bound] (by rfl) (by rfl) (by intro j u hj;exact yc9 hj) (by simp[Value.oneCell']) (by unfold maxLen;omega) (by omega) (cj.out _) ?_;intro v' Y z s;obtain⟨a9,m9,rfl⟩:=jl z;have D:Y.ownsRow B 73 3 (.slice a9 (st.backs.length+1) m9) (st.backs.length+1) (yfk (st.backs++[⟨st.out.length,m,st.bound⟩])):=(by rw[ymd];exact z);obtain⟨A,T,ah⟩:=(G.out.below (HD.out 1 _)).app_k (l:=st.backs++[⟨st.out.length,m,st.bound⟩]) (by simp) s D;have au:=q7 (G.out.below (HD.out 1 _)).m (G.out.below (HD.out 1 _)).k (by decide) s;have bl:=lh (yoo (st:={ st with used:=q+1 }) A au H ac.out);have f8:=zz A 9;have q8:Y.cell? ⟨p,9,none⟩=some sk:=zm A rfl;have bq:(Y.setCell ⟨p,9,none⟩ (.slice a9 (st.backs.length+1) m9)).cell? ⟨p,2,none⟩=some (.slice (some ⟨I,0,none⟩) st.marks.length cm):=zm (zb A 9 _) rfl;have br:(Y.setCell ⟨p,9,none⟩ (.slice a9 (st.backs.length+1) m9)).cell? ⟨I,j,none⟩=some (.int .i64 m):=yj6 T bq H ac.out;have bk:=lh (yss (v:=.slice a9 (st.backs.length+1) m9) (st:={ st with used:=q+1 }) A br);have bm:=lh T;have bj:=lh ((Fr.of_below (B:=B) (HD.out 1 _)).trans ah);clear z s D A T ah au;refine hK.out _ _ bl.out (fun y=>?_);clear hK K
         try simp only[Act.put,List.setIfInBounds_toArray,List.set_cons_zero,List.set_cons_succ]
         refine wpAnyH_take (i:=24) (v:=?_) rfl (by kernel_rfl) (by kernel_rfl) (by kernel_rfl) (fun _ _ _ h=>h) (Or.inl ⟨by rfl,?_⟩) (by assumption) ?_
         rotate_left
         ·(intro w a;(try dsimp only at a);go_simp;try(with_reducible rfl))
         try simp only[Act.put,List.setIfInBounds_toArray,List.set_cons_zero,List.set_cons_succ]
         refine wpAnyH_take (i:=25) (v:=?_) rfl (by kernel_rfl) (by kernel_rfl) (by kernel_rfl) (fun _ _ _ h=>h) (Or.inl ⟨by rfl,?_⟩) (by assumption) ?_
         rotate_left
         ·(intro w a;(try dsimp only at a);go_simp;try(with_reducible rfl))
         try simp only[Act.put,List.setIfInBounds_toArray,List.set_cons_zero,List.set_cons_succ]
         refine wpAnyH_ready (rs:=[26]) (by kernel_rfl) (by simp) ?_;refine AllReadyH.cons rfl (fun K hK=>?_) AllReadyH.nil
         go_simp
         refine hK.out _ _ (bk.out) (fun y=>?_);clear hK K
         try simp only[Act.put,List.setIfInBounds_toArray,List.set_cons_zero,List.set_cons_succ]
         refine wpAnyH_done (by kernel_rfl) ?_ _;refine NoPanic.normal ?_
         go_wp2_with fail
         refine(yk5 m (by omega) _).mono ?_;rintro e w4 ⟨rfl,rfl⟩
         go_wp2_with fail
         refine(yd3 bm.out (by have:=gh (n:=m) (by omega);simp only[List.length_cons];omega)).mono ?_;rintro e w5 ⟨rfl,N,M⟩;have ag:=lh N;have ae:=lh (bh.out.trans (ca.out.trans (bj.out.trans M)));clear N M;go_wp2;go_end0;exact⟨rfl,by rw[HR.out];exact ag.out,ae.out⟩
        ·go_simp
         refine hK.out _ _ (af.out _ (HD.out 1 _)) (fun y=>?_);clear hK K
         try simp only[Act.put,List.setIfInBounds_toArray,List.set_cons_zero,List.set_cons_succ]
         refine wpAnyH_ready (rs:=[4]) (by kernel_rfl) (by simp) ?_;refine AllReadyH.cons rfl (fun K hK=>?_) AllReadyH.nil
         go_simp
         refine hK.out _ _ (af.out _ (HD.out 1 _)) (fun y=>?_);clear hK K
         try simp only[Act.put,List.setIfInBounds_toArray,List.set_cons_zero,List.set_cons_succ]
         refine wpAnyH_ready (rs:=[23]) (by kernel_rfl) (by simp) ?_;refine AllReadyH.cons rfl (fun K hK=>?_) AllReadyH.nil;refine vg (by rfl) (.tmp 43) (.tmp 61) 68 (by rfl) B 73 i0 (.agg #[.int .i64 0,.int .i64 0,.int .i64 0]) 3 24 Tryz.underlying68 hi bb bc bd (by rfl) (by decide) _ _ _ (by rfl) (ce.out _) _ 1 1 [.int .i64 st.out.length,.int .i64 m,.int .i64 st.bound] (by rfl) (by rfl) (by intro j u hj;exact yc9 hj) (by simp[Value.oneCell']) (by unfold maxLen;omega) (by omega) (cj.out _) ?_;intro v' Y z s;obtain⟨a9,m9,rfl⟩:=jl z;have D:Y.ownsRow B 73 3 (.slice a9 (st.backs.length+1) m9) (st.backs.length+1) (yfk (st.backs++[⟨st.out.length,m,st.bound⟩])):=(by rw[ymd];exact z);obtain⟨A,T,ah⟩:=(G.out.below (HD.out 1 _)).app_k (l:=st.backs++[⟨st.out.length,m,st.bound⟩]) (by simp) s D;have au:=q7 (G.out.below (HD.out 1 _)).m (G.out.below (HD.out 1 _)).k (by decide) s;have bl:=lh (yoo (st:={ st with used:=q+1 }) A au H ac.out);have f8:=zz A 9;have q8:Y.cell? ⟨p,9,none⟩=some sk:=zm A rfl;have bq:(Y.setCell ⟨p,9,none⟩ (.slice a9 (st.backs.length+1) m9)).cell? ⟨p,2,none⟩=some (.slice (some ⟨I,0,none⟩) st.marks.length cm):=zm (zb A 9 _) rfl;have br:(Y.setCell ⟨p,9,none⟩ (.slice a9 (st.backs.length+1) m9)).cell? ⟨I,j,none⟩=some (.int .i64 m):=yj6 T bq H ac.out;have bk:=lh (yss (v:=.slice a9 (st.backs.length+1) m9) (st:={ st with used:=q+1 }) A br);have bm:=lh T;have bj:=lh ((Fr.of_below (B:=B) (HD.out 1 _)).trans ah);clear z s D A T ah au;refine hK.out _ _ bl.out (fun y=>?_);clear hK K
         try simp only[Act.put,List.setIfInBounds_toArray,List.set_cons_zero,List.set_cons_succ]
         refine wpAnyH_take (i:=24) (v:=?_) rfl (by kernel_rfl) (by kernel_rfl) (by kernel_rfl) (fun _ _ _ h=>h) (Or.inl ⟨by rfl,?_⟩) (by assumption) ?_
         rotate_left
         ·(intro w a;(try dsimp only at a);go_simp;try(with_reducible rfl))
         try simp only[Act.put,List.setIfInBounds_toArray,List.set_cons_zero,List.set_cons_succ]
         refine wpAnyH_take (i:=25) (v:=?_) rfl (by kernel_rfl) (by kernel_rfl) (by kernel_rfl) (fun _ _ _ h=>h) (Or.inl ⟨by rfl,?_⟩) (by assumption) ?_
         rotate_left
         ·(intro w a;(try dsimp only at a);go_simp;try(with_reducible rfl))
         try simp only[Act.put,List.setIfInBounds_toArray,List.set_cons_zero,List.set_cons_succ]
         refine wpAnyH_ready (rs:=[26]) (by kernel_rfl) (by simp) ?_;refine AllReadyH.cons rfl (fun K hK=>?_) AllReadyH.nil
         go_simp
         refine hK.out _ _ (bk.out) (fun y=>?_);clear hK K
         try simp only[Act.put,List.setIfInBounds_toArray,List.set_cons_zero,List.set_cons_succ]
         refine wpAnyH_done (by kernel_rfl) ?_ _;refine NoPanic.normal ?_
         go_wp2_with fail
         refine(yk5 m (by omega) _).mono ?_;rintro e w4 ⟨rfl,rfl⟩
         go_wp2_with fail
         refine(yd3 bm.out (by have:=gh (n:=m) (by omega);simp only[List.length_cons];omega)).mono ?_;rintro e w5 ⟨rfl,N,M⟩;have ag:=lh N;have ae:=lh (bh.out.trans (ca.out.trans (bj.out.trans M)));clear N M;go_wp2;go_end0;exact⟨rfl,by rw[HR.out];exact ag.out,ae.out⟩
       ·have ap:ybg how q=false:=by simpa using ad
        have HN:Hid (zr how b ((st.texts.zip st.marks).drop (j+1)) (if how=[] then q else q+1)=zr how b (st.texts.zip st.marks) st.used):=lh (by
         rw[<-J.out,zr,if_pos (show b=b/\1 < b.length from⟨rfl,bs⟩)]
         by_cases h0:how=[]
         ·simp only[h0,if_true]
         ·simp only[h0,if_false,ap,Bool.false_eq_true])
        have d8:(if how=[] then q else q+1)<=st.used+(j+1):=by split<;>omega
        rw[ap];have a1:=lh r;have bi:=lh (ab.out.trans L);have dl:=lh a6;clear J em r L a6 ad ap;go_wp2
        go_roundw
        case rel=>exact⟨j+1,_,by omega,by go_num,dl.out,bi.out,a1.out,d8,HN.out |> lh⟩
        case measure=>simp[intOf];omega
      ·have q2:decide ((1:Int) < (u.length:Int))=false:=decide_eq_false (by omega)
       have HN:Hid (zr how u ((st.texts.zip st.marks).drop (j+1)) q=zr how u (st.texts.zip st.marks) st.used):=lh (by rw[<-J.out,zr,if_neg (fun h=>bs h.2)]);subst b0;clear J em;go_wp2
       go_roundw
       case rel=>exact⟨j+1,q,by omega,by go_num,P.out,ab.out,a2.out,by omega,HN.out |> lh⟩
       case measure=>simp[intOf];omega
     ·have HN:Hid (zr how u ((st.texts.zip st.marks).drop (j+1)) q=zr how u (st.texts.zip st.marks) st.used):=lh (by rw[<-J.out,zr,if_neg (fun h=>b0 h.1)])
      clear J em;go_wp2
      go_roundw
      case rel=>exact⟨j+1,q,by omega,by go_num,P.out,ab.out,a2.out,by omega,HN.out |> lh⟩
      case measure=>simp[intOf];omega
    ·obtain rfl:j=st.texts.length:=by omega
     have da:(st.texts.zip st.marks).drop st.texts.length=[]:=List.drop_eq_nil_of_le (by rw[List.length_zip];omega);have aq:zr how u (st.texts.zip st.marks) st.used=(none,q):=by rw[<-az.out,da];rfl
     have hR:=cd.out q aq;obtain⟨S,hS⟩:∃ S,S=yc (fun j t w=>wGo false how (d-j) t w) (.mk k c nm n f kids) { st with used:=q }:=⟨_,rfl⟩;rw[<-hS] at hR;have cw:InX S { S with texts:=S.texts++[u],marks:=S.marks++[st.out.length] }:=⟨⟨List.prefix_rfl,List.prefix_append _ _,List.prefix_append _ _,List.prefix_rfl,List.prefix_rfl⟩,Nat.le_refl _,by simp only[List.length_append,List.length_cons,List.length_nil];omega⟩;have bw:j4 S:=HF.out.of (by rw[hR];exact cw);have cr:j4 { S with texts:=S.texts++[u],marks:=S.marks++[st.out.length] }:=by rw[<-hR];exact HF.out
     obtain⟨a0,k0,rfl⟩:=jl F.o;have c0:=F.cell 0 (.slice a0 st.out.length k0) rfl;have Q:=ar.cell ck.out;have t0:wr.cell? ⟨w.heap.size,0,none⟩=some (.int .i64 k):=zm Q rfl;have t1:wr.cell? ⟨w.heap.size,1,none⟩=some (.int .u8 c.toNat):=zm Q rfl;have t2:wr.cell? ⟨w.heap.size,2,none⟩=some (.string ⟨nm.toArray⟩):=zm Q rfl;have t3:wr.cell? ⟨w.heap.size,3,none⟩=some (.int .u64 n):=zm Q rfl;have t4:wr.cell? ⟨w.heap.size,4,none⟩=some (.bool f):=zm Q rfl;have t5:wr.cell? ⟨w.heap.size,5,none⟩=some (.slice ao kids.length cap):=zm Q rfl;have cu:Hid (Calls Tryz.prog 56 #[.pointer (some ⟨p,0,none⟩),.agg #[.int .i64 k,.int .u8 c.toNat,.string ⟨nm.toArray⟩,.int .u64 n,.bool f,.slice ao kids.length cap]] wr fun e w'=>kx B p h false wr S e w'):=lh (by
      rw[hS];exact cl.out _ { st with used:=q } an F.at (by rw[<-hS];exact bw) b7.out)
     have dq:=lh hR;have b9:=lh bw;have ab:=lh cr;have P:=lh an;have cg:=lh ar;have e8:=O.out.o;clear hR cw bw cr an ar F Q hS aq da az hB
     go_wp2_with fail
     refine cu.out.mono ?_;rintro e C ⟨rfl,dx,L⟩;obtain⟨fl,fn,fj,fg,sk2,r⟩:=dx;obtain⟨cn,cp,rfl⟩:=jl r.x;obtain⟨en,eo,rfl⟩:=jl r.m;have d1:=r.cell 1 (.slice cn S.texts.length cp) rfl;have f1:=r.free 1;have eu:B<=C.heap.size:=Nat.le_trans r.pB (Nat.le_of_lt r.lt);have fa:=b9.out.x;have e3:=b9.out.m;have a1:=lh r;have bi:=lh (cg.out.trans L);clear r L cu;obtain⟨i0,hi,bb,bc,bd⟩:=info_parts Tryz.infoStrH
     go_wp2_with(at_builtin;refine wpList_append_own _ rfl _ _ 66 rfl B 9 i0 (.string ⟨#[]⟩) 1 16 Tryz.underlying66 hi bb bc bd rfl (by decide) _ _ _ rfl (a1.out.x.alloc _) ⟨C.heap.size,0,none⟩ 1 1 [.string ⟨u.toArray⟩] rfl rfl ?c1 ?c2 ?c3 ?c4 ?c5 ?_)
     case c1=>exact cell_one_new _ _ _
     case c2=>simp[Value.oneCell']
     case c3=>unfold maxLen;omega
     case c4=>omega
     case c5=>simp;omega
     intro v' Y bg s _;have V:Y.ownsRow B 9 1 v' (S.texts.length+1) (ke (S.texts++[u])):=by
      unfold ke;rw[List.map_append];exact bg
     obtain⟨a3,c3,rfl⟩:=jl V;obtain⟨bx,dy,bv⟩:=(a1.out.below ((Below.refl _ C).alloc (Nat.le_refl _) _)).app_x (l:=S.texts++[u]) (by simp) s V;have g1:=zz bx 1;have e1:Y.cell? ⟨p,1,none⟩=some (.slice cn S.texts.length cp):=zm bx rfl;obtain⟨fm,fo,fk,fh,fi,aj⟩:=dy;obtain⟨bn,bp,rfl⟩:=jl aj.m;have d2:=aj.cell 2 (.slice bn S.marks.length bp) rfl;have ev:B<=Y.heap.size:=by
      have:=bv.size;simp[World.setCell] at this;omega
     have dn:Hid ((Y.setCell ⟨p,1,none⟩ (.slice a3 (S.texts.length+1) c3)).ownsRow B 3 1 (.slice bn S.marks.length bp) S.marks.length (yb2 S.marks)):=lh aj.m;have dp:=lh aj;have dj:=lh (bi.out.trans ((Fr.alloc B C _).trans bv));clear bg s V bx aj bv d1 f1;obtain⟨i1,d5,ea,eb,ec⟩:=info_parts Tryz.infoIntH
     go_wp2_with(at_builtin;refine wpList_append_own _ rfl _ _ 38 rfl B 3 i1 (.int .i64 0) 1 8 Tryz.underlying38 d5 ea eb ec rfl (by decide) _ _ _ rfl (dn.out.alloc _) ⟨Y.heap.size,0,none⟩ 1 1 [.int .i64 st.out.length] rfl rfl ?k1 ?k2 ?k3 ?k4 ?k5 ?_)
     case k2=>simp[Value.oneCell']
     case k3=>unfold maxLen;omega
     case k4=>omega
     case k5=>first|omega|(simp[World.setCell];omega)
     intro v4 w4 aw Z _;have W:w4.ownsRow B 3 1 v4 (S.marks.length+1) (yb2 (S.marks++[st.out.length])):=by
      unfold yb2;rw[List.map_append];exact aw
     obtain⟨a5,c5,rfl⟩:=jl W;obtain⟨bz,N,M⟩:=(dp.out.below ((Below.refl _ _).alloc (Nat.le_refl _) _)).app_m (l:=S.marks++[st.out.length]) (by simp) Z W;have g2:=zz bz 2;have e2:w4.cell? ⟨p,2,none⟩=some (.slice bn S.marks.length bp):=zm bz rfl;have ag:=lh N;have ae:=lh (bh.out.trans (dj.out.trans ((Fr.alloc B _ _).trans M)));clear aw Z W bz N M d2;go_wp2;go_end0;exact⟨rfl,by rw[dq.out];exact ag.out,ae.out⟩
end Go.Proofs.YtfckcdbpiepchaaGreatDoor
