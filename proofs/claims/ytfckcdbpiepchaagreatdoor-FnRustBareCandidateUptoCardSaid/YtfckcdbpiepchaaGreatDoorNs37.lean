import Derived.Test.YtfckcdbpiepchaaGreatDoorNs31
import Derived.Test.YtfckcdbpiepchaaGreatDoorNs36
namespace Go.Proofs.YtfckcdbpiepchaaGreatDoor
open Go.RowKit
set_option maxRecDepth 100000
set_option maxHeartbeats 8000000
set_option linter.all false
theorem ypg {t:ya}{v h:Value}{how:List Int}{w:World}(l:okP 24 t)(b:yg w t v)(G:yb1 w)(F:yec w)(D:jk w h how) :
  Calls Tryz.prog 26 #[v,h] w fun e w'=>e=.returned (.string ⟨(95::82::(wGo false how 24 t .zero).out).toArray⟩)/\Below w.heap.size w w':=by
 obtain⟨p,L⟩:∃ p,p=w.heap.size+1:=⟨_,rfl⟩;have E:WE w w.heap.size p h false how:=⟨rfl,G,F,fun _=>D⟩;have s:=ykf (pl:=false) (how:=how) l;have d:=yg5 l;have j:WS.zero.bound+20*24<=1000:=by show 0+20*24<=1000;omega
 have g:=fun w' J=>yj4 (w:=w') (B:=w.heap.size) (p:=p) (h:=h) (pl:=false) J (by omega);obtain⟨S,u⟩:∃ S,S=wGo false how 24 t .zero:=⟨_,rfl⟩;have i:∀ w',Below w.heap.size w w'->WAt w' w.heap.size p h false .zero->Calls Tryz.prog 40 #[.pointer (some ⟨p,0,none⟩),v] w' fun e A=>kx w.heap.size p h false w' S e A:=fun w' y x=>by rw[u];exact yix E 24 t v w' .zero l b y x s j
 have z:=s.o;rw[<-u] at z |-;obtain⟨k,c,nm,n,f,kids⟩:=t;obtain⟨ao,cap,rfl,hK,P,K⟩:=yo b d;obtain⟨N,O,rfl,-⟩:=D;have r:=lh i;have q:=lh L;have m:=lh g;clear i b hK E l d G F u j g s
 go_enter Tryz.func26,Tryz.ntmps26
 go_wp2_with fail
 rw[<-q.out];refine(r.out _ ?hb ?hw).mono ?_
 case hb=>exact((Below.refl _ w).alloc (Nat.le_refl _) _).alloc (by simp) _
 case hw=>exact m.out _ (by rw[q.out];simpa using ym (w.alloc _) _)
 rintro e R ⟨rfl,I,C⟩;obtain⟨so,sx,sm,sb,sk,a⟩:=I;have Q:=yoh a.o;have c0:=a.cell 0 so rfl;obtain⟨a0,M,rfl⟩:=jl a.o;have H:=lh (((Fr.alloc w.heap.size w _).trans (.alloc _ _ _)).trans C);rw[q.out] at c0;clear C a;go_wp2;go_ret;exact⟨rfl,H.out.below (Nat.le_refl _)⟩
theorem ytp:∀ (l:List Bk)(j:Nat),j < l.length->(yfk l)[j*3]? = some (.int .i64 (l.getD j ⟨0,0,0⟩).at_)/\(yfk l)[j*3+1]? = some (.int .i64 (l.getD j ⟨0,0,0⟩).to_)/\(yfk l)[j*3+2]? = some (.int .i64 (l.getD j ⟨0,0,0⟩).bound)
 | b::l,0,_=>⟨rfl,rfl,rfl⟩
 | b::l,j+1,h=>by
  obtain⟨a,c,d⟩:=ytp l j (by simpa using h);have e:yfk (b::l)=.int .i64 b.at_::.int .i64 b.to_::.int .i64 b.bound::yfk l:=rfl;rw[e,show(j+1)*3=j*3+1+1+1 by omega];exact⟨a,c,d⟩
theorem ytu:∀ (l:List Bd)(j:Nat),j < l.length->(ygk l)[j*2]? = some (.int .i64 (l.getD j ⟨0,0⟩).at_)/\(ygk l)[j*2+1]? = some (.int .i64 (l.getD j ⟨0,0⟩).all)
 | b::l,0,_=>⟨rfl,rfl⟩
 | b::l,j+1,h=>by
  obtain⟨a,c⟩:=ytu l j (by simpa using h);have e:ygk (b::l)=.int .i64 b.at_::.int .i64 b.all::ygk l:=rfl;rw[e,show(j+1)*2=j*2+1+1 by omega];exact⟨a,c⟩
theorem yws {w:World}{B:Nat}{l:List Bk}{a:Option Addr}{c j:Nat}(h:w.ownsRow B 73 3 (.slice a l.length c) l.length (yfk l))(n:j < l.length) :
  ∃ g,a=some ⟨g,0,none⟩/\w.cell? ⟨g,j*3,none⟩=some (.int .i64 (l.getD j ⟨0,0,0⟩).at_)/\w.cell? ⟨g,j*3+1,none⟩=some (.int .i64 (l.getD j ⟨0,0,0⟩).to_)/\w.cell? ⟨g,j*3+2,none⟩=some (.int .i64 (l.getD j ⟨0,0,0⟩).bound):=by
 obtain⟨g,rfl⟩:∃ g,a=some ⟨g,0,none⟩:=by
  rcases h.2 with⟨b,_⟩|⟨g,e,f,b,_⟩
  ·simp only[Value.slice.injEq] at b;omega
  ·simp only[Value.slice.injEq] at b;exact⟨g,b.1⟩
 obtain⟨i,k,m⟩:=ytp l j n;have d:=fun j v o=>h.cells (g:=g) rfl j v o;refine⟨g,rfl,?_,?_,?_⟩
 ·have:=d _ _ i;rwa[show(⟨g,0,none⟩:Addr).add (j*3)=⟨g,j*3,none⟩ by simp[Addr.add];omega] at this
 ·have:=d _ _ k;rwa[show(⟨g,0,none⟩:Addr).add (j*3+1)=⟨g,j*3+1,none⟩ by simp[Addr.add]] at this
 ·have:=d _ _ m;rwa[show(⟨g,0,none⟩:Addr).add (j*3+2)=⟨g,j*3+2,none⟩ by simp[Addr.add]] at this
theorem bd_at {w:World}{B:Nat}{l:List Bd}{a:Option Addr}{c j:Nat}(h:w.ownsRow B 75 2 (.slice a l.length c) l.length (ygk l))(m:j < l.length) :
  ∃ g,a=some ⟨g,0,none⟩/\w.cell? ⟨g,j*2,none⟩=some (.int .i64 (l.getD j ⟨0,0⟩).at_)/\w.cell? ⟨g,j*2+1,none⟩=some (.int .i64 (l.getD j ⟨0,0⟩).all):=by
 obtain⟨g,rfl⟩:∃ g,a=some ⟨g,0,none⟩:=by
  rcases h.2 with⟨b,_⟩|⟨g,d,f,b,_⟩
  ·simp only[Value.slice.injEq] at b;omega
  ·simp only[Value.slice.injEq] at b;exact⟨g,b.1⟩
 obtain⟨i,k⟩:=ytu l j m;have e:=fun j v n=>h.cells (g:=g) rfl j v n;refine⟨g,rfl,?_,?_⟩
 ·have:=e _ _ i;rwa[show(⟨g,0,none⟩:Addr).add (j*2)=⟨g,j*2,none⟩ by simp[Addr.add];omega] at this
 ·have:=e _ _ k;rwa[show(⟨g,0,none⟩:Addr).add (j*2+1)=⟨g,j*2+1,none⟩ by simp[Addr.add]] at this
theorem ypb {l:List Bk}{j:Nat}(h:j < l.length):vo (l.take (j+1))=vo (l.take j)+(l.getD j ⟨0,0,0⟩).bound:=by
 unfold vo;rw[lts h,List.map_append,List.sum_append,lgd,lge h];simp
theorem ykx {l:List Bk}{N:Nat}(h:∀ r∈l,r.bound<=N):vo l<=l.length*N:=by
 induction l with
 | nil=>simp[vo]
 | cons r l a=>
  have b:=a fun r hr=>h r (List.mem_cons_of_mem _ hr);have c:=h r List.mem_cons_self;unfold vo at *;simp only[List.map_cons,List.sum_cons,List.length_cons,Nat.add_mul,Nat.one_mul];omega
def ycv (W:WS)(bd:Bd)(k:Nat):Prop:=∀ r∈W.backs.take k,r.to_<=bd.at_->bd.at_<=r.at_->bd.at_+bd.all+vo W.backs < r.at_
def yd1 (W:WS)(k:Nat):Prop:=∀ bd∈W.bounds.take k,bd.at_+bd.all < W.out.length/\ycv W bd W.backs.length
theorem yk2 {W:WS}{bd:Bd}{k:Nat}(a:k < W.backs.length)(h:ycv W bd k)(b:(W.backs.getD k ⟨0,0,0⟩).to_<=bd.at_->bd.at_<=(W.backs.getD k ⟨0,0,0⟩).at_->bd.at_+bd.all+vo W.backs < (W.backs.getD k ⟨0,0,0⟩).at_):ycv W bd (k+1):=by
 intro r hr;rw[lts a,List.mem_append] at hr
 rcases hr with hr|hr
 ·exact h r hr
 ·rw[List.mem_singleton.1 hr]
  rwa[lgd,lge a] at b
theorem yjy {W:WS}{k:Nat}(d:k < W.bounds.length)(h:yd1 W k)(a:(W.bounds.getD k ⟨0,0⟩).at_+(W.bounds.getD k ⟨0,0⟩).all < W.out.length)(c:ycv W (W.bounds.getD k ⟨0,0⟩) W.backs.length):yd1 W (k+1):=by
 intro b hb;rw[lts d,List.mem_append] at hb
 rcases hb with hb|hb
 ·exact h b hb
 ·rw[List.mem_singleton.1 hb]
  rw[lgd,lge d] at a c;exact⟨a,c⟩
theorem ypf {W:WS} : ycg W↔yd1 W W.bounds.length:=by
 unfold yd1 ycv ycg;rw[List.take_length,List.take_length]
theorem ymz {W:WS}{k:Nat}(a:k < W.bounds.length)(h:¬ (W.bounds.getD k ⟨0,0⟩).at_+(W.bounds.getD k ⟨0,0⟩).all < W.out.length):¬ ycg W:=fun hr=>by
 rw[lgd,lge a] at h;exact h (hr _ (List.getElem_mem a)).1
theorem ygb {l:List Bd}{k:Nat}(h:k < l.length):l.getD k ⟨0,0⟩∈l:=by
 rw[lgd,lge h];exact List.getElem_mem h
theorem yga {l:List Bk}{k:Nat}(h:k < l.length):l.getD k ⟨0,0,0⟩∈l:=by
 rw[lgd,lge h];exact List.getElem_mem h
theorem ymy {W:WS}{k j:Nat}(d:k < W.bounds.length)(c:j < W.backs.length)(a:(W.backs.getD j ⟨0,0,0⟩).to_<=(W.bounds.getD k ⟨0,0⟩).at_)(b:(W.bounds.getD k ⟨0,0⟩).at_<=(W.backs.getD j ⟨0,0,0⟩).at_)
  (h:¬ (W.bounds.getD k ⟨0,0⟩).at_+(W.bounds.getD k ⟨0,0⟩).all+vo W.backs < (W.backs.getD j ⟨0,0,0⟩).at_):¬ ycg W:=fun hr=>
 h ((hr _ (ygb d)).2 _ (yga c) a b)
theorem yaw {A B:Nat}{w w':World}(h:Below B w w')(a:A<=B):Below A w w':=⟨h.os,h.tape,h.output,h.size,fun k b=>h.block k (by omega)⟩
theorem ype {t:ya}{v h:Value}{how:List Int}{w:World}(ho:okP 24 t)(ad:yg w t v)(hV:yb1 w)(hT:yec w)(hH:jk w h how) :
  Calls Tryz.prog 30 #[v,h] w fun e w'=>(∃ b,e=.returned (.bool b)/\(b=true↔ycg (wGo false how 24 t .zero)))/\Below w.heap.size w w':=by
 obtain⟨p,hp⟩:∃ p,p=w.heap.size+1:=⟨_,rfl⟩;have E:WE w w.heap.size p h false how:=⟨rfl,hV,hT,fun _=>hH⟩;have hF:=ykf (pl:=false) (how:=how) ho;obtain⟨hI,au,ar⟩:=yyd (pl:=false) (how:=how) ho;have an:=yg5 ho;have az:WS.zero.bound+20*24<=1000:=by show 0+20*24<=1000;omega
 have aq:=fun w' h1=>yj4 (w:=w') (B:=w.heap.size) (p:=p) (h:=h) (pl:=false) h1 (by omega);obtain⟨S,hS⟩:∃ S,S=wGo false how 24 t .zero:=⟨_,rfl⟩;have ay:∀ w',Below w.heap.size w w'->WAt w' w.heap.size p h false .zero->Calls Tryz.prog 40 #[.pointer (some ⟨p,0,none⟩),v] w' fun e br=>kx w.heap.size p h false w' S e br:=fun w' bk bi=>by rw[hS];exact yix E 24 t v w' .zero ho ad bk bi hF az
 have bn:=hF.o;rw[<-hS] at bn hI au ar |-;have W:vo S.backs<=1800000:=by
  have:=ykx fun r hr=>(hI.k r hr).2.2;have h2:S.backs.length*6000<=300*6000:=Nat.mul_le_mul_right _ au;omega
 have K:∀ j,vo (S.backs.take j)<=1800000:=fun j=>by
  have:=ykx (l:=S.backs.take j) fun r hr=>(hI.k r (List.mem_of_mem_take hr)).2.2;have h2:(S.backs.take j).length*6000<=300*6000:=Nat.mul_le_mul_right _ (by rw[List.length_take];omega);omega
 obtain⟨k,c,nm,n,f,kids⟩:=t;obtain⟨ao,cap,rfl,hK,hn,cc⟩:=yo ad an;obtain⟨ha,hc,rfl,-⟩:=hH;have a9:=lh ay;have HP:=lh hp;have a5:=lh aq;have HI:=lh hI;have C:=lh K;have al:=lh W;clear ay ad hK E ho an hV hT hS az aq hF hI K W
 go_enter Tryz.func30,Tryz.ntmps30
 go_wp2_with fail
 rw[<-HP.out];refine(a9.out _ ?hb ?hw).mono ?_
 case hb=>exact((Below.refl _ w).alloc (Nat.le_refl _) _).alloc (by simp) _
 case hw=>exact a5.out _ (by rw[HP.out];simpa using ym (w.alloc _) _)
 rintro e w1 ⟨rfl,W1,F1⟩;obtain⟨so,sx,sm,sb,sk,y⟩:=W1;obtain⟨a0,c0,rfl⟩:=jl y.o;obtain⟨ab,cb,rfl⟩:=jl y.b;obtain⟨ak,ck,rfl⟩:=jl y.k;have d9:=y.cell 9 (.slice ak S.backs.length ck) rfl;have HF:=lh ((((Fr.alloc w.heap.size w _).trans (.alloc _ _ _)).trans F1).below (Nat.le_refl _));have X:=lh y;rw[HP.out] at d9;clear F1 y;go_wp2
 go_loopw [6,20] (fun a i wr=>∃ j,j<=S.backs.length/\i=.int .i64 (j:Nat)/\a=.int .i64 (vo (S.backs.take j):Nat)/\Below w1.heap.size w1 wr) (fun a i _=>S.backs.length-(intOf i).toNat)
 case atStart=>exact⟨0,by omega,rfl,rfl,Below.refl _ _⟩
 case round=>
  obtain⟨j,hj,rfl,rfl,G⟩:=hrel;have P:=X.out.below G
  by_cases ap:j < S.backs.length
  ·obtain⟨g,rfl,x0,x1,x2⟩:=yws P.k ap
   have U:=ypb ap;have ce:=C.out j;have ax:=C.out (j+1);rw[U] at ax;have HB:=lh G;clear P G;generalize S.backs.getD j ⟨0,0,0⟩=L at U ax x0 x1 x2;have a8:=lh U;clear U;go_wp2
   go_roundw
   case rel=>exact⟨j+1,by omega,by go_num,by rw[a8.out];go_num,HB.out.alloc (by have:=HB.out.size;omega) _⟩
   case measure=>simp[intOf];omega
  ·obtain rfl:j=S.backs.length:=by omega
   rw[List.take_length];obtain⟨all,q⟩:∃ all,all=vo S.backs:=⟨_,rfl⟩;have bj:all<=1800000:=by rw[q];exact al.out
   have d8:=P.cell 8 (.slice ab S.bounds.length cb) rfl;have HB:=lh G;have ag:=lh q;rw[<-q];rw[HP.out] at d8;clear P G q;go_wp2
   go_loopw [32] (fun i wr=>∃ k,k<=S.bounds.length/\i=.int .i64 (k:Nat)/\Below w1.heap.size w1 wr/\Hid (yd1 S k)) (fun i _=>S.bounds.length-(intOf i).toNat)
   case atStart=>exact⟨0,by omega,rfl,HB.out,lh (fun b hb=>by simp at hb)⟩
   case round=>
    obtain⟨k,hk,rfl,F,aj⟩:=hrel;have O:=X.out.below F
    by_cases R:k < S.bounds.length
    ·obtain⟨g,rfl,x0,x1⟩:=bd_at O.b R
     have aa:∀ o,qu (wr.alloc o) w.heap.size p (.slice ha how.length hc) false S (.slice a0 S.out.length c0) sx sm (.slice (some ⟨g,0,none⟩) S.bounds.length cb) (.slice ak S.backs.length ck):=fun o=>O.below ((Below.refl _ wr).alloc (Nat.le_refl _) o);have d0:=fun o=>(aa o).cell 0 (.slice a0 S.out.length c0) rfl;have d9:=fun o=>(aa o).cell 9 (.slice ak S.backs.length ck) rfl;rw[HP.out] at d0 d9;obtain⟨bl,bm⟩:=HI.out.b _ (ygb R);obtain⟨bd,ac⟩:∃ bd,bd=S.bounds.getD k ⟨0,0⟩:=⟨_,rfl⟩;rw[<-ac] at x0 x1 bl bm;have M:=lh ac;have u:=lh F;clear O F ac aa
     by_cases J:bd.at_+bd.all < S.out.length
     ·have q1:decide (((S.out.length:Nat):Int)-(bd.at_:Nat)<=(bd.all:Nat))=false:=decide_eq_false (by omega)
      obtain⟨V,D⟩:∃ V,V=wr.alloc (.cells #[.int .i64 bd.at_,.int .i64 bd.all] 75):=⟨_,rfl⟩;obtain⟨N,hN⟩:∃ N,N=wr.heap.size:=⟨_,rfl⟩;have x:Hid (Below w1.heap.size w1 V):=lh (by rw[D];exact u.out.alloc u.out.size _);have a3:Hid (V.heap[N]? = some (.cells #[.int .i64 bd.at_,.int .i64 bd.all] 75 (0,0))):=lh (by rw[hN,D];exact ym wr _);have a4:Hid (N < V.heap.size):=lh (by rw[hN,D];simp);go_wp2;rw[<-D,<-hN];clear D hN
      go_loopw [48] (fun i wz=>∃ j,j<=S.backs.length/\i=.int .i64 (j:Nat)/\Below V.heap.size V wz/\Hid (ycv S bd j)) (fun i _=>S.backs.length-(intOf i).toNat)
      case atStart=>exact⟨0,by omega,rfl,Below.refl _ _,lh (fun r hr=>by simp at hr)⟩
      case round=>
       obtain⟨j,hj,rfl,z,Y⟩:=hrel;have Z:=X.out.below (x.out.trans (yaw z x.out.size));have H:=z.block _ a4.out;rw[a3.out] at H
       by_cases Q:j < S.backs.length
       ·obtain⟨g2,rfl,y0,y1,y2⟩:=yws Z.k Q
        have b0:∀ o,(wr.alloc o).cell? ⟨N,0,none⟩=some (.int .i64 bd.at_):=fun o=>yi (zm H rfl) o;have b1:∀ o,(wr.alloc o).cell? ⟨N,1,none⟩=some (.int .i64 bd.all):=fun o=>yi (zm H rfl) o;obtain⟨bo,bp,bq⟩:=HI.out.k _ (yga Q);have T:=fun h=>yk2 Q Y.out h;have I:=fun h1 h2 h3=>ymy (k:=k) (by assumption) Q h1 h2 h3;rw[<-M.out] at I;rw[<-ag.out] at T I;generalize S.backs.getD j ⟨0,0,0⟩=L at y0 y1 y2 bo bp bq T I;have A:=lh T;have ah:=lh I;have d:=lh z;clear Z z H T I Y;have s:V.heap.size<=wr.heap.size:=d.out.size
        by_cases t1:L.to_<=bd.at_
        ·have p1:decide ((L.to_:Int)<=(bd.at_:Int))=true:=decide_eq_true (by omega)
         by_cases t2:bd.at_<=L.at_
         ·have p2:decide ((bd.at_:Int)<=(L.at_:Int))=true:=decide_eq_true (by omega)
          by_cases t3:bd.at_+bd.all+all < L.at_
          ·have p3:decide ((L.at_:Int)-(bd.at_:Int)<=(bd.all:Int)+(all:Int))=false:=decide_eq_false (by omega)
           have m:Hid (ycv S bd (j+1)):=lh (A.out (fun _ _=>t3));go_wp2
           go_roundw
           case rel=>exact⟨j+1,by omega,by go_num,d.out.alloc s _,m⟩
           case measure=>simp[intOf];omega
          ·have p3:decide ((L.at_:Int)-(bd.at_:Int)<=(bd.all:Int)+(all:Int))=true:=decide_eq_true (by omega)
           have m:Hid (¬ ycg S):=lh (ah.out t1 t2 t3);go_wp2;go_ret;exact⟨⟨false,rfl,fun h=>(by cases h),fun h=>absurd h m.out⟩,HF.out.trans (yaw (x.out.trans (yaw (d.out.alloc s _) x.out.size)) HF.out.size)⟩
         ·have p2:decide ((bd.at_:Int)<=(L.at_:Int))=false:=decide_eq_false (by omega)
          have m:Hid (ycv S bd (j+1)):=lh (A.out (fun _ h=>absurd h t2));go_wp2
          go_roundw
          case rel=>exact⟨j+1,by omega,by go_num,d.out.alloc s _,m⟩
          case measure=>simp[intOf];omega
        ·have p1:decide ((L.to_:Int)<=(bd.at_:Int))=false:=decide_eq_false (by omega)
         have m:Hid (ycv S bd (j+1)):=lh (A.out (fun h=>absurd h t1));go_wp2
         go_roundw
         case rel=>exact⟨j+1,by omega,by go_num,d.out.alloc s _,m⟩
         case measure=>simp[intOf];omega
       ·obtain rfl:j=S.backs.length:=by omega
        have a7:Hid (yd1 S (k+1)):=lh (yjy R aj.out (by rw[<-M.out];exact J) (by rw[<-M.out];exact Y.out));have d:=lh z;clear Z z H;go_wp2
        go_roundw
        case rel=>exact⟨k+1,by omega,by go_num,x.out.trans (yaw d.out x.out.size),a7⟩
        case measure=>simp[intOf];omega
     ·have av:¬ ycg S:=ymz R (by rw[<-M.out];exact J)
      have a6:=lh av;have q1:decide (((S.out.length:Nat):Int)-(bd.at_:Nat)<=(bd.all:Nat))=true:=decide_eq_true (by omega);clear av;go_wp2;go_ret;exact⟨⟨false,rfl,fun h=>(by cases h),fun h=>absurd h a6.out⟩,HF.out.trans (yaw (u.out.alloc u.out.size _) HF.out.size)⟩
    ·obtain rfl:k=S.bounds.length:=by omega
     have u:=lh F;clear O F;go_wp2;go_ret;exact⟨⟨true,rfl,fun _=>ypf.2 aj.out,fun _=>rfl⟩,HF.out.trans (yaw u.out HF.out.size)⟩
noncomputable def yen (W:WS):Bool:=@decide (ycg W) (Classical.propDecidable _)
noncomputable def yng (t:ya)(how:List Int):Bool:=ycw t&&yen (wGo false how 24 t .zero)
structure Fit (t:ya)(how:List Int):Prop where
 rt:Rt .path 24 0 t
 wt:t.wt<=300
 ne:t.ne=true
 room:ycg (wGo false how 24 t .zero)
theorem yk3 {t:ya}(h:ycw t=true):Rt .path 24 0 t/\t.wt<=300/\t.ne=true:=by
 unfold ycw at h;obtain⟨l,a⟩:=Option.isSome_iff_exists.1 h;exact yri a
theorem yph {t:ya}(h:ycw t=true):okP 24 t:=by
 obtain⟨a,b,_⟩:=yk3 h;exact⟨.path,0,.inl rfl,a,by omega,b⟩
theorem yyt {t:ya}{how:List Int}(h:yng t how=true):Fit t how:=by
 unfold yng at h;rw[Bool.and_eq_true] at h;obtain⟨b,c,d⟩:=yk3 h.1;have a:=h.2;unfold yen at a;exact⟨b,c,d,@of_decide_eq_true _ (Classical.propDecidable _) a⟩
theorem Fit.okP {t:ya}{how:List Int}(h:Fit t how):okP 24 t:=⟨.path,0,.inl rfl,h.rt,by omega,h.wt⟩
theorem yek {w:World}{t:ya}{v:Value}(h:yg w t v):∃ (kv:Int) (l:UInt8) (nm:List UInt8) (n:Nat) (f:Bool) (ao:Option Addr) (ln cap:Nat),v=.agg #[.int .i64 kv,.int .u8 l.toNat,.string ⟨nm.toArray⟩,.int .u64 n,.bool f,.slice ao ln cap]:=by
 cases h;exact⟨_,_,_,_,_,_,_,_,rfl⟩
structure Gl (w:World):Prop where
 vt:yb1 w
 pt:yec w
 env:Env w.heap.size w
theorem Env.up {B p:Nat}{w w':World}(h:Env B w)(hb:Below B w w')(c:B<=p):Env p w':=
 ⟨fun b a=>h.tab b (hb.trans (vm a c)),fun b a=>h.bas b (hb.trans (vm a c))⟩
theorem Gl.ovr {w:World}(h:Gl w)(x:Xt):Gl (ovr w x):=
 ⟨h.vt.below (qp w x),h.pt.below (qp w x),h.env.up (qp w x) (qp w x).size⟩
theorem jk.ovr {w:World}{v:Value}{l:List Int}(h:jk w v l)(x:Xt):jk (ovr w x) v l:=h.below (qp w x)
def Stays (W:World)(F:FuncId)(args:Array Value)(r:Value):Prop:=∀ x,Calls Tryz.prog F args (ovr W x) fun e w'=>e=.returned r/\∃ z,w'=ovr W z
theorem Stays.at {W:World}{F:FuncId}{args:Array Value}{r:Value}(h:Stays W F args r):Calls Tryz.prog F args W fun e w'=>e=.returned r/\∃ z,w'=ovr W z:=by
 have:=h ⟨W.drawn,#[]⟩
 rwa[ycj] at this
theorem ybm {W:World}{F:FuncId}{args:Array Value}{r:Value}(h:∀ x,Calls Tryz.prog F args (ovr W x) fun e w'=>e=.returned r/\Below (ovr W x).heap.size (ovr W x) w'):Stays W F args r:=fun x=>
 (h x).mono fun e w' ⟨a,b⟩=>⟨a,by obtain⟨z,c⟩:=ybj b;exact⟨_,c.trans (yd W x z)⟩⟩
theorem Gl.alloc {w:World}(h:Gl w)(o:Obj):Gl (w.alloc o):=by rw[yb];exact h.ovr _
theorem yg.alc {w:World}{t:ya}{v:Value}(h:yg w t v)(o:Obj):yg (w.alloc o) t v:=by rw[yb];exact h.ovr _
theorem jk.al {w:World}{v:Value}{l:List Int}(h:jk w v l)(o:Obj):jk (w.alloc o) v l:=by rw[yb];exact h.ovr _
theorem ybx {w:World}(o:Obj)(z:Xt):Below w.heap.size w (ovr (w.alloc o) z):=((Below.refl _ w).alloc (Nat.le_refl _) o).trans (vm (qp _ z) (by simp))
theorem yrh {t:ya}{v:Value}{w:World}(a:yg w t v)(c:Sml t)(b:Gl w):Stays w 22 #[v] (.bool (ycw t)):=
 ybm fun x=>ypi (a.ovr x) c (b.ovr x).vt
theorem yrf {t:ya}{v h:Value}{how:List Int}{w:World}(c:yg w t v)(k:ycw t=true)(f:Gl w)(j:jk w h how):Stays w 30 #[v,h] (.bool (yen (wGo false how 24 t .zero))):=
 ybm fun x=>(ype (yph k) (c.ovr x) (f.ovr x).vt (f.ovr x).pt (j.ovr x)).mono fun e w' ⟨⟨b,g,d⟩,i⟩=>by
  have hb:b=yen (wGo false how 24 t .zero):=by
   unfold yen
   by_cases a:ycg (wGo false how 24 t .zero)
   ·rw[d.2 a,@decide_eq_true _ (Classical.propDecidable _) a]
   ·have:b=false:=by cases b with|false=>rfl|true=>exact absurd (d.1 rfl) a
    rw[this,@decide_eq_false _ (Classical.propDecidable _) a]
  exact⟨by rw[g,hb],i⟩
theorem ys3 {t:ya}{v h:Value}{how:List Int}{w:World}(a:yg w t v)(q:Sml t)(i:Gl w)(p:jk w h how) :
  Calls Tryz.prog 23 #[v,h] w fun e w'=>e=.returned (.bool (yng t how))/\Below w.heap.size w w':=by
 have hr:=fun o=>yrh (a.alc o) q (i.alloc o);have j:=fun r o=>yrf (a.alc o) r (i.alloc o) (p.al o);obtain⟨kv,l,nm,n,f,ao,ln,cap,rfl⟩:=yek a;obtain⟨C,D,rfl,-⟩:=p;obtain⟨d,b⟩:∃ d,d=ycw t:=⟨_,rfl⟩;have c:yng t how=(d&&yen (wGo false how 24 t .zero)):=by rw[b];rfl
 rw[<-b] at hr j;rw[c];have b0:=fun x=>zn w #[.int .i64 kv,.int .u8 l.toNat,.string ⟨nm.toArray⟩,.int .u64 n,.bool f,.slice ao ln cap] 28 0 _ rfl x;have b1:=fun x=>zn w #[.int .i64 kv,.int .u8 l.toNat,.string ⟨nm.toArray⟩,.int .u64 n,.bool f,.slice ao ln cap] 28 1 _ rfl x;have u:=fun x=>zn w #[.int .i64 kv,.int .u8 l.toNat,.string ⟨nm.toArray⟩,.int .u64 n,.bool f,.slice ao ln cap] 28 2 _ rfl x;have y:=fun x=>zn w #[.int .i64 kv,.int .u8 l.toNat,.string ⟨nm.toArray⟩,.int .u64 n,.bool f,.slice ao ln cap] 28 3 _ rfl x;have A:=fun x=>zn w #[.int .i64 kv,.int .u8 l.toNat,.string ⟨nm.toArray⟩,.int .u64 n,.bool f,.slice ao ln cap] 28 4 _ rfl x;have B:=fun x=>zn w #[.int .i64 kv,.int .u8 l.toNat,.string ⟨nm.toArray⟩,.int .u64 n,.bool f,.slice ao ln cap] 28 5 _ rfl x;have m:=lh hr;have k:=lh j;clear hr j a q i b c;generalize yen (wGo false how 24 t .zero)=E at k |-
 cases d with
 | false=>
  go_enter Tryz.func23,Tryz.ntmps23
  go_wp2_with fail
  refine(m.out _).at.mono ?_;rintro e s ⟨rfl,z,rfl⟩;go_wp2;go_ret;exact⟨rfl,ybx _ z⟩
 | true=>
  have g:=lh (k.out rfl)
  go_enter Tryz.func23,Tryz.ntmps23
  go_wp2_with fail
  refine(m.out _).at.mono ?_;rintro e s ⟨rfl,z,rfl⟩
  go_wp2_with fail
  refine(g.out _ z).mono ?_;rintro e F ⟨rfl,z2,rfl⟩;go_wp2;go_ret;exact⟨by simp,ybx _ z2⟩
def zzB (t:ya):Bool:=decide (t.name.length<=2147483647)&&decide (t.kids.length<=2147483647)
theorem ywu {t:ya}{v:Value}{w:World}(a:yg w t v):Calls Tryz.prog 21 #[v] w fun e w'=>e=.returned (.bool (zzB t))/\Below w.heap.size w w':=by
 cases a with
 | @mk kv k l nm n f kids ao cap V b p q c d g h i=>
 unfold maxLen at c d;clear b g h i;have j:zzB (.mk k l nm n f kids)=(decide (nm.length<=2147483647)&&decide (kids.length<=2147483647)):=rfl;rw[j]
 by_cases c1:nm.length<=2147483647
 ·have m:decide ((2147483647:Int) < (nm.length:Int))=false:=decide_eq_false (by omega)
  by_cases c2:kids.length<=2147483647
  ·have o:decide ((2147483647:Int) < (kids.length:Int))=false:=decide_eq_false (by omega)
   rw[decide_eq_true c1,decide_eq_true c2]
   go_enter Tryz.func21,Tryz.ntmps21
   go_wp2;go_ret
   exact⟨rfl,(Below.refl _ w).alloc (Nat.le_refl _) _⟩
  ·have o:decide ((2147483647:Int) < (kids.length:Int))=true:=decide_eq_true (by omega)
   rw[decide_eq_true c1,decide_eq_false c2]
   go_enter Tryz.func21,Tryz.ntmps21
   go_wp2;go_ret
   exact⟨rfl,(Below.refl _ w).alloc (Nat.le_refl _) _⟩
 ·have m:decide ((2147483647:Int) < (nm.length:Int))=true:=decide_eq_true (by omega)
  rw[decide_eq_false c1]
  go_enter Tryz.func21,Tryz.ntmps21
  go_wp2;go_ret
  exact⟨rfl,(Below.refl _ w).alloc (Nat.le_refl _) _⟩
def yn1 (t:ya)(how:List Int)(ng:Bool)(x:List UInt8):Prop:=
 ∀ (b0 b2 b3 b4 b5 b6:Bool) (p:Nat),p<=30->∀ w,Env w.heap.size w->Calls Tryz.prog 17 #[.string ⟨(95::82::(wGo false how 24 t .zero).out).toArray⟩,ydj b0 ng b2 b3 b4 b5 b6 p] w fun e w'=>
  e=.returned (.tuple #[.string ⟨(yde (yij p) x).toArray⟩,.int .i64 0])/\Below w.heap.size w w'
theorem ys5 {t:ya}{how:List Int}(a:Fit t how)(ng:Bool):∃ x,qq ng (.path true) 0 t x/\x≠[]/\yn1 t how ng x:=by
 have y:=(ykf (pl:=false) (how:=how) a.okP).o;have d:=yrs (pl:=false) (how:=how) a.okP;obtain⟨x,e,v⟩:=ykv a.rt a.wt rfl a.room (by omega) ng;refine⟨x,e,yoc e,fun b0 f g h i j p A w s=>?_⟩;obtain⟨st,k,l,m,n,q⟩:=v (yij p);have hd:∀ c∈(wGo false how 24 t .zero).out,c≠46:=by
  rintro c u rfl;exact absurd (List.all_eq_true.1 d 46 u) (by decide)
 have:=yq7 (w:=w) b0 ng f g h i j A (z:=st) (by omega) hd k m l (fun w' B hb b r=>q w' B (s.up hb b) r);rw[n] at this;exact this
theorem ys6 {t:ya}{how:List Int}{x:List UInt8}(a:Fit t how)(c:qq false (.path true) 0 t x):yam 0 true t x/\x.length<=600000:=by
 obtain⟨d,b⟩:=ypc c (by omega) a.wt a.ne;exact⟨b.2,by have:=a.wt;omega⟩
theorem ytf (x:List UInt8):yde (yij 0) x=x:=rfl
theorem ypd {t:ya}{v:Value}{x:List UInt8}{w:World}(a:yg w t v)(b:yam 0 true t x):Calls Tryz.prog 19 #[v] w fun e w'=>e=.returned (.string ⟨x.toArray⟩)/\Below w.heap.size w w':=by
 have c:=fun o=>b (w.alloc o) v (a.alc o);obtain⟨kv,l,nm,n,f,ao,ln,cap,rfl⟩:=yek a;have d:=lh c;clear c a b
 go_enter Tryz.func19,Tryz.ntmps19
 go_wp2_with fail
 refine(d.out _).mono ?_;rintro e g ⟨rfl,z,rfl⟩;go_wp2;go_ret;exact⟨rfl,ybx _ z⟩
theorem yzl {t:ya}{v:Value}{w:World}(a:yg w t v):Stays w 21 #[v] (.bool (zzB t)):=ybm fun x=>ywu (a.ovr x)
theorem yvq {t:ya}{v h:Value}{how:List Int}{w:World}(a:yg w t v)(d:Sml t)(b:Gl w)(c:jk w h how):Stays w 23 #[v,h] (.bool (yng t how)):=
 ybm fun x=>ys3 (a.ovr x) d (b.ovr x) (c.ovr x)
theorem yrg {t:ya}{v h:Value}{how:List Int}{w:World}(a:yg w t v)(c:Fit t how)(b:Gl w)(d:jk w h how):Stays w 26 #[v,h] (.string ⟨(95::82::(wGo false how 24 t .zero).out).toArray⟩):=
 ybm fun x=>ypg c.okP (a.ovr x) (b.ovr x).vt (b.ovr x).pt (d.ovr x)
theorem yrc {t:ya}{v:Value}{x:List UInt8}{w:World}(a:yg w t v)(b:yam 0 true t x):Stays w 19 #[v] (.string ⟨x.toArray⟩):=ybm fun y=>ypd (a.ovr y) b
theorem yup {t:ya}{how:List Int}{ng:Bool}{x:List UInt8}(g:yn1 t how ng x)(b0 a b c d e:Bool){p:Nat}(h:p<=30){w:World}(f:Gl w) :
  Stays w 17 #[.string ⟨(95::82::(wGo false how 24 t .zero).out).toArray⟩,ydj b0 ng a b c d e p] (.tuple #[.string ⟨(yde (yij p) x).toArray⟩,.int .i64 0]):=
 ybm fun y=>g b0 a b c d e p h _ (f.ovr y).env
theorem yj3 {t:ya}{v h:Value}{how:List Int}{w:World}(a:yg w t v)(K:Sml t)(y:Gl w)(C:jk w h how) :
  Calls Tryz.prog 8 #[v,h] w fun e w'=>e=.returned (.bool true)/\Below w.heap.size w w':=by
 have N:=fun o=>yzl (a.alc o);have H:=fun o=>yvq (a.alc o) K (y.alloc o) (C.al o);have J:=fun j o=>yrg (a.alc o) j (y.alloc o) (C.al o);have L:=fun(x:List UInt8) k o=>yrc (x:=x) (a.alc o) k;have hd:=fun(x:List UInt8) (k:yn1 t how false x) o=>yup k false false false true false false (p:=0) (by omega) (y.alloc o);obtain⟨kv,l,nm,n,f,ao,ln,cap,rfl⟩:=yek a;obtain⟨W,X,rfl,O,D,-⟩:=C;unfold maxLen at D;have b0:=fun x=>zn w #[.int .i64 kv,.int .u8 l.toNat,.string ⟨nm.toArray⟩,.int .u64 n,.bool f,.slice ao ln cap] 28 0 _ rfl x;have b1:=fun x=>zn w #[.int .i64 kv,.int .u8 l.toNat,.string ⟨nm.toArray⟩,.int .u64 n,.bool f,.slice ao ln cap] 28 1 _ rfl x;have S:=fun x=>zn w #[.int .i64 kv,.int .u8 l.toNat,.string ⟨nm.toArray⟩,.int .u64 n,.bool f,.slice ao ln cap] 28 2 _ rfl x;have T:=fun x=>zn w #[.int .i64 kv,.int .u8 l.toNat,.string ⟨nm.toArray⟩,.int .u64 n,.bool f,.slice ao ln cap] 28 3 _ rfl x;have U:=fun x=>zn w #[.int .i64 kv,.int .u8 l.toNat,.string ⟨nm.toArray⟩,.int .u64 n,.bool f,.slice ao ln cap] 28 4 _ rfl x;have V:=fun x=>zn w #[.int .i64 kv,.int .u8 l.toNat,.string ⟨nm.toArray⟩,.int .u64 n,.bool f,.slice ao ln cap] 28 5 _ rfl x;have i:=lh N;have u:=lh H;have F:=lh J;have G:=lh L;have A:=lh hd;clear N H J L hd a K y;unfold ydj at A
 by_cases g:zzB t=true
 ·rw[g] at i
  by_cases I:how.length<=2147483647
  ·have R:decide ((2147483647:Int) < (how.length:Int))=false:=decide_eq_false (by omega)
   by_cases b:yng t how=true
   ·have j:=yyt b
    obtain⟨x,M,P,k⟩:=ys5 j false;obtain⟨r,Q⟩:=ys6 j M;rw[b] at u;have m:=lh (F.out j);have B:=lh (G.out x r);have d:=lh (A.out x k);rw[ytf] at d;clear F G A j M k r b g;generalize (wGo false how 24 t .zero).out=out at m d
    go_enter Tryz.func8,Tryz.ntmps8
    go_wp2_with fail
    refine(i.out _).at.mono ?_;rintro e c ⟨rfl,z,rfl⟩
    go_wp2_with fail
    refine(u.out _ z).mono ?_;rintro e c ⟨rfl,E,rfl⟩
    go_wp2_with fail
    refine(m.out _ E).mono ?_;rintro e c ⟨rfl,z2,rfl⟩
    go_wp2_with fail
    refine(d.out _ z2).mono ?_;rintro e c ⟨rfl,z3,rfl⟩
    go_wp2_with fail
    refine(B.out _ z3).mono ?_;rintro e c ⟨rfl,z4,rfl⟩;go_wp2;go_ret;exact⟨by simp,ybx _ z4⟩
   ·have q:yng t how=false:=by simpa using b
    rw[q] at u
    go_enter Tryz.func8,Tryz.ntmps8
    go_wp2_with fail
    refine(i.out _).at.mono ?_;rintro e c ⟨rfl,z,rfl⟩
    go_wp2_with fail
    refine(u.out _ z).mono ?_;rintro e c ⟨rfl,E,rfl⟩;go_wp2;go_ret;exact⟨rfl,ybx _ E⟩
  ·have R:decide ((2147483647:Int) < (how.length:Int))=true:=decide_eq_true (by omega)
   go_enter Tryz.func8,Tryz.ntmps8
   go_wp2_with fail
   refine(i.out _).at.mono ?_;rintro e c ⟨rfl,z,rfl⟩;go_wp2;go_ret;exact⟨rfl,ybx _ z⟩
 ·have s:zzB t=false:=by simpa using g
  rw[s] at i
  go_enter Tryz.func8,Tryz.ntmps8
  go_wp2_with fail
  refine(i.out _).at.mono ?_;rintro e c ⟨rfl,z,rfl⟩;go_wp2;go_ret;exact⟨rfl,ybx _ z⟩
theorem yzd (c2 c3:Bool){t:ya}{v h:Value}{how:List Int}{w:World}(a:yg w t v)(K:Sml t)(y:Gl w)(C:jk w h how) :
  Calls Tryz.prog 9 #[v,h,.bool c2,.bool c3] w fun e w'=>e=.returned (.bool true)/\Below w.heap.size w w':=by
 have N:=fun o=>yzl (a.alc o);have H:=fun o=>yvq (a.alc o) K (y.alloc o) (C.al o);have J:=fun j o=>yrg (a.alc o) j (y.alloc o) (C.al o);have L:=fun(x:List UInt8) k o=>yrc (x:=x) (a.alc o) k;have hd:=fun(x:List UInt8) (k:yn1 t how false x) o=>yup k c2 c3 false false false false (p:=0) (by omega) (y.alloc o);obtain⟨kv,l,nm,n,f,ao,ln,cap,rfl⟩:=yek a;obtain⟨W,X,rfl,O,D,-⟩:=C;unfold maxLen at D;have b0:=fun x=>zn w #[.int .i64 kv,.int .u8 l.toNat,.string ⟨nm.toArray⟩,.int .u64 n,.bool f,.slice ao ln cap] 28 0 _ rfl x;have b1:=fun x=>zn w #[.int .i64 kv,.int .u8 l.toNat,.string ⟨nm.toArray⟩,.int .u64 n,.bool f,.slice ao ln cap] 28 1 _ rfl x;have S:=fun x=>zn w #[.int .i64 kv,.int .u8 l.toNat,.string ⟨nm.toArray⟩,.int .u64 n,.bool f,.slice ao ln cap] 28 2 _ rfl x;have T:=fun x=>zn w #[.int .i64 kv,.int .u8 l.toNat,.string ⟨nm.toArray⟩,.int .u64 n,.bool f,.slice ao ln cap] 28 3 _ rfl x;have U:=fun x=>zn w #[.int .i64 kv,.int .u8 l.toNat,.string ⟨nm.toArray⟩,.int .u64 n,.bool f,.slice ao ln cap] 28 4 _ rfl x;have V:=fun x=>zn w #[.int .i64 kv,.int .u8 l.toNat,.string ⟨nm.toArray⟩,.int .u64 n,.bool f,.slice ao ln cap] 28 5 _ rfl x;have i:=lh N;have u:=lh H;have F:=lh J;have G:=lh L;have A:=lh hd;clear N H J L hd a K y;unfold ydj at A
 by_cases g:zzB t=true
 ·rw[g] at i
  by_cases I:how.length<=2147483647
  ·have R:decide ((2147483647:Int) < (how.length:Int))=false:=decide_eq_false (by omega)
   by_cases b:yng t how=true
   ·have j:=yyt b
    obtain⟨x,M,P,k⟩:=ys5 j false;obtain⟨r,Q⟩:=ys6 j M;rw[b] at u;have m:=lh (F.out j);have B:=lh (G.out x r);have d:=lh (A.out x k);rw[ytf] at d;clear F G A j M k r b g;generalize (wGo false how 24 t .zero).out=out at m d
    go_enter Tryz.func9,Tryz.ntmps9
    go_wp2_with fail
    refine(i.out _).at.mono ?_;rintro e c ⟨rfl,z,rfl⟩
    go_wp2_with fail
    refine(u.out _ z).mono ?_;rintro e c ⟨rfl,E,rfl⟩
    go_wp2_with fail
    refine(m.out _ E).mono ?_;rintro e c ⟨rfl,z2,rfl⟩
    go_wp2_with fail
    refine(d.out _ z2).mono ?_;rintro e c ⟨rfl,z3,rfl⟩
    go_wp2_with fail
    refine(B.out _ z3).mono ?_;rintro e c ⟨rfl,z4,rfl⟩;go_wp2;go_ret;exact⟨by simp,ybx _ z4⟩
   ·have q:yng t how=false:=by simpa using b
    rw[q] at u
    go_enter Tryz.func9,Tryz.ntmps9
    go_wp2_with fail
    refine(i.out _).at.mono ?_;rintro e c ⟨rfl,z,rfl⟩
    go_wp2_with fail
    refine(u.out _ z).mono ?_;rintro e c ⟨rfl,E,rfl⟩;go_wp2;go_ret;exact⟨rfl,ybx _ E⟩
  ·have R:decide ((2147483647:Int) < (how.length:Int))=true:=decide_eq_true (by omega)
   go_enter Tryz.func9,Tryz.ntmps9
   go_wp2_with fail
   refine(i.out _).at.mono ?_;rintro e c ⟨rfl,z,rfl⟩;go_wp2;go_ret;exact⟨rfl,ybx _ z⟩
 ·have s:zzB t=false:=by simpa using g
  rw[s] at i
  go_enter Tryz.func9,Tryz.ntmps9
  go_wp2_with fail
  refine(i.out _).at.mono ?_;rintro e c ⟨rfl,z,rfl⟩;go_wp2;go_ret;exact⟨rfl,ybx _ z⟩
theorem yzb {w:World}{nm x:List UInt8}(b:∀ w',Below w.heap.size w w'->Calls Tryz.prog 17 #[.string ⟨nm.toArray⟩,ydj false false false false false false false 0] w' fun e a=>e=.returned (.tuple #[.string ⟨x.toArray⟩,.int .i64 0])/\Below w'.heap.size w' a) :
  Calls Tryz.prog 18 #[.string ⟨nm.toArray⟩,.string ⟨x.toArray⟩] w fun e w'=>e=.returned (.bool true)/\Below w.heap.size w w':=by
 have H:=lh (b w (Below.refl _ w));clear b;unfold ydj at H
 go_enter Tryz.func18,Tryz.ntmps18
 go_wp2_with fail
 refine H.out.mono ?_;rintro e c ⟨rfl,hb⟩;go_wp2;go_ret;exact⟨by simp,hb⟩
theorem yzc {w:World}{t:ya}{how:List Int}{x:List UInt8}(b:yn1 t how false x)(a:Gl w):Stays w 18 #[.string ⟨(95::82::(wGo false how 24 t .zero).out).toArray⟩,.string ⟨x.toArray⟩] (.bool true):=
 ybm fun y=>yzb fun w' hb=>by
  obtain⟨z,rfl⟩:=ybj hb;exact b false false false false false false 0 (by omega) _ ((a.ovr y).ovr z).env
theorem yza {t:ya}{v h:Value}{how:List Int}{w:World}(a:yg w t v)(J:Sml t)(s:Gl w)(A:jk w h how) :
  Calls Tryz.prog 12 #[v,h] w fun e w'=>e=.returned (.bool true)/\Below w.heap.size w w':=by
 have M:=fun o=>yzl (a.alc o);have G:=fun o z=>yvq ((a.alc o).ovr z) J ((s.alloc o).ovr z) ((A.al o).ovr z);have I:=fun g o z=>yrg ((a.alc o).ovr z) g ((s.alloc o).ovr z) ((A.al o).ovr z);have K:=fun(x:List UInt8) i o z=>yrc (x:=x) ((a.alc o).ovr z) i;have hd:=fun(x:List UInt8) (i:yn1 t how false x) o z=>yzc i ((s.alloc o).ovr z);obtain⟨kv,l,nm,n,f,ao,ln,cap,rfl⟩:=yek a;obtain⟨V,W,rfl,N,B,-⟩:=A;unfold maxLen at B;have a0:=fun z=>zn w #[.int .i64 kv,.int .u8 l.toNat,.string ⟨nm.toArray⟩,.int .u64 n,.bool f,.slice ao ln cap] 28 0 _ rfl z;have a1:=fun z=>zn w #[.int .i64 kv,.int .u8 l.toNat,.string ⟨nm.toArray⟩,.int .u64 n,.bool f,.slice ao ln cap] 28 1 _ rfl z;have a2:=fun z=>zn w #[.int .i64 kv,.int .u8 l.toNat,.string ⟨nm.toArray⟩,.int .u64 n,.bool f,.slice ao ln cap] 28 2 _ rfl z;have a3:=fun z=>zn w #[.int .i64 kv,.int .u8 l.toNat,.string ⟨nm.toArray⟩,.int .u64 n,.bool f,.slice ao ln cap] 28 3 _ rfl z;have a4:=fun z=>zn w #[.int .i64 kv,.int .u8 l.toNat,.string ⟨nm.toArray⟩,.int .u64 n,.bool f,.slice ao ln cap] 28 4 _ rfl z;have a5:=fun z=>zn w #[.int .i64 kv,.int .u8 l.toNat,.string ⟨nm.toArray⟩,.int .u64 n,.bool f,.slice ao ln cap] 28 5 _ rfl z;have b0:=fun z x=>yf (zn w #[.int .i64 kv,.int .u8 l.toNat,.string ⟨nm.toArray⟩,.int .u64 n,.bool f,.slice ao ln cap] 28 0 _ rfl z) x;have b1:=fun z x=>yf (zn w #[.int .i64 kv,.int .u8 l.toNat,.string ⟨nm.toArray⟩,.int .u64 n,.bool f,.slice ao ln cap] 28 1 _ rfl z) x;have R:=fun z x=>yf (zn w #[.int .i64 kv,.int .u8 l.toNat,.string ⟨nm.toArray⟩,.int .u64 n,.bool f,.slice ao ln cap] 28 2 _ rfl z) x;have S:=fun z x=>yf (zn w #[.int .i64 kv,.int .u8 l.toNat,.string ⟨nm.toArray⟩,.int .u64 n,.bool f,.slice ao ln cap] 28 3 _ rfl z) x;have T:=fun z x=>yf (zn w #[.int .i64 kv,.int .u8 l.toNat,.string ⟨nm.toArray⟩,.int .u64 n,.bool f,.slice ao ln cap] 28 4 _ rfl z) x;have U:=fun z x=>yf (zn w #[.int .i64 kv,.int .u8 l.toNat,.string ⟨nm.toArray⟩,.int .u64 n,.bool f,.slice ao ln cap] 28 5 _ rfl z) x;have d:=lh M;have r:=lh G;have E:=lh I;have F:=lh K;have D:=lh hd;clear M G I K hd a J s
 by_cases c:zzB t=true
 ·rw[c] at d
  by_cases H:how.length<=2147483647
  ·have Q:decide ((2147483647:Int) < (how.length:Int))=false:=decide_eq_false (by omega)
   by_cases b:yng t how=true
   ·have g:=yyt b
    obtain⟨x,L,O,i⟩:=ys5 g false;obtain⟨p,P⟩:=ys6 g L;rw[b] at r;have k:=lh (E.out g);have u:=lh (F.out x p);have j:=lh (D.out x i);clear E F D g L i p b c;generalize (wGo false how 24 t .zero).out=out at k j
    go_enter Tryz.func12,Tryz.ntmps12
    go_wp2_with fail
    refine(d.out _).at.mono ?_;rintro e C ⟨rfl,z,rfl⟩;go_wp2;refine yao (by kernel_rfl) (by kernel_rfl) ?_
    repeat(go_big_quiet_step (first|exact r.out _ z _|exact k.out _ z _|exact u.out _ z _|exact j.out _ z _))
    refine wpQuiet_nil ?_;rintro _ ⟨y,rfl⟩;go_wp2;go_ret;exact⟨by simp,(ybx _ z).trans (vm (qp _ y) (ybx _ z).size)⟩
   ·have m:yng t how=false:=by simpa using b
    rw[m] at r
    go_enter Tryz.func12,Tryz.ntmps12
    go_wp2_with fail
    refine(d.out _).at.mono ?_;rintro e C ⟨rfl,z,rfl⟩;go_wp2;refine yao (by kernel_rfl) (by kernel_rfl) ?_
    repeat(go_big_quiet_step (first|exact r.out _ z _))
    refine wpQuiet_nil ?_;rintro _ ⟨y,rfl⟩;go_wp2;go_ret;exact⟨by simp,(ybx _ z).trans (vm (qp _ y) (ybx _ z).size)⟩
  ·have Q:decide ((2147483647:Int) < (how.length:Int))=true:=decide_eq_true (by omega)
   go_enter Tryz.func12,Tryz.ntmps12
   go_wp2_with fail
   refine(d.out _).at.mono ?_;rintro e C ⟨rfl,z,rfl⟩;go_wp2;go_ret;exact⟨rfl,ybx _ z⟩
 ·have q:zzB t=false:=by simpa using c
  rw[q] at d
  go_enter Tryz.func12,Tryz.ntmps12
  go_wp2_with fail
  refine(d.out _).at.mono ?_;rintro e C ⟨rfl,z,rfl⟩;go_wp2;go_ret;exact⟨rfl,ybx _ z⟩
theorem yzh {xs ys:List (List UInt8)}{n:Nat}(c:xs.length=n)(d:ys.length=n)(h:∀ i,i < n->xs.getD i []=ys.getD i []):xs=ys:=by
 refine List.ext_getElem (by omega) fun i a b=>?_;have:=h i (by omega)
 rwa[lgd,lgd,lge a,lge b] at this
def yzg:Md->Nat->Prop
 | .path _,k=>1<=k/\k<=6
 | .type,k=>1<=k/\k<=16
 | .arg,k=>(1<=k/\k<=16)\/(19<=k/\k<=21)
 | .const,k=>20<=k/\k<=21
 | .bound,k=>k=17
theorem yzf {ng:Bool}{md:Md}{b:Nat}{t:ya}{x:List UInt8}(h:qq ng md b t x):yzg md t.kind:=by
 induction h with
 | path _ a=>exact⟨a.1,by have:=a.2;omega⟩
 | argC _ a=>exact .inr ⟨by have:=a.1;omega,a.2⟩
 | argT _ a=>exact .inl a
 | ref h=>rcases h with rfl|rfl<;>exact⟨by simp[ya.kind],by simp[ya.kind]⟩
 | ptr h=>rcases h with rfl|rfl<;>exact⟨by simp[ya.kind],by simp[ya.kind]⟩
 | life=>exact .inr ⟨by simp[ya.kind],by simp[ya.kind]⟩
 | bound0=>rfl
 | boundP=>rfl
 | boundG=>rfl
 | _=>exact⟨by simp[ya.kind],by simp[ya.kind]⟩
theorem yzq {ng:Bool}{md:Md}{b:Nat}{t:ya}{x:List UInt8}(h:qq ng md b t x):∀ r y,qq ng md b r y->r=t->x=y:=by
 induction h with
 | path w s=>
  intro r y g d;subst d;have D:=yzf w
  cases g with
  | path e=>exact s _ _ e rfl
  | ref e=>simp[yzg,ya.kind] at D;omega
  | ptr e=>simp[yzg,ya.kind] at D;omega
  | _=>simp[yzg,ya.kind] at D
 | argC w s=>
  intro r y g d;subst d;have D:=yzf w
  cases g with
  | argC e=>exact s _ _ e rfl
  | argT e=>have:=yzf e;simp only[yzg] at D this;omega
  | _=>simp[yzg,ya.kind] at D
 | argT w s=>
  intro r y g d;subst d;have D:=yzf w
  cases g with
  | argT e=>exact s _ _ e rfl
  | argC e=>have:=yzf e;simp only[yzg] at D this;omega
  | _=>simp[yzg,ya.kind] at D
 | crate h=>intro r y g d;cases g<;>simp_all
 | @impl v b l nm n f p t x y _ _ _ s=>intro r u g d;cases g<;>simp only[ya.mk.injEq] at d<;>first|omega|(simp only[List.cons.injEq] at d;rw[s _ _ (by assumption) d.2.2.2.2.2.2.1])
 | @timpl v b l nm n f p t q x y z _ _ _ _ s F=>intro r u g d;cases g<;>simp only[ya.mk.injEq] at d<;>first|omega|(simp only[List.cons.injEq] at d;rw[s _ _ (by assumption) d.2.2.2.2.2.2.1,F _ _ (by assumption) d.2.2.2.2.2.2.2.1])
 | @tdef v b l nm n f t q x z _ _ s F=>intro r u g d;cases g<;>simp only[ya.mk.injEq] at d<;>first|omega|(simp only[List.cons.injEq] at d;rw[s _ _ (by assumption) d.2.2.2.2.2.1,F _ _ (by assumption) d.2.2.2.2.2.2.1])
 | @small v b l nm n f p x B P w s=>
  intro r u g d
  cases g with
  | small o L e=>simp only[ya.mk.injEq,List.cons.injEq] at d;obtain⟨-,rfl,rfl,rfl,rfl,rfl,-⟩:=d;rw[s _ _ e rfl]
  | special T E I e=>simp only[ya.mk.injEq,List.cons.injEq] at d;obtain⟨-,rfl,-⟩:=d;rcases T with rfl|rfl<;>exact absurd B (by decide)
  | _=>simp only[ya.mk.injEq] at d;omega
 | @special v b l nm n f p x B P L w s=>
  intro r u g d
  cases g with
  | small o L e=>simp only[ya.mk.injEq,List.cons.injEq] at d;obtain⟨-,rfl,-⟩:=d;rcases B with rfl|rfl<;>exact absurd o (by decide)
  | special T E I e=>simp only[ya.mk.injEq,List.cons.injEq] at d;obtain⟨-,rfl,rfl,rfl,rfl,rfl,-⟩:=d;rw[s _ _ e rfl]
  | _=>simp only[ya.mk.injEq] at d;omega
 | @gen v b l nm n f p x a xs B w O j s=>
  intro r u g d
  cases g with
  | gen o e E=>simp only[ya.mk.injEq,List.cons.injEq] at d;obtain⟨-,rfl,rfl,rfl,rfl,rfl,rfl⟩:=d;rw[s _ _ E rfl,yzh B o (fun i hi=>j i hi _ _ (e i hi) rfl)]
  | _=>simp only[ya.mk.injEq] at d;omega
 | @basic b l nm n f x hb=>
  intro r u g d
  cases g with
  | path e=>subst d;have:=yzf e;simp[yzg,ya.kind] at this
  | basic e=>simp only[ya.mk.injEq] at d;obtain⟨-,rfl,-⟩:=d;rw[hb] at e;exact Option.some.inj e
  | _=>simp only[ya.mk.injEq] at d;omega
 | @array b l nm n f t c x y w O j C=>
  intro r u g d
  cases g with
  | path e=>subst d;have:=yzf e;simp[yzg,ya.kind] at this
  | array e E=>simp only[ya.mk.injEq,List.cons.injEq] at d;obtain⟨-,rfl,rfl,rfl,rfl,rfl,rfl,-⟩:=d;rw[j _ _ e rfl,C _ _ E rfl]
  | _=>simp only[ya.mk.injEq] at d;omega
 | @slice b l nm n f t x w j=>
  intro r u g d
  cases g with
  | path e=>subst d;have:=yzf e;simp[yzg,ya.kind] at this
  | slice e=>simp only[ya.mk.injEq,List.cons.injEq] at d;obtain⟨-,rfl,rfl,rfl,rfl,rfl,-⟩:=d;rw[j _ _ e rfl]
  | _=>simp only[ya.mk.injEq] at d;omega
 | @tuple b l nm n f a xs B w j=>
  intro r u g d
  cases g with
  | path e=>subst d;have:=yzf e;simp[yzg,ya.kind] at this
  | tuple o e=>simp only[ya.mk.injEq] at d;obtain⟨-,rfl,rfl,rfl,rfl,rfl⟩:=d;rw[yzh B o (fun i hi=>j i hi _ _ (e i hi) rfl)]
  | _=>simp only[ya.mk.injEq] at d;omega
 | @ref b k l nm n f t x D P w j=>
  intro r u g d
  cases g with
  | path e=>subst d;have:=yzf e;simp[yzg,ya.kind] at this;omega
  | ref G L e=>simp only[ya.mk.injEq,List.cons.injEq] at d;obtain⟨rfl,rfl,rfl,rfl,rfl,rfl,-⟩:=d;rw[j _ _ e rfl]
  | _=>simp only[ya.mk.injEq] at d;omega
 | @ptr b k l nm n f t x D w j=>
  intro r u g d
  cases g with
  | path e=>subst d;have:=yzf e;simp[yzg,ya.kind] at this;omega
  | ptr G e=>simp only[ya.mk.injEq,List.cons.injEq] at d;obtain⟨rfl,rfl,rfl,rfl,rfl,rfl,-⟩:=d;rw[j _ _ e rfl]
  | _=>simp only[ya.mk.injEq] at d;omega
 | @fn b l nm n f a xs t x hb W B w O Z j C=>
  intro r u g d
  cases g with
  | path e=>subst d;have:=yzf e;simp[yzg,ya.kind] at this
  | fn K S o e E X=>
   simp only[ya.mk.injEq] at d;obtain⟨-,rfl,rfl,rfl,rfl,J⟩:=d;obtain⟨rfl,I⟩:=List.append_inj' J rfl;obtain rfl:=List.singleton_inj.1 I;rw[C _ _ E rfl,yzh B o (fun i hi=>j i hi _ _ (e i hi) rfl)]
  | _=>simp only[ya.mk.injEq] at d;omega
 | @dyn b l nm n m f a xs l2 nm2 f2 hb Y A B w j=>
  intro r u g d
  cases g with
  | path e=>subst d;have:=yzf e;simp[yzg,ya.kind] at this
  | dyn K V H o e=>
   simp only[ya.mk.injEq] at d;obtain⟨-,rfl,rfl,rfl,rfl,J⟩:=d;obtain⟨rfl,I⟩:=List.append_inj' J rfl;have R:=List.singleton_inj.1 I;simp only[ya.mk.injEq] at R;obtain⟨-,-,-,rfl,-⟩:=R;rw[yzh B o (fun i hi=>j i hi _ _ (e i hi) rfl)]
  | _=>simp only[ya.mk.injEq] at d;omega
 | @life b l nm n f P=>
  intro r u g d
  cases g with
  | life e=>simp only[ya.mk.injEq] at d;obtain⟨-,rfl,rfl,rfl,rfl,-⟩:=d;rfl
  | argC e=>subst d;have:=yzf e;simp[yzg,ya.kind] at this
  | argT e=>subst d;have:=yzf e;simp[yzg,ya.kind] at this
 | @num b l nm n f P=>
  intro r u g d
  cases g with
  | num e=>simp only[ya.mk.injEq] at d;obtain⟨-,rfl,rfl,rfl,rfl,-⟩:=d;rfl
  | hole=>simp only[ya.mk.injEq] at d;omega
 | hole=>
  intro r u g d
  cases g with
  | num e=>simp only[ya.mk.injEq] at d;omega
  | hole=>rfl
 | @bound0 b l nm n f p x w s=>
  intro r u g d
  cases g with
  | bound0 e=>simp only[ya.mk.injEq,List.cons.injEq] at d;obtain⟨-,rfl,rfl,rfl,rfl,rfl,-⟩:=d;exact s _ _ e rfl
  | boundP _ A=>simp only[ya.mk.injEq,List.cons.injEq] at d;exact absurd d.2.2.2.2.2.2 A
  | boundG _ _ _ A=>simp only[ya.mk.injEq,List.cons.injEq] at d;exact absurd d.2.2.2.2.2.2 A
 | @boundP b l nm n f p x a xs D A B hb w O j C=>
  intro r u g d
  cases g with
  | bound0 e=>simp only[ya.mk.injEq,List.cons.injEq] at d;exact absurd d.2.2.2.2.2.2.symm A
  | boundP G H o K e E=>
   simp only[ya.mk.injEq,List.cons.injEq] at d;obtain⟨-,rfl,rfl,rfl,rfl,rfl,rfl⟩:=d;rw[C _ _ E rfl,yzh B o (fun i hi=>by
    obtain⟨nm2,n2,f2,l2,t,N,_⟩:=hb i hi;exact j i t hi (by rw[N];rfl) _ _ (e i t hi (by rw[N];rfl)) rfl)]
  | boundG=>simp only[ya.mk.injEq,List.cons.injEq] at d;obtain⟨-,-,-,-,-,rfl,-⟩:=d;exact absurd rfl D
 | @boundG b l nm n f l3 nm3 n3 f3 q x a c xs ys Q w O A B hb U j C F=>
  intro r u g d
  cases g with
  | bound0 e=>simp only[ya.mk.injEq,List.cons.injEq] at d;exact absurd d.2.2.2.2.2.2.symm A
  | boundP G=>simp only[ya.mk.injEq,List.cons.injEq] at d;obtain⟨-,-,-,-,-,rfl,-⟩:=d;exact absurd rfl G
  | boundG M e E H o K I=>
   simp only[ya.mk.injEq,List.cons.injEq] at d;obtain⟨-,rfl,rfl,rfl,rfl,⟨-,rfl,rfl,rfl,rfl,rfl,rfl⟩,rfl⟩:=d;rw[C _ _ E rfl,yzh Q M (fun i hi=>j i hi _ _ (e i hi) rfl),yzh B o (fun i hi=>by
    obtain⟨nm2,n2,f2,l2,t,N,_⟩:=hb i hi;exact F i t hi (by rw[N];rfl) _ _ (I i t hi (by rw[N];rfl)) rfl)]
theorem yzn {w:World}{nm x:List UInt8}(b:∀ w',Below w.heap.size w w'->Calls Tryz.prog 17 #[.string ⟨nm.toArray⟩,ydj false false false false false false false 0] w' fun e a=>e=.returned (.tuple #[.string ⟨x.toArray⟩,.int .i64 0])/\Below w'.heap.size w' a) :
  Calls Tryz.prog 31 #[.string ⟨nm.toArray⟩] w fun e w'=>e=.returned (.tuple #[.string ⟨x.toArray⟩,.bool true])/\Below w.heap.size w w':=by
 have H:=lh (b w (Below.refl _ w));clear b;unfold ydj at H
 go_enter Tryz.func31,Tryz.ntmps31
 go_wp2_with fail
 refine H.out.mono ?_;rintro e c ⟨rfl,hb⟩;go_wp2
 go_ret2
 exact⟨by simp,hb⟩
theorem yzr {w:World}{t:ya}{how:List Int}{x:List UInt8}(b:yn1 t how false x)(a:Gl w):Stays w 31 #[.string ⟨(95::82::(wGo false how 24 t .zero).out).toArray⟩] (.tuple #[.string ⟨x.toArray⟩,.bool true]):=
 ybm fun y=>yzn fun w' hb=>by
  obtain⟨z,rfl⟩:=ybj hb;exact b false false false false false false 0 (by omega) _ ((a.ovr y).ovr z).env
theorem yzp {t:ya}{how a:List Int}(b:Fit t how)(h:yen (wGo false a 24 t .zero)=true):Fit t a:=by
 unfold yen at h;exact⟨b.rt,b.wt,b.ne,@of_decide_eq_true _ (Classical.propDecidable _) h⟩
theorem yzo {t:ya}{how:List Int}(h:yng t how=true):ycw t=true:=by
 unfold yng at h;rw[Bool.and_eq_true] at h;exact h.1
theorem yzi {t:ya}{v h W:Value}{how a:List Int}{w:World}(b:yg w t v)(hs:Sml t)(p:Gl w)(N:jk w h how)(q:jk w W a) :
  Calls Tryz.prog 10 #[v,h,W] w fun e w'=>e=.returned (.bool true)/\Below w.heap.size w w':=by
 have hz:=fun o=>yzl (b.alc o);have X:=fun o=>yvq (b.alc o) hs (p.alloc o) (N.al o);have Z:=fun M o=>yrf (b.alc o) M (p.alloc o) (q.al o);have hn:=fun k o=>yrg (b.alc o) k (p.alloc o) (N.al o);have G:=fun k o=>yrg (b.alc o) k (p.alloc o) (q.al o);have ht:=fun(x:List UInt8) (s:yn1 t how false x) o=>yzr s (p.alloc o);have hd:=fun(x:List UInt8) (s:yn1 t a false x) o=>yzc s (p.alloc o);obtain⟨kv,l,nm,n,f,ao,ln,cap,rfl⟩:=yek b;obtain⟨ha,hc,rfl,ag,O,-⟩:=N;obtain⟨hb,ai,rfl,ah,P,-⟩:=q;unfold maxLen at O P;have a0:=fun z=>zn w #[.int .i64 kv,.int .u8 l.toNat,.string ⟨nm.toArray⟩,.int .u64 n,.bool f,.slice ao ln cap] 28 0 _ rfl z;have a1:=fun z=>zn w #[.int .i64 kv,.int .u8 l.toNat,.string ⟨nm.toArray⟩,.int .u64 n,.bool f,.slice ao ln cap] 28 1 _ rfl z;have a2:=fun z=>zn w #[.int .i64 kv,.int .u8 l.toNat,.string ⟨nm.toArray⟩,.int .u64 n,.bool f,.slice ao ln cap] 28 2 _ rfl z;have a3:=fun z=>zn w #[.int .i64 kv,.int .u8 l.toNat,.string ⟨nm.toArray⟩,.int .u64 n,.bool f,.slice ao ln cap] 28 3 _ rfl z;have a4:=fun z=>zn w #[.int .i64 kv,.int .u8 l.toNat,.string ⟨nm.toArray⟩,.int .u64 n,.bool f,.slice ao ln cap] 28 4 _ rfl z;have a5:=fun z=>zn w #[.int .i64 kv,.int .u8 l.toNat,.string ⟨nm.toArray⟩,.int .u64 n,.bool f,.slice ao ln cap] 28 5 _ rfl z;have j:=lh hz;have y:=lh X;have T:=lh Z;have U:=lh hn;have B:=lh G;have V:=lh ht;have S:=lh hd;clear hz X Z hn G ht hd b hs p
 by_cases r:zzB t=true
 ·rw[r] at j
  by_cases Y:how.length<=2147483647
  ·have q1:decide ((2147483647:Int) < (how.length:Int))=false:=decide_eq_false (by omega)
   by_cases Q:a.length<=2147483647
   ·have q2:decide ((2147483647:Int) < (a.length:Int))=false:=decide_eq_false (by omega)
    by_cases d:yng t how=true
    ·have M:=yzo d
     have k:=yyt d;rw[d] at y;have g:=lh (T.out M);clear T
     by_cases i:yen (wGo false a 24 t .zero)=true
     ·have m:=yzp k i
      obtain⟨x,hx,R,s⟩:=ys5 k false;obtain⟨x2,J,H,E⟩:=ys5 m false;obtain rfl:=yzq hx _ _ J rfl;rw[i] at g;have A:=lh (U.out k);have C:=lh (B.out m);have D:=lh (V.out x s);have u:=lh (S.out x E);clear U B V S k m hx J s E d r i M H;generalize (wGo false how 24 t .zero).out=out at A D;generalize (wGo false a 24 t .zero).out=af at C u
      go_enter Tryz.func10,Tryz.ntmps10
      go_wp2_with fail
      refine(j.out _).at.mono ?_;rintro e c ⟨rfl,z,rfl⟩
      go_wp2_with fail
      refine(y.out _ z).mono ?_;rintro e c ⟨rfl,L,rfl⟩
      go_wp2_with fail
      refine(g.out _ L).mono ?_;rintro e c ⟨rfl,z2,rfl⟩
      go_wp2_with fail
      refine(A.out _ z2).mono ?_;rintro e c ⟨rfl,z3,rfl⟩
      go_wp2_with fail
      refine(D.out _ z3).mono ?_;rintro e c ⟨rfl,z4,rfl⟩
      go_wp2_with fail
      refine(C.out _ z4).mono ?_;rintro e c ⟨rfl,z5,rfl⟩
      go_wp2_with fail
      refine(u.out _ z5).mono ?_;rintro e c ⟨rfl,z6,rfl⟩;go_wp2;go_ret;exact⟨by simp[R],ybx _ z6⟩
     ·have I:yen (wGo false a 24 t .zero)=false:=by simpa using i
      rw[I] at g
      go_enter Tryz.func10,Tryz.ntmps10
      go_wp2_with fail
      refine(j.out _).at.mono ?_;rintro e c ⟨rfl,z,rfl⟩
      go_wp2_with fail
      refine(y.out _ z).mono ?_;rintro e c ⟨rfl,L,rfl⟩
      go_wp2_with fail
      refine(g.out _ L).mono ?_;rintro e c ⟨rfl,z2,rfl⟩;go_wp2;go_ret;exact⟨rfl,ybx _ z2⟩
    ·have F:yng t how=false:=by simpa using d
     rw[F] at y
     go_enter Tryz.func10,Tryz.ntmps10
     go_wp2_with fail
     refine(j.out _).at.mono ?_;rintro e c ⟨rfl,z,rfl⟩
     go_wp2_with fail
     refine(y.out _ z).mono ?_;rintro e c ⟨rfl,L,rfl⟩;go_wp2;go_ret;exact⟨rfl,ybx _ L⟩
   ·have q2:decide ((2147483647:Int) < (a.length:Int))=true:=decide_eq_true (by omega)
    go_enter Tryz.func10,Tryz.ntmps10
    go_wp2_with fail
    refine(j.out _).at.mono ?_;rintro e c ⟨rfl,z,rfl⟩;go_wp2;go_ret;exact⟨rfl,ybx _ z⟩
  ·have q1:decide ((2147483647:Int) < (how.length:Int))=true:=decide_eq_true (by omega)
   go_enter Tryz.func10,Tryz.ntmps10
   go_wp2_with fail
   refine(j.out _).at.mono ?_;rintro e c ⟨rfl,z,rfl⟩;go_wp2;go_ret;exact⟨rfl,ybx _ z⟩
 ·have K:zzB t=false:=by simpa using r
  rw[K] at j
  go_enter Tryz.func10,Tryz.ntmps10
  go_wp2_with fail
  refine(j.out _).at.mono ?_;rintro e c ⟨rfl,z,rfl⟩;go_wp2;go_ret;exact⟨rfl,ybx _ z⟩
end Go.Proofs.YtfckcdbpiepchaaGreatDoor
