import Derived.Test.YtfckcdbpiepchaaGreatDoorNs05
namespace Go.Proofs.YtfckcdbpiepchaaGreatDoor
open Go.RowKit
set_option maxRecDepth 100000
set_option maxHeartbeats 8000000
set_option linter.all false
theorem qy {c:UInt8}{n:Nat}(b:n < 256)(h:c≠UInt8.ofNat n):((c.toNat:Int) == (n:Int))=false:=by
 simp;intro a
 apply h
 apply UInt8.toNat_inj.1
 simp[UInt8.toNat_ofNat'];omega
theorem yfe {rec:Rec}(H:yy rec){w:World}{p:Nat}{st:RS}{x:Option RS}(i:RAt w p st)(k:st.Wg)(l:Env p w)(f:yb7 rec st=some x) :
  Calls Tryz.prog 155 #[.pointer (some ⟨p,0,none⟩)] w fun e w'=>yib p w x e w':=by
 have j:=Upd.refl p w;unfold yb7 at f
 cases C:st.str with
 | nil=>
  rw[C] at f;have L:w.cell? ⟨p,1,none⟩=some (.string ⟨#[]⟩):=by have h:=i.str;rw[C] at h;exact h
  obtain rfl:x=none:=(Option.some.inj f).symm;clear C f
  go_enter Tryz.func155,Tryz.ntmps155
  go_wp2_with(go_at_call 70;refine(yu i).mono ?_;rintro e G ⟨m,o,D,rfl,b,a⟩)
  exact⟨rfl,m,o,D,rfl,b,a⟩
 | cons c r=>
  rw[C] at f;have L:w.cell? ⟨p,1,none⟩=some (.string ⟨(c::r).toArray⟩):=by have h:=i.str;rw[C] at h;exact h
  have I:=lh C;clear C;simp only at f
  by_cases E:c=76
  ·subst E
   rw[if_pos rfl] at f
   go_enter Tryz.func155,Tryz.ntmps155
   go_wp2_with fail
   refine(yh i k.wf I).mono ?_;rintro e G ⟨rfl,b,a⟩;have d:(st.go r).Wg:=k.go (by rw[I.out];simp)
   go_wp2_with fail
   refine yd9 b d ?_ ?_
   ·intro e Q A hb
    rw[show b62 r=none from hb] at f;obtain rfl:=(Option.some.inj f);obtain⟨m,o,D,rfl,q,t⟩:=A;go_wp2;exact⟨rfl,m,o,D,rfl,q,a.trans t⟩
   ·intro v P Q hb q B t
    rw[show b62 r=some (v,P) from hb] at f;rw[RS.go_go] at q B;simp only at f;replace j:=a.trans t;replace l:=(l.upd i a).upd b t;rw[<-ve (yb3 _ _)] at f;replace i:=q;replace k:=B;clear b q a t d B hb
    go_wp2_with fail
    refine ji (fun z h=>ybr i k h) f (fun e N A y=>?_) (fun R G M b d a g=>?_)
    ·subst y;obtain⟨m,o,F,rfl,s,u⟩:=A;go_wp2;exact⟨rfl,m,o,F,rfl,s,j.trans u⟩
    replace l:=l.upd i a;replace j:=j.trans a;replace i:=b;replace k:=d;replace f:=g;clear b d a g;clear M;obtain rfl:=Option.some.inj f;go_wp2;go_end0;exact⟨⟨rfl,i,j⟩,k⟩
  ·rw[if_neg E] at f
   have K:=qy (n:=76) (by omega) E
   by_cases J:c=75
   ·subst J
    rw[if_pos rfl] at f;clear E K
    go_enter Tryz.func155,Tryz.ntmps155
    go_wp2_with fail
    refine(yh i k.wf I).mono ?_;rintro e G ⟨rfl,b,a⟩;have d:(st.go r).Wg:=k.go (by rw[I.out];simp);have g:=f;replace l:=l.upd i a;replace j:=j.trans a;replace i:=b;replace k:=d;replace f:=g;clear b d a g
    go_wp2_with fail
    refine yjd H i k l f (fun e N A y=>?_) (fun z G b d a g=>?_)
    ·subst y;obtain⟨m,o,F,rfl,s,u⟩:=A;go_wp2;exact⟨rfl,m,o,F,rfl,s,j.trans u⟩
    replace l:=l.upd i a;replace j:=j.trans a;replace i:=b;replace k:=d;replace f:=g;clear b d a g;obtain rfl:=Option.some.inj f;go_wp2;go_end0;exact⟨⟨rfl,i,j⟩,k⟩
   ·rw[if_neg J] at f
    have O:=qy (n:=75) (by omega) J;clear E J
    go_enter Tryz.func155,Tryz.ntmps155
    go_wp2_with fail
    refine jt H i k l f (fun e N A y=>?_) (fun z G b d a g=>?_)
    ·subst y;obtain⟨m,o,F,rfl,s,u⟩:=A;go_wp2;exact⟨rfl,m,o,F,rfl,s,j.trans u⟩
    replace l:=l.upd i a;replace j:=j.trans a;replace i:=b;replace k:=d;replace f:=g;clear b d a g;obtain rfl:=Option.some.inj f;go_wp2;go_end0;exact⟨⟨rfl,i,j⟩,k⟩
theorem ydr {w:World}{p a0 a1:Nat}{st:RS}{h:Bool}(u:FrameMode)(a:RAt w p st)(c0:w.cell? ⟨a0,0,none⟩=some (.bool h)) (c1:w.cell? ⟨a1,0,none⟩=some (.pointer (some ⟨p,0,none⟩))) :
  CallsD Tryz.prog 154 #[.pointer (some ⟨a0,0,none⟩),.pointer (some ⟨a1,0,none⟩)] u w fun e b w'=>b=u/\(e=.returned (.tuple #[])/\w'=w.setCell ⟨p,5,none⟩ (.bool h)):=by
 have k5:=a.skip;have c:=a.free 5;refine callsD_of_wp Tryz.func154 rfl ?_;simp only[Tryz.ntmps154,List.size_toArray,List.length_cons,List.length_nil,Nat.reduceAdd,Nat.reduceSub,Array.replicate_succ,
   Array.replicate_zero,List.push_toArray,List.append_toArray,List.nil_append,List.cons_append]
 go_wp2;go_end0
 exact⟨rfl,rfl⟩
theorem ycm {item:RS->Option (Option RS)}{sep:List UInt8}{m k:Nat}{st:RS}(h:st.str.head?.getD 69=69):xy item sep (m+1) k st=some (some (st,k)):=by
 unfold xy;rw[if_pos h]
theorem ydn {item:RS->Option (Option RS)}{sep:List UInt8}{m k:Nat}{st:RS}(h:st.str.head?.getD 69≠69) :
  xy item sep (m+1) k st=ye (if k=0 then some (some st) else wS sep st) fun s=>ye (item s) fun s=>xy item sep m (k+1) s:=by
 conv=>lhs;unfold xy
 rw[if_neg h]
theorem ylf {w:World}{p:Nat}{st:RS}(d:RAt w p st):(st.str.head?.getD 69=69/\(w.cell? ⟨p,1,none⟩=some (.string ⟨#[]⟩)\/∃ r:List UInt8,w.cell? ⟨p,1,none⟩=some (.string ⟨(69::r).toArray⟩)))\/
  (st.str.head?.getD 69≠69/\∃ (c:UInt8) (r:List UInt8),((c.toNat:Int) != 69)=true/\w.cell? ⟨p,1,none⟩=some (.string ⟨(c::r).toArray⟩)):=by
 have h:=d.str
 cases b:st.str with
 | nil=>rw[b] at h;exact .inl ⟨rfl,.inl h⟩
 | cons c r=>
  rw[b] at h
  by_cases a:c=69
  ·subst a;exact .inl ⟨rfl,.inr ⟨r,h⟩⟩
  ·refine .inr ⟨by simpa using a,c,r,?_,h⟩
   simp;intro e;exact a (UInt8.toNat_inj.1 (by show c.toNat=69;omega))
theorem yft {rec:Rec}(H:yy rec){w:World}{p:Nat}{st:RS}{x:Option RS}(g:RAt w p st)(t:st.Wg)(q:Env p w)(i:ycd rec st=some x) :
  Calls Tryz.prog 128 #[.pointer (some ⟨p,0,none⟩)] w fun e w'=>yib p w x e w':=by
 have aa:∀ (fn:Fn) (first cap:Array Value) (w:World),(Instr.makeFunc fn first cap).run Tryz.prog w=.ok (.func fn first cap) w:=fun _ _ _ _=>rfl;unfold ycd at i
 by_cases N:st.nogen=true
 ·rw[if_pos N] at i
  obtain⟨y,B,a,d⟩:=yyg g (.bool st.skip) 4;have P:=(g.alloc (Obj.cells #[.pointer (some ⟨p,0,none⟩)] 99)).nogen;rw[N] at P;have k5:=(g.alloc (Obj.cells #[.pointer (some ⟨p,0,none⟩)] 99)).skip;have U:=y.skip;have Y:=y.free 5;replace y:=y.set_skip true;replace B:=B.set 5 (.bool true) (by omega);replace a:=a.upd ((Upd.refl p _).set 5 (.bool true) (by omega));replace d:=d.upd ((Upd.refl p _).set 5 (.bool true) (by omega));have c0:=a.1;have F:=q.upd g B;have O:RS.Wg { st with skip:=true }:=t.same rfl rfl rfl rfl;clear N
  go_enter_defers Tryz.func128,Tryz.ntmps128
  go_wp2
  go_loopg [3] (st.str.length+1) (fun gk V wr=>∃ (k:Nat) (s:RS),V=.bool (decide (k=0))/\RAt wr p s/\s.Wg/\Env p wr/\Hid (ye (xy (yb7 rec) [44,32] gk k s) (fun z=>some (some { z.1 with skip:=st.skip }))=some x)/\Upd p w wr/\Bx wr p w.heap.size (.pointer (some ⟨p,0,none⟩))/\Bx wr p (w.heap.size+1) (.bool st.skip))
  case atStart=>exact⟨0,{ st with skip:=true },rfl,y,O,F,i,B,a,d⟩
  case round=>
   clear g t q y B a d F i O P k5 U Y c0;obtain⟨k,s,rfl,g,t,q,G,u,a,d⟩:=hrel;have c0:=a.1
   cases gk with
   | zero=>cases G.out
   | succ gk=>
    rcases ylf g with⟨J,I⟩|⟨J,c,r,I,hs⟩
    ·have i:=G.out
     rw[ycm J,bindM_ok] at i;obtain rfl:=Option.some.inj i
     rcases I with I|⟨r,I⟩
     all_goals
      go_wp2;refine leaves_cons (f:=154) (args:=#[.pointer (some ⟨w.heap.size+1,0,none⟩),.pointer (some ⟨w.heap.size,0,none⟩)]) (by simp) (by simp[go_sem]) ?_
      refine(ydr _ g d.1 a.1).mono ?_;rintro e X R ⟨rfl,rfl,rfl⟩;simp[Leaves,settle,results,Tryz.results128,go_sem];exact⟨⟨rfl,g.set_skip _,u.set 5 _ (by omega)⟩,t.same rfl rfl rfl rfl⟩
    ·have i:=G.out
     rw[ydn J,yp] at i;clear G J
     cases k with
     | zero=>
      rw[if_pos rfl,bindM_ok,yp] at i
      go_wp2_with fail
      refine ji (fun z h=>yfe H g t q h) i (fun e W L E=>?_) (fun M S D j l b n=>?_)
      ·subst E;obtain⟨m,o,Q,rfl,A,v⟩:=L;go_wp2;refine leaves_cons (f:=154) (args:=#[.pointer (some ⟨w.heap.size+1,0,none⟩),.pointer (some ⟨w.heap.size,0,none⟩)]) (by simp) (by simp[go_sem]) ?_;refine(ydr _ A (d.upd v).1 (a.upd v).1).mono ?_;rintro e X R ⟨rfl,rfl,rfl⟩;simp[Leaves,settle,raised];exact⟨m,o,_,rfl,A.set_skip _,(u.trans v).set 5 _ (by omega)⟩
      replace q:=q.upd g b;replace u:=u.trans b;replace a:=a.upd b;replace C:=a.1;replace d:=d.upd b;replace K:=d.1;replace g:=j;replace t:=l;replace i:=n;clear j l b n;clear D;go_wp2
      go_roundg gk
      case measure=>omega
      case rel=>exact⟨1,M,rfl,g,t,q,i,u,a,d⟩
     | succ k=>
      rw[if_neg (by omega)] at i;have Z:decide (k+1=0)=false:=by simp
      go_wp2_with fail
      refine zv [44,32] g t i fun S j l b n=>?_;replace q:=q.upd g b;replace u:=u.trans b;replace a:=a.upd b;replace C:=a.1;replace d:=d.upd b;replace K:=d.1;replace g:=j;replace t:=l;replace i:=n;clear j l b n;rw[yp] at i
      go_wp2_with fail
      refine ji (fun z h=>yfe H g t q h) i (fun e W L E=>?_) (fun M S D j l b n=>?_)
      ·subst E;obtain⟨m,o,Q,rfl,A,v⟩:=L;go_wp2;refine leaves_cons (f:=154) (args:=#[.pointer (some ⟨w.heap.size+1,0,none⟩),.pointer (some ⟨w.heap.size,0,none⟩)]) (by simp) (by simp[go_sem]) ?_;refine(ydr _ A (d.upd v).1 (a.upd v).1).mono ?_;rintro e X R ⟨rfl,rfl,rfl⟩;simp[Leaves,settle,raised];exact⟨m,o,_,rfl,A.set_skip _,(u.trans v).set 5 _ (by omega)⟩
      replace q:=q.upd g b;replace u:=u.trans b;replace a:=a.upd b;replace C:=a.1;replace d:=d.upd b;replace K:=d.1;replace g:=j;replace t:=l;replace i:=n;clear j l b n;clear D;go_wp2
      go_roundg gk
      case measure=>omega
      case rel=>exact⟨k+2,M,rfl,g,t,q,i,u,a,d⟩
 ·rw[if_neg N] at i
  have T:st.nogen=false:=by simpa using N
  obtain⟨y,B,a⟩:RAt (w.alloc (Obj.cells #[.pointer (some ⟨p,0,none⟩)] 99)) p st/\Upd p w (w.alloc (Obj.cells #[.pointer (some ⟨p,0,none⟩)] 99))/\Bx (w.alloc (Obj.cells #[.pointer (some ⟨p,0,none⟩)] 99)) p w.heap.size (.pointer (some ⟨p,0,none⟩)):=
   ⟨g.alloc _,Upd.alloc g _,Bx.new g _ _⟩
  have P:=y.nogen;rw[T] at P;have F:=q.upd g B;clear N
  go_enter_defers Tryz.func128,Tryz.ntmps128
  go_wp2
  go_loopg [3] (st.str.length+1) (fun gk V wr=>∃ (k:Nat) (s:RS),V=.bool (decide (k=0))/\RAt wr p s/\s.Wg/\Env p wr/\Hid (ye (xy (yb7 rec) [44,32] gk k s) (fun z=>some (some z.1))=some x)/\Upd p w wr/\Bx wr p w.heap.size (.pointer (some ⟨p,0,none⟩)))
  case atStart=>exact⟨0,st,rfl,y,t,F,i,B,a⟩
  case round=>
   clear g t q y B a F P i;obtain⟨k,s,rfl,g,t,q,G,u,a⟩:=hrel;have c0:=a.1
   cases gk with
   | zero=>cases G.out
   | succ gk=>
    rcases ylf g with⟨J,I⟩|⟨J,c,r,I,hs⟩
    ·have i:=G.out
     rw[ycm J,bindM_ok] at i;obtain rfl:=Option.some.inj i
     rcases I with I|⟨r,I⟩
     all_goals
      go_wp2;simp[bodyPostD,Leaves,results,Tryz.results128,go_sem]
      exact⟨⟨rfl,g,u⟩,t⟩
    ·have i:=G.out
     rw[ydn J,yp] at i;clear G J
     cases k with
     | zero=>
      rw[if_pos rfl,bindM_ok,yp] at i
      go_wp2_with fail
      refine ji (fun z h=>yfe H g t q h) i (fun e W L E=>?_) (fun M S D j l b n=>?_)
      ·subst E;obtain⟨m,o,Q,rfl,A,v⟩:=L;go_wp2;exact⟨m,o,Q,rfl,A,u.trans v⟩
      replace q:=q.upd g b;replace u:=u.trans b;replace a:=a.upd b;replace C:=a.1;replace g:=j;replace t:=l;replace i:=n;clear j l b n;clear D;go_wp2
      go_roundg gk
      case measure=>omega
      case rel=>exact⟨1,M,rfl,g,t,q,i,u,a⟩
     | succ k=>
      rw[if_neg (by omega)] at i;have Z:decide (k+1=0)=false:=by simp
      go_wp2_with fail
      refine zv [44,32] g t i fun S j l b n=>?_;replace q:=q.upd g b;replace u:=u.trans b;replace a:=a.upd b;replace C:=a.1;replace g:=j;replace t:=l;replace i:=n;clear j l b n;rw[yp] at i
      go_wp2_with fail
      refine ji (fun z h=>yfe H g t q h) i (fun e W L E=>?_) (fun M S D j l b n=>?_)
      ·subst E;obtain⟨m,o,Q,rfl,A,v⟩:=L;go_wp2;exact⟨m,o,Q,rfl,A,u.trans v⟩
      replace q:=q.upd g b;replace u:=u.trans b;replace a:=a.upd b;replace C:=a.1;replace g:=j;replace t:=l;replace i:=n;clear j l b n;clear D;go_wp2
      go_roundg gk
      case measure=>omega
      case rel=>exact⟨k+2,M,rfl,g,t,q,i,u,a⟩
structure ybz (p a:Nat)(w w':World):Prop where
 os:w'.os=w.os
 tape:w'.tape=w.tape
 output:w'.output=w.output
 size:w.heap.size<=w'.heap.size
 block:∀ k,k < w.heap.size->k≠p->k≠a->jn w p≠some k->w'.heap[k]? = w.heap[k]?
 buf:∀ k,jn w' p=some k->jn w p=some k\/w.heap.size<=k
theorem ybz.of {p a:Nat}{w w':World}(h:Upd p w w'):ybz p a w w':=⟨h.os,h.tape,h.output,h.size,fun k b c _ d=>h.block k b c d,h.buf⟩
theorem ybz.to {p:Nat}{w w':World}(h:ybz p p w w'):Upd p w w':=⟨h.os,h.tape,h.output,h.size,fun k b a c=>h.block k b a a c,h.buf⟩
theorem ybz.trans {p a:Nat}{x y z:World}(h:ybz p a x y)(k:ybz p a y z):ybz p a x z:=
 ⟨k.os.trans h.os,k.tape.trans h.tape,k.output.trans h.output,Nat.le_trans h.size k.size,
  fun i d b c e=>by
   rw[k.block i (Nat.lt_of_lt_of_le d h.size) b c (fun g=>by rcases h.buf i g with f|f;exact e f;omega),h.block i d b c e],
  fun i d=>by
   rcases k.buf i d with b|b
   ·exact h.buf i b
   ·exact .inr (Nat.le_trans h.size b)⟩
theorem ybz.less {p a:Nat}{w0 w w':World}(b:Upd p w0 w)(h:ybz p a w w')(j:w0.heap.size<=a):Upd p w0 w':=
 ⟨h.os.trans b.os,h.tape.trans b.tape,h.output.trans b.output,Nat.le_trans b.size h.size,
  fun i d c e=>by
   rw[h.block i (Nat.lt_of_lt_of_le d b.size) c (by omega) (fun g=>by rcases b.buf i g with f|f;exact e f;omega),b.block i d c e],
  fun i d=>by
   rcases h.buf i d with c|c
   ·exact b.buf i c
   ·exact .inr (Nat.le_trans b.size c)⟩
theorem Bx.updx {w w':World}{p a k:Nat}{v:Value}(h:Bx w p k v)(c:k≠a)(b:ybz p a w w'):Bx w' p k v:=by
 obtain⟨i,d,e,f⟩:=h;have hb:=b.block k f d c e;refine⟨?_,d,?_,Nat.lt_of_lt_of_le f b.size⟩
 ·rw[<-i];simp only[World.cell?,hb]
 ·intro c;rcases b.buf k c with g|g
  ·exact e g
  ·omega
theorem Bx.set {w:World}{p k:Nat}{v:Value}(h:Bx w p k v){i:Nat}(hi:i≠4)(u:Value):Bx (w.setCell ⟨p,i,none⟩ u) p k v:=h.upd ((Upd.refl p w).set i u hi)
theorem yh1 {w:World}{p a0 a1 a2:Nat}{st:RS}{l:List UInt8}{o:Int}(u:FrameMode)(b:RAt w p st)(c:Bx w p a0 (.string ⟨l.toArray⟩)) (a:Bx w p a1 (.pointer (some ⟨p,0,none⟩))) (d:Bx w p a2 (.int .i64 o)) :
  CallsD Tryz.prog 156 #[.pointer (some ⟨a0,0,none⟩),.pointer (some ⟨a1,0,none⟩),.pointer (some ⟨a2,0,none⟩)] u w fun e k w'=>k=u/\(e=.returned (.tuple #[])/\RAt w' p { st with str:=l,off:=o }/\Upd p w w'/\∀ D:World->Prop,(∀ w i v,i≠4->D w->D (w.setCell ⟨p,i,none⟩ v))->D w->D w'):=by
 have k1:=b.str;have m:=b.free 1;have k2:=(b.set_str l).off;have f2:=b.free 2;have c0:=c.1;have c1:=a.1;have g:=(a.set (i:=1) (by omega) (.string ⟨l.toArray⟩)).1;have j:=(d.set (i:=1) (by omega) (.string ⟨l.toArray⟩)).1;refine callsD_of_wp Tryz.func156 rfl ?_;simp only[Tryz.ntmps156,List.size_toArray,List.length_cons,List.length_nil,Nat.reduceAdd,Nat.reduceSub,Array.replicate_succ,
   Array.replicate_zero,List.push_toArray,List.append_toArray,List.nil_append,List.cons_append]
 go_wp2;go_end0
 exact⟨rfl,(b.set_str l).set_off o,((Upd.refl p w).set 1 _ (by omega)).set 2 _ (by omega),fun D f h=>f _ _ _ (by omega) (f _ _ _ (by omega) h)⟩
def ywg (p a:Nat)(D:Bool->World->Prop)(w:World)(x:Option (RS×Bool))(e:Ending)(w':World):Prop:=
 match x with
 | some z=>e=.returned (.tuple #[])/\RAt w' p z.1/\z.1.Wg/\ybz p a w w'/\D z.2 w'
 | none=>va p w e w'
theorem yyx:∃ b,∀ w,(convert 5 9 (.int .u8 ((66:UInt8).toNat:Int))).run Tryz.prog w=.ok (.string b) w/\b.size<=8:=⟨⟨#[66]⟩,fun w=>⟨by kernel_rfl,by decide⟩⟩
theorem yer:∃ b,∀ w,(convert 5 9 (.int .u8 ((69:UInt8).toNat:Int))).run Tryz.prog w=.ok (.string b) w/\b.size<=8:=⟨⟨#[69]⟩,fun w=>⟨by kernel_rfl,by decide⟩⟩
theorem yy3 {c:UInt8}{st s:RS}(h:yb0 c st=some (some s)):∃ r,st.str=c::r/\s=st.go r:=by
 unfold yb0 at h
 cases a:st.str with
 | nil=>rw[a] at h;cases h
 | cons d r=>
  rw[a] at h;simp only at h
  split at h
  ·rename_i hd;subst hd;exact⟨r,rfl,(Option.some.inj (Option.some.inj h)).symm⟩
  ·cases h
def z7 (rec:Rec):Prop:=∀ k st z,rec k st=some (some z)->z.1.orig=st.orig
theorem yh2 {rec:Rec}(hO:z7 rec){k:Kd}{w:World}{p a:Nat}{st:RS}{x:Option (RS×Bool)}(hR:RAt w p st)(hg:st.Wg)(hE:Env p w)(hx:yal rec k st=some x)
  (f:FuncId) (first cap:Array Value) (bl:∀ args w,(callFunc f args).run Tryz.prog w=.ok (.enter f args) w) (ha:a < w.heap.size) (D:Bool->World->Prop)
  (hD:∀ b w i v,i≠4->D b w->D b (w.setCell ⟨p,i,none⟩ v)) (ah:∀ w',Upd p w w'->D false w')
  (al:∀ s2 x2 w',rec k s2=some x2->RAt w' p s2->s2.Wg->Env p w'->Upd p w w'->Calls Tryz.prog f (first++cap) w' fun e aa=>ywg p a D w' x2 e aa) :
  Calls Tryz.prog 130 #[.pointer (some ⟨p,0,none⟩),.func (.func f) first cap] w fun e w'=>ywg p a D w x e w':=by
 have bs:∀ (fn:Fn) (first cap:Array Value) (w:World),(Instr.makeFunc fn first cap).run Tryz.prog w=.ok (.func fn first cap) w:=fun _ _ _ _=>rfl;have HC:=lh al;have HD:=lh hD;have ad:=lh ah;clear al hD ah;unfold yal at hx;obtain⟨N,O,l⟩:RAt (w.alloc (Obj.cells #[.pointer (some ⟨p,0,none⟩)] 99)) p st/\Upd p w (w.alloc (Obj.cells #[.pointer (some ⟨p,0,none⟩)] 99))/\Bx (w.alloc (Obj.cells #[.pointer (some ⟨p,0,none⟩)] 99)) p w.heap.size (.pointer (some ⟨p,0,none⟩)):=
  ⟨hR.alloc _,Upd.alloc hR _,Bx.new hR _ _⟩
 have k2:=N.off;have t:=hE.upd hR O
 go_enter_defers Tryz.func130,Tryz.ntmps130
 go_wp2_with fail
 refine ji (fun z h=>yb9 (c:=66) N hg yyx h) hx ?_ ?_
 ·intro e w1 hF a8
  subst a8;obtain⟨m,o,F,rfl,H,B⟩:=hF;go_wp2;exact⟨m,o,F,rfl,H,O.trans B⟩
 intro s1 w1 aq H an B g;obtain⟨r,hr,rfl⟩:=yy3 aq;clear aq hx;have j:=O.trans B;replace t:=t.upd N B;replace l:=l.upd B;have c0:=l.1
 go_wp2_with fail
 refine yd9 H an ?_ ?_
 ·intro e w2 hF hb
  rw[show b62 (st.go r).str=none from hb] at g;obtain rfl:=(Option.some.inj g);obtain⟨m,o,F,rfl,d,C⟩:=hF;go_wp2;exact⟨m,o,F,rfl,d,j.trans C⟩
 intro v r2 w2 hb d q C;rw[hb] at g;rw[RS.go_go] at d q;simp only[RS.go_go] at g;replace j:=j.trans C;replace t:=t.upd H C;replace l:=l.upd C;replace c0:=l.1;have bw:=hg.o1;have bu:=hg.o0;have bv:=hg.o2;have br:(r2.length:Int)<=st.str.length:=by
  have L:=q.o1;have h2:=ygt hb;have:(st.go r).str=r:=rfl;rw[this] at h2;rw[hr];simp;omega
 have ap:(st.go r2).orig=st.orig:=rfl;generalize st.go r2=s at *;clear H an B C N O hb hr;unfold ykp at g;have kS:=d.skip;have kM:=d.max;have kO:=d.orig;have k1:=d.str;have kF:=d.off;have f1:=d.free 1;have f2:=d.free 2
 by_cases L:s.skip=true
 ·rw[if_pos L] at g
  obtain rfl:=(Option.some.inj g);rw[L] at kS;go_wp2;simp[bodyPostD,Leaves,results,Tryz.results130,go_sem];exact⟨rfl,d,q,ybz.of j,ad.out _ j⟩
 rw[if_neg L] at g;have ay:s.skip=false:=by simpa using L
 rw[ay] at kS;have y:=ynu d
 by_cases h4:0 < s.max/\s.max < s.out.length
 ·rw[if_pos h4] at g
  obtain rfl:=(Option.some.inj g);have M:decide (0 < s.max)=true:=by simpa using h4.1
  have ae:decide (s.max < (s.out.length:Int))=true:=by simpa using h4.2
  clear h4 L;go_wp2
  go_quiet (first|(go_at_call 101;refine Calls.quiet_of_same (y _)))
  go_wp2;simp[bodyPostD,Leaves,results,Tryz.results130,go_sem]
  exact⟨rfl,d.drewN' _,q,ybz.of (j.drewN _),ad.out _ (j.drewN _)⟩
 rw[if_neg h4] at g;have J:(decide (0 < s.max)=false\/decide (0 < s.max)=true/\decide (s.max < (s.out.length:Int))=false):=by
  simp only[decide_eq_false_iff_not,decide_eq_true_eq];omega
 clear h4 L;clear hR hE hg k2
 by_cases h5:v < 0\/v≥st.off
 ·rw[if_pos h5] at g
  obtain rfl:=(Option.some.inj g);have h6:v < 0\/st.off<=v:=h5;clear h5
  rcases J with M|⟨M,ae⟩
  all_goals
   go_wp2
   go_quiet (first|(go_at_call 101;refine Calls.quiet_of_same (y _)))
   go_wp2_with(go_at_call 70;refine(yu (d.drewN' _)).mono ?_;rintro e K ⟨m,o,F,rfl,a2,a3⟩)
   all_goals exact⟨m,o,F,rfl,a2,(j.drewN _).trans a3⟩
 ·rw[if_neg h5] at g
  have h6:0<=v/\v < st.off:=by omega
  have h7:¬ v < 0:=by omega
  obtain⟨h8,h9⟩:=h6;clear h5
  rcases J with M|⟨M,ae⟩
  all_goals
   go_wp2
   go_quiet (first|(go_at_call 101;refine Calls.quiet_of_same (y _)))
   replace d:=d.drewN' nq;replace j:=j.drewN nq;have bm:=j.size;replace t:=t.below (show Below p w2 (w2.drewN nq) from⟨rfl,rfl,rfl,Nat.le_refl _,fun _ _=>rfl⟩);replace l:Bx (w2.drewN nq) p w.heap.size (.pointer (some ⟨p,0,none⟩)):=l;clear c0 kS kM kO k1 kF f1 f2 y;generalize w2.drewN nq=K at *;have A:=d.alloc (Obj.cells #[.string ⟨s.str.toArray⟩] 9);have Q:=Upd.alloc d (Obj.cells #[.string ⟨s.str.toArray⟩] 9);have u:=A.alloc (Obj.cells #[.int .i64 s.off] 3);have I:=Upd.alloc A (Obj.cells #[.int .i64 s.off] 3);have G:=l.upd Q;have S:=G.upd I;have az:=(Bx.new d (.string ⟨s.str.toArray⟩) 9).upd I;have ag:=Bx.new A (.int .i64 s.off) 3;rw[show(K.alloc (Obj.cells #[.string ⟨s.str.toArray⟩] 9)).heap.size=K.heap.size+1 by simp] at ag;have c0:=l.1;have av:=G.1;have aw:=S.1;have k1:=d.str;have kF:=A.off;have kO:=u.orig;have ba:=u.str;have bb:=u.off;have f1:=u.free 1;have f2:=u.free 2;have a4:=(j.trans Q).trans I;have a0:=(t.upd d Q).upd A I;go_wp2;clear c0 av k1 kF d Q A I G l j t;generalize (K.alloc (Obj.cells #[.string ⟨s.str.toArray⟩] 9)).alloc (Obj.cells #[.int .i64 s.off] 3)=w4 at *;refine wp_region_noPanic ?_
   go_region
   all_goals (refine NoPanic.normal ?_)
   all_goals go_wp2
   rw[show s.orig.take st.off.toNat=st.orig.take st.off.toNat by rw[ap]] at g;have E:Upd p w4 (((w4.setCell ⟨p,1,none⟩ (.string ⟨((st.orig.take st.off.toNat).drop v.toNat).toArray⟩)).setCell ⟨p,2,none⟩ (.int .i64 v)).drew):=(((Upd.refl p w4).set 1 _ (by omega)).set 2 _ (by omega)).drew;have ak:RAt (((w4.setCell ⟨p,1,none⟩ (.string ⟨((st.orig.take st.off.toNat).drop v.toNat).toArray⟩)).setCell ⟨p,2,none⟩ (.int .i64 v)).drew) p { s with str:=(st.orig.take st.off.toNat).drop v.toNat,off:=v }:=((u.set_str _).set_off v).drew;have ao:RS.Wg { s with str:=(st.orig.take st.off.toNat).drop v.toNat,off:=v }:=by
    refine⟨h8,?_,q.o2,q.l0,q.l1⟩
    show v+(((st.orig.take st.off.toNat).drop v.toNat).length:Int)<=(s.orig.length:Int)
    rw[ap];simp;omega
   have ai:=a0.upd u E;have P:=a4.trans E;have R:=S.upd E;have T:=az.upd E;have U:=ag.upd E;clear E ba kO bb f1 f2 aw;generalize ((w4.setCell ⟨p,1,none⟩ (.string ⟨((st.orig.take st.off.toNat).drop v.toNat).toArray⟩)).setCell ⟨p,2,none⟩ (.int .i64 v)).drew=w5 at *
   rcases hy:rec k { s with str:=(st.orig.take st.off.toNat).drop v.toNat,off:=v } with _|_|z
   ·rw[hy] at g;cases g
   ·rw[hy] at g
    obtain rfl:=Option.some.inj g;refine(HC.out _ _ _ hy ak ao ai P).mono ?_;rintro e w6 ⟨m,o,F,rfl,V,n⟩;go_wp2;refine leaves_cons (f:=156) (args:=#[.pointer (some ⟨K.heap.size,0,none⟩),.pointer (some ⟨w.heap.size,0,none⟩),.pointer (some ⟨K.heap.size+1,0,none⟩)]) (by simp) (by simp[go_sem]) ?_;refine(yh1 _ V (T.upd n) (R.upd n) (U.upd n)).mono ?_;rintro e u' aa ⟨rfl,rfl,W,X,-⟩;simp[Leaves,settle,raised];exact⟨m,o,_,rfl,W,(P.trans n).trans X⟩
   ·rw[hy] at g
    obtain rfl:=Option.some.inj g;refine(HC.out _ _ _ hy ak ao ai P).mono ?_;rintro e w6 ⟨rfl,V,Y,n,a5⟩;go_wp2;refine leaves_cons (f:=156) (args:=#[.pointer (some ⟨K.heap.size,0,none⟩),.pointer (some ⟨w.heap.size,0,none⟩),.pointer (some ⟨K.heap.size+1,0,none⟩)]) (by simp) (by simp[go_sem]) ?_;have Z:w.heap.size≠a/\K.heap.size≠a/\K.heap.size+1≠a:=⟨by omega,by omega,by omega⟩;refine(yh1 _ V (T.updx Z.2.1 n) (R.updx Z.1 n) (U.updx Z.2.2 n)).mono ?_;rintro e u' aa ⟨rfl,rfl,W,X,a6⟩;simp[Leaves,settle,results,Tryz.results130,go_sem];have hz:=Y.l0;have a9:=Y.l1;refine⟨rfl,W,⟨q.o0,?_,?_,hz,a9⟩,((ybz.of P).trans n).trans (ybz.of X),a6 (D z.2) (fun w i v hi h=>HD.out _ _ _ _ hi h) a5⟩
    ·show s.off+(s.str.length:Int)<=(z.1.orig.length:Int)
     have ho:=hO k _ z hy;have L:=q.o1;rw[ho];exact L
    ·exact Y.o2
theorem yr4 {rec:Rec}(H:yy rec){b:Bool}{w w0:World}{p a0 a1:Nat}{d:RS}{f:Option (RS×Bool)}(j:Upd p w0 w)(t:rec (.path b) d=some f)(r:RAt w p d)(s:d.Wg)(q:Env p w)
  (g:Bx w0 p a0 (.pointer (some ⟨p,0,none⟩))) (i:Bx w0 p a1 (.bool b)) :
  Calls Tryz.prog 131 #[.pointer (some ⟨a0,0,none⟩),.pointer (some ⟨a1,0,none⟩)] w fun e w'=>ywg p p (fun _ _=>True) w f e w':=by
 have c0:=(g.upd j).1;have c1:=(i.upd j).1;have n:=H (.path b) d f t s w p r q;clear j
 go_enter Tryz.func131,Tryz.ntmps131
 go_wp2_with fail
 refine(show Calls Tryz.prog 100 #[.pointer (some ⟨p,0,none⟩),.bool b] w _ from n).mono ?_;intro e u h
 rcases f with _|z
 ·obtain⟨m,o,l,rfl,a,c⟩:=h
  go_wp2;exact⟨rfl,m,o,l,rfl,a,c⟩
 ·obtain⟨⟨rfl,a,c⟩,k⟩:=h
  go_wp2;go_end0
  exact⟨rfl,a,k,ybz.of c,trivial⟩
theorem yqk {rec:Rec}(H:yy rec)(hO:z7 rec){b:Bool}{w:World}{p a0 a1:Nat}{st:RS}{x:Option (RS×Bool)}(j:RAt w p st)(n:st.Wg)(m:Env p w)(o:yal rec (.path b) st=some x)
  (g:Bx w p a0 (.pointer (some ⟨p,0,none⟩))) (i:Bx w p a1 (.bool b)) :
  Calls Tryz.prog 130 #[.pointer (some ⟨p,0,none⟩),.func (.func 131) #[] #[.pointer (some ⟨a0,0,none⟩),.pointer (some ⟨a1,0,none⟩)]] w fun e w'=>jj .type p w x e w':=by
 refine(yh2 hO (a:=p) j n m o 131 #[] #[.pointer (some ⟨a0,0,none⟩),.pointer (some ⟨a1,0,none⟩)] (fun args w=>by kernel_rfl) j.lt (fun _ _=>True) (fun _ _ _ _ _ _=>trivial) (fun _ _=>trivial) ?_).mono ?_
 ·intro q r w' c d f k l
  exact yr4 H l c d f k g i
 ·intro e w' h
  rcases x with _|z
  ·exact h
  ·obtain⟨rfl,c,d,f,-⟩:=h
   exact⟨⟨rfl,c,f.to⟩,d⟩
theorem yjl {rec:Rec}(H:yy rec)(hO:z7 rec){k:Kd}(l:k=.type\/k=.const){w:World}{p:Nat}{st:RS}{x:Option (RS×Bool)}(o:RAt w p st)(u:st.Wg)(s:Env p w)(y:yal rec k st=some x) :
  Calls Tryz.prog 130 #[.pointer (some ⟨p,0,none⟩),.func (.func (ysz k)) #[.pointer (some ⟨p,0,none⟩)] #[]] w fun e w'=>jj .type p w x e w':=by
 refine(yh2 hO (a:=p) o u s y (ysz k) #[.pointer (some ⟨p,0,none⟩)] #[] (fun args w=>by rcases l with rfl|rfl<;>kernel_rfl) o.lt (fun _ _=>True) (fun _ _ _ _ _ _=>trivial) (fun _ _=>trivial) ?_).mono ?_
 ·intro A q w' c d f r B
  have n:=H k A q c f w' p d r;have t:ynw p k=#[.pointer (some ⟨p,0,none⟩)]:=by rcases l with rfl|rfl<;>rfl
  have v:∀ b,yqx b k=.tuple #[]:=by rcases l with rfl|rfl<;>exact fun _=>rfl
  rw[t] at n;refine(show Calls Tryz.prog (ysz k) (#[.pointer (some ⟨p,0,none⟩)]++#[]) w' _ from n).mono ?_;intro e C h
  rcases q with _|z
  ·exact h
  ·obtain⟨⟨m,g,i⟩,j⟩:=h
   rw[v] at m;exact⟨m,g,j,ybz.of i,trivial⟩
 ·intro e w' h
  rcases x with _|z
  ·exact h
  ·obtain⟨rfl,c,d,f,-⟩:=h
   exact⟨⟨rfl,c,f.to⟩,d⟩
theorem ydf {l t r:List UInt8}{u:Bool} (h:vn l=some (some (t,u,r))):r.length<=l.length:=by
 unfold vn at h;simp only at h
 cases hd:yfv (if(decide (l.head? = some 117))=true then l.tail else l) with
 | none=>rw[hd] at h;cases h
 | some y=>
  obtain⟨v,l2⟩:=y;rw[hd] at h;have c:=(ykh hd).1;have d:(if(decide (l.head? = some 117))=true then l.tail else l).length<=l.length:=by split<;>simp
  have b:(if l2.head? = some 95 then l2.tail else l2).length<=l2.length:=by split<;>simp
  simp only at h;generalize (if l2.head? = some 95 then l2.tail else l2)=l3 at h b
  split at h
  ·cases h
  ·split at h
   ·cases h
   ·split at h
    ·cases h
    ·have a:=Option.some.inj (Option.some.inj h)
     simp only[Prod.mk.injEq] at a;rw[<-a.2.2,List.length_drop];omega
theorem ykb {l t r:List UInt8}{d:Int} (h:idN l=some (some (d,t,r))):r.length<=l.length:=by
 unfold idN at h
 cases hd:ybf l with
 | none=>rw[hd] at h;cases h
 | some y=>
  obtain⟨v,l2⟩:=y;rw[hd] at h;have c:=ydt hd;simp only at h
  cases a:vn l2 with
  | none=>rw[a] at h;cases h
  | some z=>
   rw[a] at h
   cases z with
   | none=>cases h
   | some z=>
    obtain⟨f,u,r'⟩:=z;have e:=ydf a;have b:=Option.some.inj (Option.some.inj h);simp only[Prod.mk.injEq] at b;rw[<-b.2.2];omega
theorem yye {l t r:List UInt8}{d:Int} (h:idN l=some (some (d,t,r))):d<=9223372036854775807:=by
 unfold idN at h
 cases hd:ybf l with
 | none=>rw[hd] at h;cases h
 | some y=>
  obtain⟨v,l2⟩:=y;rw[hd] at h;have c:v<=9223372036854775807:=by
   unfold ybf at hd
   split at hd
   ·cases hb:b62 l.tail with
    | none=>rw[hb] at hd;cases hd
    | some q=>
     rw[hb] at hd;simp only[Option.map_some,Option.some.injEq,Prod.mk.injEq] at hd;rw[<-hd.1];unfold wrap64;omega
   ·cases hd;omega
  simp only at h
  cases b:vn l2 with
  | none=>rw[b] at h;cases h
  | some z=>
   rw[b] at h
   cases z with
   | none=>cases h
   | some z=>
    have a:=Option.some.inj (Option.some.inj h);simp only[Prod.mk.injEq] at a;rw[<-a.1];exact c
theorem vz {s:List UInt8}{l:Int}{st:RS}{α:Type}{f:RS->Option (Option α)}{x:Option α}(h:ye (yk6 s l st) f=some x) :
  (st.skip=true/\f st=some x)\/(st.skip=false/\st.out.length+s.length<=35184372088832/\f { st with out:=st.out++s,last:=l } = some x):=by
 unfold yk6 at h
 split at h
 ·rename_i a;exact .inl ⟨a,h⟩
 ·rename_i a
  split at h
  ·rename_i b;exact .inr ⟨by simpa using a,b,h⟩
  ·cases h
theorem ycp {Q:Ending->World->Prop}{w:World}{p:Nat}{st:RS}{α:Type}{f:Int×List UInt8×List UInt8->Option (Option α)}{x:Option α}(j:RAt w p st)(g:st.Wg)
  (a:(match idN st.str with|none=>none|some none=>some none|some (some z)=>f z)=some x)
  (l:∀ e w',va p w e w'->x=none->Q e w') (k:∀ z i,RAt i p (st.go z.2.2)->(st.go z.2.2).Wg->Upd p w i->f z=some x->z.1<=9223372036854775807->Q (.returned (.tuple #[.int .i64 z.1,.string ⟨z.2.1.toArray⟩])) i) :
  Calls Tryz.prog 124 #[.pointer (some ⟨p,0,none⟩)] w Q:=by
 rcases hi:idN st.str with _|_|⟨d,t,r⟩
 ·rw[hi] at a;cases a
 ·rw[hi] at a
  exact(ydq j g.wf hi).mono fun e w' h=>l e w' h (Option.some.inj a).symm
 ·rw[hi] at a
  refine(ydq j g.wf hi).mono ?_;rintro e w' ⟨rfl,b,c⟩;exact k (d,t,r) w' b (g.go (ykb hi)) c a (yye hi)
theorem ykk {Q:Ending->World->Prop}{w:World}{p:Nat}{st:RS}{α:Type}{f:List UInt8×Bool×List UInt8->Option (Option α)}{x:Option α}(i:RAt w p st)(d:st.Wg)
  (a:(match vn st.str with|none=>none|some none=>some none|some (some z)=>f z)=some x)
  (j:∀ e w',va p w e w'->x=none->Q e w') (k:∀ z g,RAt g p (st.go z.2.2)->(st.go z.2.2).Wg->Upd p w g->f z=some x->vn st.str=some (some z)->Q (.returned (.tuple #[.string ⟨z.1.toArray⟩,.bool z.2.1])) g) :
  Calls Tryz.prog 145 #[.pointer (some ⟨p,0,none⟩)] w Q:=by
 rcases hi:vn st.str with _|_|⟨t,u,r⟩
 ·rw[hi] at a;cases a
 ·rw[hi] at a
  exact(yju i d.wf hi).mono fun e w' h=>j e w' h (Option.some.inj a).symm
 ·rw[hi] at a
  refine(yju i d.wf hi).mono ?_;rintro e w' ⟨rfl,b,c⟩;exact k (t,u,r) w' b (d.go (ydf hi)) c a hi
theorem yx0 {rec:Rec}(H:yy rec)(hO:z7 rec){b:Bool}{w:World}{p:Nat}{st:RS}{r:List UInt8}{x:Option (RS×Bool)}(l:RAt w p st)(t:st.Wg)(n:Env p w)(G:st.str=77::r)
  (u:(ye (yee rec (st.go r)) fun s=>ye (wS [60] s) fun s=>ye (rec .type s) fun z=>asU (wS [62] z.1))=some x):Calls Tryz.prog 100 #[.pointer (some ⟨p,0,none⟩),.bool b] w fun e w'=>jj (.path b) p w x e w':=by
 obtain⟨C,y,c,d⟩:=yca l b;replace n:=n.upd l y;replace l:=C;have q:=y;clear C y;have E:=l.str;unfold pw at E;rw[G] at E;have j:=c.1;have k:=d.1;unfold pw at j k;have K:=lh G;clear G
 go_enter Tryz.func100,Tryz.ntmps100
 go_wp2_with fail
 refine(yh l t.wf K).mono ?_;rintro e D ⟨rfl,f,a⟩;have g:(st.go r).Wg:=t.go (by rw[K.out];simp);have i:=u;clear E;replace n:=n.upd l a;replace q:=q.trans a;replace c:=c.upd a;replace j:=c.1;replace d:=d.upd a;replace k:=d.1;replace l:=f;replace t:=g;replace u:=i;clear f g a i
 go_wp2_with fail
 refine ji (fun z h=>yln H l t n h) u (fun e L F B=>?_) (fun M D I f g a i=>?_)
 ·subst B;obtain⟨m,o,J,rfl,v,A⟩:=F;go_wp2;exact⟨rfl,m,o,J,rfl,v,q.trans A⟩
 replace n:=n.upd l a;replace q:=q.trans a;replace c:=c.upd a;replace j:=c.1;replace d:=d.upd a;replace k:=d.1;replace l:=f;replace t:=g;replace u:=i;clear f g a i;clear I
 go_wp2_with fail
 refine zt 60 l t u fun D f g a i=>?_;replace n:=n.upd l a;replace q:=q.trans a;replace c:=c.upd a;replace j:=c.1;replace d:=d.upd a;replace k:=d.1;replace l:=f;replace t:=g;replace u:=i;clear f g a i
 go_wp2_with fail
 refine jt H l t n u (fun e L F B=>?_) (fun z D f g a i=>?_)
 ·subst B;obtain⟨m,o,J,rfl,v,A⟩:=F;go_wp2;exact⟨rfl,m,o,J,rfl,v,q.trans A⟩
 replace n:=n.upd l a;replace q:=q.trans a;replace c:=c.upd a;replace j:=c.1;replace d:=d.upd a;replace k:=d.1;replace l:=f;replace t:=g;replace u:=i;clear f g a i
 go_wp2_with fail
 refine zt 62 l t u fun D f g a i=>?_;replace n:=n.upd l a;replace q:=q.trans a;replace c:=c.upd a;replace j:=c.1;replace d:=d.upd a;replace k:=d.1;replace l:=f;replace t:=g;replace u:=i;clear f g a i;obtain rfl:=Option.some.inj u;go_wp2;go_end0;exact⟨⟨rfl,l,q⟩,t⟩
theorem yxz {rec:Rec}(H:yy rec)(hO:z7 rec){b:Bool}{w:World}{p:Nat}{st:RS}{r:List UInt8}{x:Option (RS×Bool)}(l:RAt w p st)(t:st.Wg)(n:Env p w)(I:st.str=88::r)
  (u:(ye (yee rec (st.go r)) fun s=>ye (wS [60] s) fun s=>ye (rec .type s) fun z=>ye (wS [32,97,115,32] z.1) fun s=>ye (rec (.path false) s) fun z=>asU (wS [62] z.1))=some x):Calls Tryz.prog 100 #[.pointer (some ⟨p,0,none⟩),.bool b] w fun e w'=>jj (.path b) p w x e w':=by
 obtain⟨E,B,c,d⟩:=yca l b;replace n:=n.upd l B;replace l:=E;have q:=B;clear E B;have G:=l.str;unfold pw at G;rw[I] at G;have j:=c.1;have k:=d.1;unfold pw at j k;have K:=lh I;clear I
 go_enter Tryz.func100,Tryz.ntmps100
 go_wp2_with fail
 refine(yh l t.wf K).mono ?_;rintro e C ⟨rfl,f,a⟩;have g:(st.go r).Wg:=t.go (by rw[K.out];simp);have i:=u;clear G;replace n:=n.upd l a;replace q:=q.trans a;replace c:=c.upd a;replace j:=c.1;replace d:=d.upd a;replace k:=d.1;replace l:=f;replace t:=g;replace u:=i;clear f g a i
 go_wp2_with fail
 refine ji (fun z h=>yln H l t n h) u (fun e L D A=>?_) (fun M C J f g a i=>?_)
 ·subst A;obtain⟨m,o,F,rfl,v,y⟩:=D;go_wp2;exact⟨rfl,m,o,F,rfl,v,q.trans y⟩
 replace n:=n.upd l a;replace q:=q.trans a;replace c:=c.upd a;replace j:=c.1;replace d:=d.upd a;replace k:=d.1;replace l:=f;replace t:=g;replace u:=i;clear f g a i;clear J
 go_wp2_with fail
 refine zt 60 l t u fun C f g a i=>?_;replace n:=n.upd l a;replace q:=q.trans a;replace c:=c.upd a;replace j:=c.1;replace d:=d.upd a;replace k:=d.1;replace l:=f;replace t:=g;replace u:=i;clear f g a i
 go_wp2_with fail
 refine jt H l t n u (fun e L D A=>?_) (fun z C f g a i=>?_)
 ·subst A;obtain⟨m,o,F,rfl,v,y⟩:=D;go_wp2;exact⟨rfl,m,o,F,rfl,v,q.trans y⟩
 replace n:=n.upd l a;replace q:=q.trans a;replace c:=c.upd a;replace j:=c.1;replace d:=d.upd a;replace k:=d.1;replace l:=f;replace t:=g;replace u:=i;clear f g a i
 go_wp2_with fail
 refine zv [32,97,115,32] l t u fun C f g a i=>?_;replace n:=n.upd l a;replace q:=q.trans a;replace c:=c.upd a;replace j:=c.1;replace d:=d.upd a;replace k:=d.1;replace l:=f;replace t:=g;replace u:=i;clear f g a i
 go_wp2_with fail
 refine ki H l t n u (fun e L D A=>?_) (fun z C f g a i=>?_)
 ·subst A;obtain⟨m,o,F,rfl,v,y⟩:=D;go_wp2;exact⟨rfl,m,o,F,rfl,v,q.trans y⟩
 replace n:=n.upd l a;replace q:=q.trans a;replace c:=c.upd a;replace j:=c.1;replace d:=d.upd a;replace k:=d.1;replace l:=f;replace t:=g;replace u:=i;clear f g a i
 go_wp2_with fail
 refine zt 62 l t u fun C f g a i=>?_;replace n:=n.upd l a;replace q:=q.trans a;replace c:=c.upd a;replace j:=c.1;replace d:=d.upd a;replace k:=d.1;replace l:=f;replace t:=g;replace u:=i;clear f g a i;obtain rfl:=Option.some.inj u;go_wp2;go_end0;exact⟨⟨rfl,l,q⟩,t⟩
theorem yxy {rec:Rec}(H:yy rec)(hO:z7 rec){b:Bool}{w:World}{p:Nat}{st:RS}{r:List UInt8}{x:Option (RS×Bool)}(k:RAt w p st)(q:st.Wg)(l:Env p w)(F:st.str=89::r)
  (t:(ye (wS [60] (st.go r)) fun s=>ye (rec .type s) fun z=>ye (wS [32,97,115,32] z.1) fun s=>ye (rec (.path false) s) fun z=>asU (wS [62] z.1))=some x):Calls Tryz.prog 100 #[.pointer (some ⟨p,0,none⟩),.bool b] w fun e w'=>jj (.path b) p w x e w':=by
 obtain⟨B,v,c,d⟩:=yca k b;replace l:=l.upd k v;replace k:=B;have n:=v;clear B v;have D:=k.str;unfold pw at D;rw[F] at D;have i:=c.1;have j:=d.1;unfold pw at i j;have I:=lh F;clear F
 go_enter Tryz.func100,Tryz.ntmps100
 go_wp2_with fail
 refine(yh k q.wf I).mono ?_;rintro e C ⟨rfl,f,a⟩;have g:(st.go r).Wg:=q.go (by rw[I.out];simp);have h:=t;clear D;replace l:=l.upd k a;replace n:=n.trans a;replace c:=c.upd a;replace i:=c.1;replace d:=d.upd a;replace j:=d.1;replace k:=f;replace q:=g;replace t:=h;clear f g a h
 go_wp2_with fail
 refine zt 60 k q t fun C f g a h=>?_;replace l:=l.upd k a;replace n:=n.trans a;replace c:=c.upd a;replace i:=c.1;replace d:=d.upd a;replace j:=d.1;replace k:=f;replace q:=g;replace t:=h;clear f g a h
 go_wp2_with fail
 refine jt H k q l t (fun e J E A=>?_) (fun z C f g a h=>?_)
 ·subst A;obtain⟨m,o,G,rfl,u,y⟩:=E;go_wp2;exact⟨rfl,m,o,G,rfl,u,n.trans y⟩
 replace l:=l.upd k a;replace n:=n.trans a;replace c:=c.upd a;replace i:=c.1;replace d:=d.upd a;replace j:=d.1;replace k:=f;replace q:=g;replace t:=h;clear f g a h
 go_wp2_with fail
 refine zv [32,97,115,32] k q t fun C f g a h=>?_;replace l:=l.upd k a;replace n:=n.trans a;replace c:=c.upd a;replace i:=c.1;replace d:=d.upd a;replace j:=d.1;replace k:=f;replace q:=g;replace t:=h;clear f g a h
 go_wp2_with fail
 refine ki H k q l t (fun e J E A=>?_) (fun z C f g a h=>?_)
 ·subst A;obtain⟨m,o,G,rfl,u,y⟩:=E;go_wp2;exact⟨rfl,m,o,G,rfl,u,n.trans y⟩
 replace l:=l.upd k a;replace n:=n.trans a;replace c:=c.upd a;replace i:=c.1;replace d:=d.upd a;replace j:=d.1;replace k:=f;replace q:=g;replace t:=h;clear f g a h
 go_wp2_with fail
 refine zt 62 k q t fun C f g a h=>?_;replace l:=l.upd k a;replace n:=n.trans a;replace c:=c.upd a;replace i:=c.1;replace d:=d.upd a;replace j:=d.1;replace k:=f;replace q:=g;replace t:=h;clear f g a h;obtain rfl:=Option.some.inj t;go_wp2;go_end0;exact⟨⟨rfl,k,n⟩,q⟩
theorem yu2 {rec:Rec}(H:yy rec)(hO:z7 rec){b:Bool}{w:World}{p:Nat}{st:RS}{r:List UInt8}{x:Option (RS×Bool)}(i:RAt w p st)(l:st.Wg)(n:Env p w)(B:st.str=67::r)
  (t:(match idN r with|none=>none|some none=>some none|some (some z)=>asU (wS z.2.1 (st.go z.2.2)))=some x):Calls Tryz.prog 100 #[.pointer (some ⟨p,0,none⟩),.bool b] w fun e w'=>jj (.path b) p w x e w':=by
 obtain⟨u,s,c,d⟩:=yca i b;replace n:=n.upd i s;replace i:=u;have q:=s;clear u s;have v:=i.str;unfold pw at v;rw[B] at v;have j:=c.1;have k:=d.1;unfold pw at j k;have D:=lh B;clear B
 go_enter Tryz.func100,Tryz.ntmps100
 go_wp2_with fail
 refine(yh i l.wf D).mono ?_;rintro e E ⟨rfl,f,a⟩;have g:(st.go r).Wg:=l.go (by rw[D.out];simp);have h:=t;clear v;replace n:=n.upd i a;replace q:=q.trans a;replace c:=c.upd a;replace j:=c.1;replace d:=d.upd a;replace k:=d.1;replace i:=f;replace l:=g;replace t:=h;clear f g a h
 go_wp2_with fail
 refine ycp i l t (fun e J F C=>?_) (fun z E f g a h G=>?_)
 ·subst C;obtain⟨m,o,I,rfl,y,A⟩:=F;go_wp2;exact⟨rfl,m,o,I,rfl,y,q.trans A⟩
 replace n:=n.upd i a;replace q:=q.trans a;replace c:=c.upd a;replace j:=c.1;replace d:=d.upd a;replace k:=d.1;replace i:=f;replace l:=g;replace t:=h;clear f g a h;rw[RS.go_go] at i l
 go_wp2_with fail
 refine zv z.2.1 i l t fun E f g a h=>?_;replace n:=n.upd i a;replace q:=q.trans a;replace c:=c.upd a;replace j:=c.1;replace d:=d.upd a;replace k:=d.1;replace i:=f;replace l:=g;replace t:=h;clear f g a h;obtain rfl:=Option.some.inj t;go_wp2;go_end0;exact⟨⟨rfl,i,q⟩,l⟩
theorem yx1 {rec:Rec}(H:yy rec)(hO:z7 rec){b:Bool}{w:World}{p:Nat}{st:RS}{r:List UInt8}{x:Option (RS×Bool)}(k:RAt w p st)(v:st.Wg)(t:Env p w)(L:st.str=73::r)
  (u:(ye (rec (.path b) (st.go r)) fun z=>ye (if b=true then wS [58,58] z.1 else some (some z.1)) fun s=>ye (wS [60] s) fun s=>ye (ycd rec s) fun s=>ye (wS [62] s) fun s=>asU (yb0 69 s))=some x):Calls Tryz.prog 100 #[.pointer (some ⟨p,0,none⟩),.bool b] w fun e w'=>jj (.path b) p w x e w':=by
 obtain⟨I,G,d,f⟩:=yca k b;replace t:=t.upd k G;replace k:=I;have q:=G;clear I G;have K:=k.str;unfold pw at K;rw[L] at K;have l:=d.1;have n:=f.1;unfold pw at l n;have N:=lh L;clear L
 go_enter Tryz.func100,Tryz.ntmps100
 go_wp2_with fail
 refine(yh k v.wf N).mono ?_;rintro e D ⟨rfl,g,a⟩;have i:(st.go r).Wg:=v.go (by rw[N.out];simp);have j:=u;clear K;replace t:=t.upd k a;replace q:=q.trans a;replace d:=d.upd a;replace l:=d.1;replace f:=f.upd a;replace n:=f.1;replace k:=g;replace v:=i;replace u:=j;clear g i a j
 go_wp2_with fail
 refine ki H k v t u (fun e J E B=>?_) (fun z D g i a j=>?_)
 ·subst B;obtain⟨m,o,F,rfl,y,A⟩:=E;go_wp2;exact⟨rfl,m,o,F,rfl,y,q.trans A⟩
 replace t:=t.upd k a;replace q:=q.trans a;replace d:=d.upd a;replace l:=d.1;replace f:=f.upd a;replace n:=f.1;replace k:=g;replace v:=i;replace u:=j;clear g i a j
 cases b with
 | true=>
  rw[if_pos rfl] at u
  go_wp2_with fail
  refine zv [58,58] k v u fun D g i a j=>?_;replace t:=t.upd k a;replace q:=q.trans a;replace d:=d.upd a;replace l:=d.1;replace f:=f.upd a;replace n:=f.1;replace k:=g;replace v:=i;replace u:=j;clear g i a j
  go_wp2_with fail
  refine zt 60 k v u fun D g i a j=>?_;replace t:=t.upd k a;replace q:=q.trans a;replace d:=d.upd a;replace l:=d.1;replace f:=f.upd a;replace n:=f.1;replace k:=g;replace v:=i;replace u:=j;clear g i a j
  go_wp2_with fail
  refine ji (fun z h=>yft H k v t h) u (fun e J E B=>?_) (fun M D C g i a j=>?_)
  ·subst B;obtain⟨m,o,F,rfl,y,A⟩:=E;go_wp2;exact⟨rfl,m,o,F,rfl,y,q.trans A⟩
  replace t:=t.upd k a;replace q:=q.trans a;replace d:=d.upd a;replace l:=d.1;replace f:=f.upd a;replace n:=f.1;replace k:=g;replace v:=i;replace u:=j;clear g i a j;clear C
  go_wp2_with fail
  refine zt 62 k v u fun D g i a j=>?_;replace t:=t.upd k a;replace q:=q.trans a;replace d:=d.upd a;replace l:=d.1;replace f:=f.upd a;replace n:=f.1;replace k:=g;replace v:=i;replace u:=j;clear g i a j
  go_wp2_with fail
  refine ji (fun z h=>yb9 (c:=69) k v yer h) u (fun e J E B=>?_) (fun M D C g i a j=>?_)
  ·subst B;obtain⟨m,o,F,rfl,y,A⟩:=E;go_wp2;exact⟨rfl,m,o,F,rfl,y,q.trans A⟩
  replace t:=t.upd k a;replace q:=q.trans a;replace d:=d.upd a;replace l:=d.1;replace f:=f.upd a;replace n:=f.1;replace k:=g;replace v:=i;replace u:=j;clear g i a j;clear C;obtain rfl:=Option.some.inj u;go_wp2;go_end0;exact⟨⟨rfl,k,q⟩,v⟩
 | false=>
  rw[if_neg (by simp),bindM_ok] at u
  go_wp2_with fail
  refine zt 60 k v u fun D g i a j=>?_;replace t:=t.upd k a;replace q:=q.trans a;replace d:=d.upd a;replace l:=d.1;replace f:=f.upd a;replace n:=f.1;replace k:=g;replace v:=i;replace u:=j;clear g i a j
  go_wp2_with fail
  refine ji (fun z h=>yft H k v t h) u (fun e J E B=>?_) (fun M D C g i a j=>?_)
  ·subst B;obtain⟨m,o,F,rfl,y,A⟩:=E;go_wp2;exact⟨rfl,m,o,F,rfl,y,q.trans A⟩
  replace t:=t.upd k a;replace q:=q.trans a;replace d:=d.upd a;replace l:=d.1;replace f:=f.upd a;replace n:=f.1;replace k:=g;replace v:=i;replace u:=j;clear g i a j;clear C
  go_wp2_with fail
  refine zt 62 k v u fun D g i a j=>?_;replace t:=t.upd k a;replace q:=q.trans a;replace d:=d.upd a;replace l:=d.1;replace f:=f.upd a;replace n:=f.1;replace k:=g;replace v:=i;replace u:=j;clear g i a j
  go_wp2_with fail
  refine ji (fun z h=>yb9 (c:=69) k v yer h) u (fun e J E B=>?_) (fun M D C g i a j=>?_)
  ·subst B;obtain⟨m,o,F,rfl,y,A⟩:=E;go_wp2;exact⟨rfl,m,o,F,rfl,y,q.trans A⟩
  replace t:=t.upd k a;replace q:=q.trans a;replace d:=d.upd a;replace l:=d.1;replace f:=f.upd a;replace n:=f.1;replace k:=g;replace v:=i;replace u:=j;clear g i a j;clear C;obtain rfl:=Option.some.inj u;go_wp2;go_end0;exact⟨⟨rfl,k,q⟩,v⟩
theorem yx2 {rec:Rec}(H:yy rec)(hO:z7 rec){b:Bool}{w:World}{p:Nat}{st:RS}{r:List UInt8}{x:Option (RS×Bool)}(k:RAt w p st)(y:st.Wg)(n:Env p w)(s:st.str=66::r)
  (B:yal rec (.path b) st=some x):Calls Tryz.prog 100 #[.pointer (some ⟨p,0,none⟩),.bool b] w fun e w'=>jj (.path b) p w x e w':=by
 obtain⟨l,c,i,j⟩:=yca k b;replace n:=n.upd k c;replace k:=l;have v:=c;clear l c;have u:=k.str;unfold pw at u;rw[s] at u;have f:=i.1;have g:=j.1;unfold pw at f g;have C:=lh s;clear s;have A:∀ (fn:Fn) (first cap:Array Value) (w:World),(Instr.makeFunc fn first cap).run Tryz.prog w=.ok (.func fn first cap) w:=fun _ _ _ _=>rfl
 go_enter Tryz.func100,Tryz.ntmps100
 go_wp2_with fail
 refine(yqk H hO k y n B i j).mono ?_;intro e D h
 rcases x with _|z
 ·obtain⟨m,o,t,rfl,a,d⟩:=h
  go_wp2;exact⟨rfl,m,o,t,rfl,a,v.trans d⟩
 ·obtain⟨⟨rfl,a,d⟩,q⟩:=h
  go_wp2;go_end0
  exact⟨⟨rfl,a,v.trans d⟩,q⟩
end Go.Proofs.YtfckcdbpiepchaaGreatDoor
