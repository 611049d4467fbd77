import Derived.Test.YtfckcdbpiepchaaGreatDoorNs19
namespace Go.Proofs.YtfckcdbpiepchaaGreatDoor
open Go.RowKit
set_option maxRecDepth 100000
set_option maxHeartbeats 8000000
set_option linter.all false
inductive Sml:ya->Prop
 | mk {k:Nat} {l:UInt8} {nm:List UInt8} {n:Nat} {f:Bool} {kids:List ya} : nm.length<=4294967296->(∀ i,i < kids.length->Sml (kids.getD i .zero))->Sml (.mk k l nm n f kids)
structure jc (w:World)(B p:Nat)(l:Nat):Prop where
 blk:w.heap[p]? = some (.cells #[.int .i64 l] 64 (0,0))
 pB:B<=p
theorem jc.lt {w:World}{B p l:Nat}(h:jc w B p l):p < w.heap.size:=(Array.getElem?_eq_some_iff.1 h.blk).1
theorem jc.cell {w:World}{B p l:Nat}(h:jc w B p l):w.cell? ⟨p,0,none⟩=some (.int .i64 l):=zm h.blk rfl
theorem jc.free {w:World}{B p l:Nat}(h:jc w B p l):w.frozen? ⟨p,0,none⟩=false:=zz h.blk 0
theorem jc.alloc {w:World}{B p l:Nat}(h:jc w B p l)(o:Obj):jc (w.alloc o) B p l:=⟨by rw[heap_alloc_old _ _ h.lt];exact h.blk,h.pB⟩
theorem jc.below {w w':World}{B p l:Nat}(h:jc w B p l)(hb:Below w.heap.size w w'):jc w' B p l:=⟨by rw[hb.block p h.lt];exact h.blk,h.pB⟩
theorem jc.put {w:World}{B p l:Nat}(h:jc w B p l)(z:Int):(w.setCell ⟨p,0,none⟩ (.int .i64 z)).heap[p]? = some (.cells #[.int .i64 z] 64 (0,0)):=by
 have:=zb (xs:=[.int .i64 l]) h.blk 0 (.int .i64 z);exact this
theorem jc.set {w:World}{B p l:Nat}(h:jc w B p l)(n:Nat):jc (w.setCell ⟨p,0,none⟩ (.int .i64 n)) B p n:=⟨h.put n,h.pB⟩
def qj (B p:Nat)(w:World)(r:Option Nat)(e:Ending)(w':World):Prop:=
 Fr B w w'/\match r with
  | some l=>e=.returned (.bool true)/\jc w' B p l
  | none=>e=.returned (.bool false)
def LkC (w0:World)(B p d:Nat):Prop:=
 ∀ (want b:Nat) (t:ya) (l:Nat) (v:Value) (w:World),want<=5->b<=20->l<=300->yg w0 t v->Sml t->Below B w0 w->jc w B p l->
  Calls Tryz.prog 39 #[.pointer (some ⟨p,0,none⟩),v,.int .i64 want,.int .i64 d,.int .i64 b] w fun e w'=>qj B p w (yl d want b t l) e w'
def LkF (w0:World)(B p F d:Nat)(lo hi:Nat)(r:Nat->ya->Nat->Option Nat):Prop:=
 ∀ (b:Nat) (t:ya) (l:Nat) (v:Value) (w:World),lo<=t.kind/\t.kind<=hi->b<=20->l<=300->yg w0 t v->Sml t->Below B w0 w->jc w B p l->
  Calls Tryz.prog F #[.pointer (some ⟨p,0,none⟩),v,.int .i64 d,.int .i64 b] w fun e w'=>qj B p w (r b t l) e w'
theorem ys4 {kv:Int}{k want:Nat}(h:KV kv k)(hw:want<=5):gn kv want=gn k want:=by
 rcases h with⟨rfl,_⟩|⟨rfl,h⟩
 ·rfl
 ·rcases(by omega:want=0\/want=1\/want=2\/want=3\/want=4\/want=5) with rfl|rfl|rfl|rfl|rfl|rfl
  all_goals (simp only[gn,decide_eq_decide];omega)
theorem ypz {k want:Nat}(h:gn k want=true)(hw:want<=5):1<=k/\k<=21:=by
 rcases(by omega:want=0\/want=1\/want=2\/want=3\/want=4\/want=5) with rfl|rfl|rfl|rfl|rfl|rfl
 all_goals (simp only[gn,decide_eq_true_eq] at h;omega)
theorem qj.yes {B p:Nat}{w w':World}{R:Option Nat}{l:Nat}(b:Fr B w w')(hr:R=some l)(a:jc w' B p l):qj B p w R (.returned (.bool true)) w':=by subst hr;exact⟨b,rfl,a⟩
theorem qj.no {B p:Nat}{w w':World}{R:Option Nat}(a:Fr B w w')(hr:R=none):qj B p w R (.returned (.bool false)) w':=by subst hr;exact⟨a,rfl⟩
theorem qj.from {B p:Nat}{w a w':World}{R:Option Nat}{e:Ending}(b:Fr B w a)(h:qj B p a R e w'):qj B p w R e w':=⟨b.trans h.1,h.2⟩
structure LkE (w0:World)(B p d:Nat):Prop where
 hB:B=w0.heap.size
 vt:yb1 w0
 look:LkC w0 B p d
 hd:d<=100
theorem LkE.vtAt {w0 w:World}{B p d:Nat}(E:LkE w0 B p d)(h:Below B w0 w):yb1 w:=E.vt.below (by rw[<-E.hB];exact h)
theorem j3 {Q:Ending->World->Prop}{w0:World}{B p d want b l:Nat}{t:ya}{v:Value}{w:World}(E:LkE w0 B p d)(hw:want<=5)(hb:b<=20)(j:l<=300)(m:yg w0 t v)(k:Sml t)(a:Below B w0 w)(i:jc w B p l)
  (ks:∀ c l1,yl d want b t l=some l1->Fr B w c->Below B w0 c->jc c B p l1->l1<=300->Q (.returned (.bool true)) c) (n:∀ c,yl d want b t l=none->Fr B w c->Q (.returned (.bool false)) c) :
  Calls Tryz.prog 39 #[.pointer (some ⟨p,0,none⟩),v,.int .i64 want,.int .i64 d,.int .i64 b] w Q:=by
 refine(E.look want b t l v w hw hb j m k a i).mono ?_;rintro e c ⟨g,h⟩
 cases hr:yl d want b t l with
 | none=>rw[hr] at h;subst h;exact n c hr g
 | some l1=>
  rw[hr] at h;obtain⟨rfl,f⟩:=h;have:=(yd4 d want b t l l1 hw hb hr).2;exact ks c l1 hr g (a.trans (g.below (by rw[E.hB];exact a.size))) f (by omega)
theorem yn {w:World}{T:Nat}{a b c d e f:Value}{g:TypeId}{fz:Nat×Nat}(h:w.heap[T]? = some (.cells #[a,b,c,d,e,f] g fz)) :
  w.cell? ⟨T,0,none⟩=some a/\w.cell? ⟨T,1,none⟩=some b/\w.cell? ⟨T,2,none⟩=some c/\w.cell? ⟨T,3,none⟩=some d/\w.cell? ⟨T,4,none⟩=some e/\w.cell? ⟨T,5,none⟩=some f:=
 ⟨zm h rfl,zm h rfl,zm h rfl,zm h rfl,zm h rfl,zm h rfl⟩
structure yed (w:World)(b o0 o1 o2 o3 o4 o5:Nat)(v0 v1 v2 v3 v4 v5:Value):Prop where
 c0:w.cell? ⟨b,o0,none⟩=some v0
 c1:w.cell? ⟨b,o1,none⟩=some v1
 c2:w.cell? ⟨b,o2,none⟩=some v2
 c3:w.cell? ⟨b,o3,none⟩=some v3
 c4:w.cell? ⟨b,o4,none⟩=some v4
 c5:w.cell? ⟨b,o5,none⟩=some v5
theorem qz.k0 {w:World}{b o cap:Nat}{t:ya}{r:List ya}(h:qz w (some ⟨b,o,none⟩) cap (t::r)) :
  ∃ v0 v1 v2 v3 v4 v5,yed w b o (o+1) (o+2) (o+3) (o+4) (o+5) v0 v1 v2 v3 v4 v5/\yg w t (.agg #[v0,v1,v2,v3,v4,v5]):=by
 obtain⟨v0,v1,v2,v3,v4,v5,a,c,d,e,f,g,i⟩:=h.el 0 b o (by simp) rfl;exact⟨v0,v1,v2,v3,v4,v5,⟨by simpa using a,by simpa using c,by simpa using d,by simpa using e,by simpa using f,by simpa using g⟩,i⟩
theorem qz.k1 {w:World}{b o cap:Nat}{s t:ya}{r:List ya}(h:qz w (some ⟨b,o,none⟩) cap (s::t::r)) :
  ∃ v0 v1 v2 v3 v4 v5,yed w b (o+6) (o+7) (o+8) (o+9) (o+10) (o+11) v0 v1 v2 v3 v4 v5/\yg w t (.agg #[v0,v1,v2,v3,v4,v5]):=by
 obtain⟨v0,v1,v2,v3,v4,v5,a,c,d,e,f,g,i⟩:=h.el 1 b o (by simp) rfl;exact⟨v0,v1,v2,v3,v4,v5,⟨a,c,d,e,f,g⟩,i⟩
theorem qz.k2 {w:World}{b o cap:Nat}{q s t:ya}{r:List ya}(h:qz w (some ⟨b,o,none⟩) cap (q::s::t::r)) :
  ∃ v0 v1 v2 v3 v4 v5,yed w b (o+12) (o+13) (o+14) (o+15) (o+16) (o+17) v0 v1 v2 v3 v4 v5/\yg w t (.agg #[v0,v1,v2,v3,v4,v5]):=by
 obtain⟨v0,v1,v2,v3,v4,v5,a,c,d,e,f,g,i⟩:=h.el 2 b o (by simp) rfl;exact⟨v0,v1,v2,v3,v4,v5,⟨a,c,d,e,f,g⟩,i⟩
theorem qz.elB {w:World}{b o cap:Nat}{kids:List ya}(h:qz w (some ⟨b,o,none⟩) cap kids)(i:Nat)(hi:i < kids.length) :
  ∃ v0 v1 v2 v3 v4 v5,yed w b (o+i*6) (o+i*6+1) (o+i*6+2) (o+i*6+3) (o+i*6+4) (o+i*6+5) v0 v1 v2 v3 v4 v5/\yg w (kids.getD i .zero) (.agg #[v0,v1,v2,v3,v4,v5]):=by
 obtain⟨v0,v1,v2,v3,v4,v5,a,c,d,e,f,g,j⟩:=h.el i b o hi rfl;exact⟨v0,v1,v2,v3,v4,v5,⟨a,c,d,e,f,g⟩,j⟩
theorem yed.at {w w':World}{B b o0 o1 o2 o3 o4 o5:Nat}{v0 v1 v2 v3 v4 v5:Value}(h:yed w b o0 o1 o2 o3 o4 o5 v0 v1 v2 v3 v4 v5)(hB:B=w.heap.size)(hb:Below B w w'):yed w' b o0 o1 o2 o3 o4 o5 v0 v1 v2 v3 v4 v5:=by
 obtain⟨x,rfl⟩:=xb hB hb;exact⟨yf h.c0 x,yf h.c1 x,yf h.c2 x,yf h.c3 x,yf h.c4 x,yf h.c5 x⟩
theorem yed.un {w0 w:World}{B b o0 o1 o2 o3 o4 o5:Nat}{v0 v1 v2 v3 v4 v5:Value}(h:yed w0 b o0 o1 o2 o3 o4 o5 v0 v1 v2 v3 v4 v5)(hB:B=w0.heap.size)(hb:Below B w0 w)(c:B<=w.heap.size) :
  (∀ o,(w.alloc o).cell? ⟨b,o0,none⟩=some v0)/\(∀ o,(w.alloc o).cell? ⟨b,o1,none⟩=some v1)/\(∀ o,(w.alloc o).cell? ⟨b,o2,none⟩=some v2)/\
  (∀ o,(w.alloc o).cell? ⟨b,o3,none⟩=some v3)/\(∀ o,(w.alloc o).cell? ⟨b,o4,none⟩=some v4)/\∀ o,(w.alloc o).cell? ⟨b,o5,none⟩=some v5:=by
 have a:=fun o=>h.at hB (hb.alloc c o);exact⟨fun o=>(a o).c0,fun o=>(a o).c1,fun o=>(a o).c2,fun o=>(a o).c3,fun o=>(a o).c4,fun o=>(a o).c5⟩
theorem yg.at {w w':World}{B:Nat}{t:ya}{v:Value}(h:yg w t v)(hB:B=w.heap.size)(hb:Below B w w'):yg w' t v:=by
 obtain⟨x,rfl⟩:=xb hB hb;exact h.ovr x
theorem qz.at {w w':World}{B cap:Nat}{ao:Option Addr}{kids:List ya}(h:qz w ao cap kids)(hB:B=w.heap.size)(hb:Below B w w'):qz w' ao cap kids:=by
 obtain⟨x,rfl⟩:=xb hB hb;exact h.ovr x
theorem Sml.kid {k:Nat}{l:UInt8}{nm:List UInt8}{n:Nat}{f:Bool}{kids:List ya}(h:Sml (.mk k l nm n f kids))(i:Nat)(hi:i < kids.length){t:ya}(a:kids.getD i .zero=t):Sml t:=by
 cases h with
 | mk _ h=>exact a▸h i hi
theorem Sml.kids {k:Nat}{l:UInt8}{nm:List UInt8}{n:Nat}{f:Bool}{kids:List ya}(h:Sml (.mk k l nm n f kids)):∀ i,i < kids.length->Sml (kids.getD i .zero):=fun i hi=>h.kid i hi rfl
theorem Sml.nm {k:Nat}{l:UInt8}{nm:List UInt8}{n:Nat}{f:Bool}{kids:List ya}(h:Sml (.mk k l nm n f kids)):nm.length<=4294967296:=by
 cases h with
 | mk h _=>exact h
theorem vh {α:Type}{l:List α}(h:l.length=1):∃ a,l=[a]:=by
 rcases l with _|⟨a,_|⟨b,l⟩⟩
 ·simp at h
 ·exact⟨a,rfl⟩
 ·simp at h
theorem yg7 {α:Type}{l:List α}(h:l.length=2):∃ a b,l=[a,b]:=by
 rcases l with _|⟨a,_|⟨b,_|⟨c,l⟩⟩⟩
 ·simp at h
 ·simp at h
 ·exact⟨a,b,rfl⟩
 ·simp at h
theorem ym9 {α:Type}{l:List α}(h:l.length=3):∃ a b c,l=[a,b,c]:=by
 rcases l with _|⟨a,_|⟨b,_|⟨c,_|⟨d,l⟩⟩⟩⟩
 ·simp at h
 ·simp at h
 ·simp at h
 ·exact⟨a,b,c,rfl⟩
 ·simp at h
theorem ym2 {w0:World}{B p d:Nat} (Y:LkF w0 B p 53 d 1 6 (qr (yl d))) (Z:LkF w0 B p 54 d 7 14 (jv (yl d))) (X:LkF w0 B p 55 d 15 21 (zx (yl d))) (hd:d<=100):LkC w0 B p (d+1):=by
 intro want b t l v w hw hb hl L K y E;have Hp:=lh Y;have Ht:=lh Z;have Ho:=lh X;have Q:=lh L;have P:=lh K
 cases L with
 | @mk kv k c nm n f kids ao cap V W h2 h3 h4 h5 G h7 h8=>
 have HB:=lh y;have U:=lh W;have hc:=E.cell;have hf:=E.free;have u:=E.pB;have J:=E.lt;have T:B<=w.heap.size:=Nat.le_trans u (Nat.le_of_lt J);have M:=lh E;clear Y Z X W h3 h4 h5 G h7 h8 y K E
 cases l with
 | zero=>
  have hz:∀ o,((w.setCell ⟨p,0,none⟩ (.int .i64 (-1))).alloc o).cell? ⟨p,0,none⟩=some (.int .i64 (-1)):=fun o=>zm (by rw[heap_alloc_old _ _ (by simp[World.setCell];exact J)];exact M.out.put (-1)) rfl
  show Calls _ _ _ _ fun e w'=>qj B p w none e w'
  have D:=lh (Fr.set M.out.blk u (by decide) 0 (.int .i64 (-1)))
  go_enter Tryz.func39,Tryz.ntmps39
  go_wp2;go_ret
  exact .no (D.out.trans (Fr.alloc B _ _)) rfl
 | succ l=>
  have H:yl (d+1) want b (.mk k c nm n f kids) (l+1)=if gn k want=false then none
   else if k<=6 then qr (yl d) b (.mk k c nm n f kids) l
   else if k<=14 then jv (yl d) b (.mk k c nm n f kids) l
   else zx (yl d) b (.mk k c nm n f kids) l:=rfl
  obtain⟨R,N⟩:∃ R,R=yl (d+1) want b (.mk k c nm n f kids) (l+1):=⟨_,rfl⟩;rw[<-N];rw[H] at N;have h:=lh N;clear N H;have e1:((l+1:Nat):Int)-1=(l:Int):=by omega
  have S:((l+1:Nat):Int)=(l:Int)+1:=by omega
  rw[S] at hc;have s:=lh (M.out.set l);have hz:∀ o,((w.setCell ⟨p,0,none⟩ (.int .i64 l)).alloc o).cell? ⟨p,0,none⟩=some (.int .i64 l):=fun o=>(s.out.alloc o).cell;have D:=lh (Fr.set M.out.blk u (by decide) 0 (.int .i64 l));have I:Below B w0 (w.setCell ⟨p,0,none⟩ (.int .i64 l)):=HB.out.setCell u _;have A:=lh I;clear I;have r:B<=(w.setCell ⟨p,0,none⟩ (.int .i64 l)).heap.size:=by simp[World.setCell];exact T
  go_enter Tryz.func39,Tryz.ntmps39
  go_wp2_with fail
  refine(yke _ _ hw _).mono ?_;rintro e w' ⟨rfl,rfl⟩;rw[ys4 U.out hw]
  cases q:gn k want with
  | false=>
   have O:=lh q;clear q;go_wp2;go_ret;exact .no (D.out.trans (Fr.alloc B _ _)) (by rw[h.out,if_pos O.out])
  | true=>
   have z:=ypz q hw;obtain rfl:kv=(k:Int):=by have:=U.out;unfold KV at this;omega
   have hr:R=if k<=6 then qr (yl d) b (.mk k c nm n f kids) l
    else if k<=14 then jv (yl d) b (.mk k c nm n f kids) l
    else zx (yl d) b (.mk k c nm n f kids) l:=by rw[h.out,if_neg (by rw[q];decide)]
   clear q h
   go_wp2_with fail
   refine(jy _ _).mono ?_;rintro e w' ⟨rfl,rfl⟩
   by_cases G:k<=6
   ·rw[if_pos G] at hr
    rw[decide_eq_true (show(1:Int)<=(k:Int)/\(k:Int)<=6 by omega)];have h:=lh hr;clear hr
    go_wp2_with fail
    refine(Hp.out b (.mk k c nm n f kids) l _ _ ⟨z.1,G⟩ hb (by omega) Q.out P.out (A.out.alloc r _) (s.out.alloc _)).mono ?_;rintro e w1 ⟨x,a⟩;have i:=lh (D.out.trans ((Fr.alloc B _ _).trans x));clear x
    cases g:qr (yl d) b (.mk k c nm n f kids) l with
    | none=>
     rw[g] at a h;subst a;clear g;go_wp2;go_ret;exact .no i.out h.out
    | some l1=>
     rw[g] at a h;obtain⟨rfl,j⟩:=a;have m:=lh j;clear g j;go_wp2;go_ret;exact .yes i.out h.out m.out
   ·rw[if_neg G] at hr
    rw[decide_eq_false (show ¬ ((1:Int)<=(k:Int)/\(k:Int)<=6) by omega)]
    by_cases C:k<=14
    ·rw[if_pos C] at hr
     have F:(k:Int)<=14:=by omega
     have h:=lh hr;clear hr
     go_wp2_with fail
     refine(Ht.out b (.mk k c nm n f kids) l _ _ ⟨show 7<=k by omega,C⟩ hb (by omega) Q.out P.out (A.out.alloc r _) (s.out.alloc _)).mono ?_;rintro e w1 ⟨x,a⟩;have i:=lh (D.out.trans ((Fr.alloc B _ _).trans x));clear x
     cases g:jv (yl d) b (.mk k c nm n f kids) l with
     | none=>
      rw[g] at a h;subst a;clear g;go_wp2;go_ret;exact .no i.out h.out
     | some l1=>
      rw[g] at a h;obtain⟨rfl,j⟩:=a;have m:=lh j;clear g j;go_wp2;go_ret;exact .yes i.out h.out m.out
    ·rw[if_neg C] at hr
     have F:¬ (k:Int)<=14:=by omega
     have h:=lh hr;clear hr
     go_wp2_with fail
     refine(Ho.out b (.mk k c nm n f kids) l _ _ ⟨show 15<=k by omega,z.2⟩ hb (by omega) Q.out P.out (A.out.alloc r _) (s.out.alloc _)).mono ?_;rintro e w1 ⟨x,a⟩;have i:=lh (D.out.trans ((Fr.alloc B _ _).trans x));clear x
     cases g:zx (yl d) b (.mk k c nm n f kids) l with
     | none=>
      rw[g] at a h;subst a;clear g;go_wp2;go_ret;exact .no i.out h.out
     | some l1=>
      rw[g] at a h;obtain⟨rfl,j⟩:=a;have m:=lh j;clear g j;go_wp2;go_ret;exact .yes i.out h.out m.out
theorem yv9 {w0:World}{B p d:Nat}(E:LkE w0 B p d){want b l cap:Nat}{ao:Option Addr}{kids:List ya}{w:World}(hw:want<=5)(hb:b<=20)(hl:l<=300)(hK:qz w0 ao cap kids)(W:∀ i,i < kids.length->Sml (kids.getD i .zero))(o:Below B w0 w)(V:jc w B p l) :
  Calls Tryz.prog 82 #[.pointer (some ⟨p,0,none⟩),.slice ao kids.length cap,.int .i64 want,.int .i64 d,.int .i64 b] w fun e w'=>qj B p w (ybq (yl d) want b kids l) e w':=by
 have ae:=hK.c1;have I:=hK.c2;unfold maxLen at I;have x:=hK.nn;have C:=lh E;have Z:=lh hK;have HS:=lh W;have HL:=lh o;have Y:=lh V;obtain⟨R,H⟩:∃ R,R=ybq (yl d) want b kids l:=⟨_,rfl⟩;rw[<-H];have s:=lh H;clear E hK W o V H
 go_enter Tryz.func82,Tryz.ntmps82
 go_wp2
 go_loopw [15] (fun i wr=>∃ (k t:Nat),k<=kids.length/\i=.int .i64 k/\t<=300/\Below B w0 wr/\Fr B w wr/\jc wr B p t/\Hid (R=ybq (yl d) want b (kids.drop k) t)) (fun i _=>kids.length-(intOf i).toNat)
 case atStart=>exact⟨0,l,by omega,rfl,hl,HL.out,Fr.refl _ _,Y.out,lh (by rw[s.out];rfl)⟩
 case round=>
  clear s;obtain⟨k,t,hk,rfl,J,g,m,j,s⟩:=hrel
  by_cases a:k < kids.length
  ·obtain⟨kb,ko,rfl⟩:=x (fun h=>by rw[h] at a;simp at a)
   obtain⟨v0,v1,v2,v3,v4,v5,N,L⟩:=Z.out.elB k a;obtain⟨O,P,Q,S,T,U⟩:=N.at C.out.hB g;obtain⟨kv,c,nm,n,f,ag,ah,X,rfl,rfl,rfl,rfl,rfl,rfl⟩:=L.shape;have hd:kids.drop k=kids.getD k .zero::kids.drop (k+1):=by rw[List.drop_eq_getElem_cons a,lgd,lge a];rfl
   rw[hd] at s;have HT:=lh L;have D:=lh g;have q:=lh j;have y:=lh m;have K:B<=wr.heap.size:=by rw[C.out.hB];exact g.size
   clear x N L hd g j m
   go_wp2_with fail
   refine j3 C.out hw hb J HT.out (HS.out k a) (D.out.alloc K _) (q.out.alloc _) (fun w1 l1 v u b1 M g1=>?_) (fun w1 v u=>?_)
   ·have z:Hid (R=ybq (yl d) want b (kids.drop (k+1)) l1):=lh (by rw[s.out];show(yl d want b (kids.getD k .zero) t).bind _=_;rw[v];rfl)
    have r:=lh (y.out.trans ((Fr.alloc B wr _).trans u));have F:=lh b1;have A:=lh M;clear O P Q S T U v u b1 M;go_wp2
    go_roundw
    case rel=>exact⟨k+1,l1,by omega,by go_num,g1,F.out,r.out,A.out,z⟩
    case measure=>simp[intOf];omega
   ·have z:Hid (R=none):=lh (by rw[s.out];show(yl d want b (kids.getD k .zero) t).bind _=_;rw[v];rfl)
    have r:=lh (y.out.trans ((Fr.alloc B wr _).trans u));clear O P Q S T U v u;go_wp2;go_ret;exact .no r.out z.out
  ·have hr:R=some t:=by rw[s.out,List.drop_of_length_le (by omega)];rfl
   have G:=lh hr;have q:=lh j;have y:=lh m;clear hr j m g;go_wp2;go_ret;exact .yes y.out G.out q.out
theorem yea {Q:Ending->World->Prop}{w0:World}{B p d want b l cap:Nat}{ao:Option Addr}{kids:List ya}{w:World}(E:LkE w0 B p d)(hw:want<=5)(hb:b<=20)(k:l<=300)(hK:qz w0 ao cap kids)(m:∀ i,i < kids.length->Sml (kids.getD i .zero))(a:Below B w0 w)(j:jc w B p l)
  (ks:∀ c l1,ybq (yl d) want b kids l=some l1->Fr B w c->Below B w0 c->jc c B p l1->l1<=300->Q (.returned (.bool true)) c) (n:∀ c,ybq (yl d) want b kids l=none->Fr B w c->Q (.returned (.bool false)) c) :
  Calls Tryz.prog 82 #[.pointer (some ⟨p,0,none⟩),.slice ao kids.length cap,.int .i64 want,.int .i64 d,.int .i64 b] w Q:=by
 refine(yv9 E hw hb k hK m a j).mono ?_;rintro e c ⟨g,h⟩
 cases hr:ybq (yl d) want b kids l with
 | none=>rw[hr] at h;subst h;exact n c hr g
 | some l1=>
  rw[hr] at h;obtain⟨rfl,f⟩:=h;have:=(ybp (yd4 d) hw hb kids l l1 hr).2;exact ks c l1 hr g (a.trans (g.below (by rw[E.hB];exact a.size))) f (by omega)
end Go.Proofs.YtfckcdbpiepchaaGreatDoor
