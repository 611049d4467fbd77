import Derived.Test.YtfckcdbpiepchaaGreatDoorNs03
import Derived.OwnWalk
import Derived.Lib.AppendStr
import Derived.Lib.Builder
import Derived.Lib.UnsafeStr
import Derived.Deep.RegionHeld3
namespace Go.Proofs.YtfckcdbpiepchaaGreatDoor
open Go.RowKit
set_option maxRecDepth 100000
set_option maxHeartbeats 8000000
set_option linter.all false
def yy9 (w:World)(p:Nat)(st:RS)(addr:Option Addr)(sl:Value):Prop:=
 w.heap[p]? = some (.cells (ju st addr sl).toArray 104 (0,0))/\(st.out=[]->sl=.slice none 0 0)/\w.ownsRow (p+1) 5 1 sl st.out.length (je st.out)
theorem yom:∃ j,Tryz.prog.info? 102=some j/\j.size≠0:=by
 have h:(Tryz.prog.info? 102).map (fun j=>j.size)=some 2:=by kernel_rfl
 obtain⟨j,a,b⟩:=Option.map_eq_some_iff.1 h;exact⟨j,a,by omega⟩
theorem yvc:liesAt Tryz.prog Tryz.prog.depth 104 (10 / Tryz.prog.cellsOf 104) 3 102 1=true:=by kernel_rfl
theorem yio {w:World}{p:Nat}{st:RS}(m:RAt w p st) :
  Calls Tryz.prog 132 #[.pointer (some ⟨p,3,none⟩)] w fun e w'=>e=.returned (.tuple #[])/\∃ b,yy9 w p st none b/\w'=w.setCell ⟨p,3,none⟩ (.pointer (some ⟨p,3,none⟩))\/yy9 w p st (some ⟨p,3,none⟩) b/\w'=w:=by
 obtain⟨h,b,hb,n,k,l⟩:=m
 rcases n with rfl|rfl
 ·have o:w.cell? ⟨p,3,none⟩=some (.pointer none):=ja hb 3 (by simp[ju])
  have s:=zz hb 3;have a:w.shape? p=some (104,10):=by simp[World.shape?,hb,ju]
  obtain⟨j,c,g⟩:=yom;have r:=Lib.run_to_unsafe (P:=Tryz.prog) (w:=w) ⟨p,3,none⟩ Tryz.underlying100 Tryz.underlying143 c g a (by simp);have f:=Lib.run_from_unsafe (P:=Tryz.prog) (w:=w) ⟨p,3,none⟩ Tryz.underlying143 Tryz.underlying100 c a yvc;have i:(callFunc 157 #[.pointer (some ⟨p,3,none⟩)]).run Tryz.prog w=.ok (.value (.pointer (some ⟨p,3,none⟩))) w:=by
   rw[run_callFunc_extern Tryz.func157 (by kernel_rfl) (by kernel_rfl) (by kernel_rfl) (e:=Extern.AbiNoEscape.same) (by kernel_rfl)];rfl
  have d:=lh hb;clear hb
  go_enter Tryz.func132,Tryz.ntmps132
  go_wp2;go_end0
  exact⟨rfl,b,.inl ⟨⟨d.out,k,l⟩,rfl⟩⟩
 ·have o:w.cell? ⟨p,3,none⟩=some (.pointer (some ⟨p,3,none⟩)):=ja hb 3 (by simp[ju])
  obtain⟨j,c,_⟩:=yom;have q:=Lib.run_neq_ptr_same (P:=Tryz.prog) w ⟨p,3,none⟩ Tryz.underlying100 c;have d:=lh hb;clear hb
  go_enter Tryz.func132,Tryz.ntmps132
  go_wp2;go_end0
  exact⟨rfl,b,.inr ⟨⟨d.out,k,l⟩,rfl⟩⟩
theorem yh5 {P:Program}{w w':World}{h t u p e n:Nat}{i:TypeInfo}{v A:Value}{xs:List Value}{s:ByteArray}(m:P.underlying t=some (.slice e))(o:P.underlying u=some .string)(hi:P.info? e=some i)(D:i.zero=some (.int .u8 0))
  (a:i.size=1) (k:i.bytes=1) (b:w.ownsRow h e 1 v n xs) (r:n+s.size<=maxLen) (l:n+s.size<=140737488355328)
  (hr:(Builtin.append_ #[t,u] p #[v,.string s]).run P w=.ok A w'):A.ownBlock=v.ownBlock\/A.ownBlock=some w.heap.size:=by
 have z:xs.length=n:=by simpa using b.1
 have H:=r;simp only[maxLen] at H
 rcases b.2 with⟨rfl,rfl⟩|⟨g,cap,q,rfl,E,G,I,F,x,y⟩
 ·by_cases C:s.size=0
  ·left
   have B:=Lib.run_firstCells_string (P:=P) w 1 s;rw[C] at B;simp[Builtin.append_,run_underlying m,run_underlying o,sizeOf,typeInfo,hi,a,Builtin.lenOf,C,B] at hr;rw[<-hr.1]
  ·right
   have c:=run_append_nil_string (P:=P) w t u p e i (.int .u8 0) m o hi D s (by omega) (by omega) (by rw[k];omega);rw[c] at hr
   cases hr
   rfl
 ·by_cases f:n+s.size<=cap
  ·left
   have c:=Lib.run_append_room_string (P:=P) w t u p e i m o hi a g n cap q G s f (by simp at x;omega);rw[c] at hr
   cases hr
   rfl
  ·right
   have d:∀ j u,xs[j]? = some u->w.cell? ((⟨g,0,none⟩:Addr).add j)=some u:=b.cells (g:=g) rfl;have c:=Lib.run_append_grow_string (P:=P) w t u p e i (.int .u8 0) m o hi D ⟨g,0,none⟩ n cap xs (by rw[a];simpa using z) d s (by omega) (by omega) (by rw[k];exact growslice_fits (by omega) (by omega));rw[c] at hr
   cases hr
   rfl
theorem zp {P:Program}{m:Array Oper}{rest:List Oper}{o:Oper}{a:Act}{w:World}{Q:Exit->Act->World->Prop}(p:o.guard=none)(z x:Operand)(t u:TypeId)
  (E:o.op=.call { callee:=.builtin .append,args:=#[z,x],argTypes:=#[t,u] })
  (b:Nat) (e:TypeId) (i:TypeInfo) (q:P.underlying t=some (.slice e)) (r:P.underlying u=some .string) (hi:P.info? e=some i) (y:i.zero=some (.int .u8 0))
  (d:i.size=1) (l:i.bytes=1)
  (v:Value) (n:Nat) (xs:List Value) (F:a.eval z=v) (f:w.ownsRow b e 1 v n xs) (s:ByteArray) (G:a.eval x=.string s)
  (k:n+s.size<=maxLen) (c:n+s.size<=140737488355328) (g:b<=w.heap.size)
  (h:∀ j w',w'.ownsRow b e 1 j (n+s.size) (xs++Lib.strCells s)->w.grownBy w' v.ownBlock->(j=.slice none 0 0↔v=.slice none 0 0/\s.size=0)->(j.ownBlock=v.ownBlock\/j.ownBlock=some w.heap.size)->wpList P m Q rest (a.put o.dst j) w'):wpList P m Q (o::rest) a w:=by
 refine wpList_plain p fun K hK=>?_;obtain⟨j,w',hr,A,B,C⟩:=Lib.run_append_own_string (P:=P) w b t u o.type e i q r hi y d l v n xs f s k c g;have D:=yh5 q r hi y d l f k c hr;unfold Oper.wp execOp;simp only[E,resolve,invoke,builtin,Sem.run_bind,Sem.run_pure,Result.andThen_ok,List.map_toArray,List.map_cons,List.map_nil,F,G,hr];exact hK _ _ (h j w' A B C D)
theorem jq (l:List UInt8):(⟨l.toArray⟩:ByteArray).size=l.length:=by simp[ByteArray.size]
theorem yhn {w:World}{p:Nat}{st:RS}(g:RAt w p st) :
  Calls Tryz.prog 132 #[.pointer (some ⟨p,3,none⟩)] w fun e w'=>e=.returned (.tuple #[])/\∃ a,yy9 w' p st (some ⟨p,3,none⟩) a/\Upd p w w':=
 (yio g).mono fun e w' ⟨c,a,h⟩=>by
  rcases h with⟨⟨b,d,f⟩,rfl⟩|⟨b,rfl⟩
  ·exact⟨c,a,⟨by rw[zb b];rfl,d,ownsRow_setCell_below f (by simp) _⟩,(Upd.refl p w).set 3 _ (by omega)⟩
  ·exact⟨c,a,b,Upd.refl p _⟩
theorem vf {w:World}{p:Nat}{st:RS}{s:List UInt8}(F:RAt w p st)(T:st.out.length+s.length<=70368744177664) :
  Calls Tryz.prog 102 #[.pointer (some ⟨p,3,none⟩),.string ⟨s.toArray⟩] w fun e w'=>(∃ n,e=.returned (.tuple #[.int .i64 n,.nilIface]))/\RAt w' p { st with out:=st.out++s }/\Upd p w w':=by
 obtain⟨i0,hi,y,z,A⟩:=info_parts Tryz.infoByte
 go_enter Tryz.func102,Tryz.ntmps102
 go_wp2_with(first|(go_at_call 132;refine(yhn F).mono ?_;rintro e G ⟨rfl,l,⟨j,m,o⟩,t⟩;have c4:G.cell? ⟨p,4,none⟩=some l:=ja j 4 (by simp[ju]);have R:=t.size;have Q:=F.lt;have B:=lh j;have K:=lh t;have C:=lh o;have H:=lh m;clear j t o m)|(at_builtin;refine zp rfl _ _ 22 9 rfl (p+1) 5 i0 Tryz.underlying22 Tryz.underlying9 hi y z A _ st.out.length (je st.out) rfl C.out ⟨s.toArray⟩ rfl ?c1 ?c2 ?c3 ?_))
 case c1=>rw[jq];unfold maxLen;omega
 case c2=>rw[jq];omega
 case c3=>omega
 intro S r b a f c;have v:l.ownBlock≠some p:=fun h=>by have:=yaq C.out p h;omega
 have d:r.heap[p]? = some (.cells (ju st (some ⟨p,3,none⟩) l).toArray 104 (0,0)):=by rw[a.block p (by omega) (Ne.symm v)];exact B.out
 have N:r.cell? ⟨p,4,none⟩=some l:=ja d 4 (by simp[ju]);have P:r.frozen? ⟨p,4,none⟩=false:=zz d 4;obtain⟨ao,n,cap,rfl⟩:∃ ao n cap,S=.slice ao n cap:=by
  rcases b.2 with⟨x,_⟩|⟨g,cap,O,x,_⟩
  ·exact⟨none,0,0,x⟩
  ·exact⟨_,_,_,x⟩
 have i:=lh a;have J:=lh b;have I:=lh f;have D:=lh d;have L:=lh c;clear a b f c d;go_wp2
 go_ret2
 have u:je (st.out++s)=je st.out++Lib.strCells ⟨s.toArray⟩:=by simp[je,Lib.strCells]
 refine⟨⟨_,rfl⟩,⟨some ⟨p,3,none⟩,.slice ao n cap,?_,.inr rfl,?_,?_⟩,?_⟩
 ·rw[zb D.out];rfl
 ·intro h
  have E:st.out=[]/\s=[]:=by simpa using h
  exact I.out.2 ⟨H.out E.1,E.2⟩
 ·rw[List.length_append,u];exact ownsRow_setCell_below J.out (by simp) _
 ·have b1:jn G p=l.ownBlock:=by unfold jn;rw[B.out];rfl
  have M:jn (r.setCell ⟨p,4,none⟩ (.slice ao n cap)) p=(Value.slice ao n cap).ownBlock:=by unfold jn;rw[zb D.out];rfl
  refine K.out.trans ⟨i.out.os,i.out.tape,i.out.output,by simp[World.setCell];exact i.out.size,fun k j m o=>?_,fun k q=>?_⟩
  ·rw[Below.heap_setCell _ _ _ _ m];exact i.out.block k j (fun h=>o (by rw[b1,<-h]))
  ·rw[M] at q
   rcases L.out with h|h
   ·exact .inl (by rw[b1,<-h];exact q)
   ·rw[h] at q;exact .inr (by cases q;exact Nat.le_refl _)
def RS.wr (st:RS)(s:List UInt8):RS:=
 if st.skip=true then st
 else if 0 < st.max/\st.max < st.out.length then { st with skip:=true }
 else if s=[] then st
 else { st with out:=st.out++s,last:=((s.getLast?.getD 0).toNat:Int) }
theorem ytx {w:World}{p:Nat}{st:RS}(i:RAt w p st) :
  Calls Tryz.prog 101 #[.pointer (some ⟨p,3,none⟩)] w fun e w'=>e=.returned (.int .i64 st.out.length)/\w=w':=by
 obtain⟨b,d,hb,k,j,c⟩:=i;have c4:w.cell? ⟨p,4,none⟩=some d:=ja hb 4 (by simp[ju]);obtain⟨ao,cap,rfl⟩:∃ ao cap,d=.slice ao st.out.length cap:=by
  rcases c.2 with⟨a,h⟩|⟨g,cap,f,a,_⟩
  ·exact⟨none,0,by rw[a,h]⟩
  ·exact⟨_,_,a⟩
 clear hb j c
 go_enter Tryz.func101,Tryz.ntmps101
 go_wp2;go_ret
 exact⟨rfl,rfl⟩
theorem RAt.drewN' {w:World}{p:Nat}{st:RS}(h:RAt w p st)(n:Nat):RAt (w.drewN n) p st:=h
theorem Upd.drewN {p:Nat}{a w:World}(h:Upd p a w)(n:Nat):Upd p a (w.drewN n):=⟨h.os,h.tape,h.output,h.size,h.block,h.buf⟩
theorem ynu {w:World}{p:Nat}{st:RS}(a:RAt w p st)(n:Nat) :
  Calls Tryz.prog 101 #[.pointer (some ⟨p,3,none⟩)] (w.drewN n) fun e w'=>e=.returned (.int .i64 st.out.length)/\w'=w.drewN n:=
 (ytx (a.drewN' n)).mono fun _ _ h=>⟨h.1,h.2.symm⟩
theorem yvd {s:List UInt8}(h:s≠[])(a:s.length-1 < s.length):s[s.length-1]=s.getLast?.getD 0:=by
 rw[List.getLast?_eq_getElem?,lge a];rfl
theorem ygh {w:World}{p:Nat}{st:RS}{s:List UInt8}(c:RAt w p st)(u:st.out.length+s.length<=70368744177664) :
  Calls Tryz.prog 71 #[.pointer (some ⟨p,0,none⟩),.string ⟨s.toArray⟩] w fun e w'=>Ret p w (st.wr s) (.tuple #[]) e w':=by
 have r:=c.skip;have z:=c.max;have v:=c.last;have x:=c.free 5;have y:=c.free 7
 by_cases l:st.skip=true
 ·have i:st.wr s=st:=by unfold RS.wr;rw[if_pos l]
  rw[i];rw[l] at r
  go_enter Tryz.func71,Tryz.ntmps71
  go_wp2;go_end0
  exact⟨rfl,c,Upd.refl p w⟩
 ·have d:st.skip=false:=by simpa using l
  rw[d] at r;clear l;have b:=ynu c
  by_cases g:0 < st.max/\st.max < st.out.length
  ·have i:st.wr s={ st with skip:=true }:=by unfold RS.wr;rw[if_neg (by rw[d];simp),if_pos g]
   rw[i];have f:decide (0 < st.max)=true:=by simpa using g.1
   have k:decide (st.max < (st.out.length:Int))=true:=by simpa using g.2
   clear g
   go_enter Tryz.func71,Tryz.ntmps71
   go_wp2
   go_quiet (first|(go_at_call 101;refine Calls.quiet_of_same (b _)))
   go_wp2;go_end0
   exact⟨rfl,(c.drewN' _).set_skip true,((Upd.refl p w).drewN _).set 5 _ (by omega)⟩
  ·have a:(decide (0 < st.max)=false\/decide (0 < st.max)=true/\decide (st.max < (st.out.length:Int))=false):=by
    simp only[decide_eq_false_iff_not,decide_eq_true_eq];omega
   by_cases j:s=[]
   ·have i:st.wr s=st:=by unfold RS.wr;rw[if_neg (by rw[d];simp),if_neg g,if_pos j]
    rw[i];subst j;clear g
    rcases a with f|⟨f,k⟩
    all_goals
     go_enter Tryz.func71,Tryz.ntmps71
     go_wp2
     go_quiet (first|(go_at_call 101;refine Calls.quiet_of_same (b _)))
     go_wp2;go_end0
     exact⟨rfl,c.drewN' _,(Upd.refl p w).drewN _⟩
   ·have i:st.wr s={ st with out:=st.out++s,last:=((s.getLast?.getD 0).toNat:Int) }:=by unfold RS.wr;rw[if_neg (by rw[d];simp),if_neg g,if_neg j]
    rw[i];have q:0 < s.length:=List.length_pos_iff.2 j;have t:=fun h=>yvd j h;clear g j
    rcases a with f|⟨f,k⟩
    all_goals
     go_enter Tryz.func71,Tryz.ntmps71
     go_wp2
     go_quiet (first|(go_at_call 101;refine Calls.quiet_of_same (b _)))
     go_wp2_with(go_at_call 102;refine(vf ((c.drewN' _).set_last ((s.getLast?.getD 0).toNat:Int)) u).mono ?_;rintro e A ⟨⟨n,rfl⟩,m,o⟩)
     go_end0;exact⟨rfl,m,(((Upd.refl p w).drewN _).set 7 _ (by omega)).trans o⟩
def Bx (w:World)(p k:Nat)(v:Value):Prop:=w.cell? ⟨k,0,none⟩=some v/\k≠p/\jn w p≠some k/\k < w.heap.size
theorem Bx.upd {w w':World}{p k:Nat}{v:Value}(h:Bx w p k v)(a:Upd p w w'):Bx w' p k v:=by
 obtain⟨f,b,c,d⟩:=h;have hb:=a.block k d b c;refine⟨?_,b,?_,Nat.lt_of_lt_of_le d a.size⟩
 ·rw[<-f];simp only[World.cell?,hb]
 ·intro g;rcases a.buf k g with e|e
  ·exact c e
  ·omega
theorem RAt.alloc {w:World}{p:Nat}{st:RS}(h:RAt w p st)(o:Obj):RAt (w.alloc o) p st:=
 h.below ((Below.refl _ w).alloc (Nat.le_refl _) o)
theorem Upd.alloc {w:World}{p:Nat}{st:RS}(h:RAt w p st)(o:Obj):Upd p w (w.alloc o):=
 Upd.of_below h.lt ((Below.refl _ w).alloc (Nat.le_refl _) o)
theorem yto {w:World}{p k:Nat}{st:RS}(h:RAt w p st)(a:jn w p=some k):k < w.heap.size:=by
 obtain⟨b,f,hb,-,-,e⟩:=h;have:f.ownBlock=some k:=by unfold jn at a;rw[hb] at a;exact a
 rcases e.2 with⟨rfl,_⟩|⟨g,cap,c,rfl,_,d,_⟩
 ·cases this
 ·cases this;exact(Array.getElem?_eq_some_iff.1 d).1
theorem ymc {w:World}{p:Nat}{st:RS}(h:RAt w p st)(o:Obj):jn (w.alloc o) p=jn w p:=by
 unfold jn;rw[World.alloc,Array.getElem?_push_lt h.lt,Array.getElem?_eq_getElem h.lt]
theorem Bx.new {w:World}{p:Nat}{st:RS}(h:RAt w p st)(v:Value)(t:TypeId):Bx (w.alloc (Obj.cells #[v] t)) p w.heap.size v:=by
 refine⟨?_,by have:=h.lt;omega,fun a=>?_,by simp⟩
 ·unfold World.cell?;rw[ym];rfl
 ·rw[ymc h] at a;have:=yto h a;omega
def pw (w:World)(p:Nat)(b:Bool):World:=(w.alloc (Obj.cells #[.pointer (some ⟨p,0,none⟩)] 99)).alloc (Obj.cells #[.bool b] 4)
theorem yca {w:World}{p:Nat}{st:RS}(c:RAt w p st)(b:Bool) :
  RAt (pw w p b) p st/\Upd p w (pw w p b)/\Bx (pw w p b) p w.heap.size (.pointer (some ⟨p,0,none⟩))/\Bx (pw w p b) p (w.heap.size+1) (.bool b):=by
 have a:=c.alloc (Obj.cells #[.pointer (some ⟨p,0,none⟩)] 99);have f:=a.alloc (Obj.cells #[.bool b] 4);have g:=Upd.alloc c (Obj.cells #[.pointer (some ⟨p,0,none⟩)] 99);have e:=Upd.alloc a (Obj.cells #[.bool b] 4);refine⟨f,g.trans e,(Bx.new c _ _).upd e,?_⟩;have d:=Bx.new a (.bool b) 4;have:(w.alloc (Obj.cells #[.pointer (some ⟨p,0,none⟩)] 99)).heap.size=w.heap.size+1:=by simp
 rw[this] at d;exact d
def yia (p:Nat)(w:World)(x:Option RS)(e:Ending)(w':World):Prop:=
 match x with
 | some st'=>Ret p w st' (.tuple #[]) e w'
 | none=>va p w e w'
theorem ymq (st:RS)(s:List UInt8):(st.wr s).str=st.str:=by
 unfold RS.wr;split
 ·rfl
 ·split
  ·rfl
  ·split<;>rfl
theorem yqr (st:RS)(s:List UInt8):(st.wr s).off=st.off:=by
 unfold RS.wr;split
 ·rfl
 ·split
  ·rfl
  ·split<;>rfl
theorem ykq (s:List UInt8)(f:s.length<=4294967296)(hd:∀ c∈s,c≠46)(w:World) :
  Calls Tryz.prog 66 #[.string ⟨s.toArray⟩,.string ⟨#[46]⟩] w fun e w'=>e=.returned (.int .i64 (-1))/\w=w':=by
 go_enter Tryz.func66,Tryz.ntmps66
 go_wp2
 go_loop [5] (fun b=>∃ k:Nat,k<=s.length/\b=.int .i64 k) (fun b=>s.length-(intOf b).toNat)
 case atStart=>exact⟨0,by omega,rfl⟩
 case round=>
  obtain⟨k,d,rfl⟩:=hrel
  by_cases a:k < s.length
  ·have g:(List.drop k (List.take (k+1) s) == [46])=false:=by
    have e:List.drop k (List.take (k+1) s)=[s[k]]:=by
     rw[List.drop_take,List.drop_eq_getElem_cons a,show k+1-k=1 by omega];rfl
    rw[e];have:=hd s[k] (List.getElem_mem a);simp[this]
   go_wp2
   go_round
   case rel=>exact⟨k+1,by omega,by go_num⟩
   case measure=>simp[intOf];omega
  ·obtain rfl:k=s.length:=by omega
   go_wp2;go_ret
   exact⟨rfl,rfl⟩
theorem ykm {w:World}{p:Nat}{st:RS}(v:RAt w p st)(s:st.out≠[]) :
  Calls Tryz.prog 73 #[.pointer (some ⟨p,3,none⟩)] w fun e w'=>e=.returned (.string ⟨st.out.toArray⟩)/\Upd p w w'/\w'.heap[p]? = w.heap[p]?:=by
 obtain⟨q,H,hb,-,-,b⟩:=v;have o:st.out.length≠0:=by simpa using s
 obtain⟨g,cap,a,rfl,B,t,D,m,C,i⟩:∃ g cap a,H=.slice (some ⟨g,0,none⟩) st.out.length cap/\p+1<=g/\w.heap[g]? = some (.cells a 5 (0,0))/\st.out.length<=cap/\cap<=maxLen/\a.size=cap*1/\a.toList.take (st.out.length*1)=je st.out:=by
  rcases b.2 with⟨_,G⟩|⟨g,cap,a,E,r⟩
  ·exact absurd G o
  ·exact⟨g,cap,a,E,r⟩
 have c1:w.drew.cell? ⟨p,4,none⟩=some (.slice (some ⟨g,0,none⟩) st.out.length cap):=ja (w:=w.drew) hb 4 (by simp[ju]);have c2:w.cell? ⟨p,4,none⟩=some (.slice (some ⟨g,0,none⟩) st.out.length cap):=ja hb 4 (by simp[ju]);have y:(Builtin.unsafeSliceData_ #[22] 121 #[.slice (some ⟨g,0,none⟩) st.out.length cap]).run Tryz.prog w.drew=.ok (.pointer (some ⟨g,0,none⟩)) w.drew:=
  Lib.run_unsafeSliceData_row _ _ _ _ _ _ (by omega)
 have A:(Builtin.unsafeString_ #[121,3] 9 #[.pointer (some ⟨g,0,none⟩),.int .i64 st.out.length]).run Tryz.prog w.drew=.ok (.string ⟨st.out.toArray⟩) (w.drew.freeze ⟨g,0,none⟩ st.out.length):=by
  refine Lib.run_unsafeString_row w.drew 121 3 9 5 (by kernel_rfl) (by kernel_rfl) g a.size (by have n:w.drew.heap[g]? = some (.cells a 5 (0,0)):=t;simp[World.shape?,n]) st.out s (by omega) (by unfold maxLen at m;omega) ?_;intro j x F;have:=b.cells (g:=g) rfl j (.int .u8 x.toNat) (by simp[je,F]);exact this
 have z:Upd p w (w.drew.freeze ⟨g,0,none⟩ st.out.length)/\(w.drew.freeze ⟨g,0,none⟩ st.out.length).heap[p]? = w.heap[p]?:=by
  have d:jn w p=some g:=by unfold jn;rw[hb];rfl
  have f:∀ k,k≠g->(w.drew.freeze ⟨g,0,none⟩ st.out.length).heap[k]? = w.heap[k]?:=fun k f=>by
   unfold World.freeze;split
   ·rfl
   ·simp only[Array.getElem?_modify];rw[if_neg (by simpa using fun h=>f h.symm)];rfl
  have l:jn (w.drew.freeze ⟨g,0,none⟩ st.out.length) p=some g:=by rw[<-d];unfold jn;rw[f p (by omega)]
  have c:(w.drew.freeze ⟨g,0,none⟩ st.out.length).os=w.os/\(w.drew.freeze ⟨g,0,none⟩ st.out.length).tape=w.tape/\(w.drew.freeze ⟨g,0,none⟩ st.out.length).output=w.output/\w.heap.size<=(w.drew.freeze ⟨g,0,none⟩ st.out.length).heap.size:=by
   unfold World.freeze;split
   ·exact⟨rfl,rfl,rfl,Nat.le_refl _⟩
   ·exact⟨rfl,rfl,rfl,by simp⟩
  refine⟨?_,f p (by omega)⟩;exact⟨c.1,c.2.1,c.2.2.1,c.2.2.2,fun k I J u=>f k (fun h=>u (by rw[d,h])),fun k f=>.inl (by rw[d,<-l];exact f)⟩
 clear b i t
 go_enter Tryz.func73,Tryz.ntmps73
 go_wp2
 go_region
 all_goals (go_wp2;go_ret;exact⟨rfl,z⟩)
def rs1 (l:List UInt8)(ng:Bool)(mx:Int):RS:={ orig:=l,str:=l,off:=0,out:=[],skip:=false,life:=0,last:=0,nogen:=ng,max:=mx }
theorem ysr (a b:Value)(w:World) :
  CallsD Tryz.prog 65 #[a,b] .returning w fun e f w'=>e=.returned (.tuple #[])/\f=.returning/\w'=w:=by
 refine callsD_of_wpS Tryz.func65 rfl fun c g d=>?_
 apply wpS_seq
 apply wpS_region
 simp[wpOpsS,go_sem,recoverD,d,Tryz.ntmps65,Exit.thenS]
 apply wpS_seq
 apply wpS_region
 simp[wpOpsS,go_sem,Exit.thenS,Act.eval,Array.replicate];refine wpS_cond (t:=false) (by simp[Act.eval]) ?_;simp only[Bool.false_eq_true,if_false];refine wpS_of_wp (wp_skip ?_)
 cases c
 simp_all[bodyPostS,results,Tryz.results65]
theorem Upd.under {p:Nat}{w w':World}(h:Upd p w w')(hb:jn w p=none)(B:Nat)(hB:B<=p)(b:B<=w.heap.size):Below B w w':=
 ⟨h.os,h.tape,h.output,h.size,fun k a=>h.block k (by omega) (by omega) (by rw[hb];simp)⟩
theorem yyq (w:World)(l:List UInt8)(o1 o2:Obj):RAt (((w.alloc o1).alloc o2).alloc (.cells (ju (rs1 l false 0) none (.slice none 0 0)).toArray 104)) (w.heap.size+2) (rs1 l false 0):=by
 refine⟨none,.slice none 0 0,?_,.inl rfl,fun _=>rfl,⟨rfl,.inl ⟨rfl,rfl⟩⟩⟩;have h:=ym ((w.alloc o1).alloc o2) (.cells (ju (rs1 l false 0) none (.slice none 0 0)).toArray 104)
 rwa[show((w.alloc o1).alloc o2).heap.size=w.heap.size+2 by simp] at h
theorem yne (w:World)(l:List UInt8)(o1 o2:Obj):jn (((w.alloc o1).alloc o2).alloc (.cells (ju (rs1 l false 0) none (.slice none 0 0)).toArray 104)) (w.heap.size+2)=none:=by
 have h:=ym ((w.alloc o1).alloc o2) (.cells (ju (rs1 l false 0) none (.slice none 0 0)).toArray 104);rw[show((w.alloc o1).alloc o2).heap.size=w.heap.size+2 by simp] at h;unfold jn;rw[h];rfl
end Go.Proofs.YtfckcdbpiepchaaGreatDoor
